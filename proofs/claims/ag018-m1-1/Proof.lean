import JvmDerived
import JvmDerived.Pilot.@@N@@Statement
import JvmDerived.Pilot.@@N@@Code
set_option linter.unusedVariables false
set_option linter.unusedSimpArgs false
@@BLOCK:NumsL.lean.txt@@
namespace Jvm.Pilot.@@N@@
open Jvm Jvm.ClassFile Sem Op Lib Jvm.Free Jvm.Stand Jvm.LawKit Jvm.RoadKit Bundle Jvm.Pilot.@@N@@.Jvm.D
/-! ## own kit: one body's walk as a goal on the heap, the frame and the room alone -/
/-- what stays the same through one body's walk -/
def Cx (p : Program) (s : State) (m : MethodId) (meth : Method) (c : Code) (Z : State) (n0 : Nat) (own : String) (bc : ByteArray) (maxL : Nat) (ret : Option FieldType) (nm : String) : Prop :=
  p.tables.exec = Jvm.exec ∧ Z.Warmed39 s.vm ∧ s.vm.findClass own = some m.cls ∧ c.code = bc ∧ c.maxLocals = maxL ∧ meth.sig.returnType = ret ∧ meth.name = nm ∧ meth.locks = false ∧ n0 ≤ s.heap.size
/-- from every state with this heap at which the body stands: the run goes on from this frame to the end that F says -/
def Go (p : Program) (l : Launch) (e : Env) (R : Room) (s : State) (m : MethodId) (args : Array Value) (below : List Frame) (meth : Method) (c : Code) (n0 : Nat) (F : State → Outcome → Prop) (h : Heap) (k n pc : Nat) (Ls : Array Slot) (st : List Value) : Prop :=
  ∀ (T : State) (locs : List Loc), Stand p l e R s m args below meth c T locs k n → T.heap = h → Fr n0 locs →
    ∃ s₂ o, Steps p.tables e below (T.setTop (mkF m pc Ls st)) s₂ ∧ s₂.status = .running ∧ Ended s₂ below o ∧ F s₂ o
/-- the end of a body: it returned what Q says, wrote new cells alone -/
def FinQ (s : State) (n0 : Nat) (Q : Option Value → Heap → Prop) (ck cs : Nat) : State → Outcome → Prop := fun s₂ o => ∃ v L, o = .returned v ∧ (Q v s₂.heap ∧ Fr n0 L) ∧ FrameEnd s o s₂ L ck cs
/-- a body's contract at the heap h0 -/
def Con (l : Launch) (Z : State) (n0 : Nat) (ws : List Jvm.Cond) (y : MethodName) (bc : ByteArray) (maxL : Nat) (ret : Option FieldType) (R : Room) (as : Array Value) (h0 : Heap) (Q : Option Value → Heap → Prop) : Prop :=
  MetFree l y (head1 (Jvm.Cond.code y bc maxL ret :: ws) R) (fun a U => a = as ∧ Z.Warmed39 U.vm ∧ U.heap = h0) (fun _ _ _ _ _ => True) (fun _ U o U' => ∃ v L, o = .returned v ∧ (Q v U'.heap ∧ Fr n0 L) ∧ FrameEnd U o U' L R.cells R.slots)
/-- an array: its class, its values -/
def Av (Z : State) (h : Heap) (a : Addr) (ty : FieldType) (vs : List Value) : Prop := ∃ c : Cell, Arr Z h a c ty ∧ c.slots.toList = vs ∧ ∀ v ∈ vs, fits ty v = true
section Own
variable {p : Program} {l : Launch} {e : Env} {R : Room} {s : State} {m : MethodId} {args : Array Value} {below : List Frame} {meth : Method} {c : Code} {n0 : Nat} {F : State → Outcome → Prop} {h : Heap} {k n pc pc' : Nat} {Ls : Array Slot} {st : List Value} {Z : State} {own : String} {bc : ByteArray} {maxL : Nat} {ret : Option FieldType} {nm : String} {a0 : Array Value}
theorem tw {ws : List Jvm.Cond} (hw : ∀ d ∈ ws, d.before a0 Z = true) (i : Nat) {d : Jvm.Cond} (q : ws[i]? = some d) : d.before a0 Z = true := hw _ (List.mem_of_getElem? q)
theorem Av.lt {a : Addr} {ty : FieldType} {vs : List Value} (A : Av Z h a ty vs) : a < h.size := by obtain ⟨c, A, -⟩ := A; exact A.lt
theorem Av.ext {a : Addr} {ty : FieldType} {vs : List Value} {h' : Heap} (A : Av Z h a ty vs) (E : Ext h h') : Av Z h' a ty vs := by obtain ⟨c, A, q⟩ := A; exact ⟨c, A.ext E, q⟩
theorem Av.other {a b : Addr} {ty : FieldType} {vs : List Value} {h' : Heap} {sl : Nat} {v : Value} (A : Av Z h b ty vs) (W : Wr h h' a sl v) (q : b ≠ a) : Av Z h' b ty vs := by obtain ⟨c, A, r⟩ := A; exact ⟨c, A.other W q, r⟩
theorem Av.keep {a : Addr} {ty : FieldType} {vs : List Value} {h' : Heap} {ws : List Addr} (A : Av Z h a ty vs) (K : Keep h h' ws) (q : a ∉ ws) : Av Z h' a ty vs := by obtain ⟨c, A, r⟩ := A; exact ⟨c, ⟨K.2.1 a c A.1 q, A.2⟩, r⟩
theorem Av.same {a : Addr} {ty : FieldType} {vs : List Value} {h' : Heap} {j : Nat} {v : Value} (A : Av Z h a ty vs) (W : Wr h h' a j v) (hf : fits ty v = true) : Av Z h' a ty (vs.set j v) := by
  obtain ⟨c, A, rfl, r⟩ := A
  refine ⟨_, A.same W, by simp [Cell.setSlot], fun w hw => ?_⟩
  rcases List.mem_or_eq_of_mem_set hw with q | rfl
  · exact r w q
  · exact hf
theorem Av.fit {a : Addr} {ty : FieldType} {vs : List Value} {i : Nat} {v : Value} (A : Av Z h a ty vs) (q : vs[i]? = some v) : fits ty v = true := by obtain ⟨c, A, -, r⟩ := A; exact r v (List.mem_of_getElem? q)
theorem Av.new {a : Addr} {kc : ClassId} {ty : FieldType} {z : Int32} (A : Arr Z h a (newA kc ty z) ty) : Av Z h a ty (List.replicate z.toNatClampNeg (defaultValue ty)) :=
  ⟨_, A, by simp [newA], fun v hv => by rw [List.eq_of_mem_replicate hv]; cases ty <;> rfl⟩
theorem own_in {j : Int32} {cl : Cell} {v : Value} (hj : ¬ j < 0) (hv : cl.slots[j.toNatClampNeg]? = some v) : ¬ (j < 0 ∨ cl.slots.size ≤ j.toNatClampNeg) := fun q => q.elim hj fun q => absurd (Array.getElem?_eq_some_iff.mp hv).1 (Nat.not_lt.mpr q)
theorem own_in2 {j : Int32} {cl : Cell} (hj : ¬ j < 0) (hl : j.toNatClampNeg < cl.slots.size) : ¬ (j < 0 ∨ cl.slots.size ≤ j.toNatClampNeg) := fun q => q.elim hj fun q => absurd hl (Nat.not_lt.mpr q)
theorem Go.pl {Ls' : Array Slot} {st' : List Value} (q : ∀ (T : State) (locs : List Loc), Stand p l e R s m args below meth c T locs k n → T.heap = h → ∀ t, Steps p.tables e below (T.setTop (mkF m pc' Ls' st')) t → Steps p.tables e below (T.setTop (mkF m pc Ls st)) t) (hr : Go p l e R s m args below meth c n0 F h k n pc' Ls' st') : Go p l e R s m args below meth c n0 F h k n pc Ls st := fun T locs X eT N => by
  obtain ⟨s₂, o, h1, h2⟩ := hr T locs X eT N
  exact ⟨s₂, o, q T locs X eT _ h1, h2⟩
theorem Go.more {k' n' : Nat} (hr : Go p l e R s m args below meth c n0 F h k' n' pc Ls st) (h1 : k ≤ k') (h2 : n ≤ n') : Go p l e R s m args below meth c n0 F h k n pc Ls st := fun T locs X eT N => hr T locs (X.more h1 h2) eT N
theorem Cx.size (C : Cx p s m meth c Z n0 own bc maxL ret nm) {T : State} {locs : List Loc} (X : Stand p l e R s m args below meth c T locs k n) : n0 ≤ T.heap.size := Nat.le_trans C.2.2.2.2.2.2.2.2 X.same.2.1
theorem Cx.iloadN (C : Cx p s m meth c Z n0 own bc maxL ret nm) {j : Fin 4} {v : Int32} (hd : decode bc pc = .ok (.iload_n j, 1)) (hp : pc + 1 = pc') (hl : Ls[j.val]? = some (.val (.int v))) (hr : Go p l e R s m args below meth c n0 F h k n pc' Ls (.int v :: st)) : Go p l e R s m args below meth c n0 F h k n pc Ls (st) := by
  subst hp; exact Go.pl (fun T locs X eT t q => XS.iloadN X.here C.1 rfl (hb C.2.2.2.1 hd) hl q) hr
theorem Cx.iload (C : Cx p s m meth c Z n0 own bc maxL ret nm) {j : Nat} {v : Int32} (hd : decode bc pc = .ok (.iload j, 2)) (hp : pc + 2 = pc') (hl : Ls[j]? = some (.val (.int v))) (hr : Go p l e R s m args below meth c n0 F h k n pc' Ls (.int v :: st)) : Go p l e R s m args below meth c n0 F h k n pc Ls (st) := by
  subst hp; exact Go.pl (fun T locs X eT t q => XS.iload X.here C.1 rfl (hb C.2.2.2.1 hd) hl q) hr
theorem Cx.lloadN (C : Cx p s m meth c Z n0 own bc maxL ret nm) {j : Fin 4} {v : Int64} (hd : decode bc pc = .ok (.lload_n j, 1)) (hp : pc + 1 = pc') (hl : Ls[j.val]? = some (.val (.long v))) (hr : Go p l e R s m args below meth c n0 F h k n pc' Ls (.long v :: st)) : Go p l e R s m args below meth c n0 F h k n pc Ls (st) := by
  subst hp; exact Go.pl (fun T locs X eT t q => XT.lloadN X.here C.1 rfl (hb C.2.2.2.1 hd) hl q) hr
theorem Cx.lload (C : Cx p s m meth c Z n0 own bc maxL ret nm) {j : Nat} {v : Int64} (hd : decode bc pc = .ok (.lload j, 2)) (hp : pc + 2 = pc') (hl : Ls[j]? = some (.val (.long v))) (hr : Go p l e R s m args below meth c n0 F h k n pc' Ls (.long v :: st)) : Go p l e R s m args below meth c n0 F h k n pc Ls (st) := by
  subst hp; exact Go.pl (fun T locs X eT t q => XT.lload X.here C.1 rfl (hb C.2.2.2.1 hd) hl q) hr
theorem Cx.aloadN (C : Cx p s m meth c Z n0 own bc maxL ret nm) {j : Fin 4} {v : Value} (hd : decode bc pc = .ok (.aload_n j, 1)) (hp : pc + 1 = pc') (hl : Ls[j.val]? = some (.val v)) (hv : v.isRef = true) (hr : Go p l e R s m args below meth c n0 F h k n pc' Ls (v :: st)) : Go p l e R s m args below meth c n0 F h k n pc Ls (st) := by
  subst hp; exact Go.pl (fun T locs X eT t q => XS.aloadN X.here C.1 rfl (hb C.2.2.2.1 hd) hl hv q) hr
theorem Cx.aload (C : Cx p s m meth c Z n0 own bc maxL ret nm) {j : Nat} {v : Value} (hd : decode bc pc = .ok (.aload j, 2)) (hp : pc + 2 = pc') (hl : Ls[j]? = some (.val v)) (hv : v.isRef = true) (hr : Go p l e R s m args below meth c n0 F h k n pc' Ls (v :: st)) : Go p l e R s m args below meth c n0 F h k n pc Ls (st) := by
  subst hp; exact Go.pl (fun T locs X eT t q => XS.aload X.here C.1 rfl (hb C.2.2.2.1 hd) hl hv q) hr
theorem Cx.istoreN (C : Cx p s m meth c Z n0 own bc maxL ret nm) {j : Fin 4} {v : Int32} {Ls' : Array Slot} (hd : decode bc pc = .ok (.istore_n j, 1)) (hp : pc + 1 = pc') (hl : storeLocals Ls j.val (.int v) = some Ls') (hr : Go p l e R s m args below meth c n0 F h k n pc' Ls' (st)) : Go p l e R s m args below meth c n0 F h k n pc Ls (.int v :: st) := by
  subst hp; exact Go.pl (fun T locs X eT t q => XS.istoreN X.here C.1 rfl (hb C.2.2.2.1 hd) rfl hl q) hr
theorem Cx.istore (C : Cx p s m meth c Z n0 own bc maxL ret nm) {j : Nat} {v : Int32} {Ls' : Array Slot} (hd : decode bc pc = .ok (.istore j, 2)) (hp : pc + 2 = pc') (hl : storeLocals Ls j (.int v) = some Ls') (hr : Go p l e R s m args below meth c n0 F h k n pc' Ls' (st)) : Go p l e R s m args below meth c n0 F h k n pc Ls (.int v :: st) := by
  subst hp; exact Go.pl (fun T locs X eT t q => XS.istore X.here C.1 rfl (hb C.2.2.2.1 hd) rfl hl q) hr
theorem Cx.lstoreN (C : Cx p s m meth c Z n0 own bc maxL ret nm) {j : Fin 4} {v : Int64} {Ls' : Array Slot} (hd : decode bc pc = .ok (.lstore_n j, 1)) (hp : pc + 1 = pc') (hl : storeLocals Ls j.val (.long v) = some Ls') (hr : Go p l e R s m args below meth c n0 F h k n pc' Ls' (st)) : Go p l e R s m args below meth c n0 F h k n pc Ls (.long v :: st) := by
  subst hp; exact Go.pl (fun T locs X eT t q => XT.lstoreN X.here C.1 rfl (hb C.2.2.2.1 hd) rfl hl q) hr
theorem Cx.lstore (C : Cx p s m meth c Z n0 own bc maxL ret nm) {j : Nat} {v : Int64} {Ls' : Array Slot} (hd : decode bc pc = .ok (.lstore j, 2)) (hp : pc + 2 = pc') (hl : storeLocals Ls j (.long v) = some Ls') (hr : Go p l e R s m args below meth c n0 F h k n pc' Ls' (st)) : Go p l e R s m args below meth c n0 F h k n pc Ls (.long v :: st) := by
  subst hp; exact Go.pl (fun T locs X eT t q => XT.lstore X.here C.1 rfl (hb C.2.2.2.1 hd) rfl hl q) hr
theorem Cx.astoreN (C : Cx p s m meth c Z n0 own bc maxL ret nm) {j : Fin 4} {v : Value} {Ls' : Array Slot} (hd : decode bc pc = .ok (.astore_n j, 1)) (hp : pc + 1 = pc') (hv : v.isRef = true) (hl : storeLocals Ls j.val v = some Ls') (hr : Go p l e R s m args below meth c n0 F h k n pc' Ls' (st)) : Go p l e R s m args below meth c n0 F h k n pc Ls (v :: st) := by
  subst hp; exact Go.pl (fun T locs X eT t q => XS.astoreN X.here C.1 rfl (hb C.2.2.2.1 hd) rfl hv hl q) hr
theorem Cx.astore (C : Cx p s m meth c Z n0 own bc maxL ret nm) {j : Nat} {v : Value} {Ls' : Array Slot} (hd : decode bc pc = .ok (.astore j, 2)) (hp : pc + 2 = pc') (hv : v.isRef = true) (hl : storeLocals Ls j v = some Ls') (hr : Go p l e R s m args below meth c n0 F h k n pc' Ls' (st)) : Go p l e R s m args below meth c n0 F h k n pc Ls (v :: st) := by
  subst hp; exact Go.pl (fun T locs X eT t q => XS.astore X.here C.1 rfl (hb C.2.2.2.1 hd) rfl hv hl q) hr
theorem Cx.iconst (C : Cx p s m meth c Z n0 own bc maxL ret nm) {i : Int} (v : Int32) (hd : decode bc pc = .ok (.iconst i, 1)) (hp : pc + 1 = pc') (hv : Int32.ofInt i = v) (hr : Go p l e R s m args below meth c n0 F h k n pc' Ls (.int v :: st)) : Go p l e R s m args below meth c n0 F h k n pc Ls st := by
  subst hp hv; exact Go.pl (fun T locs X eT t q => XS.iconst X.here C.1 rfl (hb C.2.2.2.1 hd) q) hr
theorem Cx.bipush (C : Cx p s m meth c Z n0 own bc maxL ret nm) {i : Int} (v : Int32) (hd : decode bc pc = .ok (.bipush i, 2)) (hp : pc + 2 = pc') (hv : (Int8.ofInt i).toInt32 = v) (hr : Go p l e R s m args below meth c n0 F h k n pc' Ls (.int v :: st)) : Go p l e R s m args below meth c n0 F h k n pc Ls st := by
  subst hp hv; exact Go.pl (fun T locs X eT t q => XS.bipush X.here C.1 rfl (hb C.2.2.2.1 hd) q) hr
theorem Cx.sipush (C : Cx p s m meth c Z n0 own bc maxL ret nm) {i : Int} (v : Int32) (hd : decode bc pc = .ok (.sipush i, 3)) (hp : pc + 3 = pc') (hv : (Int16.ofInt i).toInt32 = v) (hr : Go p l e R s m args below meth c n0 F h k n pc' Ls (.int v :: st)) : Go p l e R s m args below meth c n0 F h k n pc Ls st := by
  subst hp hv; exact Go.pl (fun T locs X eT t q => XS.sipush X.here C.1 rfl (hb C.2.2.2.1 hd) q) hr
theorem Cx.lconst (C : Cx p s m meth c Z n0 own bc maxL ret nm) {i : Fin 2} (v : Int64) (hd : decode bc pc = .ok (.lconst i, 1)) (hp : pc + 1 = pc') (hv : Int64.ofNat i = v) (hr : Go p l e R s m args below meth c n0 F h k n pc' Ls (.long v :: st)) : Go p l e R s m args below meth c n0 F h k n pc Ls st := by
  subst hp hv; exact Go.pl (fun T locs X eT t q => XT.lconst X.here C.1 rfl (hb C.2.2.2.1 hd) q) hr
theorem Cx.aconst_null (C : Cx p s m meth c Z n0 own bc maxL ret nm)  (hd : decode bc pc = .ok (.aconst_null, 1)) (hp : pc + 1 = pc')  (hr : Go p l e R s m args below meth c n0 F h k n pc' Ls (.null :: st)) : Go p l e R s m args below meth c n0 F h k n pc Ls (st) := by
  subst hp; exact Go.pl (fun T locs X eT t q => XS.aconstNull X.here C.1 rfl (hb C.2.2.2.1 hd)  q) hr
theorem Cx.iadd (C : Cx p s m meth c Z n0 own bc maxL ret nm) {x y : Int32} (hd : decode bc pc = .ok (.iadd, 1)) (hp : pc + 1 = pc')  (hr : Go p l e R s m args below meth c n0 F h k n pc' Ls (.int (x + y) :: st)) : Go p l e R s m args below meth c n0 F h k n pc Ls (.int y :: .int x :: st) := by
  subst hp; exact Go.pl (fun T locs X eT t q => XS.iadd X.here C.1 rfl (hb C.2.2.2.1 hd) rfl q) hr
theorem Cx.isub (C : Cx p s m meth c Z n0 own bc maxL ret nm) {x y : Int32} (hd : decode bc pc = .ok (.isub, 1)) (hp : pc + 1 = pc')  (hr : Go p l e R s m args below meth c n0 F h k n pc' Ls (.int (x - y) :: st)) : Go p l e R s m args below meth c n0 F h k n pc Ls (.int y :: .int x :: st) := by
  subst hp; exact Go.pl (fun T locs X eT t q => XS.isub X.here C.1 rfl (hb C.2.2.2.1 hd) rfl q) hr
theorem Cx.imul (C : Cx p s m meth c Z n0 own bc maxL ret nm) {x y : Int32} (hd : decode bc pc = .ok (.imul, 1)) (hp : pc + 1 = pc')  (hr : Go p l e R s m args below meth c n0 F h k n pc' Ls (.int (x * y) :: st)) : Go p l e R s m args below meth c n0 F h k n pc Ls (.int y :: .int x :: st) := by
  subst hp; exact Go.pl (fun T locs X eT t q => XS.imul X.here C.1 rfl (hb C.2.2.2.1 hd) rfl q) hr
theorem Cx.iand (C : Cx p s m meth c Z n0 own bc maxL ret nm) {x y : Int32} (hd : decode bc pc = .ok (.iand, 1)) (hp : pc + 1 = pc')  (hr : Go p l e R s m args below meth c n0 F h k n pc' Ls (.int (x &&& y) :: st)) : Go p l e R s m args below meth c n0 F h k n pc Ls (.int y :: .int x :: st) := by
  subst hp; exact Go.pl (fun T locs X eT t q => XS.iand X.here C.1 rfl (hb C.2.2.2.1 hd) rfl q) hr
theorem Cx.ixor (C : Cx p s m meth c Z n0 own bc maxL ret nm) {x y : Int32} (hd : decode bc pc = .ok (.ixor, 1)) (hp : pc + 1 = pc')  (hr : Go p l e R s m args below meth c n0 F h k n pc' Ls (.int (x ^^^ y) :: st)) : Go p l e R s m args below meth c n0 F h k n pc Ls (.int y :: .int x :: st) := by
  subst hp; exact Go.pl (fun T locs X eT t q => XT.ixor X.here C.1 rfl (hb C.2.2.2.1 hd) rfl q) hr
theorem Cx.ior (C : Cx p s m meth c Z n0 own bc maxL ret nm) {x y : Int32} (hd : decode bc pc = .ok (.ior, 1)) (hp : pc + 1 = pc')  (hr : Go p l e R s m args below meth c n0 F h k n pc' Ls (.int (x ||| y) :: st)) : Go p l e R s m args below meth c n0 F h k n pc Ls (.int y :: .int x :: st) := by
  subst hp; exact Go.pl (fun T locs X eT t q => XT.ior X.here C.1 rfl (hb C.2.2.2.1 hd) rfl q) hr
theorem Cx.ishl (C : Cx p s m meth c Z n0 own bc maxL ret nm) {x y : Int32} (hd : decode bc pc = .ok (.ishl, 1)) (hp : pc + 1 = pc')  (hr : Go p l e R s m args below meth c n0 F h k n pc' Ls (.int (x <<< (y &&& 31)) :: st)) : Go p l e R s m args below meth c n0 F h k n pc Ls (.int y :: .int x :: st) := by
  subst hp; exact Go.pl (fun T locs X eT t q => XT.ishl X.here C.1 rfl (hb C.2.2.2.1 hd) rfl q) hr
theorem Cx.ishr (C : Cx p s m meth c Z n0 own bc maxL ret nm) {x y : Int32} (hd : decode bc pc = .ok (.ishr, 1)) (hp : pc + 1 = pc')  (hr : Go p l e R s m args below meth c n0 F h k n pc' Ls (.int (x >>> (y &&& 31)) :: st)) : Go p l e R s m args below meth c n0 F h k n pc Ls (.int y :: .int x :: st) := by
  subst hp; exact Go.pl (fun T locs X eT t q => XT.ishr X.here C.1 rfl (hb C.2.2.2.1 hd) rfl q) hr
theorem Cx.iushr (C : Cx p s m meth c Z n0 own bc maxL ret nm) {x y : Int32} (hd : decode bc pc = .ok (.iushr, 1)) (hp : pc + 1 = pc')  (hr : Go p l e R s m args below meth c n0 F h k n pc' Ls (.int (XT.ushr x y) :: st)) : Go p l e R s m args below meth c n0 F h k n pc Ls (.int y :: .int x :: st) := by
  subst hp; exact Go.pl (fun T locs X eT t q => XT.iushr X.here C.1 rfl (hb C.2.2.2.1 hd) rfl q) hr
theorem Cx.idiv (C : Cx p s m meth c Z n0 own bc maxL ret nm) {x y : Int32} (hd : decode bc pc = .ok (.idiv, 1)) (hp : pc + 1 = pc') (hy : y ≠ 0) (hr : Go p l e R s m args below meth c n0 F h k n pc' Ls (.int (x / y) :: st)) : Go p l e R s m args below meth c n0 F h k n pc Ls (.int y :: .int x :: st) := by
  subst hp; exact Go.pl (fun T locs X eT t q => XS.idiv X.here C.1 rfl (hb C.2.2.2.1 hd) rfl hy q) hr
theorem Cx.irem (C : Cx p s m meth c Z n0 own bc maxL ret nm) {x y : Int32} (hd : decode bc pc = .ok (.irem, 1)) (hp : pc + 1 = pc') (hy : y ≠ 0) (hr : Go p l e R s m args below meth c n0 F h k n pc' Ls (.int (x % y) :: st)) : Go p l e R s m args below meth c n0 F h k n pc Ls (.int y :: .int x :: st) := by
  subst hp; exact Go.pl (fun T locs X eT t q => iremM X C.1 rfl (hb C.2.2.2.1 hd) rfl hy q) hr
theorem Cx.ineg (C : Cx p s m meth c Z n0 own bc maxL ret nm) {x : Int32} (hd : decode bc pc = .ok (.ineg, 1)) (hp : pc + 1 = pc')  (hr : Go p l e R s m args below meth c n0 F h k n pc' Ls (.int (-x) :: st)) : Go p l e R s m args below meth c n0 F h k n pc Ls (.int x :: st) := by
  subst hp; exact Go.pl (fun T locs X eT t q => XS.ineg X.here C.1 rfl (hb C.2.2.2.1 hd) rfl q) hr
theorem Cx.ladd (C : Cx p s m meth c Z n0 own bc maxL ret nm) {x y : Int64} (hd : decode bc pc = .ok (.ladd, 1)) (hp : pc + 1 = pc')  (hr : Go p l e R s m args below meth c n0 F h k n pc' Ls (.long (x + y) :: st)) : Go p l e R s m args below meth c n0 F h k n pc Ls (.long y :: .long x :: st) := by
  subst hp; exact Go.pl (fun T locs X eT t q => XT.ladd X.here C.1 rfl (hb C.2.2.2.1 hd) rfl q) hr
theorem Cx.lsub (C : Cx p s m meth c Z n0 own bc maxL ret nm) {x y : Int64} (hd : decode bc pc = .ok (.lsub, 1)) (hp : pc + 1 = pc')  (hr : Go p l e R s m args below meth c n0 F h k n pc' Ls (.long (x - y) :: st)) : Go p l e R s m args below meth c n0 F h k n pc Ls (.long y :: .long x :: st) := by
  subst hp; exact Go.pl (fun T locs X eT t q => XT.lsub X.here C.1 rfl (hb C.2.2.2.1 hd) rfl q) hr
theorem Cx.lmul (C : Cx p s m meth c Z n0 own bc maxL ret nm) {x y : Int64} (hd : decode bc pc = .ok (.lmul, 1)) (hp : pc + 1 = pc')  (hr : Go p l e R s m args below meth c n0 F h k n pc' Ls (.long (x * y) :: st)) : Go p l e R s m args below meth c n0 F h k n pc Ls (.long y :: .long x :: st) := by
  subst hp; exact Go.pl (fun T locs X eT t q => XT.lmul X.here C.1 rfl (hb C.2.2.2.1 hd) rfl q) hr
theorem Cx.land (C : Cx p s m meth c Z n0 own bc maxL ret nm) {x y : Int64} (hd : decode bc pc = .ok (.land, 1)) (hp : pc + 1 = pc')  (hr : Go p l e R s m args below meth c n0 F h k n pc' Ls (.long (x &&& y) :: st)) : Go p l e R s m args below meth c n0 F h k n pc Ls (.long y :: .long x :: st) := by
  subst hp; exact Go.pl (fun T locs X eT t q => XT.land X.here C.1 rfl (hb C.2.2.2.1 hd) rfl q) hr
theorem Cx.lor (C : Cx p s m meth c Z n0 own bc maxL ret nm) {x y : Int64} (hd : decode bc pc = .ok (.lor, 1)) (hp : pc + 1 = pc')  (hr : Go p l e R s m args below meth c n0 F h k n pc' Ls (.long (x ||| y) :: st)) : Go p l e R s m args below meth c n0 F h k n pc Ls (.long y :: .long x :: st) := by
  subst hp; exact Go.pl (fun T locs X eT t q => XT.lor X.here C.1 rfl (hb C.2.2.2.1 hd) rfl q) hr
theorem Cx.lxor (C : Cx p s m meth c Z n0 own bc maxL ret nm) {x y : Int64} (hd : decode bc pc = .ok (.lxor, 1)) (hp : pc + 1 = pc')  (hr : Go p l e R s m args below meth c n0 F h k n pc' Ls (.long (x ^^^ y) :: st)) : Go p l e R s m args below meth c n0 F h k n pc Ls (.long y :: .long x :: st) := by
  subst hp; exact Go.pl (fun T locs X eT t q => XT.lxor X.here C.1 rfl (hb C.2.2.2.1 hd) rfl q) hr
theorem Cx.ldiv (C : Cx p s m meth c Z n0 own bc maxL ret nm) {x y : Int64} (hd : decode bc pc = .ok (.ldiv, 1)) (hp : pc + 1 = pc') (hy : y ≠ 0) (hr : Go p l e R s m args below meth c n0 F h k n pc' Ls (.long (x / y) :: st)) : Go p l e R s m args below meth c n0 F h k n pc Ls (.long y :: .long x :: st) := by
  subst hp; exact Go.pl (fun T locs X eT t q => XT.ldiv X.here C.1 rfl (hb C.2.2.2.1 hd) rfl hy q) hr
theorem Cx.lrem (C : Cx p s m meth c Z n0 own bc maxL ret nm) {x y : Int64} (hd : decode bc pc = .ok (.lrem, 1)) (hp : pc + 1 = pc') (hy : y ≠ 0) (hr : Go p l e R s m args below meth c n0 F h k n pc' Ls (.long (x - (x / y) * y) :: st)) : Go p l e R s m args below meth c n0 F h k n pc Ls (.long y :: .long x :: st) := by
  subst hp; exact Go.pl (fun T locs X eT t q => XT.lrem X.here C.1 rfl (hb C.2.2.2.1 hd) rfl hy q) hr
theorem Cx.lshl (C : Cx p s m meth c Z n0 own bc maxL ret nm) {x : Int64} {y : Int32} (hd : decode bc pc = .ok (.lshl, 1)) (hp : pc + 1 = pc')  (hr : Go p l e R s m args below meth c n0 F h k n pc' Ls (.long (x <<< (y.toInt64 &&& 63)) :: st)) : Go p l e R s m args below meth c n0 F h k n pc Ls (.int y :: .long x :: st) := by
  subst hp; exact Go.pl (fun T locs X eT t q => XT.lshl X.here C.1 rfl (hb C.2.2.2.1 hd) rfl q) hr
theorem Cx.lshr (C : Cx p s m meth c Z n0 own bc maxL ret nm) {x : Int64} {y : Int32} (hd : decode bc pc = .ok (.lshr, 1)) (hp : pc + 1 = pc')  (hr : Go p l e R s m args below meth c n0 F h k n pc' Ls (.long (x >>> (y.toInt64 &&& 63)) :: st)) : Go p l e R s m args below meth c n0 F h k n pc Ls (.int y :: .long x :: st) := by
  subst hp; exact Go.pl (fun T locs X eT t q => XT.lshr X.here C.1 rfl (hb C.2.2.2.1 hd) rfl q) hr
theorem Cx.lushr (C : Cx p s m meth c Z n0 own bc maxL ret nm) {x : Int64} {y : Int32} (hd : decode bc pc = .ok (.lushr, 1)) (hp : pc + 1 = pc')  (hr : Go p l e R s m args below meth c n0 F h k n pc' Ls (.long (XT.ushrL x y) :: st)) : Go p l e R s m args below meth c n0 F h k n pc Ls (.int y :: .long x :: st) := by
  subst hp; exact Go.pl (fun T locs X eT t q => XT.lushr X.here C.1 rfl (hb C.2.2.2.1 hd) rfl q) hr
theorem Cx.lneg (C : Cx p s m meth c Z n0 own bc maxL ret nm) {x : Int64} (hd : decode bc pc = .ok (.lneg, 1)) (hp : pc + 1 = pc')  (hr : Go p l e R s m args below meth c n0 F h k n pc' Ls (.long (-x) :: st)) : Go p l e R s m args below meth c n0 F h k n pc Ls (.long x :: st) := by
  subst hp; exact Go.pl (fun T locs X eT t q => XT.lneg X.here C.1 rfl (hb C.2.2.2.1 hd) rfl q) hr
theorem Cx.i2l (C : Cx p s m meth c Z n0 own bc maxL ret nm) {x : Int32} (hd : decode bc pc = .ok (.i2l, 1)) (hp : pc + 1 = pc')  (hr : Go p l e R s m args below meth c n0 F h k n pc' Ls (.long x.toInt64 :: st)) : Go p l e R s m args below meth c n0 F h k n pc Ls (.int x :: st) := by
  subst hp; exact Go.pl (fun T locs X eT t q => XT.i2l X.here C.1 rfl (hb C.2.2.2.1 hd) rfl q) hr
theorem Cx.l2i (C : Cx p s m meth c Z n0 own bc maxL ret nm) {x : Int64} (hd : decode bc pc = .ok (.l2i, 1)) (hp : pc + 1 = pc')  (hr : Go p l e R s m args below meth c n0 F h k n pc' Ls (.int x.toInt32 :: st)) : Go p l e R s m args below meth c n0 F h k n pc Ls (.long x :: st) := by
  subst hp; exact Go.pl (fun T locs X eT t q => XT.l2i X.here C.1 rfl (hb C.2.2.2.1 hd) rfl q) hr
theorem Cx.i2b (C : Cx p s m meth c Z n0 own bc maxL ret nm) {x : Int32} (hd : decode bc pc = .ok (.i2b, 1)) (hp : pc + 1 = pc')  (hr : Go p l e R s m args below meth c n0 F h k n pc' Ls (.int x.toInt8.toInt32 :: st)) : Go p l e R s m args below meth c n0 F h k n pc Ls (.int x :: st) := by
  subst hp; exact Go.pl (fun T locs X eT t q => XT.i2b X.here C.1 rfl (hb C.2.2.2.1 hd) rfl q) hr
theorem Cx.i2c (C : Cx p s m meth c Z n0 own bc maxL ret nm) {x : Int32} (hd : decode bc pc = .ok (.i2c, 1)) (hp : pc + 1 = pc')  (hr : Go p l e R s m args below meth c n0 F h k n pc' Ls (.int x.toUInt32.toUInt16.toUInt32.toInt32 :: st)) : Go p l e R s m args below meth c n0 F h k n pc Ls (.int x :: st) := by
  subst hp; exact Go.pl (fun T locs X eT t q => XT.i2c X.here C.1 rfl (hb C.2.2.2.1 hd) rfl q) hr
theorem Cx.lcmp (C : Cx p s m meth c Z n0 own bc maxL ret nm) {x y : Int64} (hd : decode bc pc = .ok (.lcmp, 1)) (hp : pc + 1 = pc')  (hr : Go p l e R s m args below meth c n0 F h k n pc' Ls (.int (XT.cmpL x y) :: st)) : Go p l e R s m args below meth c n0 F h k n pc Ls (.long y :: .long x :: st) := by
  subst hp; exact Go.pl (fun T locs X eT t q => XT.lcmp X.here C.1 rfl (hb C.2.2.2.1 hd) rfl q) hr
theorem Cx.iinc (C : Cx p s m meth c Z n0 own bc maxL ret nm) {j : Nat} {i : Int} {x : Int32} {Ls' : Array Slot} (v : Int32) (hd : decode bc pc = .ok (.iinc j i, 3)) (hp : pc + 3 = pc') (hv : Int32.ofInt i = v) (hl : Ls[j]? = some (.val (.int x))) (hl' : storeLocals Ls j (.int (x + v)) = some Ls') (hr : Go p l e R s m args below meth c n0 F h k n pc' Ls' st) : Go p l e R s m args below meth c n0 F h k n pc Ls st := by
  subst hp hv; exact Go.pl (fun T locs X eT t q => XS.iinc X.here C.1 rfl (hb C.2.2.2.1 hd) hl hl' q) hr
theorem Cx.dup (C : Cx p s m meth c Z n0 own bc maxL ret nm) {x : Value} (hd : decode bc pc = .ok (.dup, 1)) (hp : pc + 1 = pc') (hc : x.category = 1) (hr : Go p l e R s m args below meth c n0 F h k n pc' Ls (x :: x :: st)) : Go p l e R s m args below meth c n0 F h k n pc Ls (x :: st) := by
  subst hp; exact Go.pl (fun T locs X eT t q => XS.dup X.here C.1 rfl (hb C.2.2.2.1 hd) rfl hc q) hr
theorem Cx.pop (C : Cx p s m meth c Z n0 own bc maxL ret nm) {x : Value} (hd : decode bc pc = .ok (.pop, 1)) (hp : pc + 1 = pc') (hc : x.category = 1) (hr : Go p l e R s m args below meth c n0 F h k n pc' Ls (st)) : Go p l e R s m args below meth c n0 F h k n pc Ls (x :: st) := by
  subst hp; exact Go.pl (fun T locs X eT t q => XT.pop X.here C.1 rfl (hb C.2.2.2.1 hd) rfl hc q) hr
theorem Cx.dupX1 (C : Cx p s m meth c Z n0 own bc maxL ret nm) {x y : Value} (hd : decode bc pc = .ok (.dup_x1, 1)) (hp : pc + 1 = pc') (hc : x.category = 1) (hc' : y.category = 1) (hr : Go p l e R s m args below meth c n0 F h k n pc' Ls (x :: y :: x :: st)) : Go p l e R s m args below meth c n0 F h k n pc Ls (x :: y :: st) := by
  subst hp; exact Go.pl (fun T locs X eT t q => XT.dupX1 X.here C.1 rfl (hb C.2.2.2.1 hd) rfl hc hc' q) hr
theorem Cx.dup2 (C : Cx p s m meth c Z n0 own bc maxL ret nm) {x y : Value} (hd : decode bc pc = .ok (.dup2, 1)) (hp : pc + 1 = pc') (hc : x.category = 1) (hc' : y.category = 1) (hr : Go p l e R s m args below meth c n0 F h k n pc' Ls (x :: y :: x :: y :: st)) : Go p l e R s m args below meth c n0 F h k n pc Ls (x :: y :: st) := by
  subst hp; exact Go.pl (fun T locs X eT t q => XT.dup2 X.here C.1 rfl (hb C.2.2.2.1 hd) rfl hc hc' q) hr
theorem Cx.dup2L (C : Cx p s m meth c Z n0 own bc maxL ret nm) {x : Int64} (hd : decode bc pc = .ok (.dup2, 1)) (hp : pc + 1 = pc')  (hr : Go p l e R s m args below meth c n0 F h k n pc' Ls (.long x :: .long x :: st)) : Go p l e R s m args below meth c n0 F h k n pc Ls (.long x :: st) := by
  subst hp; exact Go.pl (fun T locs X eT t q => XT.dup2L X.here C.1 rfl (hb C.2.2.2.1 hd) rfl q) hr
theorem Cx.goto (C : Cx p s m meth c Z n0 own bc maxL ret nm) {o : Int} (hd : decode bc pc = .ok (.goto o, 3)) (ho : 0 ≤ (pc : Int) + o) (hp : ((pc : Int) + o).toNat = pc') (hr : Go p l e R s m args below meth c n0 F h k n pc' Ls st) : Go p l e R s m args below meth c n0 F h k n pc Ls st := by
  exact Go.pl (fun T locs X eT t q => XS.goto X.here C.1 rfl rfl (hb C.2.2.2.1 hd) ho hp q) hr
theorem Cx.if_eq_t (C : Cx p s m meth c Z n0 own bc maxL ret nm) {x : Int32} {o : Int} (hd : decode bc pc = .ok (.ifCond .eq o, 3)) (ho : 0 ≤ (pc : Int) + o) (hp : ((pc : Int) + o).toNat = pc') (hq : x = 0) (hr : Go p l e R s m args below meth c n0 F h k n pc' Ls st) : Go p l e R s m args below meth c n0 F h k n pc Ls (.int x :: st) :=
  Go.pl (fun T locs X eT t q => XS.ifYes X.here C.1 rfl rfl (hb C.2.2.2.1 hd) rfl (XT.i0_eq_t hq) ho hp q) hr
theorem Cx.if_eq_f (C : Cx p s m meth c Z n0 own bc maxL ret nm) {x : Int32} {o : Int} (hd : decode bc pc = .ok (.ifCond .eq o, 3)) (hp : pc + 3 = pc') (hq : ¬ x = 0) (hr : Go p l e R s m args below meth c n0 F h k n pc' Ls st) : Go p l e R s m args below meth c n0 F h k n pc Ls (.int x :: st) := by
  subst hp; exact Go.pl (fun T locs X eT t q => XS.ifNo X.here C.1 rfl (hb C.2.2.2.1 hd) rfl (XT.i0_eq_f hq) q) hr
theorem Cx.if_eq (C : Cx p s m meth c Z n0 own bc maxL ret nm) {x : Int32} {o : Int} {pc'' : Nat} (hd : decode bc pc = .ok (.ifCond .eq o, 3)) (ho : 0 ≤ (pc : Int) + o) (hp : ((pc : Int) + o).toNat = pc') (hp' : pc + 3 = pc'') (hy : x = 0 → Go p l e R s m args below meth c n0 F h k n pc' Ls st) (hn : ¬ x = 0 → Go p l e R s m args below meth c n0 F h k n pc'' Ls st) : Go p l e R s m args below meth c n0 F h k n pc Ls (.int x :: st) := by
  by_cases q : x = 0
  · exact C.if_eq_t hd ho hp q (hy q)
  · exact C.if_eq_f hd hp' q (hn q)
theorem Cx.icmp_eq_t (C : Cx p s m meth c Z n0 own bc maxL ret nm) {x y : Int32} {o : Int} (hd : decode bc pc = .ok (.if_icmp .eq o, 3)) (ho : 0 ≤ (pc : Int) + o) (hp : ((pc : Int) + o).toNat = pc') (hq : x = y) (hr : Go p l e R s m args below meth c n0 F h k n pc' Ls st) : Go p l e R s m args below meth c n0 F h k n pc Ls (.int y :: .int x :: st) :=
  Go.pl (fun T locs X eT t q => XS.icmpYes X.here C.1 rfl rfl (hb C.2.2.2.1 hd) rfl (XT.ii_eq_t hq) ho hp q) hr
theorem Cx.icmp_eq_f (C : Cx p s m meth c Z n0 own bc maxL ret nm) {x y : Int32} {o : Int} (hd : decode bc pc = .ok (.if_icmp .eq o, 3)) (hp : pc + 3 = pc') (hq : ¬ x = y) (hr : Go p l e R s m args below meth c n0 F h k n pc' Ls st) : Go p l e R s m args below meth c n0 F h k n pc Ls (.int y :: .int x :: st) := by
  subst hp; exact Go.pl (fun T locs X eT t q => XS.icmpNo X.here C.1 rfl (hb C.2.2.2.1 hd) rfl (XT.ii_eq_f hq) q) hr
theorem Cx.icmp_eq (C : Cx p s m meth c Z n0 own bc maxL ret nm) {x y : Int32} {o : Int} {pc'' : Nat} (hd : decode bc pc = .ok (.if_icmp .eq o, 3)) (ho : 0 ≤ (pc : Int) + o) (hp : ((pc : Int) + o).toNat = pc') (hp' : pc + 3 = pc'') (hy : x = y → Go p l e R s m args below meth c n0 F h k n pc' Ls st) (hn : ¬ x = y → Go p l e R s m args below meth c n0 F h k n pc'' Ls st) : Go p l e R s m args below meth c n0 F h k n pc Ls (.int y :: .int x :: st) := by
  by_cases q : x = y
  · exact C.icmp_eq_t hd ho hp q (hy q)
  · exact C.icmp_eq_f hd hp' q (hn q)
theorem Cx.lif_eq_t (C : Cx p s m meth c Z n0 own bc maxL ret nm) {x y : Int64} {o : Int} (hd : decode bc pc = .ok (.ifCond .eq o, 3)) (ho : 0 ≤ (pc : Int) + o) (hp : ((pc : Int) + o).toNat = pc') (hq : x = y) (hr : Go p l e R s m args below meth c n0 F h k n pc' Ls st) : Go p l e R s m args below meth c n0 F h k n pc Ls (.int (XT.cmpL x y) :: st) :=
  Go.pl (fun T locs X eT t q => XS.ifYes X.here C.1 rfl rfl (hb C.2.2.2.1 hd) rfl (XT.ll_eq_t hq) ho hp q) hr
theorem Cx.lif_eq_f (C : Cx p s m meth c Z n0 own bc maxL ret nm) {x y : Int64} {o : Int} (hd : decode bc pc = .ok (.ifCond .eq o, 3)) (hp : pc + 3 = pc') (hq : ¬ x = y) (hr : Go p l e R s m args below meth c n0 F h k n pc' Ls st) : Go p l e R s m args below meth c n0 F h k n pc Ls (.int (XT.cmpL x y) :: st) := by
  subst hp; exact Go.pl (fun T locs X eT t q => XS.ifNo X.here C.1 rfl (hb C.2.2.2.1 hd) rfl (XT.ll_eq_f hq) q) hr
theorem Cx.lif_eq (C : Cx p s m meth c Z n0 own bc maxL ret nm) {x y : Int64} {o : Int} {pc'' : Nat} (hd : decode bc pc = .ok (.ifCond .eq o, 3)) (ho : 0 ≤ (pc : Int) + o) (hp : ((pc : Int) + o).toNat = pc') (hp' : pc + 3 = pc'') (hy : x = y → Go p l e R s m args below meth c n0 F h k n pc' Ls st) (hn : ¬ x = y → Go p l e R s m args below meth c n0 F h k n pc'' Ls st) : Go p l e R s m args below meth c n0 F h k n pc Ls (.int (XT.cmpL x y) :: st) := by
  by_cases q : x = y
  · exact C.lif_eq_t hd ho hp q (hy q)
  · exact C.lif_eq_f hd hp' q (hn q)
theorem Cx.if_ne_t (C : Cx p s m meth c Z n0 own bc maxL ret nm) {x : Int32} {o : Int} (hd : decode bc pc = .ok (.ifCond .ne o, 3)) (ho : 0 ≤ (pc : Int) + o) (hp : ((pc : Int) + o).toNat = pc') (hq : ¬ x = 0) (hr : Go p l e R s m args below meth c n0 F h k n pc' Ls st) : Go p l e R s m args below meth c n0 F h k n pc Ls (.int x :: st) :=
  Go.pl (fun T locs X eT t q => XS.ifYes X.here C.1 rfl rfl (hb C.2.2.2.1 hd) rfl (XT.i0_ne_t hq) ho hp q) hr
theorem Cx.if_ne_f (C : Cx p s m meth c Z n0 own bc maxL ret nm) {x : Int32} {o : Int} (hd : decode bc pc = .ok (.ifCond .ne o, 3)) (hp : pc + 3 = pc') (hq : x = 0) (hr : Go p l e R s m args below meth c n0 F h k n pc' Ls st) : Go p l e R s m args below meth c n0 F h k n pc Ls (.int x :: st) := by
  subst hp; exact Go.pl (fun T locs X eT t q => XS.ifNo X.here C.1 rfl (hb C.2.2.2.1 hd) rfl (XT.i0_ne_f hq) q) hr
theorem Cx.if_ne (C : Cx p s m meth c Z n0 own bc maxL ret nm) {x : Int32} {o : Int} {pc'' : Nat} (hd : decode bc pc = .ok (.ifCond .ne o, 3)) (ho : 0 ≤ (pc : Int) + o) (hp : ((pc : Int) + o).toNat = pc') (hp' : pc + 3 = pc'') (hy : ¬ x = 0 → Go p l e R s m args below meth c n0 F h k n pc' Ls st) (hn : x = 0 → Go p l e R s m args below meth c n0 F h k n pc'' Ls st) : Go p l e R s m args below meth c n0 F h k n pc Ls (.int x :: st) := by
  by_cases q : x = 0
  · exact C.if_ne_f hd hp' q (hn q)
  · exact C.if_ne_t hd ho hp q (hy q)
theorem Cx.icmp_ne_t (C : Cx p s m meth c Z n0 own bc maxL ret nm) {x y : Int32} {o : Int} (hd : decode bc pc = .ok (.if_icmp .ne o, 3)) (ho : 0 ≤ (pc : Int) + o) (hp : ((pc : Int) + o).toNat = pc') (hq : ¬ x = y) (hr : Go p l e R s m args below meth c n0 F h k n pc' Ls st) : Go p l e R s m args below meth c n0 F h k n pc Ls (.int y :: .int x :: st) :=
  Go.pl (fun T locs X eT t q => XS.icmpYes X.here C.1 rfl rfl (hb C.2.2.2.1 hd) rfl (XT.ii_ne_t hq) ho hp q) hr
theorem Cx.icmp_ne_f (C : Cx p s m meth c Z n0 own bc maxL ret nm) {x y : Int32} {o : Int} (hd : decode bc pc = .ok (.if_icmp .ne o, 3)) (hp : pc + 3 = pc') (hq : x = y) (hr : Go p l e R s m args below meth c n0 F h k n pc' Ls st) : Go p l e R s m args below meth c n0 F h k n pc Ls (.int y :: .int x :: st) := by
  subst hp; exact Go.pl (fun T locs X eT t q => XS.icmpNo X.here C.1 rfl (hb C.2.2.2.1 hd) rfl (XT.ii_ne_f hq) q) hr
theorem Cx.icmp_ne (C : Cx p s m meth c Z n0 own bc maxL ret nm) {x y : Int32} {o : Int} {pc'' : Nat} (hd : decode bc pc = .ok (.if_icmp .ne o, 3)) (ho : 0 ≤ (pc : Int) + o) (hp : ((pc : Int) + o).toNat = pc') (hp' : pc + 3 = pc'') (hy : ¬ x = y → Go p l e R s m args below meth c n0 F h k n pc' Ls st) (hn : x = y → Go p l e R s m args below meth c n0 F h k n pc'' Ls st) : Go p l e R s m args below meth c n0 F h k n pc Ls (.int y :: .int x :: st) := by
  by_cases q : x = y
  · exact C.icmp_ne_f hd hp' q (hn q)
  · exact C.icmp_ne_t hd ho hp q (hy q)
theorem Cx.lif_ne_t (C : Cx p s m meth c Z n0 own bc maxL ret nm) {x y : Int64} {o : Int} (hd : decode bc pc = .ok (.ifCond .ne o, 3)) (ho : 0 ≤ (pc : Int) + o) (hp : ((pc : Int) + o).toNat = pc') (hq : ¬ x = y) (hr : Go p l e R s m args below meth c n0 F h k n pc' Ls st) : Go p l e R s m args below meth c n0 F h k n pc Ls (.int (XT.cmpL x y) :: st) :=
  Go.pl (fun T locs X eT t q => XS.ifYes X.here C.1 rfl rfl (hb C.2.2.2.1 hd) rfl (XT.ll_ne_t hq) ho hp q) hr
theorem Cx.lif_ne_f (C : Cx p s m meth c Z n0 own bc maxL ret nm) {x y : Int64} {o : Int} (hd : decode bc pc = .ok (.ifCond .ne o, 3)) (hp : pc + 3 = pc') (hq : x = y) (hr : Go p l e R s m args below meth c n0 F h k n pc' Ls st) : Go p l e R s m args below meth c n0 F h k n pc Ls (.int (XT.cmpL x y) :: st) := by
  subst hp; exact Go.pl (fun T locs X eT t q => XS.ifNo X.here C.1 rfl (hb C.2.2.2.1 hd) rfl (XT.ll_ne_f hq) q) hr
theorem Cx.lif_ne (C : Cx p s m meth c Z n0 own bc maxL ret nm) {x y : Int64} {o : Int} {pc'' : Nat} (hd : decode bc pc = .ok (.ifCond .ne o, 3)) (ho : 0 ≤ (pc : Int) + o) (hp : ((pc : Int) + o).toNat = pc') (hp' : pc + 3 = pc'') (hy : ¬ x = y → Go p l e R s m args below meth c n0 F h k n pc' Ls st) (hn : x = y → Go p l e R s m args below meth c n0 F h k n pc'' Ls st) : Go p l e R s m args below meth c n0 F h k n pc Ls (.int (XT.cmpL x y) :: st) := by
  by_cases q : x = y
  · exact C.lif_ne_f hd hp' q (hn q)
  · exact C.lif_ne_t hd ho hp q (hy q)
theorem Cx.if_lt_t (C : Cx p s m meth c Z n0 own bc maxL ret nm) {x : Int32} {o : Int} (hd : decode bc pc = .ok (.ifCond .lt o, 3)) (ho : 0 ≤ (pc : Int) + o) (hp : ((pc : Int) + o).toNat = pc') (hq : x < 0) (hr : Go p l e R s m args below meth c n0 F h k n pc' Ls st) : Go p l e R s m args below meth c n0 F h k n pc Ls (.int x :: st) :=
  Go.pl (fun T locs X eT t q => XS.ifYes X.here C.1 rfl rfl (hb C.2.2.2.1 hd) rfl (XT.i0_lt_t hq) ho hp q) hr
theorem Cx.if_lt_f (C : Cx p s m meth c Z n0 own bc maxL ret nm) {x : Int32} {o : Int} (hd : decode bc pc = .ok (.ifCond .lt o, 3)) (hp : pc + 3 = pc') (hq : ¬ x < 0) (hr : Go p l e R s m args below meth c n0 F h k n pc' Ls st) : Go p l e R s m args below meth c n0 F h k n pc Ls (.int x :: st) := by
  subst hp; exact Go.pl (fun T locs X eT t q => XS.ifNo X.here C.1 rfl (hb C.2.2.2.1 hd) rfl (XT.i0_lt_f hq) q) hr
theorem Cx.if_lt (C : Cx p s m meth c Z n0 own bc maxL ret nm) {x : Int32} {o : Int} {pc'' : Nat} (hd : decode bc pc = .ok (.ifCond .lt o, 3)) (ho : 0 ≤ (pc : Int) + o) (hp : ((pc : Int) + o).toNat = pc') (hp' : pc + 3 = pc'') (hy : x < 0 → Go p l e R s m args below meth c n0 F h k n pc' Ls st) (hn : ¬ x < 0 → Go p l e R s m args below meth c n0 F h k n pc'' Ls st) : Go p l e R s m args below meth c n0 F h k n pc Ls (.int x :: st) := by
  by_cases q : x < 0
  · exact C.if_lt_t hd ho hp q (hy q)
  · exact C.if_lt_f hd hp' q (hn q)
theorem Cx.icmp_lt_t (C : Cx p s m meth c Z n0 own bc maxL ret nm) {x y : Int32} {o : Int} (hd : decode bc pc = .ok (.if_icmp .lt o, 3)) (ho : 0 ≤ (pc : Int) + o) (hp : ((pc : Int) + o).toNat = pc') (hq : x < y) (hr : Go p l e R s m args below meth c n0 F h k n pc' Ls st) : Go p l e R s m args below meth c n0 F h k n pc Ls (.int y :: .int x :: st) :=
  Go.pl (fun T locs X eT t q => XS.icmpYes X.here C.1 rfl rfl (hb C.2.2.2.1 hd) rfl (XT.ii_lt_t hq) ho hp q) hr
theorem Cx.icmp_lt_f (C : Cx p s m meth c Z n0 own bc maxL ret nm) {x y : Int32} {o : Int} (hd : decode bc pc = .ok (.if_icmp .lt o, 3)) (hp : pc + 3 = pc') (hq : ¬ x < y) (hr : Go p l e R s m args below meth c n0 F h k n pc' Ls st) : Go p l e R s m args below meth c n0 F h k n pc Ls (.int y :: .int x :: st) := by
  subst hp; exact Go.pl (fun T locs X eT t q => XS.icmpNo X.here C.1 rfl (hb C.2.2.2.1 hd) rfl (XT.ii_lt_f hq) q) hr
theorem Cx.icmp_lt (C : Cx p s m meth c Z n0 own bc maxL ret nm) {x y : Int32} {o : Int} {pc'' : Nat} (hd : decode bc pc = .ok (.if_icmp .lt o, 3)) (ho : 0 ≤ (pc : Int) + o) (hp : ((pc : Int) + o).toNat = pc') (hp' : pc + 3 = pc'') (hy : x < y → Go p l e R s m args below meth c n0 F h k n pc' Ls st) (hn : ¬ x < y → Go p l e R s m args below meth c n0 F h k n pc'' Ls st) : Go p l e R s m args below meth c n0 F h k n pc Ls (.int y :: .int x :: st) := by
  by_cases q : x < y
  · exact C.icmp_lt_t hd ho hp q (hy q)
  · exact C.icmp_lt_f hd hp' q (hn q)
theorem Cx.lif_lt_t (C : Cx p s m meth c Z n0 own bc maxL ret nm) {x y : Int64} {o : Int} (hd : decode bc pc = .ok (.ifCond .lt o, 3)) (ho : 0 ≤ (pc : Int) + o) (hp : ((pc : Int) + o).toNat = pc') (hq : x < y) (hr : Go p l e R s m args below meth c n0 F h k n pc' Ls st) : Go p l e R s m args below meth c n0 F h k n pc Ls (.int (XT.cmpL x y) :: st) :=
  Go.pl (fun T locs X eT t q => XS.ifYes X.here C.1 rfl rfl (hb C.2.2.2.1 hd) rfl (XT.ll_lt_t hq) ho hp q) hr
theorem Cx.lif_lt_f (C : Cx p s m meth c Z n0 own bc maxL ret nm) {x y : Int64} {o : Int} (hd : decode bc pc = .ok (.ifCond .lt o, 3)) (hp : pc + 3 = pc') (hq : ¬ x < y) (hr : Go p l e R s m args below meth c n0 F h k n pc' Ls st) : Go p l e R s m args below meth c n0 F h k n pc Ls (.int (XT.cmpL x y) :: st) := by
  subst hp; exact Go.pl (fun T locs X eT t q => XS.ifNo X.here C.1 rfl (hb C.2.2.2.1 hd) rfl (XT.ll_lt_f hq) q) hr
theorem Cx.lif_lt (C : Cx p s m meth c Z n0 own bc maxL ret nm) {x y : Int64} {o : Int} {pc'' : Nat} (hd : decode bc pc = .ok (.ifCond .lt o, 3)) (ho : 0 ≤ (pc : Int) + o) (hp : ((pc : Int) + o).toNat = pc') (hp' : pc + 3 = pc'') (hy : x < y → Go p l e R s m args below meth c n0 F h k n pc' Ls st) (hn : ¬ x < y → Go p l e R s m args below meth c n0 F h k n pc'' Ls st) : Go p l e R s m args below meth c n0 F h k n pc Ls (.int (XT.cmpL x y) :: st) := by
  by_cases q : x < y
  · exact C.lif_lt_t hd ho hp q (hy q)
  · exact C.lif_lt_f hd hp' q (hn q)
theorem Cx.if_ge_t (C : Cx p s m meth c Z n0 own bc maxL ret nm) {x : Int32} {o : Int} (hd : decode bc pc = .ok (.ifCond .ge o, 3)) (ho : 0 ≤ (pc : Int) + o) (hp : ((pc : Int) + o).toNat = pc') (hq : ¬ x < 0) (hr : Go p l e R s m args below meth c n0 F h k n pc' Ls st) : Go p l e R s m args below meth c n0 F h k n pc Ls (.int x :: st) :=
  Go.pl (fun T locs X eT t q => XS.ifYes X.here C.1 rfl rfl (hb C.2.2.2.1 hd) rfl (XT.i0_ge_t hq) ho hp q) hr
theorem Cx.if_ge_f (C : Cx p s m meth c Z n0 own bc maxL ret nm) {x : Int32} {o : Int} (hd : decode bc pc = .ok (.ifCond .ge o, 3)) (hp : pc + 3 = pc') (hq : x < 0) (hr : Go p l e R s m args below meth c n0 F h k n pc' Ls st) : Go p l e R s m args below meth c n0 F h k n pc Ls (.int x :: st) := by
  subst hp; exact Go.pl (fun T locs X eT t q => XS.ifNo X.here C.1 rfl (hb C.2.2.2.1 hd) rfl (XT.i0_ge_f hq) q) hr
theorem Cx.if_ge (C : Cx p s m meth c Z n0 own bc maxL ret nm) {x : Int32} {o : Int} {pc'' : Nat} (hd : decode bc pc = .ok (.ifCond .ge o, 3)) (ho : 0 ≤ (pc : Int) + o) (hp : ((pc : Int) + o).toNat = pc') (hp' : pc + 3 = pc'') (hy : ¬ x < 0 → Go p l e R s m args below meth c n0 F h k n pc' Ls st) (hn : x < 0 → Go p l e R s m args below meth c n0 F h k n pc'' Ls st) : Go p l e R s m args below meth c n0 F h k n pc Ls (.int x :: st) := by
  by_cases q : x < 0
  · exact C.if_ge_f hd hp' q (hn q)
  · exact C.if_ge_t hd ho hp q (hy q)
theorem Cx.icmp_ge_t (C : Cx p s m meth c Z n0 own bc maxL ret nm) {x y : Int32} {o : Int} (hd : decode bc pc = .ok (.if_icmp .ge o, 3)) (ho : 0 ≤ (pc : Int) + o) (hp : ((pc : Int) + o).toNat = pc') (hq : ¬ x < y) (hr : Go p l e R s m args below meth c n0 F h k n pc' Ls st) : Go p l e R s m args below meth c n0 F h k n pc Ls (.int y :: .int x :: st) :=
  Go.pl (fun T locs X eT t q => XS.icmpYes X.here C.1 rfl rfl (hb C.2.2.2.1 hd) rfl (XT.ii_ge_t hq) ho hp q) hr
theorem Cx.icmp_ge_f (C : Cx p s m meth c Z n0 own bc maxL ret nm) {x y : Int32} {o : Int} (hd : decode bc pc = .ok (.if_icmp .ge o, 3)) (hp : pc + 3 = pc') (hq : x < y) (hr : Go p l e R s m args below meth c n0 F h k n pc' Ls st) : Go p l e R s m args below meth c n0 F h k n pc Ls (.int y :: .int x :: st) := by
  subst hp; exact Go.pl (fun T locs X eT t q => XS.icmpNo X.here C.1 rfl (hb C.2.2.2.1 hd) rfl (XT.ii_ge_f hq) q) hr
theorem Cx.icmp_ge (C : Cx p s m meth c Z n0 own bc maxL ret nm) {x y : Int32} {o : Int} {pc'' : Nat} (hd : decode bc pc = .ok (.if_icmp .ge o, 3)) (ho : 0 ≤ (pc : Int) + o) (hp : ((pc : Int) + o).toNat = pc') (hp' : pc + 3 = pc'') (hy : ¬ x < y → Go p l e R s m args below meth c n0 F h k n pc' Ls st) (hn : x < y → Go p l e R s m args below meth c n0 F h k n pc'' Ls st) : Go p l e R s m args below meth c n0 F h k n pc Ls (.int y :: .int x :: st) := by
  by_cases q : x < y
  · exact C.icmp_ge_f hd hp' q (hn q)
  · exact C.icmp_ge_t hd ho hp q (hy q)
theorem Cx.lif_ge_t (C : Cx p s m meth c Z n0 own bc maxL ret nm) {x y : Int64} {o : Int} (hd : decode bc pc = .ok (.ifCond .ge o, 3)) (ho : 0 ≤ (pc : Int) + o) (hp : ((pc : Int) + o).toNat = pc') (hq : ¬ x < y) (hr : Go p l e R s m args below meth c n0 F h k n pc' Ls st) : Go p l e R s m args below meth c n0 F h k n pc Ls (.int (XT.cmpL x y) :: st) :=
  Go.pl (fun T locs X eT t q => XS.ifYes X.here C.1 rfl rfl (hb C.2.2.2.1 hd) rfl (XT.ll_ge_t hq) ho hp q) hr
theorem Cx.lif_ge_f (C : Cx p s m meth c Z n0 own bc maxL ret nm) {x y : Int64} {o : Int} (hd : decode bc pc = .ok (.ifCond .ge o, 3)) (hp : pc + 3 = pc') (hq : x < y) (hr : Go p l e R s m args below meth c n0 F h k n pc' Ls st) : Go p l e R s m args below meth c n0 F h k n pc Ls (.int (XT.cmpL x y) :: st) := by
  subst hp; exact Go.pl (fun T locs X eT t q => XS.ifNo X.here C.1 rfl (hb C.2.2.2.1 hd) rfl (XT.ll_ge_f hq) q) hr
theorem Cx.lif_ge (C : Cx p s m meth c Z n0 own bc maxL ret nm) {x y : Int64} {o : Int} {pc'' : Nat} (hd : decode bc pc = .ok (.ifCond .ge o, 3)) (ho : 0 ≤ (pc : Int) + o) (hp : ((pc : Int) + o).toNat = pc') (hp' : pc + 3 = pc'') (hy : ¬ x < y → Go p l e R s m args below meth c n0 F h k n pc' Ls st) (hn : x < y → Go p l e R s m args below meth c n0 F h k n pc'' Ls st) : Go p l e R s m args below meth c n0 F h k n pc Ls (.int (XT.cmpL x y) :: st) := by
  by_cases q : x < y
  · exact C.lif_ge_f hd hp' q (hn q)
  · exact C.lif_ge_t hd ho hp q (hy q)
theorem Cx.if_gt_t (C : Cx p s m meth c Z n0 own bc maxL ret nm) {x : Int32} {o : Int} (hd : decode bc pc = .ok (.ifCond .gt o, 3)) (ho : 0 ≤ (pc : Int) + o) (hp : ((pc : Int) + o).toNat = pc') (hq : 0 < x) (hr : Go p l e R s m args below meth c n0 F h k n pc' Ls st) : Go p l e R s m args below meth c n0 F h k n pc Ls (.int x :: st) :=
  Go.pl (fun T locs X eT t q => XS.ifYes X.here C.1 rfl rfl (hb C.2.2.2.1 hd) rfl (XT.i0_gt_t hq) ho hp q) hr
theorem Cx.if_gt_f (C : Cx p s m meth c Z n0 own bc maxL ret nm) {x : Int32} {o : Int} (hd : decode bc pc = .ok (.ifCond .gt o, 3)) (hp : pc + 3 = pc') (hq : ¬ 0 < x) (hr : Go p l e R s m args below meth c n0 F h k n pc' Ls st) : Go p l e R s m args below meth c n0 F h k n pc Ls (.int x :: st) := by
  subst hp; exact Go.pl (fun T locs X eT t q => XS.ifNo X.here C.1 rfl (hb C.2.2.2.1 hd) rfl (XT.i0_gt_f hq) q) hr
theorem Cx.if_gt (C : Cx p s m meth c Z n0 own bc maxL ret nm) {x : Int32} {o : Int} {pc'' : Nat} (hd : decode bc pc = .ok (.ifCond .gt o, 3)) (ho : 0 ≤ (pc : Int) + o) (hp : ((pc : Int) + o).toNat = pc') (hp' : pc + 3 = pc'') (hy : 0 < x → Go p l e R s m args below meth c n0 F h k n pc' Ls st) (hn : ¬ 0 < x → Go p l e R s m args below meth c n0 F h k n pc'' Ls st) : Go p l e R s m args below meth c n0 F h k n pc Ls (.int x :: st) := by
  by_cases q : 0 < x
  · exact C.if_gt_t hd ho hp q (hy q)
  · exact C.if_gt_f hd hp' q (hn q)
theorem Cx.icmp_gt_t (C : Cx p s m meth c Z n0 own bc maxL ret nm) {x y : Int32} {o : Int} (hd : decode bc pc = .ok (.if_icmp .gt o, 3)) (ho : 0 ≤ (pc : Int) + o) (hp : ((pc : Int) + o).toNat = pc') (hq : y < x) (hr : Go p l e R s m args below meth c n0 F h k n pc' Ls st) : Go p l e R s m args below meth c n0 F h k n pc Ls (.int y :: .int x :: st) :=
  Go.pl (fun T locs X eT t q => XS.icmpYes X.here C.1 rfl rfl (hb C.2.2.2.1 hd) rfl (XT.ii_gt_t hq) ho hp q) hr
theorem Cx.icmp_gt_f (C : Cx p s m meth c Z n0 own bc maxL ret nm) {x y : Int32} {o : Int} (hd : decode bc pc = .ok (.if_icmp .gt o, 3)) (hp : pc + 3 = pc') (hq : ¬ y < x) (hr : Go p l e R s m args below meth c n0 F h k n pc' Ls st) : Go p l e R s m args below meth c n0 F h k n pc Ls (.int y :: .int x :: st) := by
  subst hp; exact Go.pl (fun T locs X eT t q => XS.icmpNo X.here C.1 rfl (hb C.2.2.2.1 hd) rfl (XT.ii_gt_f hq) q) hr
theorem Cx.icmp_gt (C : Cx p s m meth c Z n0 own bc maxL ret nm) {x y : Int32} {o : Int} {pc'' : Nat} (hd : decode bc pc = .ok (.if_icmp .gt o, 3)) (ho : 0 ≤ (pc : Int) + o) (hp : ((pc : Int) + o).toNat = pc') (hp' : pc + 3 = pc'') (hy : y < x → Go p l e R s m args below meth c n0 F h k n pc' Ls st) (hn : ¬ y < x → Go p l e R s m args below meth c n0 F h k n pc'' Ls st) : Go p l e R s m args below meth c n0 F h k n pc Ls (.int y :: .int x :: st) := by
  by_cases q : y < x
  · exact C.icmp_gt_t hd ho hp q (hy q)
  · exact C.icmp_gt_f hd hp' q (hn q)
theorem Cx.lif_gt_t (C : Cx p s m meth c Z n0 own bc maxL ret nm) {x y : Int64} {o : Int} (hd : decode bc pc = .ok (.ifCond .gt o, 3)) (ho : 0 ≤ (pc : Int) + o) (hp : ((pc : Int) + o).toNat = pc') (hq : y < x) (hr : Go p l e R s m args below meth c n0 F h k n pc' Ls st) : Go p l e R s m args below meth c n0 F h k n pc Ls (.int (XT.cmpL x y) :: st) :=
  Go.pl (fun T locs X eT t q => XS.ifYes X.here C.1 rfl rfl (hb C.2.2.2.1 hd) rfl (XT.ll_gt_t hq) ho hp q) hr
theorem Cx.lif_gt_f (C : Cx p s m meth c Z n0 own bc maxL ret nm) {x y : Int64} {o : Int} (hd : decode bc pc = .ok (.ifCond .gt o, 3)) (hp : pc + 3 = pc') (hq : ¬ y < x) (hr : Go p l e R s m args below meth c n0 F h k n pc' Ls st) : Go p l e R s m args below meth c n0 F h k n pc Ls (.int (XT.cmpL x y) :: st) := by
  subst hp; exact Go.pl (fun T locs X eT t q => XS.ifNo X.here C.1 rfl (hb C.2.2.2.1 hd) rfl (XT.ll_gt_f hq) q) hr
theorem Cx.lif_gt (C : Cx p s m meth c Z n0 own bc maxL ret nm) {x y : Int64} {o : Int} {pc'' : Nat} (hd : decode bc pc = .ok (.ifCond .gt o, 3)) (ho : 0 ≤ (pc : Int) + o) (hp : ((pc : Int) + o).toNat = pc') (hp' : pc + 3 = pc'') (hy : y < x → Go p l e R s m args below meth c n0 F h k n pc' Ls st) (hn : ¬ y < x → Go p l e R s m args below meth c n0 F h k n pc'' Ls st) : Go p l e R s m args below meth c n0 F h k n pc Ls (.int (XT.cmpL x y) :: st) := by
  by_cases q : y < x
  · exact C.lif_gt_t hd ho hp q (hy q)
  · exact C.lif_gt_f hd hp' q (hn q)
theorem Cx.if_le_t (C : Cx p s m meth c Z n0 own bc maxL ret nm) {x : Int32} {o : Int} (hd : decode bc pc = .ok (.ifCond .le o, 3)) (ho : 0 ≤ (pc : Int) + o) (hp : ((pc : Int) + o).toNat = pc') (hq : ¬ 0 < x) (hr : Go p l e R s m args below meth c n0 F h k n pc' Ls st) : Go p l e R s m args below meth c n0 F h k n pc Ls (.int x :: st) :=
  Go.pl (fun T locs X eT t q => XS.ifYes X.here C.1 rfl rfl (hb C.2.2.2.1 hd) rfl (XT.i0_le_t hq) ho hp q) hr
theorem Cx.if_le_f (C : Cx p s m meth c Z n0 own bc maxL ret nm) {x : Int32} {o : Int} (hd : decode bc pc = .ok (.ifCond .le o, 3)) (hp : pc + 3 = pc') (hq : 0 < x) (hr : Go p l e R s m args below meth c n0 F h k n pc' Ls st) : Go p l e R s m args below meth c n0 F h k n pc Ls (.int x :: st) := by
  subst hp; exact Go.pl (fun T locs X eT t q => XS.ifNo X.here C.1 rfl (hb C.2.2.2.1 hd) rfl (XT.i0_le_f hq) q) hr
theorem Cx.if_le (C : Cx p s m meth c Z n0 own bc maxL ret nm) {x : Int32} {o : Int} {pc'' : Nat} (hd : decode bc pc = .ok (.ifCond .le o, 3)) (ho : 0 ≤ (pc : Int) + o) (hp : ((pc : Int) + o).toNat = pc') (hp' : pc + 3 = pc'') (hy : ¬ 0 < x → Go p l e R s m args below meth c n0 F h k n pc' Ls st) (hn : 0 < x → Go p l e R s m args below meth c n0 F h k n pc'' Ls st) : Go p l e R s m args below meth c n0 F h k n pc Ls (.int x :: st) := by
  by_cases q : 0 < x
  · exact C.if_le_f hd hp' q (hn q)
  · exact C.if_le_t hd ho hp q (hy q)
theorem Cx.icmp_le_t (C : Cx p s m meth c Z n0 own bc maxL ret nm) {x y : Int32} {o : Int} (hd : decode bc pc = .ok (.if_icmp .le o, 3)) (ho : 0 ≤ (pc : Int) + o) (hp : ((pc : Int) + o).toNat = pc') (hq : ¬ y < x) (hr : Go p l e R s m args below meth c n0 F h k n pc' Ls st) : Go p l e R s m args below meth c n0 F h k n pc Ls (.int y :: .int x :: st) :=
  Go.pl (fun T locs X eT t q => XS.icmpYes X.here C.1 rfl rfl (hb C.2.2.2.1 hd) rfl (XT.ii_le_t hq) ho hp q) hr
theorem Cx.icmp_le_f (C : Cx p s m meth c Z n0 own bc maxL ret nm) {x y : Int32} {o : Int} (hd : decode bc pc = .ok (.if_icmp .le o, 3)) (hp : pc + 3 = pc') (hq : y < x) (hr : Go p l e R s m args below meth c n0 F h k n pc' Ls st) : Go p l e R s m args below meth c n0 F h k n pc Ls (.int y :: .int x :: st) := by
  subst hp; exact Go.pl (fun T locs X eT t q => XS.icmpNo X.here C.1 rfl (hb C.2.2.2.1 hd) rfl (XT.ii_le_f hq) q) hr
theorem Cx.icmp_le (C : Cx p s m meth c Z n0 own bc maxL ret nm) {x y : Int32} {o : Int} {pc'' : Nat} (hd : decode bc pc = .ok (.if_icmp .le o, 3)) (ho : 0 ≤ (pc : Int) + o) (hp : ((pc : Int) + o).toNat = pc') (hp' : pc + 3 = pc'') (hy : ¬ y < x → Go p l e R s m args below meth c n0 F h k n pc' Ls st) (hn : y < x → Go p l e R s m args below meth c n0 F h k n pc'' Ls st) : Go p l e R s m args below meth c n0 F h k n pc Ls (.int y :: .int x :: st) := by
  by_cases q : y < x
  · exact C.icmp_le_f hd hp' q (hn q)
  · exact C.icmp_le_t hd ho hp q (hy q)
theorem Cx.lif_le_t (C : Cx p s m meth c Z n0 own bc maxL ret nm) {x y : Int64} {o : Int} (hd : decode bc pc = .ok (.ifCond .le o, 3)) (ho : 0 ≤ (pc : Int) + o) (hp : ((pc : Int) + o).toNat = pc') (hq : ¬ y < x) (hr : Go p l e R s m args below meth c n0 F h k n pc' Ls st) : Go p l e R s m args below meth c n0 F h k n pc Ls (.int (XT.cmpL x y) :: st) :=
  Go.pl (fun T locs X eT t q => XS.ifYes X.here C.1 rfl rfl (hb C.2.2.2.1 hd) rfl (XT.ll_le_t hq) ho hp q) hr
theorem Cx.lif_le_f (C : Cx p s m meth c Z n0 own bc maxL ret nm) {x y : Int64} {o : Int} (hd : decode bc pc = .ok (.ifCond .le o, 3)) (hp : pc + 3 = pc') (hq : y < x) (hr : Go p l e R s m args below meth c n0 F h k n pc' Ls st) : Go p l e R s m args below meth c n0 F h k n pc Ls (.int (XT.cmpL x y) :: st) := by
  subst hp; exact Go.pl (fun T locs X eT t q => XS.ifNo X.here C.1 rfl (hb C.2.2.2.1 hd) rfl (XT.ll_le_f hq) q) hr
theorem Cx.lif_le (C : Cx p s m meth c Z n0 own bc maxL ret nm) {x y : Int64} {o : Int} {pc'' : Nat} (hd : decode bc pc = .ok (.ifCond .le o, 3)) (ho : 0 ≤ (pc : Int) + o) (hp : ((pc : Int) + o).toNat = pc') (hp' : pc + 3 = pc'') (hy : ¬ y < x → Go p l e R s m args below meth c n0 F h k n pc' Ls st) (hn : y < x → Go p l e R s m args below meth c n0 F h k n pc'' Ls st) : Go p l e R s m args below meth c n0 F h k n pc Ls (.int (XT.cmpL x y) :: st) := by
  by_cases q : y < x
  · exact C.lif_le_f hd hp' q (hn q)
  · exact C.lif_le_t hd ho hp q (hy q)
theorem Cx.ifnull_ref (C : Cx p s m meth c Z n0 own bc maxL ret nm) {o : Int} {b : Addr} (hd : decode bc pc = .ok (.ifnull o, 3)) (hp : pc + 3 = pc')  (hr : Go p l e R s m args below meth c n0 F h k n pc' Ls (st)) : Go p l e R s m args below meth c n0 F h k n pc Ls (.ref b :: st) := by
  subst hp; exact Go.pl (fun T locs X eT t q => XS.ifnullNo X.here C.1 rfl (hb C.2.2.2.1 hd) rfl q) hr
theorem Cx.ifnonnull_null (C : Cx p s m meth c Z n0 own bc maxL ret nm) {o : Int} (hd : decode bc pc = .ok (.ifnonnull o, 3)) (hp : pc + 3 = pc')  (hr : Go p l e R s m args below meth c n0 F h k n pc' Ls (st)) : Go p l e R s m args below meth c n0 F h k n pc Ls (.null :: st) := by
  subst hp; exact Go.pl (fun T locs X eT t q => XT.ifnonnullNo X.here C.1 rfl (hb C.2.2.2.1 hd) rfl q) hr
theorem Cx.ifnull_null (C : Cx p s m meth c Z n0 own bc maxL ret nm) {b : Addr} {o : Int} (hd : decode bc pc = .ok (.ifnull o, 3)) (ho : 0 ≤ (pc : Int) + o) (hp : ((pc : Int) + o).toNat = pc') (hr : Go p l e R s m args below meth c n0 F h k n pc' Ls st) : Go p l e R s m args below meth c n0 F h k n pc Ls (.null :: st) := by
  exact Go.pl (fun T locs X eT t q => XS.ifnullYes X.here C.1 rfl rfl (hb C.2.2.2.1 hd) rfl ho hp q) hr
theorem Cx.ifnonnull_ref (C : Cx p s m meth c Z n0 own bc maxL ret nm) {b : Addr} {o : Int} (hd : decode bc pc = .ok (.ifnonnull o, 3)) (ho : 0 ≤ (pc : Int) + o) (hp : ((pc : Int) + o).toNat = pc') (hr : Go p l e R s m args below meth c n0 F h k n pc' Ls st) : Go p l e R s m args below meth c n0 F h k n pc Ls (.ref b :: st) := by
  exact Go.pl (fun T locs X eT t q => XT.ifnonnullYes X.here C.1 rfl rfl (hb C.2.2.2.1 hd) rfl ho hp q) hr
theorem Cx.ldcI (C : Cx p s m meth c Z n0 own bc maxL ret nm) {j : Nat} {v : Int32} (hd : decode bc pc = .ok (.ldc j, 2)) (hp : pc + 2 = pc') (w : (Jvm.Cond.constant own j v).before a0 Z = true) (hr : Go p l e R s m args below meth c n0 F h k n pc' Ls (.int v :: st)) : Go p l e R s m args below meth c n0 F h k n pc Ls st := by
  subst hp; exact Go.pl (fun T locs X eT t q => X.ldcI C.1 C.2.2.1 (mv C.2.1 w) rfl (hb C.2.2.2.1 hd) q) hr
theorem Cx.ldcWI (C : Cx p s m meth c Z n0 own bc maxL ret nm) {j : Nat} {v : Int32} (hd : decode bc pc = .ok (.ldc_w j, 3)) (hp : pc + 3 = pc') (w : (Jvm.Cond.constant own j v).before a0 Z = true) (hr : Go p l e R s m args below meth c n0 F h k n pc' Ls (.int v :: st)) : Go p l e R s m args below meth c n0 F h k n pc Ls st := by
  subst hp; exact Go.pl (fun T locs X eT t q => X.ldcWI C.1 C.2.2.1 (mv C.2.1 w) rfl (hb C.2.2.2.1 hd) q) hr
theorem Cx.ldc2J (C : Cx p s m meth c Z n0 own bc maxL ret nm) {j : Nat} {v : Int64} (hd : decode bc pc = .ok (.ldc2_w j, 3)) (hp : pc + 3 = pc') (w : (Jvm.Cond.constantLong own j v).before a0 Z = true) (hr : Go p l e R s m args below meth c n0 F h k n pc' Ls (.long v :: st)) : Go p l e R s m args below meth c n0 F h k n pc Ls st := by
  subst hp; exact Go.pl (fun T locs X eT t q => X.ldc2J C.1 C.2.2.1 (mv C.2.1 w) rfl (hb C.2.2.2.1 hd) q) hr
theorem Cx.alen (C : Cx p s m meth c Z n0 own bc maxL ret nm) {a : Addr} {ty : FieldType} {vs : List Value} (hd : decode bc pc = .ok (.arraylength, 1)) (hp : pc + 1 = pc') (A : Av Z h a ty vs) (hr : Go p l e R s m args below meth c n0 F h k n pc' Ls (.int vs.length.toInt32 :: st)) : Go p l e R s m args below meth c n0 F h k n pc Ls (.ref a :: st) := by
  obtain ⟨cl, A, rfl, -⟩ := A; subst hp; refine Go.pl (fun T locs X eT t q => X.arraylength C.1 (cell := cl) (by rw [eT]; exact A.1) (State.isArrayOf_alike C.2.1.alike A.2.1) (g := mkF m pc Ls (.ref a :: st)) rfl rfl (hb C.2.2.2.1 hd) t q) (by simpa using hr)
theorem Cx.iaload (C : Cx p s m meth c Z n0 own bc maxL ret nm) {a : Addr} {vs : List Value} {j : Int32} (v : Value) (hd : decode bc pc = .ok (.iaload, 1)) (hp : pc + 1 = pc') (A : Av Z h a .int vs) (hj : ¬ j < 0) (hv : vs[j.toNatClampNeg]? = some v) (hr : Go p l e R s m args below meth c n0 F h k n pc' Ls (v :: st)) : Go p l e R s m args below meth c n0 F h k n pc Ls (.int j :: .ref a :: st) := by
  obtain ⟨cl, A, rfl, -⟩ := A; subst hp; rw [Array.getElem?_toList] at hv; exact Go.pl (fun T locs X eT t q => X.iaload C.1 (by rw [eT]; exact A.1) (State.isArrayOf_alike C.2.1.alike A.2.1) A.2.2 (own_in hj hv) hv (g := mkF m pc Ls (.int j :: .ref a :: st)) rfl rfl (hb C.2.2.2.1 hd) t q) hr
theorem Cx.laload (C : Cx p s m meth c Z n0 own bc maxL ret nm) {a : Addr} {vs : List Value} {j : Int32} (v : Value) (hd : decode bc pc = .ok (.laload, 1)) (hp : pc + 1 = pc') (A : Av Z h a .long vs) (hj : ¬ j < 0) (hv : vs[j.toNatClampNeg]? = some v) (hr : Go p l e R s m args below meth c n0 F h k n pc' Ls (v :: st)) : Go p l e R s m args below meth c n0 F h k n pc Ls (.int j :: .ref a :: st) := by
  obtain ⟨cl, A, rfl, -⟩ := A; subst hp; rw [Array.getElem?_toList] at hv; exact Go.pl (fun T locs X eT t q => X.laload C.1 (by rw [eT]; exact A.1) (State.isArrayOf_alike C.2.1.alike A.2.1) A.2.2 (own_in hj hv) hv (g := mkF m pc Ls (.int j :: .ref a :: st)) rfl rfl (hb C.2.2.2.1 hd) t q) hr
theorem Cx.caload (C : Cx p s m meth c Z n0 own bc maxL ret nm) {a : Addr} {vs : List Value} {j : Int32} (v : Value) (hd : decode bc pc = .ok (.caload, 1)) (hp : pc + 1 = pc') (A : Av Z h a .char vs) (hj : ¬ j < 0) (hv : vs[j.toNatClampNeg]? = some v) (hr : Go p l e R s m args below meth c n0 F h k n pc' Ls (v :: st)) : Go p l e R s m args below meth c n0 F h k n pc Ls (.int j :: .ref a :: st) := by
  obtain ⟨cl, A, rfl, -⟩ := A; subst hp; rw [Array.getElem?_toList] at hv; exact Go.pl (fun T locs X eT t q => X.caload C.1 (by rw [eT]; exact A.1) (State.isArrayOf_alike C.2.1.alike A.2.1) A.2.2 (own_in hj hv) hv (g := mkF m pc Ls (.int j :: .ref a :: st)) rfl rfl (hb C.2.2.2.1 hd) t q) hr
theorem Cx.baload (C : Cx p s m meth c Z n0 own bc maxL ret nm) {a : Addr} {vs : List Value} {j : Int32} (v : Value) (hd : decode bc pc = .ok (.baload, 1)) (hp : pc + 1 = pc') (A : Av Z h a .byte vs) (hj : ¬ j < 0) (hv : vs[j.toNatClampNeg]? = some v) (hr : Go p l e R s m args below meth c n0 F h k n pc' Ls (v :: st)) : Go p l e R s m args below meth c n0 F h k n pc Ls (.int j :: .ref a :: st) := by
  obtain ⟨cl, A, rfl, -⟩ := A; subst hp; rw [Array.getElem?_toList] at hv; exact Go.pl (fun T locs X eT t q => X.baloadBytes C.1 (by rw [eT]; exact A.1) (State.isArrayOf_alike C.2.1.alike A.2.1) A.2.2 (own_in hj hv) hv (g := mkF m pc Ls (.int j :: .ref a :: st)) rfl rfl (hb C.2.2.2.1 hd) t q) hr
theorem Cx.zaload (C : Cx p s m meth c Z n0 own bc maxL ret nm) {a : Addr} {vs : List Value} {j : Int32} (v : Value) (hd : decode bc pc = .ok (.baload, 1)) (hp : pc + 1 = pc') (A : Av Z h a .boolean vs) (hj : ¬ j < 0) (hv : vs[j.toNatClampNeg]? = some v) (hr : Go p l e R s m args below meth c n0 F h k n pc' Ls (v :: st)) : Go p l e R s m args below meth c n0 F h k n pc Ls (.int j :: .ref a :: st) := by
  obtain ⟨cl, A, rfl, -⟩ := A; subst hp; rw [Array.getElem?_toList] at hv; exact Go.pl (fun T locs X eT t q => X.baloadBooleans C.1 (by rw [eT]; exact A.1) (State.isArrayOf_alike C.2.1.alike A.2.1) A.2.2 (own_in hj hv) hv (g := mkF m pc Ls (.int j :: .ref a :: st)) rfl rfl (hb C.2.2.2.1 hd) t q) hr
theorem Cx.iastore (C : Cx p s m meth c Z n0 own bc maxL ret nm) {a : Addr} {vs : List Value} {j : Int32} {x : Int32} (hd : decode bc pc = .ok (.iastore, 1)) (hp : pc + 1 = pc') (A : Av Z h a .int vs) (ha : n0 ≤ a) (hj : ¬ j < 0) (hl : j.toNatClampNeg < vs.length) (hr : ∀ h', Wr h h' a j.toNatClampNeg (.int x) → Av Z h' a .int (vs.set j.toNatClampNeg (.int x)) → Go p l e R s m args below meth c n0 F h' k n pc' Ls st) : Go p l e R s m args below meth c n0 F h k n pc Ls (.int x :: .int j :: .ref a :: st) := by
  intro T locs X eT N; have A0 := A; obtain ⟨cl, A, rfl, -⟩ := A; subst hp; rw [Array.length_toList] at hl
  obtain ⟨T', h', X', e', W, stp⟩ := stI X C.1 C.2.1 eT A (own_in2 hj hl) (g := mkF m pc Ls (.int x :: .int j :: .ref a :: st)) rfl rfl (hb C.2.2.2.1 hd)
  obtain ⟨s₂, o, q1, q2⟩ := hr h' W (A0.same W rfl) T' _ X' e' (Fr.snoc X' N ha)
  exact ⟨s₂, o, stp _ q1, q2⟩
theorem Cx.lastore (C : Cx p s m meth c Z n0 own bc maxL ret nm) {a : Addr} {vs : List Value} {j : Int32} {x : Int64} (hd : decode bc pc = .ok (.lastore, 1)) (hp : pc + 1 = pc') (A : Av Z h a .long vs) (ha : n0 ≤ a) (hj : ¬ j < 0) (hl : j.toNatClampNeg < vs.length) (hr : ∀ h', Wr h h' a j.toNatClampNeg (.long x) → Av Z h' a .long (vs.set j.toNatClampNeg (.long x)) → Go p l e R s m args below meth c n0 F h' k n pc' Ls st) : Go p l e R s m args below meth c n0 F h k n pc Ls (.long x :: .int j :: .ref a :: st) := by
  intro T locs X eT N; have A0 := A; obtain ⟨cl, A, rfl, -⟩ := A; subst hp; rw [Array.length_toList] at hl
  obtain ⟨T', h', X', e', W, stp⟩ := stJ X C.1 C.2.1 eT A (own_in2 hj hl) (g := mkF m pc Ls (.long x :: .int j :: .ref a :: st)) rfl rfl (hb C.2.2.2.1 hd)
  obtain ⟨s₂, o, q1, q2⟩ := hr h' W (A0.same W rfl) T' _ X' e' (Fr.snoc X' N ha)
  exact ⟨s₂, o, stp _ q1, q2⟩
theorem Cx.castore (C : Cx p s m meth c Z n0 own bc maxL ret nm) {a : Addr} {vs : List Value} {j : Int32} {x : Int32} (hd : decode bc pc = .ok (.castore, 1)) (hp : pc + 1 = pc') (A : Av Z h a .char vs) (ha : n0 ≤ a) (hj : ¬ j < 0) (hl : j.toNatClampNeg < vs.length) (hr : ∀ h', Wr h h' a j.toNatClampNeg (.int (nar .char x)) → Av Z h' a .char (vs.set j.toNatClampNeg (.int (nar .char x))) → Go p l e R s m args below meth c n0 F h' k n pc' Ls st) : Go p l e R s m args below meth c n0 F h k n pc Ls (.int x :: .int j :: .ref a :: st) := by
  intro T locs X eT N; have A0 := A; obtain ⟨cl, A, rfl, -⟩ := A; subst hp; rw [Array.length_toList] at hl
  obtain ⟨T', h', X', e', W, stp⟩ := stC X C.1 C.2.1 eT A (own_in2 hj hl) (g := mkF m pc Ls (.int x :: .int j :: .ref a :: st)) rfl rfl (hb C.2.2.2.1 hd)
  obtain ⟨s₂, o, q1, q2⟩ := hr h' W (A0.same W (fits_nar_char x)) T' _ X' e' (Fr.snoc X' N ha)
  exact ⟨s₂, o, stp _ q1, q2⟩
theorem Cx.bastore (C : Cx p s m meth c Z n0 own bc maxL ret nm) {a : Addr} {vs : List Value} {j : Int32} {x : Int32} (hd : decode bc pc = .ok (.bastore, 1)) (hp : pc + 1 = pc') (A : Av Z h a .byte vs) (ha : n0 ≤ a) (hj : ¬ j < 0) (hl : j.toNatClampNeg < vs.length) (hr : ∀ h', Wr h h' a j.toNatClampNeg (.int (nar .byte x)) → Av Z h' a .byte (vs.set j.toNatClampNeg (.int (nar .byte x))) → Go p l e R s m args below meth c n0 F h' k n pc' Ls st) : Go p l e R s m args below meth c n0 F h k n pc Ls (.int x :: .int j :: .ref a :: st) := by
  intro T locs X eT N; have A0 := A; obtain ⟨cl, A, rfl, -⟩ := A; subst hp; rw [Array.length_toList] at hl
  obtain ⟨T', h', X', e', W, stp⟩ := stB X C.1 C.2.1 eT A (own_in2 hj hl) (g := mkF m pc Ls (.int x :: .int j :: .ref a :: st)) rfl rfl (hb C.2.2.2.1 hd)
  obtain ⟨s₂, o, q1, q2⟩ := hr h' W (A0.same W (fits_nar_byte x)) T' _ X' e' (Fr.snoc X' N ha)
  exact ⟨s₂, o, stp _ q1, q2⟩
theorem Cx.zastore (C : Cx p s m meth c Z n0 own bc maxL ret nm) {a : Addr} {vs : List Value} {j : Int32} {x : Int32} (hd : decode bc pc = .ok (.bastore, 1)) (hp : pc + 1 = pc') (A : Av Z h a .boolean vs) (ha : n0 ≤ a) (hj : ¬ j < 0) (hl : j.toNatClampNeg < vs.length) (hr : ∀ h', Wr h h' a j.toNatClampNeg (.int (nar .boolean x)) → Av Z h' a .boolean (vs.set j.toNatClampNeg (.int (nar .boolean x))) → Go p l e R s m args below meth c n0 F h' k n pc' Ls st) : Go p l e R s m args below meth c n0 F h k n pc Ls (.int x :: .int j :: .ref a :: st) := by
  intro T locs X eT N; have A0 := A; obtain ⟨cl, A, rfl, -⟩ := A; subst hp; rw [Array.length_toList] at hl
  obtain ⟨T', h', X', e', W, stp⟩ := stZ X C.1 C.2.1 eT A (own_in2 hj hl) (g := mkF m pc Ls (.int x :: .int j :: .ref a :: st)) rfl rfl (hb C.2.2.2.1 hd)
  obtain ⟨s₂, o, q1, q2⟩ := hr h' W (A0.same W (fits_nar_bool x)) T' _ X' e' (Fr.snoc X' N ha)
  exact ⟨s₂, o, stp _ q1, q2⟩
theorem Cx.new (C : Cx p s m meth c Z n0 own bc maxL ret nm) {cls : String} {j nn : Nat} (hd : decode bc pc = .ok (.new j, 3)) (hp : pc + 3 = pc') (w1 : (Jvm.Cond.classLink own j cls).before a0 Z = true) (w2 : (Jvm.Cond.instantiable cls nn).before a0 Z = true) (w3 : (Jvm.Cond.initialized cls).before a0 Z = true) (hk : k + 1 ≤ R.cells) (hn : n + nn ≤ R.slots)
    (hr : ∀ (a : Addr) (h' : Heap), a = h.size → n0 ≤ a → Ext h h' → Exa Z h' a cls → (∀ {O f d : String} {ty : FieldType}, Laid Z a0 cls O f d → parseFieldDescriptor d = some ty → Fld Z h' a O f d (defaultValue ty)) → Go p l e R s m args below meth c n0 F h' (k + 1) (n + nn) pc' Ls (.ref a :: st)) : Go p l e R s m args below meth c n0 F h k n pc Ls st := by
  intro T locs X eT N
  subst hp
  obtain ⟨T', h', X', e', E', A', D', -, stp⟩ := newO X C.1 C.2.1 C.2.2.1 w1 w2 w3 eT (g := mkF m pc Ls st) rfl (hb C.2.2.2.1 hd) hk hn
  obtain ⟨s₂, o, q1, q2⟩ := hr h.size h' rfl (by rw [← eT]; exact C.size X) E' A' D' T' _ X' e' N
  exact ⟨s₂, o, stp _ q1, q2⟩
theorem Cx.newarr (C : Cx p s m meth c Z n0 own bc maxL ret nm) {aty : ArrayType} {ty : FieldType} {z : Int32} (cap : Nat) (hd : decode bc pc = .ok (.newarray aty, 2)) (hp : pc + 2 = pc') (hty : newarray.typeOf aty = ty) (w : (Jvm.Cond.arrayClass ty).before a0 Z = true) (hz : ¬ z < 0) (hcap : z.toNatClampNeg ≤ cap) (hb8 : cap * 8 ≤ 536870912) (hk : k + 1 ≤ R.cells) (hn : n + cap ≤ R.slots)
    (hr : ∀ (a : Addr) (h' : Heap), a = h.size → n0 ≤ a → Ext h h' → Av Z h' a ty (List.replicate z.toNatClampNeg (defaultValue ty)) → Go p l e R s m args below meth c n0 F h' (k + 1) (n + cap) pc' Ls (.ref a :: st)) : Go p l e R s m args below meth c n0 F h k n pc Ls (.int z :: st) := by
  intro T locs X eT N
  subst hp hty
  obtain ⟨T', h', cA, X', e', E', A', stp⟩ := newP X C.1 C.2.1 w eT (g := mkF m pc Ls (.int z :: st)) rfl (hb C.2.2.2.1 hd) rfl hz hcap hb8 hk hn
  obtain ⟨s₂, o, q1, q2⟩ := hr h.size h' rfl (by rw [← eT]; exact C.size X) E' (Av.new A') T' _ X' e' N
  exact ⟨s₂, o, stp _ q1, q2⟩
theorem Cx.initO (C : Cx p s m meth c Z n0 own bc maxL ret nm) {j : Nat} {a : Addr} (W : Nat) (hd : decode bc pc = .ok (.invokespecial j, 3)) (hp : pc + 3 = pc') (w1 : (Jvm.Cond.methodLink own j Lib.objectInit).before a0 Z = true) (w2 : (Jvm.Cond.instanceMethod Lib.objectInit).before a0 Z = true) (w3 : (Jvm.Cond.code Lib.objectInit ⟨#[0xb1]⟩ 1 none).before a0 Z = true) (hsz : Ls.size = maxL) (hf : 1 ≤ R.frames) (hW : (st.map fun v => v.category).sum ≤ W) (hl : W + 12 ≤ R.locals)
    (hr : Go p l e R s m args below meth c n0 F h k n pc' Ls st) : Go p l e R s m args below meth c n0 F h k n pc Ls (.ref a :: st) := by
  intro T locs X eT N
  subst hp
  obtain ⟨T', X', e', stp⟩ := RoadKit.initO X C.1 C.2.1 C.2.2.1 w1 w2 w3 eT (g := mkF m pc Ls (.ref a :: st)) rfl (hsz.trans C.2.2.2.2.1.symm) rfl (hb C.2.2.2.1 hd) hf (W := W) (by show 2 * 0 + _ ≤ W; omega) hl
  obtain ⟨s₂, o, q1, q2⟩ := hr T' _ X' e' N
  exact ⟨s₂, o, stp _ q1, q2⟩
theorem Cx.getF (C : Cx p s m meth c Z n0 own bc maxL ret nm) {O f d : String} {j : Nat} {a : Addr} {v : Value} (hd : decode bc pc = .ok (.getfield j, 3)) (hp : pc + 3 = pc') (w : (Jvm.Cond.fieldLink own j O f d).before a0 Z = true) (F' : Fld Z h a O f d v)
    (hr : Go p l e R s m args below meth c n0 F h k n pc' Ls (v :: st)) : Go p l e R s m args below meth c n0 F h k n pc Ls (.ref a :: st) := by
  intro T locs X eT N
  subst hp
  obtain ⟨T', X', e', stp⟩ := RoadKit.getF X C.1 C.2.1 C.2.2.1 (host := "") (Or.inl w) Via.refl eT F' (g := mkF m pc Ls (.ref a :: st)) rfl rfl (hb C.2.2.2.1 hd)
  obtain ⟨s₂, o, q1, q2⟩ := hr T' _ X' e' N
  exact ⟨s₂, o, stp _ q1, q2⟩
theorem Cx.putF (C : Cx p s m meth c Z n0 own bc maxL ret nm) {O f d cls : String} {j kk : Nat} {ty : FieldType} {a : Addr} {v old : Value} (hd : decode bc pc = .ok (.putfield j, 3)) (hp : pc + 3 = pc') (w : (Jvm.Cond.fieldLink own j O f d).before a0 Z = true) (F' : Fld Z h a O f d old) (E : Exa Z h a cls)
    (L : (Jvm.Cond.lays cls O f d).before a0 Z = true ∨ ((Jvm.Cond.laysFinal cls O f d).before a0 Z = true ∧ own = O ∧ nm = "<init>")) (wi : (Jvm.Cond.instantiable cls kk).before a0 Z = true) (hty : parseFieldDescriptor d = some ty) (hnr : narrow ty v = v) (hf : fits ty v = true) (ha : n0 ≤ a)
    (hr : ∀ h', Wr h h' a (Jvm.RoadKit.slotOf Z O f d) v → Fld Z h' a O f d v → Go p l e R s m args below meth c n0 F h' k n pc' Ls st) : Go p l e R s m args below meth c n0 F h k n pc Ls (v :: .ref a :: st) := by
  intro T locs X eT N
  subst hp
  obtain ⟨T', h', X', e', W, stp⟩ := RoadKit.putF X C.1 C.2.1 C.2.2.1 (host := "") (Or.inl w) Via.refl eT F' E (L.imp id fun q => ⟨q.1, q.2.1, C.2.2.2.2.2.2.1.trans q.2.2⟩) wi hty hnr hf (g := mkF m pc Ls (v :: .ref a :: st)) rfl rfl (hb C.2.2.2.1 hd)
  obtain ⟨s₂, o, q1, q2⟩ := hr h' W (F'.same W) T' _ X' e' (Fr.snoc X' N ha)
  exact ⟨s₂, o, stp _ q1, q2⟩
/-! the end of a body -/
theorem Cx.ret0 {Q : Option Value → Heap → Prop} {ck cs : Nat} (C : Cx p s m meth c Z n0 own bc maxL none nm) (hd : decode bc pc = .ok (.return_, 1)) (hk : k ≤ ck) (hn : n ≤ cs) (hq : Q none h) : Go p l e R s m args below meth c n0 (FinQ s n0 Q ck cs) h k n pc Ls [] := by
  intro T locs X eT N
  have hlk := C.2.2.2.2.2.2.2.1
  obtain ⟨fs, hr, hrun, hended, hW, hsame⟩ := X.leave (v := none) (fun _ => rfl) hlk
  exact ⟨_, _, X.returnOut C.1 C.2.2.2.2.2.1 (hb C.2.2.2.1 hd) hr, hrun, hended, _, _, rfl, ⟨by show Q none T.heap; rw [eT]; exact hq, N⟩, ⟨_, rfl⟩, hW, hsame.mono hk hn⟩
theorem Cx.retW {Q : Option Value → Heap → Prop} {ck cs : Nat} {t : FieldType} {w : Value} {i : Instr} (C : Cx p s m meth c Z n0 own bc maxL (some t) nm) (hd : decode bc pc = .ok (i, 1)) (hnr : narrow t w = w)
    (hi : (i = .ireturn ∧ (t = .int ∨ t = .boolean ∨ t = .byte ∨ t = .char ∨ t = .short) ∧ ∃ z, w = .int z) ∨ (i = .lreturn ∧ t = .long ∧ ∃ z, w = .long z) ∨ (i = .dreturn ∧ t = .double ∧ ∃ z, w = .double z) ∨ (i = .freturn ∧ t = .float ∧ ∃ z, w = .float z) ∨ (i = .areturn ∧ t.isReference = true ∧ w.isRef = true))
    (hk : k ≤ ck) (hn : n ≤ cs) (hq : Q (some w) h) : Go p l e R s m args below meth c n0 (FinQ s n0 Q ck cs) h k n pc Ls (w :: st) := by
  intro T locs X eT N
  have hlk := C.2.2.2.2.2.2.2.1
  have hrt := C.2.2.2.2.2.1
  obtain ⟨fs, hr, hrun, hended, hW, hsame⟩ := X.leave (v := some w) (fun q => by rw [hrt] at q; cases q) hlk
  exact ⟨_, _, retOut X C.1 hrt hnr hi (hb C.2.2.2.1 hd) hr, hrun, hended, _, _, rfl, ⟨by show Q (some w) T.heap; rw [eT]; exact hq, N⟩, ⟨_, rfl⟩, hW, hsame.mono hk hn⟩
theorem Cx.retI {Q : Option Value → Heap → Prop} {ck cs : Nat} {z : Int32} (C : Cx p s m meth c Z n0 own bc maxL (some .int) nm) (hd : decode bc pc = .ok (.ireturn, 1)) (hk : k ≤ ck) (hn : n ≤ cs) (hq : Q (some (.int z)) h) : Go p l e R s m args below meth c n0 (FinQ s n0 Q ck cs) h k n pc Ls (.int z :: st) :=
  C.retW hd rfl (Or.inl ⟨rfl, Or.inl rfl, z, rfl⟩) hk hn hq
theorem Cx.retZ {Q : Option Value → Heap → Prop} {ck cs : Nat} {z : Int32} (C : Cx p s m meth c Z n0 own bc maxL (some .boolean) nm) (hd : decode bc pc = .ok (.ireturn, 1)) (hz : narrow .boolean (.int z) = .int z) (hk : k ≤ ck) (hn : n ≤ cs) (hq : Q (some (.int z)) h) : Go p l e R s m args below meth c n0 (FinQ s n0 Q ck cs) h k n pc Ls (.int z :: st) :=
  C.retW hd hz (Or.inl ⟨rfl, Or.inr (Or.inl rfl), z, rfl⟩) hk hn hq
theorem Cx.retC {Q : Option Value → Heap → Prop} {ck cs : Nat} {z : Int32} (C : Cx p s m meth c Z n0 own bc maxL (some .char) nm) (hd : decode bc pc = .ok (.ireturn, 1)) (hz : narrow .char (.int z) = .int z) (hk : k ≤ ck) (hn : n ≤ cs) (hq : Q (some (.int z)) h) : Go p l e R s m args below meth c n0 (FinQ s n0 Q ck cs) h k n pc Ls (.int z :: st) :=
  C.retW hd hz (Or.inl ⟨rfl, Or.inr (Or.inr (Or.inr (Or.inl rfl))), z, rfl⟩) hk hn hq
theorem Cx.retJ {Q : Option Value → Heap → Prop} {ck cs : Nat} {z : Int64} (C : Cx p s m meth c Z n0 own bc maxL (some .long) nm) (hd : decode bc pc = .ok (.lreturn, 1)) (hk : k ≤ ck) (hn : n ≤ cs) (hq : Q (some (.long z)) h) : Go p l e R s m args below meth c n0 (FinQ s n0 Q ck cs) h k n pc Ls (.long z :: st) :=
  C.retW hd rfl (Or.inr (Or.inl ⟨rfl, rfl, z, rfl⟩)) hk hn hq
theorem Cx.retA {Q : Option Value → Heap → Prop} {ck cs : Nat} {t : FieldType} {a : Addr} (C : Cx p s m meth c Z n0 own bc maxL (some t) nm) (hd : decode bc pc = .ok (.areturn, 1)) (ht : t.isReference = true) (hnr : narrow t (.ref a) = .ref a) (hk : k ≤ ck) (hn : n ≤ cs) (hq : Q (some (.ref a)) h) : Go p l e R s m args below meth c n0 (FinQ s n0 Q ck cs) h k n pc Ls (.ref a :: st) :=
  C.retW hd hnr (Or.inr (Or.inr (Or.inr (Or.inr ⟨rfl, ht, rfl⟩)))) hk hn hq
/-! a body's contract out of its walk -/
theorem Con.of {ws : List Jvm.Cond} {y : MethodName} {as : Array Value} {h0 : Heap} {Q : Option Value → Heap → Prop} (hn : plainFor y = true) (ef : ∀ m, entryFrame m as maxL = mkF m 0 Ls []) (hn0 : n0 ≤ h0.size)
    (body : ∀ p e s m below meth c, Cx p s m meth c Z n0 y.cls bc maxL ret y.name → Go p l e R s m as below meth c n0 (FinQ s n0 Q R.cells R.slots) h0 0 0 0 Ls []) : Con l Z n0 ws y bc maxL ret R as h0 Q := by
  refine MetFree.of_bodySF hn hisR ?_
  intro p e s m args below meth c s₁ Bd hml0 hP hK
  obtain ⟨rfl, hZ, hh⟩ := hP
  have e0 : s₁.heap = h0 := by rw [← hh, Bd.state]; rfl
  have X0 : Stand p l e R s m args below meth c s₁ [] 0 0 := Stand.of_body Bd
  obtain ⟨s₂, o, q1, q2, q3, q4⟩ := body p e s m below meth c ⟨Bd.exec, hZ, findClass_of_methodNamed Bd.named, Bd.bytes, hml0, Bd.returns, (name_of_methodNamed Bd.named Bd.method).1, Bd.notSynchronized, by rw [hh]; exact hn0⟩ s₁ [] X0 e0 (Fr.nil n0)
  exact ⟨s₂, o, castTop (ef m) q1, q2, q3, q4⟩
theorem Con.imp {ws : List Jvm.Cond} {y : MethodName} {as : Array Value} {h0 : Heap} {Q Q' : Option Value → Heap → Prop} (H : Con l Z n0 ws y bc maxL ret R as h0 Q) (q : ∀ v h, Q v h → Q' v h) : Con l Z n0 ws y bc maxL ret R as h0 Q' := by
  intro p e ha hc hk s m args below hf happ hP hK
  obtain ⟨n, o, h1, h2, h3, v, L, r1, ⟨r2, r3⟩, r4⟩ := H p e ha hc hk s m args below hf happ hP hK
  exact ⟨n, o, h1, h2, h3, v, L, r1, ⟨q _ _ r2, r3⟩, r4⟩
/-! calls by contract -/
theorem Cx.callS (C : Cx p s m meth c Z n0 own bc maxL ret nm) {y : MethodName} {bc' : ByteArray} {maxL' j : Nat} {ret' : Option FieldType} {R' : Room} {argsL rest : List Value} {Q : Option Value → Heap → Prop} (W : Nat) (hC : n0 ≤ h.size → Con l Z n0 [] y bc' maxL' ret' R' argsL.toArray h Q) (hd : decode bc pc = .ok (.invokestatic j, 3)) (hp : pc + 3 = pc')
    (w1 : (Jvm.Cond.methodLink own j y).before a0 Z = true) (w2 : (Jvm.Cond.static y).before a0 Z = true) (w3 : (Jvm.Cond.initialized y.cls).before a0 Z = true) (w4 : (Jvm.Cond.code y bc' maxL' ret').before a0 Z = true) (hy : y.cls ≠ "java/lang/invoke/MethodHandle" ∧ y.cls ≠ "java/lang/invoke/VarHandle") {ps : List FieldType} {r : Option FieldType} (hpd : parseMethodDescriptor y.desc = some ⟨ps, r⟩) (hlen : argsL.length = ps.length)
    (hst : st = argsL.reverse ++ rest) (hsz : Ls.size = maxL) (hW : (rest.map fun v => v.category).sum ≤ W) (hf : R'.frames + 1 ≤ R.frames) (hl : W + (maxL' + 11) + R'.locals ≤ R.locals) (hk : k + R'.cells ≤ R.cells) (hn : n + R'.slots ≤ R.slots)
    (hr : ∀ v h', Q v h' → Go p l e R s m args below meth c n0 F h' (k + R'.cells) (n + R'.slots) pc' Ls (v.toList ++ rest)) : Go p l e R s m args below meth c n0 F h k n pc Ls st := by
  intro T locs X eT N
  subst hp hst
  obtain ⟨v, _, ⟨T', L', k', n'⟩, -, X', ⟨Lc, hQ, l1, y1, z1⟩, stp⟩ := Jvm.LawKit.callS X C.1 (y := y) C.2.2.1 (mvT C.2.1 w1) (mvT C.2.1 w2) (mvT C.2.1 w3) (mvT C.2.1 w4) hy (backOf (Z := Z) (h := h) (bytes := bc') (maxL := maxL') (ret := ret') (rm := R') (as' := argsL.toArray) (Q := fun v h' L => Q v h' ∧ Fr n0 L) (W := W) (hC (by rw [← eT]; exact C.size X)) C.2.1 w4 w3 hf hl) (g := mkF m pc Ls (argsL.reverse ++ rest)) rfl (hsz.trans C.2.2.2.2.1.symm) (argsL := argsL) (rest := rest) (lenOf hpd hlen) rfl (by show 2 * 0 + _ ≤ W; omega) (hb C.2.2.2.1 hd) (fun _ _ => ⟨rfl, eT, hk, hn⟩)
  dsimp only [Pt.U, Pt.locs, Pt.cells, Pt.slots] at X' l1 y1 z1 stp hQ
  subst l1 y1 z1
  obtain ⟨s₂, o, q1, q2⟩ := hr v T'.heap hQ.1 T' _ X' rfl (Fr.app N hQ.2)
  exact ⟨s₂, o, stp _ q1, q2⟩
theorem Cx.callN (C : Cx p s m meth c Z n0 own bc maxL ret nm) {y : MethodName} {bc' : ByteArray} {maxL' j : Nat} {R' : Room} {a : Addr} {argsL rest : List Value} {Q : Option Value → Heap → Prop} (W : Nat) (hC : n0 ≤ h.size → Con l Z n0 [] y bc' maxL' none R' (.ref a :: argsL).toArray h Q) (hd : decode bc pc = .ok (.invokespecial j, 3)) (hp : pc + 3 = pc') (hy1 : y.name = "<init>")
    (w1 : (Jvm.Cond.methodLink own j y).before a0 Z = true) (w2 : (Jvm.Cond.instanceMethod y).before a0 Z = true) (w3 : (Jvm.Cond.initialized y.cls).before a0 Z = true) (w4 : (Jvm.Cond.code y bc' maxL' none).before a0 Z = true) (hy : y.cls ≠ "java/lang/invoke/MethodHandle" ∧ y.cls ≠ "java/lang/invoke/VarHandle") {ps : List FieldType} {r : Option FieldType} (hpd : parseMethodDescriptor y.desc = some ⟨ps, r⟩) (hlen : argsL.length = ps.length)
    (hst : st = argsL.reverse ++ .ref a :: rest) (hsz : Ls.size = maxL) (hW : (rest.map fun v => v.category).sum ≤ W) (hf : R'.frames + 1 ≤ R.frames) (hl : W + (maxL' + 11) + R'.locals ≤ R.locals) (hk : k + R'.cells ≤ R.cells) (hn : n + R'.slots ≤ R.slots)
    (hr : ∀ v h', Q v h' → Go p l e R s m args below meth c n0 F h' (k + R'.cells) (n + R'.slots) pc' Ls (v.toList ++ rest)) : Go p l e R s m args below meth c n0 F h k n pc Ls st := by
  intro T locs X eT N
  subst hp hst
  obtain ⟨v, _, ⟨T', L', k', n'⟩, -, X', ⟨Lc, hQ, l1, y1, z1⟩, stp⟩ := X.specialBack C.1 (y := y) hy1 C.2.2.1 (mvT C.2.1 w1) (mvT C.2.1 w2) (mvT C.2.1 w4) hy (backOf (Z := Z) (h := h) (bytes := bc') (maxL := maxL') (ret := none) (rm := R') (as' := (Value.ref a :: argsL).toArray) (Q := fun v h' L => Q v h' ∧ Fr n0 L) (W := W) (hC (by rw [← eT]; exact C.size X)) C.2.1 w4 w3 hf hl) (g := mkF m pc Ls (argsL.reverse ++ .ref a :: rest)) rfl (hsz.trans C.2.2.2.2.1.symm) (Steps.refl _) (a := a) (argsL := argsL) (rest := rest) (lenOf hpd hlen) rfl (by show 2 * 0 + _ ≤ W; omega) (hb C.2.2.2.1 hd) (fun _ _ => ⟨rfl, eT, hk, hn⟩)
  dsimp only [Pt.U, Pt.locs, Pt.cells, Pt.slots] at X' l1 y1 z1 stp hQ
  subst l1 y1 z1
  obtain ⟨s₂, o, q1, q2⟩ := hr v T'.heap hQ.1 T' _ X' rfl (Fr.app N hQ.2)
  exact ⟨s₂, o, stp.trans q1, q2⟩
theorem Cx.callV (C : Cx p s m meth c Z n0 own bc maxL ret nm) {y : MethodName} {cls : String} {bc' : ByteArray} {maxL' j : Nat} {ret' : Option FieldType} {R' : Room} {a : Addr} {argsL rest : List Value} {Q : Option Value → Heap → Prop} (W : Nat) (hC : n0 ≤ h.size → Con l Z n0 [] y bc' maxL' ret' R' (.ref a :: argsL).toArray h Q) (E : Exa Z h a cls) (hd : decode bc pc = .ok (.invokevirtual j, 3)) (hp : pc + 3 = pc')
    (w1 : (Jvm.Cond.methodLink own j y).before a0 Z = true) (w2 : (Jvm.Cond.declares y).before a0 Z = true) (w3 : (Jvm.Cond.instanceMethod y).before a0 Z = true) (w4 : (Jvm.Cond.selects cls y y).before a0 Z = true) (w5 : (Jvm.Cond.initialized y.cls).before a0 Z = true) (w6 : (Jvm.Cond.code y bc' maxL' ret').before a0 Z = true) (hy : y.cls ≠ "java/lang/invoke/MethodHandle" ∧ y.cls ≠ "java/lang/invoke/VarHandle") {ps : List FieldType} {r : Option FieldType} (hpd : parseMethodDescriptor y.desc = some ⟨ps, r⟩) (hlen : argsL.length = ps.length)
    (hst : st = argsL.reverse ++ .ref a :: rest) (hsz : Ls.size = maxL) (hW : (rest.map fun v => v.category).sum ≤ W) (hf : R'.frames + 1 ≤ R.frames) (hl : W + (maxL' + 11) + R'.locals ≤ R.locals) (hk : k + R'.cells ≤ R.cells) (hn : n + R'.slots ≤ R.slots)
    (hr : ∀ v h', Q v h' → Go p l e R s m args below meth c n0 F h' (k + R'.cells) (n + R'.slots) pc' Ls (v.toList ++ rest)) : Go p l e R s m args below meth c n0 F h k n pc Ls st := by
  intro T locs X eT N
  subst hp hst
  obtain ⟨cq, kq, qa, qb, qc⟩ := isOf (T := T) C.2.1 eT E
  obtain ⟨v, _, ⟨T', L', k', n'⟩, -, X', ⟨Lc, hQ, l1, y1, z1⟩, stp⟩ := X.virtualBack C.1 (y := y) (z := y) C.2.2.1 (mvT C.2.1 w1) (mvT C.2.1 w2) (notFace_of_selects (args := #[]) (mvT C.2.1 w4)) (mvT C.2.1 w4) (mvT C.2.1 w3) hy (backOf (Z := Z) (h := h) (bytes := bc') (maxL := maxL') (ret := ret') (rm := R') (as' := (Value.ref a :: argsL).toArray) (Q := fun v h' L => Q v h' ∧ Fr n0 L) (W := W) (hC (by rw [← eT]; exact C.size X)) C.2.1 w6 w5 hf hl) qa qc (g := mkF m pc Ls (argsL.reverse ++ .ref a :: rest)) rfl (hsz.trans C.2.2.2.2.1.symm) (Steps.refl _) (argsL := argsL) (rest := rest) (lenOf hpd hlen) rfl (by show 2 * 0 + _ ≤ W; omega) (hb C.2.2.2.1 hd) (fun _ _ => ⟨rfl, eT, hk, hn⟩)
  dsimp only [Pt.U, Pt.locs, Pt.cells, Pt.slots] at X' l1 y1 z1 stp hQ
  subst l1 y1 z1
  obtain ⟨s₂, o, q1, q2⟩ := hr v T'.heap hQ.1 T' _ X' rfl (Fr.app N hQ.2)
  exact ⟨s₂, o, stp.trans q1, q2⟩
end Own
theorem own_or_l {a b : Int64} (q : ¬ a = 0) : ¬ a ||| b = 0 := fun e => q (by
  have f := congrArg Int64.toBitVec e
  rw [Int64.toBitVec_or] at f
  exact Int64.toBitVec_inj.1 (BitVec.or_eq_zero_iff.mp f).1)
theorem own_or_r {a b : Int64} (q : ¬ b = 0) : ¬ a ||| b = 0 := fun e => q (by
  have f := congrArg Int64.toBitVec e
  rw [Int64.toBitVec_or] at f
  exact Int64.toBitVec_inj.1 (BitVec.or_eq_zero_iff.mp f).2)
section OwnArr
variable {p : Program} {l : Launch} {e : Env} {R : Room} {s : State} {m : MethodId} {args : Array Value} {below : List Frame} {meth : Method} {c : Code} {n0 : Nat} {F : State → Outcome → Prop} {h : Heap} {k n pc pc' : Nat} {Ls : Array Slot} {st : List Value} {Z : State} {own : String} {bc : ByteArray} {maxL : Nat} {ret : Option FieldType} {nm : String} {a0 : Array Value}
theorem own_clamp {j : Nat} (q : j < 2 ^ 31) : j.toInt32.toNatClampNeg = j ∧ ¬ j.toInt32 < 0 := by
  have e := len_toInt q
  constructor
  · simp only [Int32.toNatClampNeg, e]; omega
  · rw [Int32.lt_iff_toInt_lt, e]; simp only [Int32.reduceToInt]; omega
theorem Av.arv {a : Addr} {ty : FieldType} {vs : List Value} (A : Av Z h a ty vs) (q : vs.length < 2 ^ 31) (dv : Value) : ∃ kc, Arv Z h a kc ty vs.length.toInt32 vs dv := by
  obtain ⟨cl, A, rfl, r⟩ := A
  obtain ⟨e1, e2⟩ := own_clamp q
  rw [Array.length_toList] at q e1 e2 ⊢
  refine ⟨cl.cls, cl, A, rfl, e1.symm, e2, fun i hi => ?_, fun i hi => ?_⟩
  · simp [List.getD_eq_getElem?_getD, hi]
  · have : cl.slots.toList.getD i dv = cl.slots[i] := by simp [List.getD_eq_getElem?_getD, hi]
    rw [this]; exact r _ (by simp)
theorem Arv.av {a : Addr} {kc : ClassId} {ty : FieldType} {z : Int32} {vs : List Value} {dv : Value} (A : Arv Z h a kc ty z vs dv) (q : z.toNatClampNeg = vs.length) : Av Z h a ty vs := by
  obtain ⟨cl, A, -, S, -, H, G⟩ := A
  have e : cl.slots.toList = vs := by
    apply List.ext_getElem?
    intro i
    by_cases hi : i < cl.slots.size
    · have := H i hi
      rw [Array.getElem?_toList, this]
      have h2 : i < vs.length := by omega
      simp [List.getD_eq_getElem?_getD, h2]
    · rw [List.getElem?_eq_none (by simpa using hi), List.getElem?_eq_none (by omega)]
  refine ⟨cl, A, e, fun v hv => ?_⟩
  obtain ⟨i, hi, rfl⟩ := List.getElem_of_mem hv
  have := G i (by omega)
  simpa [List.getD_eq_getElem?_getD, hi] using this
theorem own_range (vs : List Value) (sp nn : Nat) (q : sp + nn ≤ vs.length) (d : Value) : (List.range nn).map (fun i => vs.getD (sp + i) d) = (vs.drop sp).take nn := by
  apply List.ext_getElem?
  intro i
  by_cases hi : i < nn
  · simp [hi, List.getElem?_take, List.getD_eq_getElem?_getD, show sp + i < vs.length by omega]
  · rw [List.getElem?_eq_none (by simpa using hi), List.getElem?_eq_none (by simp; omega)]
theorem Cx.acopy (C : Cx p s m meth c Z n0 own bc maxL ret nm) {j : Nat} {a b : Addr} {ty : FieldType} {sp dp nn : Int32} {vs vd : List Value} (W : Nat) (hd : decode bc pc = .ok (.invokestatic j, 3)) (hp : pc + 3 = pc') (w1 : (Jvm.Cond.methodLink own j Jvm.Stand.acN).before a0 Z = true) (w2 : (Jvm.Cond.native Jvm.Stand.acN).before a0 Z = true) (w3 : (Jvm.Cond.static Jvm.Stand.acN).before a0 Z = true) (w4 : (Jvm.Cond.initialized "java/lang/System").before a0 Z = true)
    (A : Av Z h a ty vs) (B : Av Z h b ty vd) (hty : refKind ty = false) (l1 : vs.length < 2 ^ 31) (l2 : vd.length < 2 ^ 31) (h1 : ¬ sp < 0) (h2 : ¬ dp < 0) (h3 : ¬ nn < 0) (h4 : sp.toNatClampNeg + nn.toNatClampNeg ≤ vs.length) (h5 : dp.toNatClampNeg + nn.toNatClampNeg ≤ vd.length) (ge : n0 ≤ b) (hsz : Ls.size = maxL) (hf : 1 ≤ R.frames) (hW : (st.map fun v => v.category).sum ≤ W) (hlo : W + (nativeFrameWords "java/lang/System" "arraycopy" 5 + 11) ≤ R.locals)
    (hr : ∀ h', Keep h h' [b] → Av Z h' b ty (vd.take dp.toNatClampNeg ++ (vs.drop sp.toNatClampNeg).take nn.toNatClampNeg ++ vd.drop (dp.toNatClampNeg + nn.toNatClampNeg)) → Go p l e R s m args below meth c n0 F h' k n pc' Ls st) : Go p l e R s m args below meth c n0 F h k n pc Ls (.int nn :: .int dp :: .ref b :: .int sp :: .ref a :: st) := by
  intro T locs X eT N
  subst hp
  obtain ⟨ka, A'⟩ := A.arv l1 (.int 0)
  obtain ⟨kb, B'⟩ := B.arv l2 (.int 0)
  have c1 := (own_clamp l1).1
  have c2 := (own_clamp l2).1
  obtain ⟨T', h', L', X', e', N', K', V', stp⟩ := cpA X C.1 C.2.1 C.2.2.1 w1 w2 w3 w4 eT A' B' (Or.inl ⟨rfl, hty⟩) h1 h2 h3 (by rw [c1]; exact h4) (by rw [c2]; exact h5) rfl h5 N ge (g := mkF m pc Ls (.int nn :: .int dp :: .ref b :: .int sp :: .ref a :: st)) rfl (hsz.trans C.2.2.2.2.1.symm) rfl (hb C.2.2.2.1 hd) hf (W := W) (by show 2 * 0 + _ ≤ W; omega) hlo
  rw [own_range vs _ _ h4] at V'
  have V2 := Arv.av V' (by rw [c2]; simp; omega)
  obtain ⟨s₂, o, q1, q2⟩ := hr h' K' V2 T' _ X' e' N'
  exact ⟨s₂, o, stp _ q1, q2⟩
end OwnArr
section OwnCalls
variable {p : Program} {l : Launch} {e : Env} {R : Room} {s : State} {m : MethodId} {args : Array Value} {below : List Frame} {meth : Method} {c : Code} {n0 : Nat} {F : State → Outcome → Prop} {h : Heap} {k n pc pc' : Nat} {Ls : Array Slot} {st : List Value} {Z : State} {own : String} {bc : ByteArray} {maxL : Nat} {ret : Option FieldType} {nm : String} {a0 : Array Value}
theorem Cx.callNN (C : Cx p s m meth c Z n0 own bc maxL ret nm) {y : MethodName} {host : String} {bc' : ByteArray} {maxL' j : Nat} {R' : Room} {a : Addr} {argsL rest : List Value} {Q : Option Value → Heap → Prop} (W : Nat) (hC : n0 ≤ h.size → Con l Z n0 [] y bc' maxL' none R' (.ref a :: argsL).toArray h Q) (hd : decode bc pc = .ok (.invokespecial j, 3)) (hp : pc + 3 = pc') (hy1 : y.name = "<init>")
    (w1 : (Jvm.Cond.methodLinkNest own j y host).before a0 Z = true) (w2 : (Jvm.Cond.instanceMethod y).before a0 Z = true) (w3 : (Jvm.Cond.initialized y.cls).before a0 Z = true) (w4 : (Jvm.Cond.code y bc' maxL' none).before a0 Z = true) (hy : y.cls ≠ "java/lang/invoke/MethodHandle" ∧ y.cls ≠ "java/lang/invoke/VarHandle") {ps : List FieldType} {r : Option FieldType} (hpd : parseMethodDescriptor y.desc = some ⟨ps, r⟩) (hlen : argsL.length = ps.length)
    (hst : st = argsL.reverse ++ .ref a :: rest) (hsz : Ls.size = maxL) (hW : (rest.map fun v => v.category).sum ≤ W) (hf : R'.frames + 1 ≤ R.frames) (hl : W + (maxL' + 11) + R'.locals ≤ R.locals) (hk : k + R'.cells ≤ R.cells) (hn : n + R'.slots ≤ R.slots)
    (hr : ∀ v h', Q v h' → Go p l e R s m args below meth c n0 F h' (k + R'.cells) (n + R'.slots) pc' Ls (v.toList ++ rest)) : Go p l e R s m args below meth c n0 F h k n pc Ls st := by
  intro T locs X eT N
  subst hp hst
  obtain ⟨v, _, ⟨T', L', k', n'⟩, -, X', ⟨Lc, hQ, l1, y1, z1⟩, stp⟩ := X.specialBackNest C.1 (y := y) hy1 C.2.2.1 (Cond.methodLinkNest_wide C.2.1 w1 :) (mvT C.2.1 w2) (mvT C.2.1 w4) hy (backOf (Z := Z) (h := h) (bytes := bc') (maxL := maxL') (ret := none) (rm := R') (as' := (Value.ref a :: argsL).toArray) (Q := fun v h' L => Q v h' ∧ Fr n0 L) (W := W) (hC (by rw [← eT]; exact C.size X)) C.2.1 w4 w3 hf hl) (g := mkF m pc Ls (argsL.reverse ++ .ref a :: rest)) rfl (hsz.trans C.2.2.2.2.1.symm) (Steps.refl _) (a := a) (argsL := argsL) (rest := rest) (lenOf hpd hlen) rfl (by show 2 * 0 + _ ≤ W; omega) (hb C.2.2.2.1 hd) (fun _ _ => ⟨rfl, eT, hk, hn⟩)
  dsimp only [Pt.U, Pt.locs, Pt.cells, Pt.slots] at X' l1 y1 z1 stp hQ
  subst l1 y1 z1
  obtain ⟨s₂, o, q1, q2⟩ := hr v T'.heap hQ.1 T' _ X' rfl (Fr.app N hQ.2)
  exact ⟨s₂, o, stp.trans q1, q2⟩
end OwnCalls
section OwnPriv
variable {p : Program} {l : Launch} {e : Env} {R : Room} {s : State} {m : MethodId} {args : Array Value} {below : List Frame} {meth : Method} {c : Code} {n0 : Nat} {F : State → Outcome → Prop} {h : Heap} {k n pc pc' : Nat} {Ls : Array Slot} {st : List Value} {Z : State} {own : String} {bc : ByteArray} {maxL : Nat} {ret : Option FieldType} {nm : String} {a0 : Array Value}
theorem Cx.callP (C : Cx p s m meth c Z n0 own bc maxL ret nm) {y : MethodName} {cls : String} {bc' : ByteArray} {maxL' j : Nat} {ret' : Option FieldType} {R' : Room} {a : Addr} {argsL rest : List Value} {Q : Option Value → Heap → Prop} (W : Nat) (hC : n0 ≤ h.size → Con l Z n0 [] y bc' maxL' ret' R' (.ref a :: argsL).toArray h Q) (E : Exa Z h a cls) (hd : decode bc pc = .ok (.invokevirtual j, 3)) (hp : pc + 3 = pc')
    (w1 : (Jvm.Cond.methodLink own j y).before a0 Z = true) (w2 : (Jvm.Cond.privateMethod y).before a0 Z = true) (w3 : (Jvm.Cond.instanceMethod y).before a0 Z = true) (w4 : (Jvm.Cond.selects y.cls y y).before a0 Z = true) (w5 : (Jvm.Cond.initialized y.cls).before a0 Z = true) (w6 : (Jvm.Cond.code y bc' maxL' ret').before a0 Z = true) (hy : y.cls ≠ "java/lang/invoke/MethodHandle" ∧ y.cls ≠ "java/lang/invoke/VarHandle") {ps : List FieldType} {r : Option FieldType} (hpd : parseMethodDescriptor y.desc = some ⟨ps, r⟩) (hlen : argsL.length = ps.length)
    (hst : st = argsL.reverse ++ .ref a :: rest) (hsz : Ls.size = maxL) (hW : (rest.map fun v => v.category).sum ≤ W) (hf : R'.frames + 1 ≤ R.frames) (hl : W + (maxL' + 11) + R'.locals ≤ R.locals) (hk : k + R'.cells ≤ R.cells) (hn : n + R'.slots ≤ R.slots)
    (hr : ∀ v h', Q v h' → Go p l e R s m args below meth c n0 F h' (k + R'.cells) (n + R'.slots) pc' Ls (v.toList ++ rest)) : Go p l e R s m args below meth c n0 F h k n pc Ls st := by
  intro T locs X eT N
  subst hp hst
  obtain ⟨cell, hc1, hc2⟩ := E.cell
  obtain ⟨v, _, ⟨T', L', k', n'⟩, -, X', ⟨Lc, hQ, l1, y1, z1⟩, stp⟩ := X.privateBack C.1 (y := y) C.2.2.1 (mvT C.2.1 w1) (mvT C.2.1 w3) (mvT C.2.1 w4) (Cond.privateMethod_at (args := #[]) (mvP C.2.1 w2)) (mvT C.2.1 w6) hy (backOf (Z := Z) (h := h) (bytes := bc') (maxL := maxL') (ret := ret') (rm := R') (as' := (Value.ref a :: argsL).toArray) (Q := fun v h' L => Q v h' ∧ Fr n0 L) (W := W) (hC (by rw [← eT]; exact C.size X)) C.2.1 w6 w5 hf hl) (g := mkF m pc Ls (argsL.reverse ++ .ref a :: rest)) rfl (hsz.trans C.2.2.2.2.1.symm) (Steps.refl _) (by rw [eT]; exact hc1) hc2 (argsL := argsL) (rest := rest) (lenOf hpd hlen) rfl (by show 2 * 0 + _ ≤ W; omega) (hb C.2.2.2.1 hd) (fun _ _ => ⟨rfl, eT, hk, hn⟩)
  dsimp only [Pt.U, Pt.locs, Pt.cells, Pt.slots] at X' l1 y1 z1 stp hQ
  subst l1 y1 z1
  obtain ⟨s₂, o, q1, q2⟩ := hr v T'.heap hQ.1 T' _ X' rfl (Fr.app N hQ.2)
  exact ⟨s₂, o, stp.trans q1, q2⟩
end OwnPriv
theorem own_mod1 (x : Int32) : (x &&& 2147483647) % 1 = 0 := by
  have e : (x &&& 2147483647).toInt = x.toInt % 2 ^ 31 := Jvm.Kit.i32_mask x 2147483647 (k := 31) (by decide) (by decide)
  have f : ((x &&& 2147483647) % 1).toInt = (x &&& 2147483647).toInt % 1 := Jvm.Kit.i32_rem_nonneg (by omega)
  simp only [← Int32.toInt_inj, Int32.reduceToInt]; omega
theorem own_mod2 (x : Int32) : (x &&& 2147483647) % 2 = 0 ∨ (x &&& 2147483647) % 2 = 1 := by
  have e : (x &&& 2147483647).toInt = x.toInt % 2 ^ 31 := Jvm.Kit.i32_mask x 2147483647 (k := 31) (by decide) (by decide)
  have f : ((x &&& 2147483647) % 2).toInt = (x &&& 2147483647).toInt % 2 := Jvm.Kit.i32_rem_nonneg (by omega)
  simp only [← Int32.toInt_inj, Int32.reduceToInt]; omega
theorem own_mod3 (x : Int32) : (x &&& 2147483647) % 3 = 0 ∨ (x &&& 2147483647) % 3 = 1 ∨ (x &&& 2147483647) % 3 = 2 := by
  have e : (x &&& 2147483647).toInt = x.toInt % 2 ^ 31 := Jvm.Kit.i32_mask x 2147483647 (k := 31) (by decide) (by decide)
  have f : ((x &&& 2147483647) % 3).toInt = (x &&& 2147483647).toInt % 3 := Jvm.Kit.i32_rem_nonneg (by omega)
  simp only [← Int32.toInt_inj, Int32.reduceToInt]; omega
theorem own_nelen {z : Int32} {vs : List Value} (hn : ¬ z < 0) (hl : z.toNatClampNeg < vs.length) (h31 : vs.length < 2 ^ 31) : ¬ z = vs.length.toInt32 := fun q => by
  rw [q, (own_clamp h31).1] at hl; exact Nat.lt_irrefl _ hl
theorem d1_0 : decode prog_18_method_1_code 0 = .ok (.aload_n 0, 1) := by decide +kernel
theorem d1_1 : decode prog_18_method_1_code 1 = .ok (.invokespecial 1, 3) := by decide +kernel
theorem d1_4 : decode prog_18_method_1_code 4 = .ok (.aload_n 0, 1) := by decide +kernel
theorem d1_5 : decode prog_18_method_1_code 5 = .ok (.bipush 8, 2) := by decide +kernel
theorem d1_7 : decode prog_18_method_1_code 7 = .ok (.newarray .int, 2) := by decide +kernel
theorem d1_9 : decode prog_18_method_1_code 9 = .ok (.putfield 9, 3) := by decide +kernel
theorem d1_12 : decode prog_18_method_1_code 12 = .ok (.return_, 1) := by decide +kernel
theorem pf_0 : plainFor (⟨"com/example/leaseledger/leaseledger/journal/IntColumn", "<init>", "()V"⟩ : MethodName) = true := by first | exact plainFor_of_name (by first | (simp [plainName, overriddenIn]; done) | decide +kernel) | decide +kernel
def Qcon_ini (Z : State) (n0 : Nat) (h0 : Heap) (a : Addr) (v : Option Value) (h' : Heap) : Prop := ∃ (b : Addr), (v = none) ∧ (Keep h0 h' [a]) ∧ (n0 ≤ b) ∧ (h0.size ≤ b) ∧ (Fld Z h' a "com/example/leaseledger/leaseledger/journal/IntColumn" "values" "[I" (.ref b)) ∧ (Fld Z h' a "com/example/leaseledger/leaseledger/journal/IntColumn" "size" "I" (.int 0)) ∧ (Av Z h' b .int ([.int 0, .int 0, .int 0, .int 0, .int 0, .int 0, .int 0, .int 0]))
theorem ef_con_ini (m : MethodId) (a : Addr) : entryFrame m #[(.ref a)] 1 = mkF m 0 #[.val (.ref a)] [] := by first | (simp [entryFrame, mkF, argsToLocals, Value.category]; done) | rfl
set_option maxRecDepth 65536 in
set_option maxHeartbeats 40000000 in
theorem con_ini (l : Launch) (Z : State) (a0 : Array Value) (hw : ∀ d ∈ tables_1, d.before a0 Z = true) (n0 : Nat) (h0 : Heap) (hn0 : n0 ≤ h0.size) (a : Addr) (P0 : Exa Z h0 a "com/example/leaseledger/leaseledger/journal/IntColumn") (P1 : Fld Z h0 a "com/example/leaseledger/leaseledger/journal/IntColumn" "values" "[I" (.null)) (P2 : Fld Z h0 a "com/example/leaseledger/leaseledger/journal/IntColumn" "size" "I" (.int 0)) (g_a : n0 ≤ a) :
    Con l Z n0 [] (⟨"com/example/leaseledger/leaseledger/journal/IntColumn", "<init>", "()V"⟩ : MethodName) prog_18_method_1_code 1 none ({ frames := 1, cells := 1, slots := 8, locals := 12 } : Room) #[(.ref a)] h0 (Qcon_ini Z n0 h0 a) := by
  refine Con.of pf_0 (fun m => ef_con_ini m a) hn0 ?_
  intro p e s m below meth c C
  refine C.aloadN d1_0 rfl rfl rfl ?_
  refine C.initO 0 d1_1 rfl (tw hw 7 rfl) (tw hw 8 rfl) (tw hw 9 rfl) rfl (by decide) (Nat.le_of_eq rfl) (by decide) ?_
  refine C.aloadN d1_4 rfl rfl rfl ?_
  refine C.bipush 8 d1_5 rfl rfl ?_
  refine C.newarr 8 d1_7 rfl rfl (tw hw 10 rfl) (by decide) (by decide) (by decide) (by decide) (by decide) (fun a19 h20 z23 g24 X21 F22 => ?_)
  have gz25 : h0.size ≤ a19 := by rw [z23]; exact (Keep.refl h0 [a]).1
  have ne26 : a ≠ a19 := by rw [z23]; exact Nat.ne_of_lt P0.lt
  have F27 : Exa Z h20 a "com/example/leaseledger/leaseledger/journal/IntColumn" := Exa.ext X21 P0
  have F28 : Fld Z h20 a "com/example/leaseledger/leaseledger/journal/IntColumn" "values" "[I" (.null) := Fld.ext X21 P1
  have F29 : Fld Z h20 a "com/example/leaseledger/leaseledger/journal/IntColumn" "size" "I" (.int 0) := Fld.ext X21 P2
  have F30 : Av Z h20 a19 .int ([.int 0, .int 0, .int 0, .int 0, .int 0, .int 0, .int 0, .int 0]) := F22
  refine C.putF d1_9 rfl (tw hw 11 rfl) F28 F27 (Or.inl (tw hw 12 rfl)) (tw hw 2 rfl) (ty := (.array .int)) (by decide) rfl rfl g_a (fun h31 W32 F33 => ?_)
  have F34 : Exa Z h31 a "com/example/leaseledger/leaseledger/journal/IntColumn" := Exa.wr W32 F27
  have F35 : Fld Z h31 a "com/example/leaseledger/leaseledger/journal/IntColumn" "size" "I" (.int 0) := Fld.other W32 F29 (Or.inr (slot_ne (C := "com/example/leaseledger/leaseledger/journal/IntColumn") (t := .int) (t' := (.array .int)) (Or.inl (tw hw 19 rfl)) (Or.inl (tw hw 12 rfl)) (by decide) (by decide) (by decide)))
  have F36 : Av Z h31 a19 .int ([.int 0, .int 0, .int 0, .int 0, .int 0, .int 0, .int 0, .int 0]) := F30.other W32 (Ne.symm ne26)
  exact C.ret0 d1_12 (by decide) (by decide) ⟨a19, rfl, (((Keep.refl h0 [a]).ext X21).wr W32 (Or.inl (List.mem_of_getElem? (i := 0) rfl))), g24, gz25, F33, F35, F36⟩
theorem d3_0 : decode prog_18_method_3_code 0 = .ok (.aload_n 0, 1) := by decide +kernel
theorem d3_1 : decode prog_18_method_3_code 1 = .ok (.getfield 13, 3) := by decide +kernel
theorem d3_4 : decode prog_18_method_3_code 4 = .ok (.aload_n 0, 1) := by decide +kernel
theorem d3_5 : decode prog_18_method_3_code 5 = .ok (.getfield 9, 3) := by decide +kernel
theorem d3_8 : decode prog_18_method_3_code 8 = .ok (.arraylength, 1) := by decide +kernel
theorem d3_9 : decode prog_18_method_3_code 9 = .ok (.if_icmp .ne 20, 3) := by decide +kernel
theorem d3_12 : decode prog_18_method_3_code 12 = .ok (.aload_n 0, 1) := by decide +kernel
theorem d3_13 : decode prog_18_method_3_code 13 = .ok (.aload_n 0, 1) := by decide +kernel
theorem d3_14 : decode prog_18_method_3_code 14 = .ok (.getfield 9, 3) := by decide +kernel
theorem d3_17 : decode prog_18_method_3_code 17 = .ok (.iconst 2, 1) := by decide +kernel
theorem d3_18 : decode prog_18_method_3_code 18 = .ok (.aload_n 0, 1) := by decide +kernel
theorem d3_19 : decode prog_18_method_3_code 19 = .ok (.getfield 13, 3) := by decide +kernel
theorem d3_22 : decode prog_18_method_3_code 22 = .ok (.imul, 1) := by decide +kernel
theorem d3_23 : decode prog_18_method_3_code 23 = .ok (.invokestatic 17, 3) := by decide +kernel
theorem d3_26 : decode prog_18_method_3_code 26 = .ok (.putfield 9, 3) := by decide +kernel
theorem d3_29 : decode prog_18_method_3_code 29 = .ok (.aload_n 0, 1) := by decide +kernel
theorem d3_30 : decode prog_18_method_3_code 30 = .ok (.getfield 9, 3) := by decide +kernel
theorem d3_33 : decode prog_18_method_3_code 33 = .ok (.aload_n 0, 1) := by decide +kernel
theorem d3_34 : decode prog_18_method_3_code 34 = .ok (.dup, 1) := by decide +kernel
theorem d3_35 : decode prog_18_method_3_code 35 = .ok (.getfield 13, 3) := by decide +kernel
theorem d3_38 : decode prog_18_method_3_code 38 = .ok (.dup_x1, 1) := by decide +kernel
theorem d3_39 : decode prog_18_method_3_code 39 = .ok (.iconst 1, 1) := by decide +kernel
theorem d3_40 : decode prog_18_method_3_code 40 = .ok (.iadd, 1) := by decide +kernel
theorem d3_41 : decode prog_18_method_3_code 41 = .ok (.putfield 13, 3) := by decide +kernel
theorem d3_44 : decode prog_18_method_3_code 44 = .ok (.iload_n 1, 1) := by decide +kernel
theorem d3_45 : decode prog_18_method_3_code 45 = .ok (.iastore, 1) := by decide +kernel
theorem d3_46 : decode prog_18_method_3_code 46 = .ok (.return_, 1) := by decide +kernel
theorem pf_1 : plainFor (⟨"com/example/leaseledger/leaseledger/journal/IntColumn", "add", "(I)V"⟩ : MethodName) = true := by first | exact plainFor_of_name (by first | (simp [plainName, overriddenIn]; done) | decide +kernel) | decide +kernel
def Qcon_add (Z : State) (n0 : Nat) (h0 : Heap) (a : Addr) (b : Addr) (w : Int32) (n : Int32) (vs : List Value) (v : Option Value) (h' : Heap) : Prop := (v = none) ∧ (Keep h0 h' [a, b]) ∧ (Fld Z h' a "com/example/leaseledger/leaseledger/journal/IntColumn" "values" "[I" (.ref b)) ∧ (Fld Z h' a "com/example/leaseledger/leaseledger/journal/IntColumn" "size" "I" (.int (n + 1))) ∧ (Av Z h' b .int (vs.set (Int32.toNatClampNeg n) (.int w)))
theorem ef_con_add (m : MethodId) (a : Addr) (w : Int32) : entryFrame m #[(.ref a), (.int w)] 2 = mkF m 0 #[.val (.ref a), .val (.int w)] [] := by first | (simp [entryFrame, mkF, argsToLocals, Value.category]; done) | rfl
set_option maxRecDepth 65536 in
set_option maxHeartbeats 40000000 in
theorem con_add (l : Launch) (Z : State) (a0 : Array Value) (hw : ∀ d ∈ tables_1, d.before a0 Z = true) (n0 : Nat) (h0 : Heap) (hn0 : n0 ≤ h0.size) (a : Addr) (b : Addr) (w : Int32) (n : Int32) (vs : List Value) (P0 : Exa Z h0 a "com/example/leaseledger/leaseledger/journal/IntColumn") (P1 : Fld Z h0 a "com/example/leaseledger/leaseledger/journal/IntColumn" "values" "[I" (.ref b)) (P2 : Fld Z h0 a "com/example/leaseledger/leaseledger/journal/IntColumn" "size" "I" (.int n)) (P3 : Av Z h0 b .int vs) (g_a : n0 ≤ a) (g_b : n0 ≤ b) (ne_a_b : a ≠ b) (hn : ¬ n < 0) (hl : n.toNatClampNeg < vs.length) (h31 : vs.length < 2 ^ 31) :
    Con l Z n0 [] (⟨"com/example/leaseledger/leaseledger/journal/IntColumn", "add", "(I)V"⟩ : MethodName) prog_18_method_3_code 2 none ({ frames := 0, cells := 0, slots := 0, locals := 0 } : Room) #[(.ref a), (.int w)] h0 (Qcon_add Z n0 h0 a b w n vs) := by
  refine Con.of pf_1 (fun m => ef_con_add m a w) hn0 ?_
  intro p e s m below meth c C
  refine C.aloadN d3_0 rfl rfl rfl ?_
  refine C.getF d3_1 rfl (tw hw 18 rfl) P2 ?_
  refine C.aloadN d3_4 rfl rfl rfl ?_
  refine C.getF d3_5 rfl (tw hw 11 rfl) P1 ?_
  refine C.alen d3_8 rfl P3 ?_
  refine C.icmp_ne_t d3_9 (by decide) rfl (own_nelen hn hl h31) ?_
  refine C.aloadN d3_29 rfl rfl rfl ?_
  refine C.getF d3_30 rfl (tw hw 11 rfl) P1 ?_
  refine C.aloadN d3_33 rfl rfl rfl ?_
  refine C.dup d3_34 rfl rfl ?_
  refine C.getF d3_35 rfl (tw hw 18 rfl) P2 ?_
  refine C.dupX1 d3_38 rfl rfl rfl ?_
  refine C.iconst 1 d3_39 rfl rfl ?_
  refine C.iadd d3_40 rfl ?_
  refine C.putF d3_41 rfl (tw hw 18 rfl) P2 P0 (Or.inl (tw hw 19 rfl)) (tw hw 2 rfl) (ty := .int) (by decide) rfl rfl g_a (fun h49 W50 F51 => ?_)
  have F52 : Exa Z h49 a "com/example/leaseledger/leaseledger/journal/IntColumn" := Exa.wr W50 P0
  have F53 : Fld Z h49 a "com/example/leaseledger/leaseledger/journal/IntColumn" "values" "[I" (.ref b) := Fld.other W50 P1 (Or.inr (slot_ne (C := "com/example/leaseledger/leaseledger/journal/IntColumn") (t := (.array .int)) (t' := .int) (Or.inl (tw hw 12 rfl)) (Or.inl (tw hw 19 rfl)) (by decide) (by decide) (by decide)))
  have F54 : Av Z h49 b .int vs := P3.other W50 (Ne.symm ne_a_b)
  refine C.iloadN d3_44 rfl rfl ?_
  refine C.iastore d3_45 rfl F54 g_b hn hl (fun h55 W56 F57 => ?_)
  have F58 : Exa Z h55 a "com/example/leaseledger/leaseledger/journal/IntColumn" := Exa.wr W56 F52
  have F59 : Fld Z h55 a "com/example/leaseledger/leaseledger/journal/IntColumn" "values" "[I" (.ref b) := Fld.other W56 F53 (Or.inl ne_a_b)
  have F60 : Fld Z h55 a "com/example/leaseledger/leaseledger/journal/IntColumn" "size" "I" (.int (n + 1)) := Fld.other W56 F51 (Or.inl ne_a_b)
  exact C.ret0 d3_46 (by decide) (by decide) ⟨rfl, (((Keep.refl h0 [a, b]).wr W50 (Or.inl (List.mem_of_getElem? (i := 0) rfl))).wr W56 (Or.inl (List.mem_of_getElem? (i := 1) rfl))), F59, F60, F57⟩
theorem d7_0 : decode prog_18_method_2_code 0 = .ok (.aload_n 0, 1) := by decide +kernel
theorem d7_1 : decode prog_18_method_2_code 1 = .ok (.getfield 13, 3) := by decide +kernel
theorem d7_4 : decode prog_18_method_2_code 4 = .ok (.ireturn, 1) := by decide +kernel
theorem pf_2 : plainFor (⟨"com/example/leaseledger/leaseledger/journal/IntColumn", "size", "()I"⟩ : MethodName) = true := by first | exact plainFor_of_name (by first | (simp [plainName, overriddenIn]; done) | decide +kernel) | decide +kernel
def Qcon_size (Z : State) (n0 : Nat) (h0 : Heap) (a : Addr) (n : Int32) (v : Option Value) (h' : Heap) : Prop := (v = some (.int n)) ∧ (h0 = h')
theorem ef_con_size (m : MethodId) (a : Addr) : entryFrame m #[(.ref a)] 1 = mkF m 0 #[.val (.ref a)] [] := by first | (simp [entryFrame, mkF, argsToLocals, Value.category]; done) | rfl
set_option maxRecDepth 65536 in
set_option maxHeartbeats 40000000 in
theorem con_size (l : Launch) (Z : State) (a0 : Array Value) (hw : ∀ d ∈ tables_1, d.before a0 Z = true) (n0 : Nat) (h0 : Heap) (hn0 : n0 ≤ h0.size) (a : Addr) (n : Int32) (P0 : Fld Z h0 a "com/example/leaseledger/leaseledger/journal/IntColumn" "size" "I" (.int n)) :
    Con l Z n0 [] (⟨"com/example/leaseledger/leaseledger/journal/IntColumn", "size", "()I"⟩ : MethodName) prog_18_method_2_code 1 (some .int) ({ frames := 0, cells := 0, slots := 0, locals := 0 } : Room) #[(.ref a)] h0 (Qcon_size Z n0 h0 a n) := by
  refine Con.of pf_2 (fun m => ef_con_size m a) hn0 ?_
  intro p e s m below meth c C
  refine C.aloadN d7_0 rfl rfl rfl ?_
  refine C.getF d7_1 rfl (tw hw 18 rfl) P0 ?_
  exact C.retI d7_4 (by decide) (by decide) ⟨rfl, rfl⟩
theorem d6_0 : decode jdk_41_method_11_code 0 = .ok (.iload_n 0, 1) := by decide +kernel
theorem d6_1 : decode jdk_41_method_11_code 1 = .ok (.ifCond .lt 8, 3) := by decide +kernel
theorem d6_4 : decode jdk_41_method_11_code 4 = .ok (.iload_n 0, 1) := by decide +kernel
theorem d6_5 : decode jdk_41_method_11_code 5 = .ok (.iload_n 1, 1) := by decide +kernel
theorem d6_6 : decode jdk_41_method_11_code 6 = .ok (.if_icmp .lt 10, 3) := by decide +kernel
theorem d6_9 : decode jdk_41_method_11_code 9 = .ok (.aload_n 2, 1) := by decide +kernel
theorem d6_10 : decode jdk_41_method_11_code 10 = .ok (.iload_n 0, 1) := by decide +kernel
theorem d6_11 : decode jdk_41_method_11_code 11 = .ok (.iload_n 1, 1) := by decide +kernel
theorem d6_12 : decode jdk_41_method_11_code 12 = .ok (.invokestatic 95, 3) := by decide +kernel
theorem d6_15 : decode jdk_41_method_11_code 15 = .ok (.athrow, 1) := by decide +kernel
theorem d6_16 : decode jdk_41_method_11_code 16 = .ok (.iload_n 0, 1) := by decide +kernel
theorem d6_17 : decode jdk_41_method_11_code 17 = .ok (.ireturn, 1) := by decide +kernel
theorem pf_3 : plainFor (⟨"jdk/internal/util/Preconditions", "checkIndex", "(IILjava/util/function/BiFunction;)I"⟩ : MethodName) = true := by first | exact plainFor_of_name (by first | (simp [plainName, overriddenIn]; done) | decide +kernel) | decide +kernel
def Qcon_pre (Z : State) (n0 : Nat) (h0 : Heap) (i : Int32) (z : Int32) (v : Option Value) (h' : Heap) : Prop := (v = some (.int i)) ∧ (h0 = h')
theorem ef_con_pre (m : MethodId) (i : Int32) (z : Int32) : entryFrame m #[(.int i), (.int z), .null] 3 = mkF m 0 #[.val (.int i), .val (.int z), .val (.null)] [] := by first | (simp [entryFrame, mkF, argsToLocals, Value.category]; done) | rfl
set_option maxRecDepth 65536 in
set_option maxHeartbeats 40000000 in
theorem con_pre (l : Launch) (Z : State) (a0 : Array Value) (hw : ∀ d ∈ tables_1, d.before a0 Z = true) (n0 : Nat) (h0 : Heap) (hn0 : n0 ≤ h0.size) (i : Int32) (z : Int32) (hi : ¬ i < 0) (hz : i < z) :
    Con l Z n0 [] (⟨"jdk/internal/util/Preconditions", "checkIndex", "(IILjava/util/function/BiFunction;)I"⟩ : MethodName) jdk_41_method_11_code 3 (some .int) ({ frames := 0, cells := 0, slots := 0, locals := 0 } : Room) #[(.int i), (.int z), .null] h0 (Qcon_pre Z n0 h0 i z) := by
  refine Con.of pf_3 (fun m => ef_con_pre m i z) hn0 ?_
  intro p e s m below meth c C
  refine C.iloadN d6_0 rfl rfl ?_
  refine C.if_lt_f d6_1 rfl hi ?_
  refine C.iloadN d6_4 rfl rfl ?_
  refine C.iloadN d6_5 rfl rfl ?_
  refine C.icmp_lt_t d6_6 (by decide) rfl hz ?_
  refine C.iloadN d6_16 rfl rfl ?_
  exact C.retI d6_17 (by decide) (by decide) ⟨rfl, rfl⟩
theorem d5_0 : decode jdk_31_method_17_code 0 = .ok (.iload_n 0, 1) := by decide +kernel
theorem d5_1 : decode jdk_31_method_17_code 1 = .ok (.iload_n 1, 1) := by decide +kernel
theorem d5_2 : decode jdk_31_method_17_code 2 = .ok (.aconst_null, 1) := by decide +kernel
theorem d5_3 : decode jdk_31_method_17_code 3 = .ok (.invokestatic 105, 3) := by decide +kernel
theorem d5_6 : decode jdk_31_method_17_code 6 = .ok (.ireturn, 1) := by decide +kernel
theorem pf_4 : plainFor (⟨"java/util/Objects", "checkIndex", "(II)I"⟩ : MethodName) = true := by first | exact plainFor_of_name (by first | (simp [plainName, overriddenIn]; done) | decide +kernel) | decide +kernel
theorem pd_0 : parseMethodDescriptor "(IILjava/util/function/BiFunction;)I" = some ⟨[.int, .int, (.object "java/util/function/BiFunction")], some .int⟩ := by decide +kernel
def Qcon_chk (Z : State) (n0 : Nat) (h0 : Heap) (i : Int32) (z : Int32) (v : Option Value) (h' : Heap) : Prop := (v = some (.int i)) ∧ (h0 = h')
theorem ef_con_chk (m : MethodId) (i : Int32) (z : Int32) : entryFrame m #[(.int i), (.int z)] 2 = mkF m 0 #[.val (.int i), .val (.int z)] [] := by first | (simp [entryFrame, mkF, argsToLocals, Value.category]; done) | rfl
set_option maxRecDepth 65536 in
set_option maxHeartbeats 40000000 in
theorem con_chk (l : Launch) (Z : State) (a0 : Array Value) (hw : ∀ d ∈ tables_1, d.before a0 Z = true) (n0 : Nat) (h0 : Heap) (hn0 : n0 ≤ h0.size) (i : Int32) (z : Int32) (hi : ¬ i < 0) (hz : i < z) :
    Con l Z n0 [] (⟨"java/util/Objects", "checkIndex", "(II)I"⟩ : MethodName) jdk_31_method_17_code 2 (some .int) ({ frames := 1, cells := 0, slots := 0, locals := 14 } : Room) #[(.int i), (.int z)] h0 (Qcon_chk Z n0 h0 i z) := by
  refine Con.of pf_4 (fun m => ef_con_chk m i z) hn0 ?_
  intro p e s m below meth c C
  refine C.iloadN d5_0 rfl rfl ?_
  refine C.iloadN d5_1 rfl rfl ?_
  refine C.aconst_null d5_2 rfl ?_
  refine C.callS (argsL := [(.int i), (.int z), .null]) (rest := []) 0 (fun zz => con_pre l Z a0 hw n0 h0 zz i z hi hz) d5_3 rfl (tw hw 29 rfl) (tw hw 30 rfl) (tw hw 31 rfl) (tw hw 32 rfl) (by decide) pd_0 rfl rfl rfl (Nat.le_of_eq rfl) (by decide) (by decide) (by decide) (by decide) (fun v65 h66 r67 => ?_)
  obtain ⟨rfl, rfl⟩ := r67
  exact C.retI d5_6 (by decide) (by decide) ⟨rfl, rfl⟩
theorem d4_0 : decode prog_18_method_5_code 0 = .ok (.aload_n 0, 1) := by decide +kernel
theorem d4_1 : decode prog_18_method_5_code 1 = .ok (.getfield 9, 3) := by decide +kernel
theorem d4_4 : decode prog_18_method_5_code 4 = .ok (.iload_n 1, 1) := by decide +kernel
theorem d4_5 : decode prog_18_method_5_code 5 = .ok (.aload_n 0, 1) := by decide +kernel
theorem d4_6 : decode prog_18_method_5_code 6 = .ok (.getfield 13, 3) := by decide +kernel
theorem d4_9 : decode prog_18_method_5_code 9 = .ok (.invokestatic 23, 3) := by decide +kernel
theorem d4_12 : decode prog_18_method_5_code 12 = .ok (.iload_n 2, 1) := by decide +kernel
theorem d4_13 : decode prog_18_method_5_code 13 = .ok (.iastore, 1) := by decide +kernel
theorem d4_14 : decode prog_18_method_5_code 14 = .ok (.return_, 1) := by decide +kernel
theorem pf_5 : plainFor (⟨"com/example/leaseledger/leaseledger/journal/IntColumn", "set", "(II)V"⟩ : MethodName) = true := by first | exact plainFor_of_name (by first | (simp [plainName, overriddenIn]; done) | decide +kernel) | decide +kernel
theorem pd_1 : parseMethodDescriptor "(II)I" = some ⟨[.int, .int], some .int⟩ := by decide +kernel
def Qcon_set (Z : State) (n0 : Nat) (h0 : Heap) (a : Addr) (b : Addr) (i : Int32) (w : Int32) (n : Int32) (vs : List Value) (v : Option Value) (h' : Heap) : Prop := (v = none) ∧ (Keep h0 h' [b]) ∧ (Av Z h' b .int (vs.set (Int32.toNatClampNeg i) (.int w)))
theorem ef_con_set (m : MethodId) (a : Addr) (i : Int32) (w : Int32) : entryFrame m #[(.ref a), (.int i), (.int w)] 3 = mkF m 0 #[.val (.ref a), .val (.int i), .val (.int w)] [] := by first | (simp [entryFrame, mkF, argsToLocals, Value.category]; done) | rfl
set_option maxRecDepth 65536 in
set_option maxHeartbeats 40000000 in
theorem con_set (l : Launch) (Z : State) (a0 : Array Value) (hw : ∀ d ∈ tables_1, d.before a0 Z = true) (n0 : Nat) (h0 : Heap) (hn0 : n0 ≤ h0.size) (a : Addr) (b : Addr) (i : Int32) (w : Int32) (n : Int32) (vs : List Value) (P0 : Fld Z h0 a "com/example/leaseledger/leaseledger/journal/IntColumn" "values" "[I" (.ref b)) (P1 : Fld Z h0 a "com/example/leaseledger/leaseledger/journal/IntColumn" "size" "I" (.int n)) (P2 : Av Z h0 b .int vs) (g_b : n0 ≤ b) (ne_a_b : a ≠ b) (hi : ¬ i < 0) (hz : i < n) (hl : i.toNatClampNeg < vs.length) :
    Con l Z n0 [] (⟨"com/example/leaseledger/leaseledger/journal/IntColumn", "set", "(II)V"⟩ : MethodName) prog_18_method_5_code 3 none ({ frames := 2, cells := 0, slots := 0, locals := 28 } : Room) #[(.ref a), (.int i), (.int w)] h0 (Qcon_set Z n0 h0 a b i w n vs) := by
  refine Con.of pf_5 (fun m => ef_con_set m a i w) hn0 ?_
  intro p e s m below meth c C
  refine C.aloadN d4_0 rfl rfl rfl ?_
  refine C.getF d4_1 rfl (tw hw 11 rfl) P0 ?_
  refine C.iloadN d4_4 rfl rfl ?_
  refine C.aloadN d4_5 rfl rfl rfl ?_
  refine C.getF d4_6 rfl (tw hw 18 rfl) P1 ?_
  refine C.callS (argsL := [(.int i), (.int n)]) (rest := [(.ref b)]) 1 (fun zz => con_chk l Z a0 hw n0 h0 zz i n hi hz) d4_9 rfl (tw hw 25 rfl) (tw hw 26 rfl) (tw hw 27 rfl) (tw hw 28 rfl) (by decide) pd_1 rfl rfl rfl (Nat.le_of_eq rfl) (by decide) (by decide) (by decide) (by decide) (fun v78 h79 r80 => ?_)
  obtain ⟨rfl, rfl⟩ := r80
  refine C.iloadN d4_12 rfl rfl ?_
  refine C.iastore d4_13 rfl P2 g_b hi hl (fun h82 W83 F84 => ?_)
  have F85 : Fld Z h82 a "com/example/leaseledger/leaseledger/journal/IntColumn" "values" "[I" (.ref b) := Fld.other W83 P0 (Or.inl ne_a_b)
  have F86 : Fld Z h82 a "com/example/leaseledger/leaseledger/journal/IntColumn" "size" "I" (.int n) := Fld.other W83 P1 (Or.inl ne_a_b)
  exact C.ret0 d4_14 (by decide) (by decide) ⟨rfl, ((Keep.refl h0 [b]).wr W83 (Or.inl (List.mem_of_getElem? (i := 0) rfl))), F84⟩
theorem d8_0 : decode prog_18_method_4_code 0 = .ok (.aload_n 0, 1) := by decide +kernel
theorem d8_1 : decode prog_18_method_4_code 1 = .ok (.getfield 9, 3) := by decide +kernel
theorem d8_4 : decode prog_18_method_4_code 4 = .ok (.iload_n 1, 1) := by decide +kernel
theorem d8_5 : decode prog_18_method_4_code 5 = .ok (.aload_n 0, 1) := by decide +kernel
theorem d8_6 : decode prog_18_method_4_code 6 = .ok (.getfield 13, 3) := by decide +kernel
theorem d8_9 : decode prog_18_method_4_code 9 = .ok (.invokestatic 23, 3) := by decide +kernel
theorem d8_12 : decode prog_18_method_4_code 12 = .ok (.iaload, 1) := by decide +kernel
theorem d8_13 : decode prog_18_method_4_code 13 = .ok (.ireturn, 1) := by decide +kernel
theorem pf_6 : plainFor (⟨"com/example/leaseledger/leaseledger/journal/IntColumn", "get", "(I)I"⟩ : MethodName) = true := by first | exact plainFor_of_name (by first | (simp [plainName, overriddenIn]; done) | decide +kernel) | decide +kernel
def Qcon_get (Z : State) (n0 : Nat) (h0 : Heap) (a : Addr) (b : Addr) (i : Int32) (w : Int32) (n : Int32) (vs : List Value) (v : Option Value) (h' : Heap) : Prop := (v = some (.int w)) ∧ (h0 = h')
theorem ef_con_get (m : MethodId) (a : Addr) (i : Int32) : entryFrame m #[(.ref a), (.int i)] 2 = mkF m 0 #[.val (.ref a), .val (.int i)] [] := by first | (simp [entryFrame, mkF, argsToLocals, Value.category]; done) | rfl
set_option maxRecDepth 65536 in
set_option maxHeartbeats 40000000 in
theorem con_get (l : Launch) (Z : State) (a0 : Array Value) (hw : ∀ d ∈ tables_1, d.before a0 Z = true) (n0 : Nat) (h0 : Heap) (hn0 : n0 ≤ h0.size) (a : Addr) (b : Addr) (i : Int32) (w : Int32) (n : Int32) (vs : List Value) (P0 : Fld Z h0 a "com/example/leaseledger/leaseledger/journal/IntColumn" "values" "[I" (.ref b)) (P1 : Fld Z h0 a "com/example/leaseledger/leaseledger/journal/IntColumn" "size" "I" (.int n)) (P2 : Av Z h0 b .int vs) (hi : ¬ i < 0) (hz : i < n) (hg : vs[i.toNatClampNeg]? = some (.int w)) :
    Con l Z n0 [] (⟨"com/example/leaseledger/leaseledger/journal/IntColumn", "get", "(I)I"⟩ : MethodName) prog_18_method_4_code 2 (some .int) ({ frames := 2, cells := 0, slots := 0, locals := 28 } : Room) #[(.ref a), (.int i)] h0 (Qcon_get Z n0 h0 a b i w n vs) := by
  refine Con.of pf_6 (fun m => ef_con_get m a i) hn0 ?_
  intro p e s m below meth c C
  refine C.aloadN d8_0 rfl rfl rfl ?_
  refine C.getF d8_1 rfl (tw hw 11 rfl) P0 ?_
  refine C.iloadN d8_4 rfl rfl ?_
  refine C.aloadN d8_5 rfl rfl rfl ?_
  refine C.getF d8_6 rfl (tw hw 18 rfl) P1 ?_
  refine C.callS (argsL := [(.int i), (.int n)]) (rest := [(.ref b)]) 1 (fun zz => con_chk l Z a0 hw n0 h0 zz i n hi hz) d8_9 rfl (tw hw 25 rfl) (tw hw 26 rfl) (tw hw 27 rfl) (tw hw 28 rfl) (by decide) pd_1 rfl rfl rfl (Nat.le_of_eq rfl) (by decide) (by decide) (by decide) (by decide) (fun v91 h92 r93 => ?_)
  obtain ⟨rfl, rfl⟩ := r93
  refine C.iaload (.int w) d8_12 rfl P2 hi hg ?_
  exact C.retI d8_13 (by decide) (by decide) ⟨rfl, rfl⟩
theorem pf_7 : plainFor x = true := by first | exact plainFor_of_name (by first | (simp [plainName, overriddenIn]; done) | decide +kernel) | decide +kernel
theorem pd_2 : parseMethodDescriptor "()V" = some ⟨[], none⟩ := by decide +kernel
theorem pd_3 : parseMethodDescriptor "(I)V" = some ⟨[.int], none⟩ := by decide +kernel
theorem pd_4 : parseMethodDescriptor "(II)V" = some ⟨[.int, .int], none⟩ := by decide +kernel
theorem pd_5 : parseMethodDescriptor "()I" = some ⟨[], some .int⟩ := by decide +kernel
theorem pd_6 : parseMethodDescriptor "(I)I" = some ⟨[.int], some .int⟩ := by decide +kernel
def Qcon0 (Z : State) (n0 : Nat) (h0 : Heap) (x0 : Int32) (x1 : Int32) (x2 : Int32) (x3 : Int32) (x4 : Int32) (x5 : Int32) (v : Option Value) (h' : Heap) : Prop := v = some (.int 1) ∧ True
theorem ef_con0 (m : MethodId) (x0 : Int32) (x1 : Int32) (x2 : Int32) (x3 : Int32) (x4 : Int32) (x5 : Int32) : entryFrame m #[(.int x0), (.int x1), (.int x2), (.int x3), (.int x4), (.int x5)] maxLocals = mkF m 0 #[.val (.int x0), .val (.int x1), .val (.int x2), .val (.int x3), .val (.int x4), .val (.int x5), .unset, .unset, .unset, .unset, .unset, .unset] [] := by first | (simp [entryFrame, mkF, argsToLocals, Value.category, maxLocals]; done) | rfl
set_option maxRecDepth 65536 in
set_option maxHeartbeats 40000000 in
theorem con0 (l : Launch) (Z : State) (a0 : Array Value) (hw : ∀ d ∈ tables_1, d.before a0 Z = true) (n0 : Nat) (h0 : Heap) (hn0 : n0 ≤ h0.size) (x0 : Int32) (x1 : Int32) (x2 : Int32) (x3 : Int32) (x4 : Int32) (x5 : Int32) :
    Con l Z n0 tables_1 x code maxLocals ret room_1 #[(.int x0), (.int x1), (.int x2), (.int x3), (.int x4), (.int x5)] h0 (Qcon0 Z n0 h0 x0 x1 x2 x3 x4 x5) := by
  refine Con.of pf_7 (fun m => ef_con0 m x0 x1 x2 x3 x4 x5) hn0 ?_
  intro p e s m below meth c C
  refine C.iconst 1 at_0 rfl rfl ?_
  refine C.iload at_1 rfl rfl ?_
  refine C.ldcI at_3 rfl (tw hw 0 rfl) ?_
  refine C.iand at_5 rfl ?_
  refine C.iconst 3 at_6 rfl rfl ?_
  refine C.irem at_7 rfl (by decide) ?_
  refine C.iadd at_8 rfl ?_
  refine C.istore (Ls' := #[.val (.int x0), .val (.int x1), .val (.int x2), .val (.int x3), .val (.int x4), .val (.int x5), .val (.int (1 + ((x5 &&& 2147483647) % 3))), .unset, .unset, .unset, .unset, .unset]) at_9 rfl rfl ?_
  rcases own_mod3 x5 with qc | qc | qc
  · rw [qc]
    show Go p l e room_1 s m #[(.int x0), (.int x1), (.int x2), (.int x3), (.int x4), (.int x5)] below meth c n0 (FinQ s n0 (Qcon0 Z n0 h0 x0 x1 x2 x3 x4 x5) room_1.cells room_1.slots) h0 0 0 11 #[.val (.int x0), .val (.int x1), .val (.int x2), .val (.int x3), .val (.int x4), .val (.int x5), .val (.int 1), .unset, .unset, .unset, .unset, .unset] []
    refine C.iload at_11 rfl rfl ?_
    refine C.ldcI at_13 rfl (tw hw 0 rfl) ?_
    refine C.iand at_15 rfl ?_
    refine C.iload at_16 rfl rfl ?_
    refine C.irem at_18 rfl (by decide) ?_
    refine C.istore (Ls' := #[.val (.int x0), .val (.int x1), .val (.int x2), .val (.int x3), .val (.int x4), .val (.int x5), .val (.int 1), .val (.int ((x4 &&& 2147483647) % 1)), .unset, .unset, .unset, .unset]) at_19 rfl rfl ?_
    rcases own_mod1 x4 with qr
    · rw [qr]
      refine C.new at_21 rfl (tw hw 1 rfl) (tw hw 2 rfl) (tw hw 3 rfl) (by decide) (by decide) (fun a95 h96 z100 g101 X98 E97 D99 => ?_)
      have F102 : Fld Z h96 a95 "com/example/leaseledger/leaseledger/journal/IntColumn" "values" "[I" (.null) := D99 (Or.inl (tw hw 12 rfl)) (ty := (.array .int)) (by decide)
      have F103 : Fld Z h96 a95 "com/example/leaseledger/leaseledger/journal/IntColumn" "size" "I" (.int 0) := D99 (Or.inl (tw hw 19 rfl)) (ty := .int) (by decide)
      refine C.dup at_24 rfl rfl ?_
      refine C.callN (argsL := []) (rest := [(.ref a95)]) 1 (fun zz => con_ini l Z a0 hw n0 h96 zz a95 E97 F102 F103 g101) at_25 rfl rfl (tw hw 4 rfl) (tw hw 5 rfl) (tw hw 3 rfl) (tw hw 6 rfl) (by decide) pd_2 rfl rfl rfl (Nat.le_of_eq rfl) (by decide) (by decide) (by decide) (by decide) (fun v104 h105 r106 => ?_)
      obtain ⟨a107, rfl, K108, g112, gz113, F109, F110, F111⟩ := r106
      have ne114 : a95 ≠ a107 := Nat.ne_of_lt (Nat.lt_of_lt_of_le E97.lt gz113)
      have F115 : Exa Z h105 a95 "com/example/leaseledger/leaseledger/journal/IntColumn" := E97.keep K108
      have F118 : Av Z h105 a107 .int ([.int 0, .int 0, .int 0, .int 0, .int 0, .int 0, .int 0, .int 0]) := F111
      refine C.astore (Ls' := #[.val (.int x0), .val (.int x1), .val (.int x2), .val (.int x3), .val (.int x4), .val (.int x5), .val (.int 1), .val (.int 0), .val (.ref a95), .unset, .unset, .unset]) at_28 rfl rfl rfl ?_
      refine C.aload at_30 rfl rfl rfl ?_
      refine C.iloadN at_32 rfl rfl ?_
      refine C.callV (argsL := [(.int x0)]) (rest := []) 0 (fun zz => con_add l Z a0 hw n0 h105 zz a95 a107 x0 0 ([.int 0, .int 0, .int 0, .int 0, .int 0, .int 0, .int 0, .int 0]) F115 F109 F110 F118 g101 g112 ne114 (by decide) (Nat.le_of_ble_eq_true rfl) (Nat.le_of_ble_eq_true rfl)) F115 at_33 rfl (tw hw 13 rfl) (tw hw 14 rfl) (tw hw 15 rfl) (tw hw 16 rfl) (tw hw 3 rfl) (tw hw 17 rfl) (by decide) pd_3 rfl rfl rfl (Nat.le_of_eq rfl) (by decide) (by decide) (by decide) (by decide) (fun v119 h120 r121 => ?_)
      obtain ⟨rfl, K122, F123, F124, F125⟩ := r121
      have F126 : Exa Z h120 a95 "com/example/leaseledger/leaseledger/journal/IntColumn" := F115.keep K122
      have F130 : Fld Z h120 a95 "com/example/leaseledger/leaseledger/journal/IntColumn" "size" "I" (.int 1) := F124
      have F131 : Av Z h120 a107 .int ([.int x0, .int 0, .int 0, .int 0, .int 0, .int 0, .int 0, .int 0]) := F125
      refine C.iload at_36 rfl rfl ?_
      refine C.iconst 2 at_38 rfl rfl ?_
      refine C.icmp_lt_t at_39 (by decide) rfl (by decide) ?_
      refine C.iload at_48 rfl rfl ?_
      refine C.iconst 3 at_50 rfl rfl ?_
      refine C.icmp_lt_t at_51 (by decide) rfl (by decide) ?_
      refine C.aload at_60 rfl rfl rfl ?_
      refine C.iload at_62 rfl rfl ?_
      refine C.iloadN at_64 rfl rfl ?_
      refine C.callV (argsL := [(.int 0), (.int x3)]) (rest := []) 0 (fun zz => con_set l Z a0 hw n0 h120 zz a95 a107 0 x3 1 ([.int x0, .int 0, .int 0, .int 0, .int 0, .int 0, .int 0, .int 0]) F123 F130 F131 g112 ne114 (by decide) (by decide) (Nat.le_of_ble_eq_true rfl)) F126 at_65 rfl (tw hw 20 rfl) (tw hw 21 rfl) (tw hw 22 rfl) (tw hw 23 rfl) (tw hw 3 rfl) (tw hw 24 rfl) (by decide) pd_4 rfl rfl rfl (Nat.le_of_eq rfl) (by decide) (by decide) (by decide) (by decide) (fun v132 h133 r134 => ?_)
      obtain ⟨rfl, K135, F136⟩ := r134
      have F137 : Exa Z h133 a95 "com/example/leaseledger/leaseledger/journal/IntColumn" := F126.keep K135
      have F138 : Fld Z h133 a95 "com/example/leaseledger/leaseledger/journal/IntColumn" "values" "[I" (.ref a107) := F123.keep K135 (ninS ne114 nin0)
      have F139 : Fld Z h133 a95 "com/example/leaseledger/leaseledger/journal/IntColumn" "size" "I" (.int 1) := F130.keep K135 (ninS ne114 nin0)
      have F141 : Av Z h133 a107 .int ([.int x3, .int 0, .int 0, .int 0, .int 0, .int 0, .int 0, .int 0]) := F136
      refine C.iload at_68 rfl rfl ?_
      refine C.if_ne_f at_70 rfl (by decide) ?_
      refine C.iloadN at_73 rfl rfl ?_
      refine C.goto at_74 (by decide) rfl ?_
      refine C.istore (Ls' := #[.val (.int x0), .val (.int x1), .val (.int x2), .val (.int x3), .val (.int x4), .val (.int x5), .val (.int 1), .val (.int 0), .val (.ref a95), .val (.int x3), .unset, .unset]) at_78 rfl rfl ?_
      refine C.iload at_80 rfl rfl ?_
      refine C.iconst 1 at_82 rfl rfl ?_
      refine C.icmp_ne_t at_83 (by decide) rfl (by decide) ?_
      refine C.iloadN at_90 rfl rfl ?_
      refine C.istore (Ls' := #[.val (.int x0), .val (.int x1), .val (.int x2), .val (.int x3), .val (.int x4), .val (.int x5), .val (.int 1), .val (.int 0), .val (.ref a95), .val (.int x3), .val (.int x1), .unset]) at_91 rfl rfl ?_
      refine C.iload at_93 rfl rfl ?_
      refine C.iconst 2 at_95 rfl rfl ?_
      refine C.icmp_ne_t at_96 (by decide) rfl (by decide) ?_
      refine C.iloadN at_103 rfl rfl ?_
      refine C.istore (Ls' := #[.val (.int x0), .val (.int x1), .val (.int x2), .val (.int x3), .val (.int x4), .val (.int x5), .val (.int 1), .val (.int 0), .val (.ref a95), .val (.int x3), .val (.int x1), .val (.int x2)]) at_104 rfl rfl ?_
      refine C.aload at_106 rfl rfl rfl ?_
      refine C.callV (argsL := []) (rest := []) 0 (fun zz => con_size l Z a0 hw n0 h133 zz a95 1 F139) F137 at_108 rfl (tw hw 33 rfl) (tw hw 34 rfl) (tw hw 35 rfl) (tw hw 36 rfl) (tw hw 3 rfl) (tw hw 37 rfl) (by decide) pd_5 rfl rfl rfl (Nat.le_of_eq rfl) (by decide) (by decide) (by decide) (by decide) (fun v142 h143 r144 => ?_)
      obtain ⟨rfl, rfl⟩ := r144
      refine C.iload at_111 rfl rfl ?_
      refine C.icmp_eq_t at_113 (by decide) rfl (by decide) ?_
      refine C.aload at_118 rfl rfl rfl ?_
      refine C.iconst 0 at_120 rfl rfl ?_
      refine C.callV (argsL := [(.int 0)]) (rest := []) 0 (fun zz => con_get l Z a0 hw n0 h133 zz a95 a107 0 x3 1 ([.int x3, .int 0, .int 0, .int 0, .int 0, .int 0, .int 0, .int 0]) F138 F139 F141 (by decide) (by decide) rfl) F137 at_121 rfl (tw hw 38 rfl) (tw hw 39 rfl) (tw hw 40 rfl) (tw hw 41 rfl) (tw hw 3 rfl) (tw hw 42 rfl) (by decide) pd_6 rfl rfl rfl (Nat.le_of_eq rfl) (by decide) (by decide) (by decide) (by decide) (fun v146 h147 r148 => ?_)
      obtain ⟨rfl, rfl⟩ := r148
      refine C.iload at_124 rfl rfl ?_
      refine C.icmp_eq_t at_126 (by decide) rfl rfl ?_
      refine C.iload at_131 rfl rfl ?_
      refine C.iconst 2 at_133 rfl rfl ?_
      refine C.icmp_lt_t at_134 (by decide) rfl (by decide) ?_
      refine C.iload at_150 rfl rfl ?_
      refine C.iconst 3 at_152 rfl rfl ?_
      refine C.icmp_lt_t at_153 (by decide) rfl (by decide) ?_
      refine C.iconst 1 at_169 rfl rfl ?_
      exact C.retZ at_170 rfl (by decide) (by decide) ⟨rfl, trivial⟩
  · rw [qc]
    show Go p l e room_1 s m #[(.int x0), (.int x1), (.int x2), (.int x3), (.int x4), (.int x5)] below meth c n0 (FinQ s n0 (Qcon0 Z n0 h0 x0 x1 x2 x3 x4 x5) room_1.cells room_1.slots) h0 0 0 11 #[.val (.int x0), .val (.int x1), .val (.int x2), .val (.int x3), .val (.int x4), .val (.int x5), .val (.int 2), .unset, .unset, .unset, .unset, .unset] []
    refine C.iload at_11 rfl rfl ?_
    refine C.ldcI at_13 rfl (tw hw 0 rfl) ?_
    refine C.iand at_15 rfl ?_
    refine C.iload at_16 rfl rfl ?_
    refine C.irem at_18 rfl (by decide) ?_
    refine C.istore (Ls' := #[.val (.int x0), .val (.int x1), .val (.int x2), .val (.int x3), .val (.int x4), .val (.int x5), .val (.int 2), .val (.int ((x4 &&& 2147483647) % 2)), .unset, .unset, .unset, .unset]) at_19 rfl rfl ?_
    rcases own_mod2 x4 with qr | qr
    · rw [qr]
      refine C.new at_21 rfl (tw hw 1 rfl) (tw hw 2 rfl) (tw hw 3 rfl) (by decide) (by decide) (fun a150 h151 z155 g156 X153 E152 D154 => ?_)
      have F157 : Fld Z h151 a150 "com/example/leaseledger/leaseledger/journal/IntColumn" "values" "[I" (.null) := D154 (Or.inl (tw hw 12 rfl)) (ty := (.array .int)) (by decide)
      have F158 : Fld Z h151 a150 "com/example/leaseledger/leaseledger/journal/IntColumn" "size" "I" (.int 0) := D154 (Or.inl (tw hw 19 rfl)) (ty := .int) (by decide)
      refine C.dup at_24 rfl rfl ?_
      refine C.callN (argsL := []) (rest := [(.ref a150)]) 1 (fun zz => con_ini l Z a0 hw n0 h151 zz a150 E152 F157 F158 g156) at_25 rfl rfl (tw hw 4 rfl) (tw hw 5 rfl) (tw hw 3 rfl) (tw hw 6 rfl) (by decide) pd_2 rfl rfl rfl (Nat.le_of_eq rfl) (by decide) (by decide) (by decide) (by decide) (fun v159 h160 r161 => ?_)
      obtain ⟨a162, rfl, K163, g167, gz168, F164, F165, F166⟩ := r161
      have ne169 : a150 ≠ a162 := Nat.ne_of_lt (Nat.lt_of_lt_of_le E152.lt gz168)
      have F170 : Exa Z h160 a150 "com/example/leaseledger/leaseledger/journal/IntColumn" := E152.keep K163
      have F173 : Av Z h160 a162 .int ([.int 0, .int 0, .int 0, .int 0, .int 0, .int 0, .int 0, .int 0]) := F166
      refine C.astore (Ls' := #[.val (.int x0), .val (.int x1), .val (.int x2), .val (.int x3), .val (.int x4), .val (.int x5), .val (.int 2), .val (.int 0), .val (.ref a150), .unset, .unset, .unset]) at_28 rfl rfl rfl ?_
      refine C.aload at_30 rfl rfl rfl ?_
      refine C.iloadN at_32 rfl rfl ?_
      refine C.callV (argsL := [(.int x0)]) (rest := []) 0 (fun zz => con_add l Z a0 hw n0 h160 zz a150 a162 x0 0 ([.int 0, .int 0, .int 0, .int 0, .int 0, .int 0, .int 0, .int 0]) F170 F164 F165 F173 g156 g167 ne169 (by decide) (Nat.le_of_ble_eq_true rfl) (Nat.le_of_ble_eq_true rfl)) F170 at_33 rfl (tw hw 13 rfl) (tw hw 14 rfl) (tw hw 15 rfl) (tw hw 16 rfl) (tw hw 3 rfl) (tw hw 17 rfl) (by decide) pd_3 rfl rfl rfl (Nat.le_of_eq rfl) (by decide) (by decide) (by decide) (by decide) (fun v174 h175 r176 => ?_)
      obtain ⟨rfl, K177, F178, F179, F180⟩ := r176
      have F181 : Exa Z h175 a150 "com/example/leaseledger/leaseledger/journal/IntColumn" := F170.keep K177
      have F185 : Fld Z h175 a150 "com/example/leaseledger/leaseledger/journal/IntColumn" "size" "I" (.int 1) := F179
      have F186 : Av Z h175 a162 .int ([.int x0, .int 0, .int 0, .int 0, .int 0, .int 0, .int 0, .int 0]) := F180
      refine C.iload at_36 rfl rfl ?_
      refine C.iconst 2 at_38 rfl rfl ?_
      refine C.icmp_lt_f at_39 rfl (by decide) ?_
      refine C.aload at_42 rfl rfl rfl ?_
      refine C.iloadN at_44 rfl rfl ?_
      refine C.callV (argsL := [(.int x1)]) (rest := []) 0 (fun zz => con_add l Z a0 hw n0 h175 zz a150 a162 x1 1 ([.int x0, .int 0, .int 0, .int 0, .int 0, .int 0, .int 0, .int 0]) F181 F178 F185 F186 g156 g167 ne169 (by decide) (Nat.le_of_ble_eq_true rfl) (Nat.le_of_ble_eq_true rfl)) F181 at_45 rfl (tw hw 13 rfl) (tw hw 14 rfl) (tw hw 15 rfl) (tw hw 16 rfl) (tw hw 3 rfl) (tw hw 17 rfl) (by decide) pd_3 rfl rfl rfl (Nat.le_of_eq rfl) (by decide) (by decide) (by decide) (by decide) (fun v187 h188 r189 => ?_)
      obtain ⟨rfl, K190, F191, F192, F193⟩ := r189
      have F194 : Exa Z h188 a150 "com/example/leaseledger/leaseledger/journal/IntColumn" := F181.keep K190
      have F198 : Fld Z h188 a150 "com/example/leaseledger/leaseledger/journal/IntColumn" "size" "I" (.int 2) := F192
      have F199 : Av Z h188 a162 .int ([.int x0, .int x1, .int 0, .int 0, .int 0, .int 0, .int 0, .int 0]) := F193
      refine C.iload at_48 rfl rfl ?_
      refine C.iconst 3 at_50 rfl rfl ?_
      refine C.icmp_lt_t at_51 (by decide) rfl (by decide) ?_
      refine C.aload at_60 rfl rfl rfl ?_
      refine C.iload at_62 rfl rfl ?_
      refine C.iloadN at_64 rfl rfl ?_
      refine C.callV (argsL := [(.int 0), (.int x3)]) (rest := []) 0 (fun zz => con_set l Z a0 hw n0 h188 zz a150 a162 0 x3 2 ([.int x0, .int x1, .int 0, .int 0, .int 0, .int 0, .int 0, .int 0]) F191 F198 F199 g167 ne169 (by decide) (by decide) (Nat.le_of_ble_eq_true rfl)) F194 at_65 rfl (tw hw 20 rfl) (tw hw 21 rfl) (tw hw 22 rfl) (tw hw 23 rfl) (tw hw 3 rfl) (tw hw 24 rfl) (by decide) pd_4 rfl rfl rfl (Nat.le_of_eq rfl) (by decide) (by decide) (by decide) (by decide) (fun v200 h201 r202 => ?_)
      obtain ⟨rfl, K203, F204⟩ := r202
      have F205 : Exa Z h201 a150 "com/example/leaseledger/leaseledger/journal/IntColumn" := F194.keep K203
      have F206 : Fld Z h201 a150 "com/example/leaseledger/leaseledger/journal/IntColumn" "values" "[I" (.ref a162) := F191.keep K203 (ninS ne169 nin0)
      have F207 : Fld Z h201 a150 "com/example/leaseledger/leaseledger/journal/IntColumn" "size" "I" (.int 2) := F198.keep K203 (ninS ne169 nin0)
      have F209 : Av Z h201 a162 .int ([.int x3, .int x1, .int 0, .int 0, .int 0, .int 0, .int 0, .int 0]) := F204
      refine C.iload at_68 rfl rfl ?_
      refine C.if_ne_f at_70 rfl (by decide) ?_
      refine C.iloadN at_73 rfl rfl ?_
      refine C.goto at_74 (by decide) rfl ?_
      refine C.istore (Ls' := #[.val (.int x0), .val (.int x1), .val (.int x2), .val (.int x3), .val (.int x4), .val (.int x5), .val (.int 2), .val (.int 0), .val (.ref a150), .val (.int x3), .unset, .unset]) at_78 rfl rfl ?_
      refine C.iload at_80 rfl rfl ?_
      refine C.iconst 1 at_82 rfl rfl ?_
      refine C.icmp_ne_t at_83 (by decide) rfl (by decide) ?_
      refine C.iloadN at_90 rfl rfl ?_
      refine C.istore (Ls' := #[.val (.int x0), .val (.int x1), .val (.int x2), .val (.int x3), .val (.int x4), .val (.int x5), .val (.int 2), .val (.int 0), .val (.ref a150), .val (.int x3), .val (.int x1), .unset]) at_91 rfl rfl ?_
      refine C.iload at_93 rfl rfl ?_
      refine C.iconst 2 at_95 rfl rfl ?_
      refine C.icmp_ne_t at_96 (by decide) rfl (by decide) ?_
      refine C.iloadN at_103 rfl rfl ?_
      refine C.istore (Ls' := #[.val (.int x0), .val (.int x1), .val (.int x2), .val (.int x3), .val (.int x4), .val (.int x5), .val (.int 2), .val (.int 0), .val (.ref a150), .val (.int x3), .val (.int x1), .val (.int x2)]) at_104 rfl rfl ?_
      refine C.aload at_106 rfl rfl rfl ?_
      refine C.callV (argsL := []) (rest := []) 0 (fun zz => con_size l Z a0 hw n0 h201 zz a150 2 F207) F205 at_108 rfl (tw hw 33 rfl) (tw hw 34 rfl) (tw hw 35 rfl) (tw hw 36 rfl) (tw hw 3 rfl) (tw hw 37 rfl) (by decide) pd_5 rfl rfl rfl (Nat.le_of_eq rfl) (by decide) (by decide) (by decide) (by decide) (fun v210 h211 r212 => ?_)
      obtain ⟨rfl, rfl⟩ := r212
      refine C.iload at_111 rfl rfl ?_
      refine C.icmp_eq_t at_113 (by decide) rfl (by decide) ?_
      refine C.aload at_118 rfl rfl rfl ?_
      refine C.iconst 0 at_120 rfl rfl ?_
      refine C.callV (argsL := [(.int 0)]) (rest := []) 0 (fun zz => con_get l Z a0 hw n0 h201 zz a150 a162 0 x3 2 ([.int x3, .int x1, .int 0, .int 0, .int 0, .int 0, .int 0, .int 0]) F206 F207 F209 (by decide) (by decide) rfl) F205 at_121 rfl (tw hw 38 rfl) (tw hw 39 rfl) (tw hw 40 rfl) (tw hw 41 rfl) (tw hw 3 rfl) (tw hw 42 rfl) (by decide) pd_6 rfl rfl rfl (Nat.le_of_eq rfl) (by decide) (by decide) (by decide) (by decide) (fun v214 h215 r216 => ?_)
      obtain ⟨rfl, rfl⟩ := r216
      refine C.iload at_124 rfl rfl ?_
      refine C.icmp_eq_t at_126 (by decide) rfl rfl ?_
      refine C.iload at_131 rfl rfl ?_
      refine C.iconst 2 at_133 rfl rfl ?_
      refine C.icmp_lt_f at_134 rfl (by decide) ?_
      refine C.aload at_137 rfl rfl rfl ?_
      refine C.iconst 1 at_139 rfl rfl ?_
      refine C.callV (argsL := [(.int 1)]) (rest := []) 0 (fun zz => con_get l Z a0 hw n0 h201 zz a150 a162 1 x1 2 ([.int x3, .int x1, .int 0, .int 0, .int 0, .int 0, .int 0, .int 0]) F206 F207 F209 (by decide) (by decide) rfl) F205 at_140 rfl (tw hw 38 rfl) (tw hw 39 rfl) (tw hw 40 rfl) (tw hw 41 rfl) (tw hw 3 rfl) (tw hw 42 rfl) (by decide) pd_6 rfl rfl rfl (Nat.le_of_eq rfl) (by decide) (by decide) (by decide) (by decide) (fun v218 h219 r220 => ?_)
      obtain ⟨rfl, rfl⟩ := r220
      refine C.iload at_143 rfl rfl ?_
      refine C.icmp_eq_t at_145 (by decide) rfl rfl ?_
      refine C.iload at_150 rfl rfl ?_
      refine C.iconst 3 at_152 rfl rfl ?_
      refine C.icmp_lt_t at_153 (by decide) rfl (by decide) ?_
      refine C.iconst 1 at_169 rfl rfl ?_
      exact C.retZ at_170 rfl (by decide) (by decide) ⟨rfl, trivial⟩
    · rw [qr]
      refine C.new at_21 rfl (tw hw 1 rfl) (tw hw 2 rfl) (tw hw 3 rfl) (by decide) (by decide) (fun a222 h223 z227 g228 X225 E224 D226 => ?_)
      have F229 : Fld Z h223 a222 "com/example/leaseledger/leaseledger/journal/IntColumn" "values" "[I" (.null) := D226 (Or.inl (tw hw 12 rfl)) (ty := (.array .int)) (by decide)
      have F230 : Fld Z h223 a222 "com/example/leaseledger/leaseledger/journal/IntColumn" "size" "I" (.int 0) := D226 (Or.inl (tw hw 19 rfl)) (ty := .int) (by decide)
      refine C.dup at_24 rfl rfl ?_
      refine C.callN (argsL := []) (rest := [(.ref a222)]) 1 (fun zz => con_ini l Z a0 hw n0 h223 zz a222 E224 F229 F230 g228) at_25 rfl rfl (tw hw 4 rfl) (tw hw 5 rfl) (tw hw 3 rfl) (tw hw 6 rfl) (by decide) pd_2 rfl rfl rfl (Nat.le_of_eq rfl) (by decide) (by decide) (by decide) (by decide) (fun v231 h232 r233 => ?_)
      obtain ⟨a234, rfl, K235, g239, gz240, F236, F237, F238⟩ := r233
      have ne241 : a222 ≠ a234 := Nat.ne_of_lt (Nat.lt_of_lt_of_le E224.lt gz240)
      have F242 : Exa Z h232 a222 "com/example/leaseledger/leaseledger/journal/IntColumn" := E224.keep K235
      have F245 : Av Z h232 a234 .int ([.int 0, .int 0, .int 0, .int 0, .int 0, .int 0, .int 0, .int 0]) := F238
      refine C.astore (Ls' := #[.val (.int x0), .val (.int x1), .val (.int x2), .val (.int x3), .val (.int x4), .val (.int x5), .val (.int 2), .val (.int 1), .val (.ref a222), .unset, .unset, .unset]) at_28 rfl rfl rfl ?_
      refine C.aload at_30 rfl rfl rfl ?_
      refine C.iloadN at_32 rfl rfl ?_
      refine C.callV (argsL := [(.int x0)]) (rest := []) 0 (fun zz => con_add l Z a0 hw n0 h232 zz a222 a234 x0 0 ([.int 0, .int 0, .int 0, .int 0, .int 0, .int 0, .int 0, .int 0]) F242 F236 F237 F245 g228 g239 ne241 (by decide) (Nat.le_of_ble_eq_true rfl) (Nat.le_of_ble_eq_true rfl)) F242 at_33 rfl (tw hw 13 rfl) (tw hw 14 rfl) (tw hw 15 rfl) (tw hw 16 rfl) (tw hw 3 rfl) (tw hw 17 rfl) (by decide) pd_3 rfl rfl rfl (Nat.le_of_eq rfl) (by decide) (by decide) (by decide) (by decide) (fun v246 h247 r248 => ?_)
      obtain ⟨rfl, K249, F250, F251, F252⟩ := r248
      have F253 : Exa Z h247 a222 "com/example/leaseledger/leaseledger/journal/IntColumn" := F242.keep K249
      have F257 : Fld Z h247 a222 "com/example/leaseledger/leaseledger/journal/IntColumn" "size" "I" (.int 1) := F251
      have F258 : Av Z h247 a234 .int ([.int x0, .int 0, .int 0, .int 0, .int 0, .int 0, .int 0, .int 0]) := F252
      refine C.iload at_36 rfl rfl ?_
      refine C.iconst 2 at_38 rfl rfl ?_
      refine C.icmp_lt_f at_39 rfl (by decide) ?_
      refine C.aload at_42 rfl rfl rfl ?_
      refine C.iloadN at_44 rfl rfl ?_
      refine C.callV (argsL := [(.int x1)]) (rest := []) 0 (fun zz => con_add l Z a0 hw n0 h247 zz a222 a234 x1 1 ([.int x0, .int 0, .int 0, .int 0, .int 0, .int 0, .int 0, .int 0]) F253 F250 F257 F258 g228 g239 ne241 (by decide) (Nat.le_of_ble_eq_true rfl) (Nat.le_of_ble_eq_true rfl)) F253 at_45 rfl (tw hw 13 rfl) (tw hw 14 rfl) (tw hw 15 rfl) (tw hw 16 rfl) (tw hw 3 rfl) (tw hw 17 rfl) (by decide) pd_3 rfl rfl rfl (Nat.le_of_eq rfl) (by decide) (by decide) (by decide) (by decide) (fun v259 h260 r261 => ?_)
      obtain ⟨rfl, K262, F263, F264, F265⟩ := r261
      have F266 : Exa Z h260 a222 "com/example/leaseledger/leaseledger/journal/IntColumn" := F253.keep K262
      have F270 : Fld Z h260 a222 "com/example/leaseledger/leaseledger/journal/IntColumn" "size" "I" (.int 2) := F264
      have F271 : Av Z h260 a234 .int ([.int x0, .int x1, .int 0, .int 0, .int 0, .int 0, .int 0, .int 0]) := F265
      refine C.iload at_48 rfl rfl ?_
      refine C.iconst 3 at_50 rfl rfl ?_
      refine C.icmp_lt_t at_51 (by decide) rfl (by decide) ?_
      refine C.aload at_60 rfl rfl rfl ?_
      refine C.iload at_62 rfl rfl ?_
      refine C.iloadN at_64 rfl rfl ?_
      refine C.callV (argsL := [(.int 1), (.int x3)]) (rest := []) 0 (fun zz => con_set l Z a0 hw n0 h260 zz a222 a234 1 x3 2 ([.int x0, .int x1, .int 0, .int 0, .int 0, .int 0, .int 0, .int 0]) F263 F270 F271 g239 ne241 (by decide) (by decide) (Nat.le_of_ble_eq_true rfl)) F266 at_65 rfl (tw hw 20 rfl) (tw hw 21 rfl) (tw hw 22 rfl) (tw hw 23 rfl) (tw hw 3 rfl) (tw hw 24 rfl) (by decide) pd_4 rfl rfl rfl (Nat.le_of_eq rfl) (by decide) (by decide) (by decide) (by decide) (fun v272 h273 r274 => ?_)
      obtain ⟨rfl, K275, F276⟩ := r274
      have F277 : Exa Z h273 a222 "com/example/leaseledger/leaseledger/journal/IntColumn" := F266.keep K275
      have F278 : Fld Z h273 a222 "com/example/leaseledger/leaseledger/journal/IntColumn" "values" "[I" (.ref a234) := F263.keep K275 (ninS ne241 nin0)
      have F279 : Fld Z h273 a222 "com/example/leaseledger/leaseledger/journal/IntColumn" "size" "I" (.int 2) := F270.keep K275 (ninS ne241 nin0)
      have F281 : Av Z h273 a234 .int ([.int x0, .int x3, .int 0, .int 0, .int 0, .int 0, .int 0, .int 0]) := F276
      refine C.iload at_68 rfl rfl ?_
      refine C.if_ne_t at_70 (by decide) rfl (by decide) ?_
      refine C.iloadN at_77 rfl rfl ?_
      refine C.istore (Ls' := #[.val (.int x0), .val (.int x1), .val (.int x2), .val (.int x3), .val (.int x4), .val (.int x5), .val (.int 2), .val (.int 1), .val (.ref a222), .val (.int x0), .unset, .unset]) at_78 rfl rfl ?_
      refine C.iload at_80 rfl rfl ?_
      refine C.iconst 1 at_82 rfl rfl ?_
      refine C.icmp_ne_f at_83 rfl (by decide) ?_
      refine C.iloadN at_86 rfl rfl ?_
      refine C.goto at_87 (by decide) rfl ?_
      refine C.istore (Ls' := #[.val (.int x0), .val (.int x1), .val (.int x2), .val (.int x3), .val (.int x4), .val (.int x5), .val (.int 2), .val (.int 1), .val (.ref a222), .val (.int x0), .val (.int x3), .unset]) at_91 rfl rfl ?_
      refine C.iload at_93 rfl rfl ?_
      refine C.iconst 2 at_95 rfl rfl ?_
      refine C.icmp_ne_t at_96 (by decide) rfl (by decide) ?_
      refine C.iloadN at_103 rfl rfl ?_
      refine C.istore (Ls' := #[.val (.int x0), .val (.int x1), .val (.int x2), .val (.int x3), .val (.int x4), .val (.int x5), .val (.int 2), .val (.int 1), .val (.ref a222), .val (.int x0), .val (.int x3), .val (.int x2)]) at_104 rfl rfl ?_
      refine C.aload at_106 rfl rfl rfl ?_
      refine C.callV (argsL := []) (rest := []) 0 (fun zz => con_size l Z a0 hw n0 h273 zz a222 2 F279) F277 at_108 rfl (tw hw 33 rfl) (tw hw 34 rfl) (tw hw 35 rfl) (tw hw 36 rfl) (tw hw 3 rfl) (tw hw 37 rfl) (by decide) pd_5 rfl rfl rfl (Nat.le_of_eq rfl) (by decide) (by decide) (by decide) (by decide) (fun v282 h283 r284 => ?_)
      obtain ⟨rfl, rfl⟩ := r284
      refine C.iload at_111 rfl rfl ?_
      refine C.icmp_eq_t at_113 (by decide) rfl (by decide) ?_
      refine C.aload at_118 rfl rfl rfl ?_
      refine C.iconst 0 at_120 rfl rfl ?_
      refine C.callV (argsL := [(.int 0)]) (rest := []) 0 (fun zz => con_get l Z a0 hw n0 h273 zz a222 a234 0 x0 2 ([.int x0, .int x3, .int 0, .int 0, .int 0, .int 0, .int 0, .int 0]) F278 F279 F281 (by decide) (by decide) rfl) F277 at_121 rfl (tw hw 38 rfl) (tw hw 39 rfl) (tw hw 40 rfl) (tw hw 41 rfl) (tw hw 3 rfl) (tw hw 42 rfl) (by decide) pd_6 rfl rfl rfl (Nat.le_of_eq rfl) (by decide) (by decide) (by decide) (by decide) (fun v286 h287 r288 => ?_)
      obtain ⟨rfl, rfl⟩ := r288
      refine C.iload at_124 rfl rfl ?_
      refine C.icmp_eq_t at_126 (by decide) rfl rfl ?_
      refine C.iload at_131 rfl rfl ?_
      refine C.iconst 2 at_133 rfl rfl ?_
      refine C.icmp_lt_f at_134 rfl (by decide) ?_
      refine C.aload at_137 rfl rfl rfl ?_
      refine C.iconst 1 at_139 rfl rfl ?_
      refine C.callV (argsL := [(.int 1)]) (rest := []) 0 (fun zz => con_get l Z a0 hw n0 h273 zz a222 a234 1 x3 2 ([.int x0, .int x3, .int 0, .int 0, .int 0, .int 0, .int 0, .int 0]) F278 F279 F281 (by decide) (by decide) rfl) F277 at_140 rfl (tw hw 38 rfl) (tw hw 39 rfl) (tw hw 40 rfl) (tw hw 41 rfl) (tw hw 3 rfl) (tw hw 42 rfl) (by decide) pd_6 rfl rfl rfl (Nat.le_of_eq rfl) (by decide) (by decide) (by decide) (by decide) (fun v290 h291 r292 => ?_)
      obtain ⟨rfl, rfl⟩ := r292
      refine C.iload at_143 rfl rfl ?_
      refine C.icmp_eq_t at_145 (by decide) rfl rfl ?_
      refine C.iload at_150 rfl rfl ?_
      refine C.iconst 3 at_152 rfl rfl ?_
      refine C.icmp_lt_t at_153 (by decide) rfl (by decide) ?_
      refine C.iconst 1 at_169 rfl rfl ?_
      exact C.retZ at_170 rfl (by decide) (by decide) ⟨rfl, trivial⟩
  · rw [qc]
    show Go p l e room_1 s m #[(.int x0), (.int x1), (.int x2), (.int x3), (.int x4), (.int x5)] below meth c n0 (FinQ s n0 (Qcon0 Z n0 h0 x0 x1 x2 x3 x4 x5) room_1.cells room_1.slots) h0 0 0 11 #[.val (.int x0), .val (.int x1), .val (.int x2), .val (.int x3), .val (.int x4), .val (.int x5), .val (.int 3), .unset, .unset, .unset, .unset, .unset] []
    refine C.iload at_11 rfl rfl ?_
    refine C.ldcI at_13 rfl (tw hw 0 rfl) ?_
    refine C.iand at_15 rfl ?_
    refine C.iload at_16 rfl rfl ?_
    refine C.irem at_18 rfl (by decide) ?_
    refine C.istore (Ls' := #[.val (.int x0), .val (.int x1), .val (.int x2), .val (.int x3), .val (.int x4), .val (.int x5), .val (.int 3), .val (.int ((x4 &&& 2147483647) % 3)), .unset, .unset, .unset, .unset]) at_19 rfl rfl ?_
    rcases own_mod3 x4 with qr | qr | qr
    · rw [qr]
      refine C.new at_21 rfl (tw hw 1 rfl) (tw hw 2 rfl) (tw hw 3 rfl) (by decide) (by decide) (fun a294 h295 z299 g300 X297 E296 D298 => ?_)
      have F301 : Fld Z h295 a294 "com/example/leaseledger/leaseledger/journal/IntColumn" "values" "[I" (.null) := D298 (Or.inl (tw hw 12 rfl)) (ty := (.array .int)) (by decide)
      have F302 : Fld Z h295 a294 "com/example/leaseledger/leaseledger/journal/IntColumn" "size" "I" (.int 0) := D298 (Or.inl (tw hw 19 rfl)) (ty := .int) (by decide)
      refine C.dup at_24 rfl rfl ?_
      refine C.callN (argsL := []) (rest := [(.ref a294)]) 1 (fun zz => con_ini l Z a0 hw n0 h295 zz a294 E296 F301 F302 g300) at_25 rfl rfl (tw hw 4 rfl) (tw hw 5 rfl) (tw hw 3 rfl) (tw hw 6 rfl) (by decide) pd_2 rfl rfl rfl (Nat.le_of_eq rfl) (by decide) (by decide) (by decide) (by decide) (fun v303 h304 r305 => ?_)
      obtain ⟨a306, rfl, K307, g311, gz312, F308, F309, F310⟩ := r305
      have ne313 : a294 ≠ a306 := Nat.ne_of_lt (Nat.lt_of_lt_of_le E296.lt gz312)
      have F314 : Exa Z h304 a294 "com/example/leaseledger/leaseledger/journal/IntColumn" := E296.keep K307
      have F317 : Av Z h304 a306 .int ([.int 0, .int 0, .int 0, .int 0, .int 0, .int 0, .int 0, .int 0]) := F310
      refine C.astore (Ls' := #[.val (.int x0), .val (.int x1), .val (.int x2), .val (.int x3), .val (.int x4), .val (.int x5), .val (.int 3), .val (.int 0), .val (.ref a294), .unset, .unset, .unset]) at_28 rfl rfl rfl ?_
      refine C.aload at_30 rfl rfl rfl ?_
      refine C.iloadN at_32 rfl rfl ?_
      refine C.callV (argsL := [(.int x0)]) (rest := []) 0 (fun zz => con_add l Z a0 hw n0 h304 zz a294 a306 x0 0 ([.int 0, .int 0, .int 0, .int 0, .int 0, .int 0, .int 0, .int 0]) F314 F308 F309 F317 g300 g311 ne313 (by decide) (Nat.le_of_ble_eq_true rfl) (Nat.le_of_ble_eq_true rfl)) F314 at_33 rfl (tw hw 13 rfl) (tw hw 14 rfl) (tw hw 15 rfl) (tw hw 16 rfl) (tw hw 3 rfl) (tw hw 17 rfl) (by decide) pd_3 rfl rfl rfl (Nat.le_of_eq rfl) (by decide) (by decide) (by decide) (by decide) (fun v318 h319 r320 => ?_)
      obtain ⟨rfl, K321, F322, F323, F324⟩ := r320
      have F325 : Exa Z h319 a294 "com/example/leaseledger/leaseledger/journal/IntColumn" := F314.keep K321
      have F329 : Fld Z h319 a294 "com/example/leaseledger/leaseledger/journal/IntColumn" "size" "I" (.int 1) := F323
      have F330 : Av Z h319 a306 .int ([.int x0, .int 0, .int 0, .int 0, .int 0, .int 0, .int 0, .int 0]) := F324
      refine C.iload at_36 rfl rfl ?_
      refine C.iconst 2 at_38 rfl rfl ?_
      refine C.icmp_lt_f at_39 rfl (by decide) ?_
      refine C.aload at_42 rfl rfl rfl ?_
      refine C.iloadN at_44 rfl rfl ?_
      refine C.callV (argsL := [(.int x1)]) (rest := []) 0 (fun zz => con_add l Z a0 hw n0 h319 zz a294 a306 x1 1 ([.int x0, .int 0, .int 0, .int 0, .int 0, .int 0, .int 0, .int 0]) F325 F322 F329 F330 g300 g311 ne313 (by decide) (Nat.le_of_ble_eq_true rfl) (Nat.le_of_ble_eq_true rfl)) F325 at_45 rfl (tw hw 13 rfl) (tw hw 14 rfl) (tw hw 15 rfl) (tw hw 16 rfl) (tw hw 3 rfl) (tw hw 17 rfl) (by decide) pd_3 rfl rfl rfl (Nat.le_of_eq rfl) (by decide) (by decide) (by decide) (by decide) (fun v331 h332 r333 => ?_)
      obtain ⟨rfl, K334, F335, F336, F337⟩ := r333
      have F338 : Exa Z h332 a294 "com/example/leaseledger/leaseledger/journal/IntColumn" := F325.keep K334
      have F342 : Fld Z h332 a294 "com/example/leaseledger/leaseledger/journal/IntColumn" "size" "I" (.int 2) := F336
      have F343 : Av Z h332 a306 .int ([.int x0, .int x1, .int 0, .int 0, .int 0, .int 0, .int 0, .int 0]) := F337
      refine C.iload at_48 rfl rfl ?_
      refine C.iconst 3 at_50 rfl rfl ?_
      refine C.icmp_lt_f at_51 rfl (by decide) ?_
      refine C.aload at_54 rfl rfl rfl ?_
      refine C.iloadN at_56 rfl rfl ?_
      refine C.callV (argsL := [(.int x2)]) (rest := []) 0 (fun zz => con_add l Z a0 hw n0 h332 zz a294 a306 x2 2 ([.int x0, .int x1, .int 0, .int 0, .int 0, .int 0, .int 0, .int 0]) F338 F335 F342 F343 g300 g311 ne313 (by decide) (Nat.le_of_ble_eq_true rfl) (Nat.le_of_ble_eq_true rfl)) F338 at_57 rfl (tw hw 13 rfl) (tw hw 14 rfl) (tw hw 15 rfl) (tw hw 16 rfl) (tw hw 3 rfl) (tw hw 17 rfl) (by decide) pd_3 rfl rfl rfl (Nat.le_of_eq rfl) (by decide) (by decide) (by decide) (by decide) (fun v344 h345 r346 => ?_)
      obtain ⟨rfl, K347, F348, F349, F350⟩ := r346
      have F351 : Exa Z h345 a294 "com/example/leaseledger/leaseledger/journal/IntColumn" := F338.keep K347
      have F355 : Fld Z h345 a294 "com/example/leaseledger/leaseledger/journal/IntColumn" "size" "I" (.int 3) := F349
      have F356 : Av Z h345 a306 .int ([.int x0, .int x1, .int x2, .int 0, .int 0, .int 0, .int 0, .int 0]) := F350
      refine C.aload at_60 rfl rfl rfl ?_
      refine C.iload at_62 rfl rfl ?_
      refine C.iloadN at_64 rfl rfl ?_
      refine C.callV (argsL := [(.int 0), (.int x3)]) (rest := []) 0 (fun zz => con_set l Z a0 hw n0 h345 zz a294 a306 0 x3 3 ([.int x0, .int x1, .int x2, .int 0, .int 0, .int 0, .int 0, .int 0]) F348 F355 F356 g311 ne313 (by decide) (by decide) (Nat.le_of_ble_eq_true rfl)) F351 at_65 rfl (tw hw 20 rfl) (tw hw 21 rfl) (tw hw 22 rfl) (tw hw 23 rfl) (tw hw 3 rfl) (tw hw 24 rfl) (by decide) pd_4 rfl rfl rfl (Nat.le_of_eq rfl) (by decide) (by decide) (by decide) (by decide) (fun v357 h358 r359 => ?_)
      obtain ⟨rfl, K360, F361⟩ := r359
      have F362 : Exa Z h358 a294 "com/example/leaseledger/leaseledger/journal/IntColumn" := F351.keep K360
      have F363 : Fld Z h358 a294 "com/example/leaseledger/leaseledger/journal/IntColumn" "values" "[I" (.ref a306) := F348.keep K360 (ninS ne313 nin0)
      have F364 : Fld Z h358 a294 "com/example/leaseledger/leaseledger/journal/IntColumn" "size" "I" (.int 3) := F355.keep K360 (ninS ne313 nin0)
      have F366 : Av Z h358 a306 .int ([.int x3, .int x1, .int x2, .int 0, .int 0, .int 0, .int 0, .int 0]) := F361
      refine C.iload at_68 rfl rfl ?_
      refine C.if_ne_f at_70 rfl (by decide) ?_
      refine C.iloadN at_73 rfl rfl ?_
      refine C.goto at_74 (by decide) rfl ?_
      refine C.istore (Ls' := #[.val (.int x0), .val (.int x1), .val (.int x2), .val (.int x3), .val (.int x4), .val (.int x5), .val (.int 3), .val (.int 0), .val (.ref a294), .val (.int x3), .unset, .unset]) at_78 rfl rfl ?_
      refine C.iload at_80 rfl rfl ?_
      refine C.iconst 1 at_82 rfl rfl ?_
      refine C.icmp_ne_t at_83 (by decide) rfl (by decide) ?_
      refine C.iloadN at_90 rfl rfl ?_
      refine C.istore (Ls' := #[.val (.int x0), .val (.int x1), .val (.int x2), .val (.int x3), .val (.int x4), .val (.int x5), .val (.int 3), .val (.int 0), .val (.ref a294), .val (.int x3), .val (.int x1), .unset]) at_91 rfl rfl ?_
      refine C.iload at_93 rfl rfl ?_
      refine C.iconst 2 at_95 rfl rfl ?_
      refine C.icmp_ne_t at_96 (by decide) rfl (by decide) ?_
      refine C.iloadN at_103 rfl rfl ?_
      refine C.istore (Ls' := #[.val (.int x0), .val (.int x1), .val (.int x2), .val (.int x3), .val (.int x4), .val (.int x5), .val (.int 3), .val (.int 0), .val (.ref a294), .val (.int x3), .val (.int x1), .val (.int x2)]) at_104 rfl rfl ?_
      refine C.aload at_106 rfl rfl rfl ?_
      refine C.callV (argsL := []) (rest := []) 0 (fun zz => con_size l Z a0 hw n0 h358 zz a294 3 F364) F362 at_108 rfl (tw hw 33 rfl) (tw hw 34 rfl) (tw hw 35 rfl) (tw hw 36 rfl) (tw hw 3 rfl) (tw hw 37 rfl) (by decide) pd_5 rfl rfl rfl (Nat.le_of_eq rfl) (by decide) (by decide) (by decide) (by decide) (fun v367 h368 r369 => ?_)
      obtain ⟨rfl, rfl⟩ := r369
      refine C.iload at_111 rfl rfl ?_
      refine C.icmp_eq_t at_113 (by decide) rfl (by decide) ?_
      refine C.aload at_118 rfl rfl rfl ?_
      refine C.iconst 0 at_120 rfl rfl ?_
      refine C.callV (argsL := [(.int 0)]) (rest := []) 0 (fun zz => con_get l Z a0 hw n0 h358 zz a294 a306 0 x3 3 ([.int x3, .int x1, .int x2, .int 0, .int 0, .int 0, .int 0, .int 0]) F363 F364 F366 (by decide) (by decide) rfl) F362 at_121 rfl (tw hw 38 rfl) (tw hw 39 rfl) (tw hw 40 rfl) (tw hw 41 rfl) (tw hw 3 rfl) (tw hw 42 rfl) (by decide) pd_6 rfl rfl rfl (Nat.le_of_eq rfl) (by decide) (by decide) (by decide) (by decide) (fun v371 h372 r373 => ?_)
      obtain ⟨rfl, rfl⟩ := r373
      refine C.iload at_124 rfl rfl ?_
      refine C.icmp_eq_t at_126 (by decide) rfl rfl ?_
      refine C.iload at_131 rfl rfl ?_
      refine C.iconst 2 at_133 rfl rfl ?_
      refine C.icmp_lt_f at_134 rfl (by decide) ?_
      refine C.aload at_137 rfl rfl rfl ?_
      refine C.iconst 1 at_139 rfl rfl ?_
      refine C.callV (argsL := [(.int 1)]) (rest := []) 0 (fun zz => con_get l Z a0 hw n0 h358 zz a294 a306 1 x1 3 ([.int x3, .int x1, .int x2, .int 0, .int 0, .int 0, .int 0, .int 0]) F363 F364 F366 (by decide) (by decide) rfl) F362 at_140 rfl (tw hw 38 rfl) (tw hw 39 rfl) (tw hw 40 rfl) (tw hw 41 rfl) (tw hw 3 rfl) (tw hw 42 rfl) (by decide) pd_6 rfl rfl rfl (Nat.le_of_eq rfl) (by decide) (by decide) (by decide) (by decide) (fun v375 h376 r377 => ?_)
      obtain ⟨rfl, rfl⟩ := r377
      refine C.iload at_143 rfl rfl ?_
      refine C.icmp_eq_t at_145 (by decide) rfl rfl ?_
      refine C.iload at_150 rfl rfl ?_
      refine C.iconst 3 at_152 rfl rfl ?_
      refine C.icmp_lt_f at_153 rfl (by decide) ?_
      refine C.aload at_156 rfl rfl rfl ?_
      refine C.iconst 2 at_158 rfl rfl ?_
      refine C.callV (argsL := [(.int 2)]) (rest := []) 0 (fun zz => con_get l Z a0 hw n0 h358 zz a294 a306 2 x2 3 ([.int x3, .int x1, .int x2, .int 0, .int 0, .int 0, .int 0, .int 0]) F363 F364 F366 (by decide) (by decide) rfl) F362 at_159 rfl (tw hw 38 rfl) (tw hw 39 rfl) (tw hw 40 rfl) (tw hw 41 rfl) (tw hw 3 rfl) (tw hw 42 rfl) (by decide) pd_6 rfl rfl rfl (Nat.le_of_eq rfl) (by decide) (by decide) (by decide) (by decide) (fun v379 h380 r381 => ?_)
      obtain ⟨rfl, rfl⟩ := r381
      refine C.iload at_162 rfl rfl ?_
      refine C.icmp_eq_t at_164 (by decide) rfl rfl ?_
      refine C.iconst 1 at_169 rfl rfl ?_
      exact C.retZ at_170 rfl (by decide) (by decide) ⟨rfl, trivial⟩
    · rw [qr]
      refine C.new at_21 rfl (tw hw 1 rfl) (tw hw 2 rfl) (tw hw 3 rfl) (by decide) (by decide) (fun a383 h384 z388 g389 X386 E385 D387 => ?_)
      have F390 : Fld Z h384 a383 "com/example/leaseledger/leaseledger/journal/IntColumn" "values" "[I" (.null) := D387 (Or.inl (tw hw 12 rfl)) (ty := (.array .int)) (by decide)
      have F391 : Fld Z h384 a383 "com/example/leaseledger/leaseledger/journal/IntColumn" "size" "I" (.int 0) := D387 (Or.inl (tw hw 19 rfl)) (ty := .int) (by decide)
      refine C.dup at_24 rfl rfl ?_
      refine C.callN (argsL := []) (rest := [(.ref a383)]) 1 (fun zz => con_ini l Z a0 hw n0 h384 zz a383 E385 F390 F391 g389) at_25 rfl rfl (tw hw 4 rfl) (tw hw 5 rfl) (tw hw 3 rfl) (tw hw 6 rfl) (by decide) pd_2 rfl rfl rfl (Nat.le_of_eq rfl) (by decide) (by decide) (by decide) (by decide) (fun v392 h393 r394 => ?_)
      obtain ⟨a395, rfl, K396, g400, gz401, F397, F398, F399⟩ := r394
      have ne402 : a383 ≠ a395 := Nat.ne_of_lt (Nat.lt_of_lt_of_le E385.lt gz401)
      have F403 : Exa Z h393 a383 "com/example/leaseledger/leaseledger/journal/IntColumn" := E385.keep K396
      have F406 : Av Z h393 a395 .int ([.int 0, .int 0, .int 0, .int 0, .int 0, .int 0, .int 0, .int 0]) := F399
      refine C.astore (Ls' := #[.val (.int x0), .val (.int x1), .val (.int x2), .val (.int x3), .val (.int x4), .val (.int x5), .val (.int 3), .val (.int 1), .val (.ref a383), .unset, .unset, .unset]) at_28 rfl rfl rfl ?_
      refine C.aload at_30 rfl rfl rfl ?_
      refine C.iloadN at_32 rfl rfl ?_
      refine C.callV (argsL := [(.int x0)]) (rest := []) 0 (fun zz => con_add l Z a0 hw n0 h393 zz a383 a395 x0 0 ([.int 0, .int 0, .int 0, .int 0, .int 0, .int 0, .int 0, .int 0]) F403 F397 F398 F406 g389 g400 ne402 (by decide) (Nat.le_of_ble_eq_true rfl) (Nat.le_of_ble_eq_true rfl)) F403 at_33 rfl (tw hw 13 rfl) (tw hw 14 rfl) (tw hw 15 rfl) (tw hw 16 rfl) (tw hw 3 rfl) (tw hw 17 rfl) (by decide) pd_3 rfl rfl rfl (Nat.le_of_eq rfl) (by decide) (by decide) (by decide) (by decide) (fun v407 h408 r409 => ?_)
      obtain ⟨rfl, K410, F411, F412, F413⟩ := r409
      have F414 : Exa Z h408 a383 "com/example/leaseledger/leaseledger/journal/IntColumn" := F403.keep K410
      have F418 : Fld Z h408 a383 "com/example/leaseledger/leaseledger/journal/IntColumn" "size" "I" (.int 1) := F412
      have F419 : Av Z h408 a395 .int ([.int x0, .int 0, .int 0, .int 0, .int 0, .int 0, .int 0, .int 0]) := F413
      refine C.iload at_36 rfl rfl ?_
      refine C.iconst 2 at_38 rfl rfl ?_
      refine C.icmp_lt_f at_39 rfl (by decide) ?_
      refine C.aload at_42 rfl rfl rfl ?_
      refine C.iloadN at_44 rfl rfl ?_
      refine C.callV (argsL := [(.int x1)]) (rest := []) 0 (fun zz => con_add l Z a0 hw n0 h408 zz a383 a395 x1 1 ([.int x0, .int 0, .int 0, .int 0, .int 0, .int 0, .int 0, .int 0]) F414 F411 F418 F419 g389 g400 ne402 (by decide) (Nat.le_of_ble_eq_true rfl) (Nat.le_of_ble_eq_true rfl)) F414 at_45 rfl (tw hw 13 rfl) (tw hw 14 rfl) (tw hw 15 rfl) (tw hw 16 rfl) (tw hw 3 rfl) (tw hw 17 rfl) (by decide) pd_3 rfl rfl rfl (Nat.le_of_eq rfl) (by decide) (by decide) (by decide) (by decide) (fun v420 h421 r422 => ?_)
      obtain ⟨rfl, K423, F424, F425, F426⟩ := r422
      have F427 : Exa Z h421 a383 "com/example/leaseledger/leaseledger/journal/IntColumn" := F414.keep K423
      have F431 : Fld Z h421 a383 "com/example/leaseledger/leaseledger/journal/IntColumn" "size" "I" (.int 2) := F425
      have F432 : Av Z h421 a395 .int ([.int x0, .int x1, .int 0, .int 0, .int 0, .int 0, .int 0, .int 0]) := F426
      refine C.iload at_48 rfl rfl ?_
      refine C.iconst 3 at_50 rfl rfl ?_
      refine C.icmp_lt_f at_51 rfl (by decide) ?_
      refine C.aload at_54 rfl rfl rfl ?_
      refine C.iloadN at_56 rfl rfl ?_
      refine C.callV (argsL := [(.int x2)]) (rest := []) 0 (fun zz => con_add l Z a0 hw n0 h421 zz a383 a395 x2 2 ([.int x0, .int x1, .int 0, .int 0, .int 0, .int 0, .int 0, .int 0]) F427 F424 F431 F432 g389 g400 ne402 (by decide) (Nat.le_of_ble_eq_true rfl) (Nat.le_of_ble_eq_true rfl)) F427 at_57 rfl (tw hw 13 rfl) (tw hw 14 rfl) (tw hw 15 rfl) (tw hw 16 rfl) (tw hw 3 rfl) (tw hw 17 rfl) (by decide) pd_3 rfl rfl rfl (Nat.le_of_eq rfl) (by decide) (by decide) (by decide) (by decide) (fun v433 h434 r435 => ?_)
      obtain ⟨rfl, K436, F437, F438, F439⟩ := r435
      have F440 : Exa Z h434 a383 "com/example/leaseledger/leaseledger/journal/IntColumn" := F427.keep K436
      have F444 : Fld Z h434 a383 "com/example/leaseledger/leaseledger/journal/IntColumn" "size" "I" (.int 3) := F438
      have F445 : Av Z h434 a395 .int ([.int x0, .int x1, .int x2, .int 0, .int 0, .int 0, .int 0, .int 0]) := F439
      refine C.aload at_60 rfl rfl rfl ?_
      refine C.iload at_62 rfl rfl ?_
      refine C.iloadN at_64 rfl rfl ?_
      refine C.callV (argsL := [(.int 1), (.int x3)]) (rest := []) 0 (fun zz => con_set l Z a0 hw n0 h434 zz a383 a395 1 x3 3 ([.int x0, .int x1, .int x2, .int 0, .int 0, .int 0, .int 0, .int 0]) F437 F444 F445 g400 ne402 (by decide) (by decide) (Nat.le_of_ble_eq_true rfl)) F440 at_65 rfl (tw hw 20 rfl) (tw hw 21 rfl) (tw hw 22 rfl) (tw hw 23 rfl) (tw hw 3 rfl) (tw hw 24 rfl) (by decide) pd_4 rfl rfl rfl (Nat.le_of_eq rfl) (by decide) (by decide) (by decide) (by decide) (fun v446 h447 r448 => ?_)
      obtain ⟨rfl, K449, F450⟩ := r448
      have F451 : Exa Z h447 a383 "com/example/leaseledger/leaseledger/journal/IntColumn" := F440.keep K449
      have F452 : Fld Z h447 a383 "com/example/leaseledger/leaseledger/journal/IntColumn" "values" "[I" (.ref a395) := F437.keep K449 (ninS ne402 nin0)
      have F453 : Fld Z h447 a383 "com/example/leaseledger/leaseledger/journal/IntColumn" "size" "I" (.int 3) := F444.keep K449 (ninS ne402 nin0)
      have F455 : Av Z h447 a395 .int ([.int x0, .int x3, .int x2, .int 0, .int 0, .int 0, .int 0, .int 0]) := F450
      refine C.iload at_68 rfl rfl ?_
      refine C.if_ne_t at_70 (by decide) rfl (by decide) ?_
      refine C.iloadN at_77 rfl rfl ?_
      refine C.istore (Ls' := #[.val (.int x0), .val (.int x1), .val (.int x2), .val (.int x3), .val (.int x4), .val (.int x5), .val (.int 3), .val (.int 1), .val (.ref a383), .val (.int x0), .unset, .unset]) at_78 rfl rfl ?_
      refine C.iload at_80 rfl rfl ?_
      refine C.iconst 1 at_82 rfl rfl ?_
      refine C.icmp_ne_f at_83 rfl (by decide) ?_
      refine C.iloadN at_86 rfl rfl ?_
      refine C.goto at_87 (by decide) rfl ?_
      refine C.istore (Ls' := #[.val (.int x0), .val (.int x1), .val (.int x2), .val (.int x3), .val (.int x4), .val (.int x5), .val (.int 3), .val (.int 1), .val (.ref a383), .val (.int x0), .val (.int x3), .unset]) at_91 rfl rfl ?_
      refine C.iload at_93 rfl rfl ?_
      refine C.iconst 2 at_95 rfl rfl ?_
      refine C.icmp_ne_t at_96 (by decide) rfl (by decide) ?_
      refine C.iloadN at_103 rfl rfl ?_
      refine C.istore (Ls' := #[.val (.int x0), .val (.int x1), .val (.int x2), .val (.int x3), .val (.int x4), .val (.int x5), .val (.int 3), .val (.int 1), .val (.ref a383), .val (.int x0), .val (.int x3), .val (.int x2)]) at_104 rfl rfl ?_
      refine C.aload at_106 rfl rfl rfl ?_
      refine C.callV (argsL := []) (rest := []) 0 (fun zz => con_size l Z a0 hw n0 h447 zz a383 3 F453) F451 at_108 rfl (tw hw 33 rfl) (tw hw 34 rfl) (tw hw 35 rfl) (tw hw 36 rfl) (tw hw 3 rfl) (tw hw 37 rfl) (by decide) pd_5 rfl rfl rfl (Nat.le_of_eq rfl) (by decide) (by decide) (by decide) (by decide) (fun v456 h457 r458 => ?_)
      obtain ⟨rfl, rfl⟩ := r458
      refine C.iload at_111 rfl rfl ?_
      refine C.icmp_eq_t at_113 (by decide) rfl (by decide) ?_
      refine C.aload at_118 rfl rfl rfl ?_
      refine C.iconst 0 at_120 rfl rfl ?_
      refine C.callV (argsL := [(.int 0)]) (rest := []) 0 (fun zz => con_get l Z a0 hw n0 h447 zz a383 a395 0 x0 3 ([.int x0, .int x3, .int x2, .int 0, .int 0, .int 0, .int 0, .int 0]) F452 F453 F455 (by decide) (by decide) rfl) F451 at_121 rfl (tw hw 38 rfl) (tw hw 39 rfl) (tw hw 40 rfl) (tw hw 41 rfl) (tw hw 3 rfl) (tw hw 42 rfl) (by decide) pd_6 rfl rfl rfl (Nat.le_of_eq rfl) (by decide) (by decide) (by decide) (by decide) (fun v460 h461 r462 => ?_)
      obtain ⟨rfl, rfl⟩ := r462
      refine C.iload at_124 rfl rfl ?_
      refine C.icmp_eq_t at_126 (by decide) rfl rfl ?_
      refine C.iload at_131 rfl rfl ?_
      refine C.iconst 2 at_133 rfl rfl ?_
      refine C.icmp_lt_f at_134 rfl (by decide) ?_
      refine C.aload at_137 rfl rfl rfl ?_
      refine C.iconst 1 at_139 rfl rfl ?_
      refine C.callV (argsL := [(.int 1)]) (rest := []) 0 (fun zz => con_get l Z a0 hw n0 h447 zz a383 a395 1 x3 3 ([.int x0, .int x3, .int x2, .int 0, .int 0, .int 0, .int 0, .int 0]) F452 F453 F455 (by decide) (by decide) rfl) F451 at_140 rfl (tw hw 38 rfl) (tw hw 39 rfl) (tw hw 40 rfl) (tw hw 41 rfl) (tw hw 3 rfl) (tw hw 42 rfl) (by decide) pd_6 rfl rfl rfl (Nat.le_of_eq rfl) (by decide) (by decide) (by decide) (by decide) (fun v464 h465 r466 => ?_)
      obtain ⟨rfl, rfl⟩ := r466
      refine C.iload at_143 rfl rfl ?_
      refine C.icmp_eq_t at_145 (by decide) rfl rfl ?_
      refine C.iload at_150 rfl rfl ?_
      refine C.iconst 3 at_152 rfl rfl ?_
      refine C.icmp_lt_f at_153 rfl (by decide) ?_
      refine C.aload at_156 rfl rfl rfl ?_
      refine C.iconst 2 at_158 rfl rfl ?_
      refine C.callV (argsL := [(.int 2)]) (rest := []) 0 (fun zz => con_get l Z a0 hw n0 h447 zz a383 a395 2 x2 3 ([.int x0, .int x3, .int x2, .int 0, .int 0, .int 0, .int 0, .int 0]) F452 F453 F455 (by decide) (by decide) rfl) F451 at_159 rfl (tw hw 38 rfl) (tw hw 39 rfl) (tw hw 40 rfl) (tw hw 41 rfl) (tw hw 3 rfl) (tw hw 42 rfl) (by decide) pd_6 rfl rfl rfl (Nat.le_of_eq rfl) (by decide) (by decide) (by decide) (by decide) (fun v468 h469 r470 => ?_)
      obtain ⟨rfl, rfl⟩ := r470
      refine C.iload at_162 rfl rfl ?_
      refine C.icmp_eq_t at_164 (by decide) rfl rfl ?_
      refine C.iconst 1 at_169 rfl rfl ?_
      exact C.retZ at_170 rfl (by decide) (by decide) ⟨rfl, trivial⟩
    · rw [qr]
      refine C.new at_21 rfl (tw hw 1 rfl) (tw hw 2 rfl) (tw hw 3 rfl) (by decide) (by decide) (fun a472 h473 z477 g478 X475 E474 D476 => ?_)
      have F479 : Fld Z h473 a472 "com/example/leaseledger/leaseledger/journal/IntColumn" "values" "[I" (.null) := D476 (Or.inl (tw hw 12 rfl)) (ty := (.array .int)) (by decide)
      have F480 : Fld Z h473 a472 "com/example/leaseledger/leaseledger/journal/IntColumn" "size" "I" (.int 0) := D476 (Or.inl (tw hw 19 rfl)) (ty := .int) (by decide)
      refine C.dup at_24 rfl rfl ?_
      refine C.callN (argsL := []) (rest := [(.ref a472)]) 1 (fun zz => con_ini l Z a0 hw n0 h473 zz a472 E474 F479 F480 g478) at_25 rfl rfl (tw hw 4 rfl) (tw hw 5 rfl) (tw hw 3 rfl) (tw hw 6 rfl) (by decide) pd_2 rfl rfl rfl (Nat.le_of_eq rfl) (by decide) (by decide) (by decide) (by decide) (fun v481 h482 r483 => ?_)
      obtain ⟨a484, rfl, K485, g489, gz490, F486, F487, F488⟩ := r483
      have ne491 : a472 ≠ a484 := Nat.ne_of_lt (Nat.lt_of_lt_of_le E474.lt gz490)
      have F492 : Exa Z h482 a472 "com/example/leaseledger/leaseledger/journal/IntColumn" := E474.keep K485
      have F495 : Av Z h482 a484 .int ([.int 0, .int 0, .int 0, .int 0, .int 0, .int 0, .int 0, .int 0]) := F488
      refine C.astore (Ls' := #[.val (.int x0), .val (.int x1), .val (.int x2), .val (.int x3), .val (.int x4), .val (.int x5), .val (.int 3), .val (.int 2), .val (.ref a472), .unset, .unset, .unset]) at_28 rfl rfl rfl ?_
      refine C.aload at_30 rfl rfl rfl ?_
      refine C.iloadN at_32 rfl rfl ?_
      refine C.callV (argsL := [(.int x0)]) (rest := []) 0 (fun zz => con_add l Z a0 hw n0 h482 zz a472 a484 x0 0 ([.int 0, .int 0, .int 0, .int 0, .int 0, .int 0, .int 0, .int 0]) F492 F486 F487 F495 g478 g489 ne491 (by decide) (Nat.le_of_ble_eq_true rfl) (Nat.le_of_ble_eq_true rfl)) F492 at_33 rfl (tw hw 13 rfl) (tw hw 14 rfl) (tw hw 15 rfl) (tw hw 16 rfl) (tw hw 3 rfl) (tw hw 17 rfl) (by decide) pd_3 rfl rfl rfl (Nat.le_of_eq rfl) (by decide) (by decide) (by decide) (by decide) (fun v496 h497 r498 => ?_)
      obtain ⟨rfl, K499, F500, F501, F502⟩ := r498
      have F503 : Exa Z h497 a472 "com/example/leaseledger/leaseledger/journal/IntColumn" := F492.keep K499
      have F507 : Fld Z h497 a472 "com/example/leaseledger/leaseledger/journal/IntColumn" "size" "I" (.int 1) := F501
      have F508 : Av Z h497 a484 .int ([.int x0, .int 0, .int 0, .int 0, .int 0, .int 0, .int 0, .int 0]) := F502
      refine C.iload at_36 rfl rfl ?_
      refine C.iconst 2 at_38 rfl rfl ?_
      refine C.icmp_lt_f at_39 rfl (by decide) ?_
      refine C.aload at_42 rfl rfl rfl ?_
      refine C.iloadN at_44 rfl rfl ?_
      refine C.callV (argsL := [(.int x1)]) (rest := []) 0 (fun zz => con_add l Z a0 hw n0 h497 zz a472 a484 x1 1 ([.int x0, .int 0, .int 0, .int 0, .int 0, .int 0, .int 0, .int 0]) F503 F500 F507 F508 g478 g489 ne491 (by decide) (Nat.le_of_ble_eq_true rfl) (Nat.le_of_ble_eq_true rfl)) F503 at_45 rfl (tw hw 13 rfl) (tw hw 14 rfl) (tw hw 15 rfl) (tw hw 16 rfl) (tw hw 3 rfl) (tw hw 17 rfl) (by decide) pd_3 rfl rfl rfl (Nat.le_of_eq rfl) (by decide) (by decide) (by decide) (by decide) (fun v509 h510 r511 => ?_)
      obtain ⟨rfl, K512, F513, F514, F515⟩ := r511
      have F516 : Exa Z h510 a472 "com/example/leaseledger/leaseledger/journal/IntColumn" := F503.keep K512
      have F520 : Fld Z h510 a472 "com/example/leaseledger/leaseledger/journal/IntColumn" "size" "I" (.int 2) := F514
      have F521 : Av Z h510 a484 .int ([.int x0, .int x1, .int 0, .int 0, .int 0, .int 0, .int 0, .int 0]) := F515
      refine C.iload at_48 rfl rfl ?_
      refine C.iconst 3 at_50 rfl rfl ?_
      refine C.icmp_lt_f at_51 rfl (by decide) ?_
      refine C.aload at_54 rfl rfl rfl ?_
      refine C.iloadN at_56 rfl rfl ?_
      refine C.callV (argsL := [(.int x2)]) (rest := []) 0 (fun zz => con_add l Z a0 hw n0 h510 zz a472 a484 x2 2 ([.int x0, .int x1, .int 0, .int 0, .int 0, .int 0, .int 0, .int 0]) F516 F513 F520 F521 g478 g489 ne491 (by decide) (Nat.le_of_ble_eq_true rfl) (Nat.le_of_ble_eq_true rfl)) F516 at_57 rfl (tw hw 13 rfl) (tw hw 14 rfl) (tw hw 15 rfl) (tw hw 16 rfl) (tw hw 3 rfl) (tw hw 17 rfl) (by decide) pd_3 rfl rfl rfl (Nat.le_of_eq rfl) (by decide) (by decide) (by decide) (by decide) (fun v522 h523 r524 => ?_)
      obtain ⟨rfl, K525, F526, F527, F528⟩ := r524
      have F529 : Exa Z h523 a472 "com/example/leaseledger/leaseledger/journal/IntColumn" := F516.keep K525
      have F533 : Fld Z h523 a472 "com/example/leaseledger/leaseledger/journal/IntColumn" "size" "I" (.int 3) := F527
      have F534 : Av Z h523 a484 .int ([.int x0, .int x1, .int x2, .int 0, .int 0, .int 0, .int 0, .int 0]) := F528
      refine C.aload at_60 rfl rfl rfl ?_
      refine C.iload at_62 rfl rfl ?_
      refine C.iloadN at_64 rfl rfl ?_
      refine C.callV (argsL := [(.int 2), (.int x3)]) (rest := []) 0 (fun zz => con_set l Z a0 hw n0 h523 zz a472 a484 2 x3 3 ([.int x0, .int x1, .int x2, .int 0, .int 0, .int 0, .int 0, .int 0]) F526 F533 F534 g489 ne491 (by decide) (by decide) (Nat.le_of_ble_eq_true rfl)) F529 at_65 rfl (tw hw 20 rfl) (tw hw 21 rfl) (tw hw 22 rfl) (tw hw 23 rfl) (tw hw 3 rfl) (tw hw 24 rfl) (by decide) pd_4 rfl rfl rfl (Nat.le_of_eq rfl) (by decide) (by decide) (by decide) (by decide) (fun v535 h536 r537 => ?_)
      obtain ⟨rfl, K538, F539⟩ := r537
      have F540 : Exa Z h536 a472 "com/example/leaseledger/leaseledger/journal/IntColumn" := F529.keep K538
      have F541 : Fld Z h536 a472 "com/example/leaseledger/leaseledger/journal/IntColumn" "values" "[I" (.ref a484) := F526.keep K538 (ninS ne491 nin0)
      have F542 : Fld Z h536 a472 "com/example/leaseledger/leaseledger/journal/IntColumn" "size" "I" (.int 3) := F533.keep K538 (ninS ne491 nin0)
      have F544 : Av Z h536 a484 .int ([.int x0, .int x1, .int x3, .int 0, .int 0, .int 0, .int 0, .int 0]) := F539
      refine C.iload at_68 rfl rfl ?_
      refine C.if_ne_t at_70 (by decide) rfl (by decide) ?_
      refine C.iloadN at_77 rfl rfl ?_
      refine C.istore (Ls' := #[.val (.int x0), .val (.int x1), .val (.int x2), .val (.int x3), .val (.int x4), .val (.int x5), .val (.int 3), .val (.int 2), .val (.ref a472), .val (.int x0), .unset, .unset]) at_78 rfl rfl ?_
      refine C.iload at_80 rfl rfl ?_
      refine C.iconst 1 at_82 rfl rfl ?_
      refine C.icmp_ne_t at_83 (by decide) rfl (by decide) ?_
      refine C.iloadN at_90 rfl rfl ?_
      refine C.istore (Ls' := #[.val (.int x0), .val (.int x1), .val (.int x2), .val (.int x3), .val (.int x4), .val (.int x5), .val (.int 3), .val (.int 2), .val (.ref a472), .val (.int x0), .val (.int x1), .unset]) at_91 rfl rfl ?_
      refine C.iload at_93 rfl rfl ?_
      refine C.iconst 2 at_95 rfl rfl ?_
      refine C.icmp_ne_f at_96 rfl (by decide) ?_
      refine C.iloadN at_99 rfl rfl ?_
      refine C.goto at_100 (by decide) rfl ?_
      refine C.istore (Ls' := #[.val (.int x0), .val (.int x1), .val (.int x2), .val (.int x3), .val (.int x4), .val (.int x5), .val (.int 3), .val (.int 2), .val (.ref a472), .val (.int x0), .val (.int x1), .val (.int x3)]) at_104 rfl rfl ?_
      refine C.aload at_106 rfl rfl rfl ?_
      refine C.callV (argsL := []) (rest := []) 0 (fun zz => con_size l Z a0 hw n0 h536 zz a472 3 F542) F540 at_108 rfl (tw hw 33 rfl) (tw hw 34 rfl) (tw hw 35 rfl) (tw hw 36 rfl) (tw hw 3 rfl) (tw hw 37 rfl) (by decide) pd_5 rfl rfl rfl (Nat.le_of_eq rfl) (by decide) (by decide) (by decide) (by decide) (fun v545 h546 r547 => ?_)
      obtain ⟨rfl, rfl⟩ := r547
      refine C.iload at_111 rfl rfl ?_
      refine C.icmp_eq_t at_113 (by decide) rfl (by decide) ?_
      refine C.aload at_118 rfl rfl rfl ?_
      refine C.iconst 0 at_120 rfl rfl ?_
      refine C.callV (argsL := [(.int 0)]) (rest := []) 0 (fun zz => con_get l Z a0 hw n0 h536 zz a472 a484 0 x0 3 ([.int x0, .int x1, .int x3, .int 0, .int 0, .int 0, .int 0, .int 0]) F541 F542 F544 (by decide) (by decide) rfl) F540 at_121 rfl (tw hw 38 rfl) (tw hw 39 rfl) (tw hw 40 rfl) (tw hw 41 rfl) (tw hw 3 rfl) (tw hw 42 rfl) (by decide) pd_6 rfl rfl rfl (Nat.le_of_eq rfl) (by decide) (by decide) (by decide) (by decide) (fun v549 h550 r551 => ?_)
      obtain ⟨rfl, rfl⟩ := r551
      refine C.iload at_124 rfl rfl ?_
      refine C.icmp_eq_t at_126 (by decide) rfl rfl ?_
      refine C.iload at_131 rfl rfl ?_
      refine C.iconst 2 at_133 rfl rfl ?_
      refine C.icmp_lt_f at_134 rfl (by decide) ?_
      refine C.aload at_137 rfl rfl rfl ?_
      refine C.iconst 1 at_139 rfl rfl ?_
      refine C.callV (argsL := [(.int 1)]) (rest := []) 0 (fun zz => con_get l Z a0 hw n0 h536 zz a472 a484 1 x1 3 ([.int x0, .int x1, .int x3, .int 0, .int 0, .int 0, .int 0, .int 0]) F541 F542 F544 (by decide) (by decide) rfl) F540 at_140 rfl (tw hw 38 rfl) (tw hw 39 rfl) (tw hw 40 rfl) (tw hw 41 rfl) (tw hw 3 rfl) (tw hw 42 rfl) (by decide) pd_6 rfl rfl rfl (Nat.le_of_eq rfl) (by decide) (by decide) (by decide) (by decide) (fun v553 h554 r555 => ?_)
      obtain ⟨rfl, rfl⟩ := r555
      refine C.iload at_143 rfl rfl ?_
      refine C.icmp_eq_t at_145 (by decide) rfl rfl ?_
      refine C.iload at_150 rfl rfl ?_
      refine C.iconst 3 at_152 rfl rfl ?_
      refine C.icmp_lt_f at_153 rfl (by decide) ?_
      refine C.aload at_156 rfl rfl rfl ?_
      refine C.iconst 2 at_158 rfl rfl ?_
      refine C.callV (argsL := [(.int 2)]) (rest := []) 0 (fun zz => con_get l Z a0 hw n0 h536 zz a472 a484 2 x3 3 ([.int x0, .int x1, .int x3, .int 0, .int 0, .int 0, .int 0, .int 0]) F541 F542 F544 (by decide) (by decide) rfl) F540 at_159 rfl (tw hw 38 rfl) (tw hw 39 rfl) (tw hw 40 rfl) (tw hw 41 rfl) (tw hw 3 rfl) (tw hw 42 rfl) (by decide) pd_6 rfl rfl rfl (Nat.le_of_eq rfl) (by decide) (by decide) (by decide) (by decide) (fun v557 h558 r559 => ?_)
      obtain ⟨rfl, rfl⟩ := r559
      refine C.iload at_162 rfl rfl ?_
      refine C.icmp_eq_t at_164 (by decide) rfl rfl ?_
      refine C.iconst 1 at_169 rfl rfl ?_
      exact C.retZ at_170 rfl (by decide) (by decide) ⟨rfl, trivial⟩
set_option maxRecDepth 65536 in
set_option maxHeartbeats 40000000 in
theorem comes_1 {Post : Tables → Env → Array Value → State → Outcome → State → Prop} (hpost : ∀ tb e args s v u, (limb_1_1.after args s (.returned v) u = true ∧ limb_1_2.after args s (.returned v) u = true ∧ True) → FrameEnd s (.returned v) u (Jvm.fieldLocs frame_1_writes args s ++ Jvm.arrayLocs frame_1_arrays args s ++ Jvm.staticLocs frame_1_statics s) 16 128 → Post tb e args s (.returned v) u) :
    ArmFor flags0 classFile x code maxLocals ret World_1 tables_1 room_1 Calls_1 rest_1 Pre_1 Post := by
  intro l hfl _ _ p e ha hc hk s m args below hf hA hF happ hP
  obtain ⟨hcalls, hrest, hpre⟩ := hP
  obtain ⟨-, -, -, hnamed, -, -, -, hat⟩ := (Spec.applies_iff hf).mp happ
  obtain ⟨hg, hn⟩ := and_e (Cond.before_iff.mp (show (Jvm.Cond.and given_1 narrow_1).before args s = true from hpre))
  obtain ⟨h1, h2⟩ := and_e hg
  obtain ⟨w0, w1, w2, w3, w4, w5, rfl⟩ : ∃ w0 w1 w2 w3 w4 w5 : Value, args = #[w0, w1, w2, w3, w4, w5] := by
    have hs : args.size = 6 := by simpa [Cond.value, given_1] using h1
    obtain ⟨L⟩ := args
    match L, hs with
    | [w0, w1, w2, w3, w4, w5], _ => exact ⟨w0, w1, w2, w3, w4, w5, rfl⟩
  have hw := fun d (hd : d ∈ tables_1) => atoms_spec (ws := Jvm.Cond.code x code maxLocals ret :: tables_1) hat d (List.mem_cons_of_mem _ hd)
  obtain ⟨u0, t0⟩ := and_e h2
  obtain ⟨i0, e0⟩ := is_v u0
  obtain rfl : w0 = (.int i0) := Option.some.inj e0
  obtain ⟨u1, t1⟩ := and_e t0
  obtain ⟨i1, e1⟩ := is_v u1
  obtain rfl : w1 = (.int i1) := Option.some.inj e1
  obtain ⟨u2, t2⟩ := and_e t1
  obtain ⟨i2, e2⟩ := is_v u2
  obtain rfl : w2 = (.int i2) := Option.some.inj e2
  obtain ⟨u3, t3⟩ := and_e t2
  obtain ⟨i3, e3⟩ := is_v u3
  obtain rfl : w3 = (.int i3) := Option.some.inj e3
  obtain ⟨u4, t4⟩ := and_e t3
  obtain ⟨i4, e4⟩ := is_v u4
  obtain rfl : w4 = (.int i4) := Option.some.inj e4
  obtain ⟨i5, e5⟩ := is_v t4
  obtain rfl : w5 = (.int i5) := Option.some.inj e5
  obtain ⟨n, o, h1, h2, h3, _, L, rfl, ⟨⟨rfl, -⟩, N⟩, hq⟩ := con0 l s _ hw s.heap.size s.heap (Nat.le_refl _) i0 i1 i2 i3 i4 i5 p e ha hc hk s m _ below hf ((Spec.applies_iff_loose hf).mp happ).1 ⟨rfl, State.Warmed39.refl s, rfl⟩ trivial
  refine ⟨n, _, h1, h2, h3, hpost _ _ _ _ _ _ ⟨Cond.after_iff.mpr rfl, Cond.after_iff.mpr (eq_i res_at (Term.int_eval (1)) rfl), trivial⟩ ⟨hq.1, hq.2.1, (hq.2.2.sift fun y hy => Or.inr (N y hy)).mono (by decide) (by decide)⟩⟩
theorem main_1_1 : Claimed_1_1 := comes_1 fun _ _ _ _ _ _ h hF => ⟨h.1, hF⟩
theorem main_1_2 : Claimed_1_2 := comes_1 fun _ _ _ _ _ _ h hF => ⟨h.2.1, hF⟩
end Jvm.Pilot.@@N@@
namespace Jvm.Pilot.@@N@@
open Jvm Jvm.ClassFile Sem Op Lib Jvm.Free Jvm.Stand Jvm.Pilot.@@N@@.Jvm.D
/-! MADE BY PROGRAM (witnessworld.py) out of the Statement's table words and the real class files: 11 classes; the members and pool entries that the words name. The judged class is class 1, her method 1. -/
namespace start1
open Jvm.ClassFile
def u (s : String) : CpInfo := .utf8 (stringToUtf16 s)
/-- a pool by its gaps: so many unusable entries, then the entry; so many at the end -/
def gap : Nat → List CpInfo → List CpInfo
  | 0, r => r
  | n + 1, r => .unusable :: gap n r
def poolList (es : List (Nat × CpInfo)) (last : Nat) : List CpInfo := es.foldr (fun e r => gap e.1 (e.2 :: r)) (gap last [])
def pool (es : List (Nat × CpInfo)) (last : Nat) : Array CpInfo := ⟨poolList es last⟩
def fileOf (pool : Array CpInfo) (this : Nat) (attrs : Array Attribute := #[]) (ms : Array MethodInfo := #[]) (fl : Nat := 33) (sup : Nat := 0) (ifs : Array Nat := #[]) (fds : Array FieldInfo := #[]) : ClassFile where
  minorVersion := 0
  majorVersion := 65
  constantPool := pool
  accessFlags := fl
  thisClass := this
  superClass := sup
  interfaces := ifs
  fields := fds
  methods := ms
  attributes := attrs
def plain (name : String) (sup : Option ClassId) : Class where
  name := name
  kind := .ordinary
  loader := none
  accessFlags := 33
  super := sup
  interfaces := #[]
  cf := none
  fields := #[]
  methods := #[]
  instanceTypes := #[]
  staticTypes := #[]
  resolved := #[]
  callSites := []
  init := .initialized
  statics := none
  mirror := none

def pool0 : Array CpInfo := pool [(5, u "<init>"), (0, u "()V"), (1, .class_ 10), (1, u "java/lang/Object")] 113

def k0c0 : Code := { maxStack := 0, maxLocals := 1, code := object_method_1_code, exceptionTable := #[], attributes := #[] }
def k0m0 : Method := { name := "<init>", desc := "()V", sig := { parameters := [], returnType := none }, accessFlags := 1, code := some k0c0 }
/-- java/lang/Object -/
def k0 : Class := { plain "java/lang/Object" none with
  accessFlags := 33
  interfaces := #[]
  cf := some (fileOf pool0 8 #[] #[{ accessFlags := 1, nameIndex := 5, descriptorIndex := 6, attributes := #[] }] 33 0 #[] #[])
  fields := #[]
  methods := #[k0m0]
  instanceTypes := #[]
  staticTypes := #[]
  resolved := Array.replicate 124 none
  statics := none }

def pool1 : Array CpInfo := pool [(2, .class_ 4), (0, .nameAndType 5 6), (0, u "java/lang/Object"), (0, u "<init>"), (0, u "()V"), (0, .integer 2147483647), (0, .class_ 9), (0, u "com/example/leaseledger/leaseledger/journal/IntColumn"), (0, .methodref 8 3), (0, .methodref 8 12), (0, .nameAndType 13 14), (0, u "add"), (0, u "(I)V"), (0, .methodref 8 16), (0, .nameAndType 17 18), (0, u "set"), (0, u "(II)V"), (0, .methodref 8 20), (0, .nameAndType 21 22), (0, u "size"), (0, u "()I"), (0, .methodref 8 24), (0, .nameAndType 25 26), (0, u "get"), (0, u "(I)I"), (0, .class_ 28), (0, u "com/example/leaseledger/leaseledger/journal/IntColumnSetPinLaw"), (2, u "law"), (0, u "(IIIIII)Z")] 3

def k1m0 : Method := { name := "<init>", desc := "()V", sig := { parameters := [], returnType := none }, accessFlags := 1, code := none }
def k1c1 : Code := { maxStack := 3, maxLocals := 12, code := code, exceptionTable := #[], attributes := #[] }
def k1m1 : Method := { name := "law", desc := "(IIIIII)Z", sig := { parameters := [.int, .int, .int, .int, .int, .int], returnType := some .boolean }, accessFlags := 9, code := some k1c1 }
/-- com/example/leaseledger/leaseledger/journal/IntColumnSetPinLaw -/
def k1 : Class := { plain "com/example/leaseledger/leaseledger/journal/IntColumnSetPinLaw" (some 0) with
  accessFlags := 49
  interfaces := #[]
  cf := some (fileOf pool1 27 #[] #[{ accessFlags := 1, nameIndex := 5, descriptorIndex := 6, attributes := #[] }, { accessFlags := 9, nameIndex := 31, descriptorIndex := 32, attributes := #[] }] 49 2 #[] #[])
  fields := #[]
  methods := #[k1m0, k1m1]
  instanceTypes := #[]
  staticTypes := #[]
  resolved := Array.replicate 36 none
  statics := none }

def pool2 : Array CpInfo := pool [(1, .methodref 2 3), (0, .class_ 4), (0, .nameAndType 5 6), (0, u "java/lang/Object"), (0, u "<init>"), (0, u "()V"), (0, .class_ 8), (0, u "com/example/leaseledger/leaseledger/journal/IntColumn"), (0, .fieldref 7 10), (0, .nameAndType 11 12), (0, u "values"), (0, u "[I"), (0, .fieldref 7 14), (0, .nameAndType 15 16), (0, u "size"), (0, u "I"), (6, .methodref 24 25), (0, .class_ 26), (0, .nameAndType 27 28), (0, u "java/util/Objects"), (0, u "checkIndex"), (0, u "(II)I"), (0, u "NO_ROW"), (2, u "FIRST_CAPACITY"), (3, u "()I"), (0, u "add"), (0, u "(I)V"), (1, u "get"), (0, u "(I)I"), (0, u "set"), (0, u "(II)V")] 2

def k2c0 : Code := { maxStack := 2, maxLocals := 1, code := prog_18_method_1_code, exceptionTable := #[], attributes := #[] }
def k2m0 : Method := { name := "<init>", desc := "()V", sig := { parameters := [], returnType := none }, accessFlags := 0, code := some k2c0 }
def k2c1 : Code := { maxStack := 1, maxLocals := 1, code := prog_18_method_2_code, exceptionTable := #[], attributes := #[] }
def k2m1 : Method := { name := "size", desc := "()I", sig := { parameters := [], returnType := some .int }, accessFlags := 0, code := some k2c1 }
def k2c2 : Code := { maxStack := 5, maxLocals := 2, code := prog_18_method_3_code, exceptionTable := #[], attributes := #[] }
def k2m2 : Method := { name := "add", desc := "(I)V", sig := { parameters := [.int], returnType := none }, accessFlags := 0, code := some k2c2 }
def k2c3 : Code := { maxStack := 3, maxLocals := 2, code := prog_18_method_4_code, exceptionTable := #[], attributes := #[] }
def k2m3 : Method := { name := "get", desc := "(I)I", sig := { parameters := [.int], returnType := some .int }, accessFlags := 0, code := some k2c3 }
def k2c4 : Code := { maxStack := 3, maxLocals := 3, code := prog_18_method_5_code, exceptionTable := #[], attributes := #[] }
def k2m4 : Method := { name := "set", desc := "(II)V", sig := { parameters := [.int, .int], returnType := none }, accessFlags := 0, code := some k2c4 }
/-- com/example/leaseledger/leaseledger/journal/IntColumn -/
def k2 : Class := { plain "com/example/leaseledger/leaseledger/journal/IntColumn" (some 0) with
  accessFlags := 48
  interfaces := #[]
  cf := some (fileOf pool2 7 #[] #[{ accessFlags := 0, nameIndex := 5, descriptorIndex := 6, attributes := #[] }, { accessFlags := 0, nameIndex := 15, descriptorIndex := 36, attributes := #[] }, { accessFlags := 0, nameIndex := 37, descriptorIndex := 38, attributes := #[] }, { accessFlags := 0, nameIndex := 40, descriptorIndex := 41, attributes := #[] }, { accessFlags := 0, nameIndex := 42, descriptorIndex := 43, attributes := #[] }] 48 2 #[] #[{ accessFlags := 24, nameIndex := 29, descriptorIndex := 16, attributes := #[] }, { accessFlags := 26, nameIndex := 32, descriptorIndex := 16, attributes := #[] }, { accessFlags := 2, nameIndex := 11, descriptorIndex := 12, attributes := #[] }, { accessFlags := 2, nameIndex := 15, descriptorIndex := 16, attributes := #[] }])
  fields := #[{ name := "NO_ROW", type := .int, accessFlags := 24, slot := 0, constantValue := 0 }, { name := "FIRST_CAPACITY", type := .int, accessFlags := 26, slot := 1, constantValue := 0 }, { name := "values", type := (.array .int), accessFlags := 2, slot := 0, constantValue := 0 }, { name := "size", type := .int, accessFlags := 2, slot := 1, constantValue := 0 }]
  methods := #[k2m0, k2m1, k2m2, k2m3, k2m4]
  instanceTypes := #[(.array .int), .int]
  staticTypes := #[.int, .int]
  resolved := Array.replicate 46 none
  statics := none }

def pool3 : Array CpInfo := pool [(2, .class_ 4), (1, u "java/lang/Object"), (0, u "<init>"), (0, u "()V"), (35, .class_ 44), (1, u "java/util/Objects"), (60, .methodref 106 107), (0, .class_ 108), (0, .nameAndType 109 110), (0, u "jdk/internal/util/Preconditions"), (0, u "checkIndex"), (0, u "(IILjava/util/function/BiFunction;)I"), (60, u "(II)I")] 12

def k3m0 : Method := { name := "<init>", desc := "()V", sig := { parameters := [], returnType := none }, accessFlags := 2, code := none }
def k3c1 : Code := { maxStack := 3, maxLocals := 2, code := jdk_31_method_17_code, exceptionTable := #[], attributes := #[] }
def k3m1 : Method := { name := "checkIndex", desc := "(II)I", sig := { parameters := [.int, .int], returnType := some .int }, accessFlags := 9, code := some k3c1 }
/-- java/util/Objects -/
def k3 : Class := { plain "java/util/Objects" (some 0) with
  accessFlags := 49
  interfaces := #[]
  cf := some (fileOf pool3 42 #[] #[{ accessFlags := 2, nameIndex := 5, descriptorIndex := 6, attributes := #[] }, { accessFlags := 9, nameIndex := 109, descriptorIndex := 171, attributes := #[] }] 49 2 #[] #[])
  fields := #[]
  methods := #[k3m0, k3m1]
  instanceTypes := #[]
  staticTypes := #[]
  resolved := Array.replicate 184 none
  statics := none }

def pool4 : Array CpInfo := pool [(2, .class_ 4), (1, u "java/lang/Object"), (0, u "<init>"), (0, u "()V"), (17, .class_ 26), (1, u "jdk/internal/util/Preconditions"), (6, u "checkIndex"), (21, .class_ 56), (0, u "jdk/internal/util/Preconditions$4"), (57, .class_ 115), (0, u "jdk/internal/util/Preconditions$1"), (7, u "SIOOBE_FORMATTER"), (0, u "Ljava/util/function/BiFunction;"), (0, .class_ 126), (0, u "jdk/internal/util/Preconditions$2"), (3, u "AIOOBE_FORMATTER"), (0, .class_ 132), (0, u "jdk/internal/util/Preconditions$3"), (3, u "IOOBE_FORMATTER"), (41, u "(IILjava/util/function/BiFunction;)I")] 15

def k4m0 : Method := { name := "<init>", desc := "()V", sig := { parameters := [], returnType := none }, accessFlags := 1, code := none }
def k4c1 : Code := { maxStack := 3, maxLocals := 3, code := jdk_41_method_11_code, exceptionTable := #[], attributes := #[] }
def k4m1 : Method := { name := "checkIndex", desc := "(IILjava/util/function/BiFunction;)I", sig := { parameters := [.int, .int, (.object "java/util/function/BiFunction")], returnType := some .int }, accessFlags := 9, code := some k4c1 }
/-- jdk/internal/util/Preconditions -/
def k4 : Class := { plain "jdk/internal/util/Preconditions" (some 0) with
  accessFlags := 33
  interfaces := #[]
  cf := some (fileOf pool4 24 #[.nestMembers #[55, 131, 125, 114]] #[{ accessFlags := 1, nameIndex := 5, descriptorIndex := 6, attributes := #[] }, { accessFlags := 9, nameIndex := 33, descriptorIndex := 178, attributes := #[] }] 33 2 #[] #[{ accessFlags := 25, nameIndex := 123, descriptorIndex := 124, attributes := #[] }, { accessFlags := 25, nameIndex := 130, descriptorIndex := 124, attributes := #[] }, { accessFlags := 25, nameIndex := 136, descriptorIndex := 124, attributes := #[] }])
  fields := #[{ name := "SIOOBE_FORMATTER", type := (.object "java/util/function/BiFunction"), accessFlags := 25, slot := 0, constantValue := 0 }, { name := "AIOOBE_FORMATTER", type := (.object "java/util/function/BiFunction"), accessFlags := 25, slot := 1, constantValue := 0 }, { name := "IOOBE_FORMATTER", type := (.object "java/util/function/BiFunction"), accessFlags := 25, slot := 2, constantValue := 0 }]
  methods := #[k4m0, k4m1]
  instanceTypes := #[]
  staticTypes := #[(.object "java/util/function/BiFunction"), (.object "java/util/function/BiFunction"), (.object "java/util/function/BiFunction")]
  resolved := Array.replicate 194 none
  statics := none }

def pool5 : Array CpInfo := pool [(1, u "java/lang/Cloneable"), (0, .class_ 1), (0, u "java/lang/Object"), (0, .class_ 3)] 3

/-- java/lang/Cloneable -/
def k5 : Class := { plain "java/lang/Cloneable" (some 0) with
  accessFlags := 1537
  interfaces := #[]
  cf := some (fileOf pool5 2 #[] #[] 1537 4 #[] #[])
  fields := #[]
  methods := #[]
  instanceTypes := #[]
  staticTypes := #[]
  resolved := Array.replicate 8 none
  statics := none }

def pool6 : Array CpInfo := pool [(1, u "java/io/Serializable"), (0, .class_ 1), (0, u "java/lang/Object"), (0, .class_ 3)] 3

/-- java/io/Serializable -/
def k6 : Class := { plain "java/io/Serializable" (some 0) with
  accessFlags := 1537
  interfaces := #[]
  cf := some (fileOf pool6 2 #[] #[] 1537 4 #[] #[])
  fields := #[]
  methods := #[]
  instanceTypes := #[]
  staticTypes := #[]
  resolved := Array.replicate 8 none
  statics := none }

/-- the primitive byte -/
def k7 : Class := { plain "byte" none with kind := .primitive 'B', accessFlags := 0x411 }
/-- [B -/
def k8 : Class := { plain "[B" (some 0) with kind := .array 7 .byte, interfaces := #[5, 6], accessFlags := 1041 }

/-- the primitive int -/
def k9 : Class := { plain "int" none with kind := .primitive 'I', accessFlags := 0x411 }
/-- [I -/
def k10 : Class := { plain "[I" (some 0) with kind := .array 9 .int, interfaces := #[5, 6], accessFlags := 1041 }

def heap : Heap := #[]
def classes : Array Class := #[k0, k1, k2, k3, k4, k5, k6, k7, k8, k9, k10]
def interned : List (Array UInt16 × Addr) := []
def slotsUsed : Nat := 0
def theMethod : MethodId := ⟨1, 1⟩
def args0 : Array Value := #[.int 0, .int 1, .int 2, .int 3, .int 4, .int 5]
def aboutOver (below : List Frame) : State where
  vm := { classes := classes, interned := interned.toArray }
  heap := heap
  slotsUsed := slotsUsed
  threads := #[{ frames := .invoking theMethod args0 :: below }]
def below0 : List Frame := [.native { method := ⟨0, 0⟩, args := #[] }]
def about1 : State := aboutOver below0
def p0 : Program := .bare "" "" ""
def e0 : Env := launch0.env 0 0 0
theorem w_frames : about1.frames = Frame.invoking theMethod args0 :: below0 := rfl
set_option maxRecDepth 65536 in
theorem w_args : argsFit about1.vm theMethod args0 = true := by decide +kernel
set_option maxRecDepth 65536 in
theorem w_heap : heapFits about1 = true := by decide +kernel
set_option maxRecDepth 65536 in
theorem w_runnable : about1.curStatus? = some .runnable := by decide +kernel
set_option maxRecDepth 65536 in
theorem w_alone : about1.alone = true := by decide +kernel
set_option maxRecDepth 65536 in
theorem w_named : about1.methodNamed? x = some theMethod := by decide +kernel
set_option maxRecDepth 65536 in
theorem w_hears : about1.hears theMethod below0 = true := by decide +kernel
set_option maxRecDepth 65536 in
theorem w_ripe : about1.ripe theMethod args0 below0 = true := by decide +kernel
theorem w_running : about1.status = .running := rfl
set_option maxRecDepth 65536 in
theorem w_room : about1.hasRoom e0.platform room_1 = true :=
  launch0.hasRoom_least _ room_1 (by decide +kernel) (by decide +kernel) (by decide +kernel) (by decide +kernel) (by decide +kernel) (by decide +kernel)
theorem allAtoms_all (ts : List Jvm.Cond) (a : Array Jvm.Value) (st : Jvm.State) : (allAtoms ts).before a st = ts.all (fun c => c.before a st) := by
  induction ts with
  | nil => rfl
  | cons c t ih =>
    show (Jvm.Cond.and c (allAtoms t)).before a st = _
    rw [Jvm.Cond.before_and, ih, List.all_cons]
def words1 : List Jvm.Cond := Jvm.Cond.code x code maxLocals ret :: tables_1
/-- a 'code' word, met by the world's own term for the bytes: nothing is compared byte by byte -/
theorem code_word {y : MethodName} {bytes : ByteArray} {mx : Nat} {rt : Option FieldType} {a : Array Value} {s : State} {m : MethodId} {meth : Method} {c : Code} (h1 : s.methodNamed? y = some m) (h2 : s.vm.method? m = some meth) (h3 : meth.code = some c) (h4 : c.code = bytes)
    (h5 : (c.maxLocals == mx && c.exceptionTable.isEmpty && decide (c.maxStack ≤ mostOperands) && decide (meth.sig.returnType = rt) && !meth.locks && decide (parseMethodDescriptor y.desc = some meth.sig)) = true) : (Jvm.Cond.code y bytes mx rt).before a s = true := by
  simp only [Bool.and_eq_true, beq_iff_eq, Bool.not_eq_true', decide_eq_true_eq] at h5
  obtain ⟨⟨⟨⟨⟨g1, g2⟩, g3⟩, g4⟩, g5⟩, g6⟩ := h5
  simp [Cond.before, Cond.holds, Cond.value, h1, h2, h3, h4, g1, g2, g3, g4, g5, g6]
def isCode : Jvm.Cond → Bool
  | .code _ _ _ _ => true
  | _ => false
theorem all_split {L : List Jvm.Cond} {P : Jvm.Cond → Bool} (h1 : L.all (fun c => isCode c || P c) = true) (h2 : ∀ c ∈ L.filter isCode, P c = true) : L.all P = true := by
  refine List.all_eq_true.mpr fun c hc => ?_
  have h := List.all_eq_true.mp h1 c hc
  rcases Bool.eq_false_or_eq_true (isCode c) with hi | hi
  · exact h2 c (List.mem_filter.mpr ⟨hc, hi⟩)
  · simpa [hi] using h
set_option maxRecDepth 65536 in
theorem w_c0 : (Jvm.Cond.code x code maxLocals ret).before args0 about1 = true := code_word (m := ⟨1, 1⟩) (meth := k1m1) (c := k1c1) (by decide +kernel) rfl rfl rfl (by decide +kernel)
set_option maxRecDepth 65536 in
theorem w_c1 : (Jvm.Cond.code ({ cls := "com/example/leaseledger/leaseledger/journal/IntColumn", name := "<init>", desc := "()V" } : Jvm.MethodName) prog_18_method_1_code (1 : Nat) (Option.none : Option Jvm.ClassFile.FieldType)).before args0 about1 = true := code_word (m := ⟨2, 0⟩) (meth := k2m0) (c := k2c0) (by decide +kernel) rfl rfl rfl (by decide +kernel)
set_option maxRecDepth 65536 in
theorem w_c2 : (Jvm.Cond.code ({ cls := "java/lang/Object", name := "<init>", desc := "()V" } : Jvm.MethodName) object_method_1_code (1 : Nat) (Option.none : Option Jvm.ClassFile.FieldType)).before args0 about1 = true := code_word (m := ⟨0, 0⟩) (meth := k0m0) (c := k0c0) (by decide +kernel) rfl rfl rfl (by decide +kernel)
set_option maxRecDepth 65536 in
theorem w_c3 : (Jvm.Cond.code ({ cls := "com/example/leaseledger/leaseledger/journal/IntColumn", name := "add", desc := "(I)V" } : Jvm.MethodName) prog_18_method_3_code (2 : Nat) (Option.none : Option Jvm.ClassFile.FieldType)).before args0 about1 = true := code_word (m := ⟨2, 2⟩) (meth := k2m2) (c := k2c2) (by decide +kernel) rfl rfl rfl (by decide +kernel)
set_option maxRecDepth 65536 in
theorem w_c4 : (Jvm.Cond.code ({ cls := "com/example/leaseledger/leaseledger/journal/IntColumn", name := "set", desc := "(II)V" } : Jvm.MethodName) prog_18_method_5_code (3 : Nat) (Option.none : Option Jvm.ClassFile.FieldType)).before args0 about1 = true := code_word (m := ⟨2, 4⟩) (meth := k2m4) (c := k2c4) (by decide +kernel) rfl rfl rfl (by decide +kernel)
set_option maxRecDepth 65536 in
theorem w_c5 : (Jvm.Cond.code ({ cls := "java/util/Objects", name := "checkIndex", desc := "(II)I" } : Jvm.MethodName) jdk_31_method_17_code (2 : Nat) (Option.some Jvm.ClassFile.FieldType.int)).before args0 about1 = true := code_word (m := ⟨3, 1⟩) (meth := k3m1) (c := k3c1) (by decide +kernel) rfl rfl rfl (by decide +kernel)
set_option maxRecDepth 65536 in
theorem w_c6 : (Jvm.Cond.code ({ cls := "jdk/internal/util/Preconditions", name := "checkIndex", desc := "(IILjava/util/function/BiFunction;)I" } : Jvm.MethodName) jdk_41_method_11_code (3 : Nat) (Option.some Jvm.ClassFile.FieldType.int)).before args0 about1 = true := code_word (m := ⟨4, 1⟩) (meth := k4m1) (c := k4c1) (by decide +kernel) rfl rfl rfl (by decide +kernel)
set_option maxRecDepth 65536 in
theorem w_c7 : (Jvm.Cond.code ({ cls := "com/example/leaseledger/leaseledger/journal/IntColumn", name := "size", desc := "()I" } : Jvm.MethodName) prog_18_method_2_code (1 : Nat) (Option.some Jvm.ClassFile.FieldType.int)).before args0 about1 = true := code_word (m := ⟨2, 1⟩) (meth := k2m1) (c := k2c1) (by decide +kernel) rfl rfl rfl (by decide +kernel)
set_option maxRecDepth 65536 in
theorem w_c8 : (Jvm.Cond.code ({ cls := "com/example/leaseledger/leaseledger/journal/IntColumn", name := "get", desc := "(I)I" } : Jvm.MethodName) prog_18_method_4_code (2 : Nat) (Option.some Jvm.ClassFile.FieldType.int)).before args0 about1 = true := code_word (m := ⟨2, 3⟩) (meth := k2m3) (c := k2c3) (by decide +kernel) rfl rfl rfl (by decide +kernel)
def codes1 : List Jvm.Cond := [Jvm.Cond.code x code maxLocals ret, Jvm.Cond.code ({ cls := "com/example/leaseledger/leaseledger/journal/IntColumn", name := "<init>", desc := "()V" } : Jvm.MethodName) prog_18_method_1_code (1 : Nat) (Option.none : Option Jvm.ClassFile.FieldType), Jvm.Cond.code ({ cls := "java/lang/Object", name := "<init>", desc := "()V" } : Jvm.MethodName) object_method_1_code (1 : Nat) (Option.none : Option Jvm.ClassFile.FieldType), Jvm.Cond.code ({ cls := "com/example/leaseledger/leaseledger/journal/IntColumn", name := "add", desc := "(I)V" } : Jvm.MethodName) prog_18_method_3_code (2 : Nat) (Option.none : Option Jvm.ClassFile.FieldType), Jvm.Cond.code ({ cls := "com/example/leaseledger/leaseledger/journal/IntColumn", name := "set", desc := "(II)V" } : Jvm.MethodName) prog_18_method_5_code (3 : Nat) (Option.none : Option Jvm.ClassFile.FieldType), Jvm.Cond.code ({ cls := "java/util/Objects", name := "checkIndex", desc := "(II)I" } : Jvm.MethodName) jdk_31_method_17_code (2 : Nat) (Option.some Jvm.ClassFile.FieldType.int), Jvm.Cond.code ({ cls := "jdk/internal/util/Preconditions", name := "checkIndex", desc := "(IILjava/util/function/BiFunction;)I" } : Jvm.MethodName) jdk_41_method_11_code (3 : Nat) (Option.some Jvm.ClassFile.FieldType.int), Jvm.Cond.code ({ cls := "com/example/leaseledger/leaseledger/journal/IntColumn", name := "size", desc := "()I" } : Jvm.MethodName) prog_18_method_2_code (1 : Nat) (Option.some Jvm.ClassFile.FieldType.int), Jvm.Cond.code ({ cls := "com/example/leaseledger/leaseledger/journal/IntColumn", name := "get", desc := "(I)I" } : Jvm.MethodName) prog_18_method_4_code (2 : Nat) (Option.some Jvm.ClassFile.FieldType.int)]
set_option maxRecDepth 65536 in
theorem codes_eq : words1.filter isCode = codes1 := rfl
theorem w_codes : ∀ c ∈ words1.filter isCode, c.before args0 about1 = true := by
  rw [codes_eq]
  intro c hc
  simp only [codes1, List.mem_cons, List.not_mem_nil, or_false] at hc
  rcases hc with rfl | rfl | rfl | rfl | rfl | rfl | rfl | rfl | rfl
  · exact w_c0
  · exact w_c1
  · exact w_c2
  · exact w_c3
  · exact w_c4
  · exact w_c5
  · exact w_c6
  · exact w_c7
  · exact w_c8
set_option maxRecDepth 65536 in
theorem w_t1 : (words1.take 24).all (fun c => isCode c || c.before args0 about1) = true := by decide +kernel
set_option maxRecDepth 65536 in
theorem w_t2 : (words1.drop 24).all (fun c => isCode c || c.before args0 about1) = true := by decide +kernel
theorem w_tables : (allAtoms (Jvm.Cond.code x code maxLocals ret :: tables_1)).before args0 about1 = true := by
  rw [allAtoms_all]
  show words1.all (fun c => c.before args0 about1) = true
  refine all_split ?_ w_codes
  rw [← List.take_append_drop 24 words1, List.all_append, w_t1, w_t2]
  rfl
set_option maxRecDepth 65536 in
theorem w_case : (Jvm.Cond.and given_1 narrow_1).before args0 about1 = true := by decide +kernel
theorem w_applies : (headSpec (Jvm.Cond.code x code maxLocals ret :: tables_1) room_1).applies x e0.platform about1 = true :=
  (Spec.applies_iff w_frames).mpr ⟨w_running, w_runnable, w_alone, w_named, w_hears, w_ripe, w_room, w_tables⟩
theorem atStart : AtStart classFile x code maxLocals ret World_1 tables_1 room_1 Calls_1 rest_1 Pre_1 launch0 p0 e0 about1 theMethod args0 below0 :=
  ⟨lists_1, trivial, launch0.admits_env _ _ _, launch0.least_env, fairChoices_fair.cas, fairChoices_fair.clock, w_frames, w_args, w_heap, w_applies, trivial, trivial, w_case⟩
end start1
theorem witness_1 : WitnessClaimed_1 := ⟨start1.p0, start1.e0, start1.about1, start1.theMethod, start1.args0, start1.below0, start1.atStart⟩
end Jvm.Pilot.@@N@@
