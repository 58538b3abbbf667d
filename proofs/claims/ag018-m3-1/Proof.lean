import JvmDerived
import JvmDerived.Pilot.@@N@@Statement
import JvmDerived.Pilot.@@N@@Code
set_option linter.unusedVariables false
set_option linter.unusedSimpArgs false
@@BLOCK:NumsL.lean.txt@@
namespace Jvm.Pilot.@@N@@
open Jvm Jvm.ClassFile Sem Op Lib Jvm.Free Jvm.Stand Jvm.LawKit Jvm.RoadKit Bundle Jvm.Pilot.@@N@@.Jvm.D
/-! ## own kit: one body's walk as a goal on the heap, the frame and the room alone -/
/-- what stays the same through one body's walk -/
def Cx (p : Program) (s : State) (m : MethodId) (meth : Method) (c : Code) (Z : State) (n0 : Nat) (own : String) (bc : ByteArray) (maxL : Nat) (ret : Option FieldType) (nm : String) : Prop :=
  p.tables.exec = Jvm.exec ∧ Z.Warmed39 s.vm ∧ s.vm.findClass own = some m.cls ∧ c.code = bc ∧ c.maxLocals = maxL ∧ meth.sig.returnType = ret ∧ meth.name = nm ∧ meth.locks = false ∧ n0 ≤ s.heap.size
/-- from every state with this heap at which the body stands: the run goes on from this frame to the end that F says -/
def Go (p : Program) (l : Launch) (e : Env) (R : Room) (s : State) (m : MethodId) (args : Array Value) (below : List Frame) (meth : Method) (c : Code) (n0 : Nat) (F : State → Outcome → Prop) (h : Heap) (k n pc : Nat) (Ls : Array Slot) (st : List Value) : Prop :=
  ∀ (T : State) (locs : List Loc), Stand p l e R s m args below meth c T locs k n → T.heap = h → Fr n0 locs →
    ∃ s₂ o, Steps p.tables e below (T.setTop (mkF m pc Ls st)) s₂ ∧ s₂.status = .running ∧ Ended s₂ below o ∧ F s₂ o
/-- the end of a body: it returned what Q says, wrote new cells alone -/
def FinQ (s : State) (n0 : Nat) (Q : Option Value → Heap → Prop) (ck cs : Nat) : State → Outcome → Prop := fun s₂ o => ∃ v L, o = .returned v ∧ (Q v s₂.heap ∧ Fr n0 L) ∧ FrameEnd s o s₂ L ck cs
/-- a body's contract at the heap h0 -/
def Con (l : Launch) (Z : State) (n0 : Nat) (ws : List Jvm.Cond) (y : MethodName) (bc : ByteArray) (maxL : Nat) (ret : Option FieldType) (R : Room) (as : Array Value) (h0 : Heap) (Q : Option Value → Heap → Prop) : Prop :=
  MetFree l y (head1 (Jvm.Cond.code y bc maxL ret :: ws) R) (fun a U => a = as ∧ Z.Warmed39 U.vm ∧ U.heap = h0) (fun _ _ _ _ _ => True) (fun _ U o U' => ∃ v L, o = .returned v ∧ (Q v U'.heap ∧ Fr n0 L) ∧ FrameEnd U o U' L R.cells R.slots)
/-- an array: its class, its values -/
def Av (Z : State) (h : Heap) (a : Addr) (ty : FieldType) (vs : List Value) : Prop := ∃ c : Cell, Arr Z h a c ty ∧ c.slots.toList = vs ∧ ∀ v ∈ vs, fits ty v = true
section Own
variable {p : Program} {l : Launch} {e : Env} {R : Room} {s : State} {m : MethodId} {args : Array Value} {below : List Frame} {meth : Method} {c : Code} {n0 : Nat} {F : State → Outcome → Prop} {h : Heap} {k n pc pc' : Nat} {Ls : Array Slot} {st : List Value} {Z : State} {own : String} {bc : ByteArray} {maxL : Nat} {ret : Option FieldType} {nm : String} {a0 : Array Value}
theorem tw {ws : List Jvm.Cond} (hw : ∀ d ∈ ws, d.before a0 Z = true) (i : Nat) {d : Jvm.Cond} (q : ws[i]? = some d) : d.before a0 Z = true := hw _ (List.mem_of_getElem? q)
theorem Av.lt {a : Addr} {ty : FieldType} {vs : List Value} (A : Av Z h a ty vs) : a < h.size := by obtain ⟨c, A, -⟩ := A; exact A.lt
theorem Av.ext {a : Addr} {ty : FieldType} {vs : List Value} {h' : Heap} (A : Av Z h a ty vs) (E : Ext h h') : Av Z h' a ty vs := by obtain ⟨c, A, q⟩ := A; exact ⟨c, A.ext E, q⟩
theorem Av.other {a b : Addr} {ty : FieldType} {vs : List Value} {h' : Heap} {sl : Nat} {v : Value} (A : Av Z h b ty vs) (W : Wr h h' a sl v) (q : b ≠ a) : Av Z h' b ty vs := by obtain ⟨c, A, r⟩ := A; exact ⟨c, A.other W q, r⟩
theorem Av.keep {a : Addr} {ty : FieldType} {vs : List Value} {h' : Heap} {ws : List Addr} (A : Av Z h a ty vs) (K : Keep h h' ws) (q : a ∉ ws) : Av Z h' a ty vs := by obtain ⟨c, A, r⟩ := A; exact ⟨c, ⟨K.2.1 a c A.1 q, A.2⟩, r⟩
theorem Av.same {a : Addr} {ty : FieldType} {vs : List Value} {h' : Heap} {j : Nat} {v : Value} (A : Av Z h a ty vs) (W : Wr h h' a j v) (hf : fits ty v = true) : Av Z h' a ty (vs.set j v) := by
  obtain ⟨c, A, rfl, r⟩ := A
  refine ⟨_, A.same W, by simp [Cell.setSlot], fun w hw => ?_⟩
  rcases List.mem_or_eq_of_mem_set hw with q | rfl
  · exact r w q
  · exact hf
theorem Av.fit {a : Addr} {ty : FieldType} {vs : List Value} {i : Nat} {v : Value} (A : Av Z h a ty vs) (q : vs[i]? = some v) : fits ty v = true := by obtain ⟨c, A, -, r⟩ := A; exact r v (List.mem_of_getElem? q)
theorem Av.new {a : Addr} {kc : ClassId} {ty : FieldType} {z : Int32} (A : Arr Z h a (newA kc ty z) ty) : Av Z h a ty (List.replicate z.toNatClampNeg (defaultValue ty)) :=
  ⟨_, A, by simp [newA], fun v hv => by rw [List.eq_of_mem_replicate hv]; cases ty <;> rfl⟩
theorem own_in {j : Int32} {cl : Cell} {v : Value} (hj : ¬ j < 0) (hv : cl.slots[j.toNatClampNeg]? = some v) : ¬ (j < 0 ∨ cl.slots.size ≤ j.toNatClampNeg) := fun q => q.elim hj fun q => absurd (Array.getElem?_eq_some_iff.mp hv).1 (Nat.not_lt.mpr q)
theorem own_in2 {j : Int32} {cl : Cell} (hj : ¬ j < 0) (hl : j.toNatClampNeg < cl.slots.size) : ¬ (j < 0 ∨ cl.slots.size ≤ j.toNatClampNeg) := fun q => q.elim hj fun q => absurd hl (Nat.not_lt.mpr q)
theorem Go.pl {Ls' : Array Slot} {st' : List Value} (q : ∀ (T : State) (locs : List Loc), Stand p l e R s m args below meth c T locs k n → T.heap = h → ∀ t, Steps p.tables e below (T.setTop (mkF m pc' Ls' st')) t → Steps p.tables e below (T.setTop (mkF m pc Ls st)) t) (hr : Go p l e R s m args below meth c n0 F h k n pc' Ls' st') : Go p l e R s m args below meth c n0 F h k n pc Ls st := fun T locs X eT N => by
  obtain ⟨s₂, o, h1, h2⟩ := hr T locs X eT N
  exact ⟨s₂, o, q T locs X eT _ h1, h2⟩
theorem Go.more {k' n' : Nat} (hr : Go p l e R s m args below meth c n0 F h k' n' pc Ls st) (h1 : k ≤ k') (h2 : n ≤ n') : Go p l e R s m args below meth c n0 F h k n pc Ls st := fun T locs X eT N => hr T locs (X.more h1 h2) eT N
theorem Cx.size (C : Cx p s m meth c Z n0 own bc maxL ret nm) {T : State} {locs : List Loc} (X : Stand p l e R s m args below meth c T locs k n) : n0 ≤ T.heap.size := Nat.le_trans C.2.2.2.2.2.2.2.2 X.same.2.1
theorem Cx.iloadN (C : Cx p s m meth c Z n0 own bc maxL ret nm) {j : Fin 4} {v : Int32} (hd : decode bc pc = .ok (.iload_n j, 1)) (hp : pc + 1 = pc') (hl : Ls[j.val]? = some (.val (.int v))) (hr : Go p l e R s m args below meth c n0 F h k n pc' Ls (.int v :: st)) : Go p l e R s m args below meth c n0 F h k n pc Ls (st) := by
  subst hp; exact Go.pl (fun T locs X eT t q => XS.iloadN X.here C.1 rfl (hb C.2.2.2.1 hd) hl q) hr
theorem Cx.iload (C : Cx p s m meth c Z n0 own bc maxL ret nm) {j : Nat} {v : Int32} (hd : decode bc pc = .ok (.iload j, 2)) (hp : pc + 2 = pc') (hl : Ls[j]? = some (.val (.int v))) (hr : Go p l e R s m args below meth c n0 F h k n pc' Ls (.int v :: st)) : Go p l e R s m args below meth c n0 F h k n pc Ls (st) := by
  subst hp; exact Go.pl (fun T locs X eT t q => XS.iload X.here C.1 rfl (hb C.2.2.2.1 hd) hl q) hr
theorem Cx.lloadN (C : Cx p s m meth c Z n0 own bc maxL ret nm) {j : Fin 4} {v : Int64} (hd : decode bc pc = .ok (.lload_n j, 1)) (hp : pc + 1 = pc') (hl : Ls[j.val]? = some (.val (.long v))) (hr : Go p l e R s m args below meth c n0 F h k n pc' Ls (.long v :: st)) : Go p l e R s m args below meth c n0 F h k n pc Ls (st) := by
  subst hp; exact Go.pl (fun T locs X eT t q => XT.lloadN X.here C.1 rfl (hb C.2.2.2.1 hd) hl q) hr
theorem Cx.lload (C : Cx p s m meth c Z n0 own bc maxL ret nm) {j : Nat} {v : Int64} (hd : decode bc pc = .ok (.lload j, 2)) (hp : pc + 2 = pc') (hl : Ls[j]? = some (.val (.long v))) (hr : Go p l e R s m args below meth c n0 F h k n pc' Ls (.long v :: st)) : Go p l e R s m args below meth c n0 F h k n pc Ls (st) := by
  subst hp; exact Go.pl (fun T locs X eT t q => XT.lload X.here C.1 rfl (hb C.2.2.2.1 hd) hl q) hr
theorem Cx.aloadN (C : Cx p s m meth c Z n0 own bc maxL ret nm) {j : Fin 4} {v : Value} (hd : decode bc pc = .ok (.aload_n j, 1)) (hp : pc + 1 = pc') (hl : Ls[j.val]? = some (.val v)) (hv : v.isRef = true) (hr : Go p l e R s m args below meth c n0 F h k n pc' Ls (v :: st)) : Go p l e R s m args below meth c n0 F h k n pc Ls (st) := by
  subst hp; exact Go.pl (fun T locs X eT t q => XS.aloadN X.here C.1 rfl (hb C.2.2.2.1 hd) hl hv q) hr
theorem Cx.aload (C : Cx p s m meth c Z n0 own bc maxL ret nm) {j : Nat} {v : Value} (hd : decode bc pc = .ok (.aload j, 2)) (hp : pc + 2 = pc') (hl : Ls[j]? = some (.val v)) (hv : v.isRef = true) (hr : Go p l e R s m args below meth c n0 F h k n pc' Ls (v :: st)) : Go p l e R s m args below meth c n0 F h k n pc Ls (st) := by
  subst hp; exact Go.pl (fun T locs X eT t q => XS.aload X.here C.1 rfl (hb C.2.2.2.1 hd) hl hv q) hr
theorem Cx.istoreN (C : Cx p s m meth c Z n0 own bc maxL ret nm) {j : Fin 4} {v : Int32} {Ls' : Array Slot} (hd : decode bc pc = .ok (.istore_n j, 1)) (hp : pc + 1 = pc') (hl : storeLocals Ls j.val (.int v) = some Ls') (hr : Go p l e R s m args below meth c n0 F h k n pc' Ls' (st)) : Go p l e R s m args below meth c n0 F h k n pc Ls (.int v :: st) := by
  subst hp; exact Go.pl (fun T locs X eT t q => XS.istoreN X.here C.1 rfl (hb C.2.2.2.1 hd) rfl hl q) hr
theorem Cx.istore (C : Cx p s m meth c Z n0 own bc maxL ret nm) {j : Nat} {v : Int32} {Ls' : Array Slot} (hd : decode bc pc = .ok (.istore j, 2)) (hp : pc + 2 = pc') (hl : storeLocals Ls j (.int v) = some Ls') (hr : Go p l e R s m args below meth c n0 F h k n pc' Ls' (st)) : Go p l e R s m args below meth c n0 F h k n pc Ls (.int v :: st) := by
  subst hp; exact Go.pl (fun T locs X eT t q => XS.istore X.here C.1 rfl (hb C.2.2.2.1 hd) rfl hl q) hr
theorem Cx.lstoreN (C : Cx p s m meth c Z n0 own bc maxL ret nm) {j : Fin 4} {v : Int64} {Ls' : Array Slot} (hd : decode bc pc = .ok (.lstore_n j, 1)) (hp : pc + 1 = pc') (hl : storeLocals Ls j.val (.long v) = some Ls') (hr : Go p l e R s m args below meth c n0 F h k n pc' Ls' (st)) : Go p l e R s m args below meth c n0 F h k n pc Ls (.long v :: st) := by
  subst hp; exact Go.pl (fun T locs X eT t q => XT.lstoreN X.here C.1 rfl (hb C.2.2.2.1 hd) rfl hl q) hr
theorem Cx.lstore (C : Cx p s m meth c Z n0 own bc maxL ret nm) {j : Nat} {v : Int64} {Ls' : Array Slot} (hd : decode bc pc = .ok (.lstore j, 2)) (hp : pc + 2 = pc') (hl : storeLocals Ls j (.long v) = some Ls') (hr : Go p l e R s m args below meth c n0 F h k n pc' Ls' (st)) : Go p l e R s m args below meth c n0 F h k n pc Ls (.long v :: st) := by
  subst hp; exact Go.pl (fun T locs X eT t q => XT.lstore X.here C.1 rfl (hb C.2.2.2.1 hd) rfl hl q) hr
theorem Cx.astoreN (C : Cx p s m meth c Z n0 own bc maxL ret nm) {j : Fin 4} {v : Value} {Ls' : Array Slot} (hd : decode bc pc = .ok (.astore_n j, 1)) (hp : pc + 1 = pc') (hv : v.isRef = true) (hl : storeLocals Ls j.val v = some Ls') (hr : Go p l e R s m args below meth c n0 F h k n pc' Ls' (st)) : Go p l e R s m args below meth c n0 F h k n pc Ls (v :: st) := by
  subst hp; exact Go.pl (fun T locs X eT t q => XS.astoreN X.here C.1 rfl (hb C.2.2.2.1 hd) rfl hv hl q) hr
theorem Cx.astore (C : Cx p s m meth c Z n0 own bc maxL ret nm) {j : Nat} {v : Value} {Ls' : Array Slot} (hd : decode bc pc = .ok (.astore j, 2)) (hp : pc + 2 = pc') (hv : v.isRef = true) (hl : storeLocals Ls j v = some Ls') (hr : Go p l e R s m args below meth c n0 F h k n pc' Ls' (st)) : Go p l e R s m args below meth c n0 F h k n pc Ls (v :: st) := by
  subst hp; exact Go.pl (fun T locs X eT t q => XS.astore X.here C.1 rfl (hb C.2.2.2.1 hd) rfl hv hl q) hr
theorem Cx.iconst (C : Cx p s m meth c Z n0 own bc maxL ret nm) {i : Int} (v : Int32) (hd : decode bc pc = .ok (.iconst i, 1)) (hp : pc + 1 = pc') (hv : Int32.ofInt i = v) (hr : Go p l e R s m args below meth c n0 F h k n pc' Ls (.int v :: st)) : Go p l e R s m args below meth c n0 F h k n pc Ls st := by
  subst hp hv; exact Go.pl (fun T locs X eT t q => XS.iconst X.here C.1 rfl (hb C.2.2.2.1 hd) q) hr
theorem Cx.bipush (C : Cx p s m meth c Z n0 own bc maxL ret nm) {i : Int} (v : Int32) (hd : decode bc pc = .ok (.bipush i, 2)) (hp : pc + 2 = pc') (hv : (Int8.ofInt i).toInt32 = v) (hr : Go p l e R s m args below meth c n0 F h k n pc' Ls (.int v :: st)) : Go p l e R s m args below meth c n0 F h k n pc Ls st := by
  subst hp hv; exact Go.pl (fun T locs X eT t q => XS.bipush X.here C.1 rfl (hb C.2.2.2.1 hd) q) hr
theorem Cx.sipush (C : Cx p s m meth c Z n0 own bc maxL ret nm) {i : Int} (v : Int32) (hd : decode bc pc = .ok (.sipush i, 3)) (hp : pc + 3 = pc') (hv : (Int16.ofInt i).toInt32 = v) (hr : Go p l e R s m args below meth c n0 F h k n pc' Ls (.int v :: st)) : Go p l e R s m args below meth c n0 F h k n pc Ls st := by
  subst hp hv; exact Go.pl (fun T locs X eT t q => XS.sipush X.here C.1 rfl (hb C.2.2.2.1 hd) q) hr
theorem Cx.lconst (C : Cx p s m meth c Z n0 own bc maxL ret nm) {i : Fin 2} (v : Int64) (hd : decode bc pc = .ok (.lconst i, 1)) (hp : pc + 1 = pc') (hv : Int64.ofNat i = v) (hr : Go p l e R s m args below meth c n0 F h k n pc' Ls (.long v :: st)) : Go p l e R s m args below meth c n0 F h k n pc Ls st := by
  subst hp hv; exact Go.pl (fun T locs X eT t q => XT.lconst X.here C.1 rfl (hb C.2.2.2.1 hd) q) hr
theorem Cx.aconst_null (C : Cx p s m meth c Z n0 own bc maxL ret nm)  (hd : decode bc pc = .ok (.aconst_null, 1)) (hp : pc + 1 = pc')  (hr : Go p l e R s m args below meth c n0 F h k n pc' Ls (.null :: st)) : Go p l e R s m args below meth c n0 F h k n pc Ls (st) := by
  subst hp; exact Go.pl (fun T locs X eT t q => XS.aconstNull X.here C.1 rfl (hb C.2.2.2.1 hd)  q) hr
theorem Cx.iadd (C : Cx p s m meth c Z n0 own bc maxL ret nm) {x y : Int32} (hd : decode bc pc = .ok (.iadd, 1)) (hp : pc + 1 = pc')  (hr : Go p l e R s m args below meth c n0 F h k n pc' Ls (.int (x + y) :: st)) : Go p l e R s m args below meth c n0 F h k n pc Ls (.int y :: .int x :: st) := by
  subst hp; exact Go.pl (fun T locs X eT t q => XS.iadd X.here C.1 rfl (hb C.2.2.2.1 hd) rfl q) hr
theorem Cx.isub (C : Cx p s m meth c Z n0 own bc maxL ret nm) {x y : Int32} (hd : decode bc pc = .ok (.isub, 1)) (hp : pc + 1 = pc')  (hr : Go p l e R s m args below meth c n0 F h k n pc' Ls (.int (x - y) :: st)) : Go p l e R s m args below meth c n0 F h k n pc Ls (.int y :: .int x :: st) := by
  subst hp; exact Go.pl (fun T locs X eT t q => XS.isub X.here C.1 rfl (hb C.2.2.2.1 hd) rfl q) hr
theorem Cx.imul (C : Cx p s m meth c Z n0 own bc maxL ret nm) {x y : Int32} (hd : decode bc pc = .ok (.imul, 1)) (hp : pc + 1 = pc')  (hr : Go p l e R s m args below meth c n0 F h k n pc' Ls (.int (x * y) :: st)) : Go p l e R s m args below meth c n0 F h k n pc Ls (.int y :: .int x :: st) := by
  subst hp; exact Go.pl (fun T locs X eT t q => XS.imul X.here C.1 rfl (hb C.2.2.2.1 hd) rfl q) hr
theorem Cx.iand (C : Cx p s m meth c Z n0 own bc maxL ret nm) {x y : Int32} (hd : decode bc pc = .ok (.iand, 1)) (hp : pc + 1 = pc')  (hr : Go p l e R s m args below meth c n0 F h k n pc' Ls (.int (x &&& y) :: st)) : Go p l e R s m args below meth c n0 F h k n pc Ls (.int y :: .int x :: st) := by
  subst hp; exact Go.pl (fun T locs X eT t q => XS.iand X.here C.1 rfl (hb C.2.2.2.1 hd) rfl q) hr
theorem Cx.ixor (C : Cx p s m meth c Z n0 own bc maxL ret nm) {x y : Int32} (hd : decode bc pc = .ok (.ixor, 1)) (hp : pc + 1 = pc')  (hr : Go p l e R s m args below meth c n0 F h k n pc' Ls (.int (x ^^^ y) :: st)) : Go p l e R s m args below meth c n0 F h k n pc Ls (.int y :: .int x :: st) := by
  subst hp; exact Go.pl (fun T locs X eT t q => XT.ixor X.here C.1 rfl (hb C.2.2.2.1 hd) rfl q) hr
theorem Cx.ior (C : Cx p s m meth c Z n0 own bc maxL ret nm) {x y : Int32} (hd : decode bc pc = .ok (.ior, 1)) (hp : pc + 1 = pc')  (hr : Go p l e R s m args below meth c n0 F h k n pc' Ls (.int (x ||| y) :: st)) : Go p l e R s m args below meth c n0 F h k n pc Ls (.int y :: .int x :: st) := by
  subst hp; exact Go.pl (fun T locs X eT t q => XT.ior X.here C.1 rfl (hb C.2.2.2.1 hd) rfl q) hr
theorem Cx.ishl (C : Cx p s m meth c Z n0 own bc maxL ret nm) {x y : Int32} (hd : decode bc pc = .ok (.ishl, 1)) (hp : pc + 1 = pc')  (hr : Go p l e R s m args below meth c n0 F h k n pc' Ls (.int (x <<< (y &&& 31)) :: st)) : Go p l e R s m args below meth c n0 F h k n pc Ls (.int y :: .int x :: st) := by
  subst hp; exact Go.pl (fun T locs X eT t q => XT.ishl X.here C.1 rfl (hb C.2.2.2.1 hd) rfl q) hr
theorem Cx.ishr (C : Cx p s m meth c Z n0 own bc maxL ret nm) {x y : Int32} (hd : decode bc pc = .ok (.ishr, 1)) (hp : pc + 1 = pc')  (hr : Go p l e R s m args below meth c n0 F h k n pc' Ls (.int (x >>> (y &&& 31)) :: st)) : Go p l e R s m args below meth c n0 F h k n pc Ls (.int y :: .int x :: st) := by
  subst hp; exact Go.pl (fun T locs X eT t q => XT.ishr X.here C.1 rfl (hb C.2.2.2.1 hd) rfl q) hr
theorem Cx.iushr (C : Cx p s m meth c Z n0 own bc maxL ret nm) {x y : Int32} (hd : decode bc pc = .ok (.iushr, 1)) (hp : pc + 1 = pc')  (hr : Go p l e R s m args below meth c n0 F h k n pc' Ls (.int (XT.ushr x y) :: st)) : Go p l e R s m args below meth c n0 F h k n pc Ls (.int y :: .int x :: st) := by
  subst hp; exact Go.pl (fun T locs X eT t q => XT.iushr X.here C.1 rfl (hb C.2.2.2.1 hd) rfl q) hr
theorem Cx.idiv (C : Cx p s m meth c Z n0 own bc maxL ret nm) {x y : Int32} (hd : decode bc pc = .ok (.idiv, 1)) (hp : pc + 1 = pc') (hy : y ≠ 0) (hr : Go p l e R s m args below meth c n0 F h k n pc' Ls (.int (x / y) :: st)) : Go p l e R s m args below meth c n0 F h k n pc Ls (.int y :: .int x :: st) := by
  subst hp; exact Go.pl (fun T locs X eT t q => XS.idiv X.here C.1 rfl (hb C.2.2.2.1 hd) rfl hy q) hr
theorem Cx.irem (C : Cx p s m meth c Z n0 own bc maxL ret nm) {x y : Int32} (hd : decode bc pc = .ok (.irem, 1)) (hp : pc + 1 = pc') (hy : y ≠ 0) (hr : Go p l e R s m args below meth c n0 F h k n pc' Ls (.int (x % y) :: st)) : Go p l e R s m args below meth c n0 F h k n pc Ls (.int y :: .int x :: st) := by
  subst hp; exact Go.pl (fun T locs X eT t q => iremM X C.1 rfl (hb C.2.2.2.1 hd) rfl hy q) hr
theorem Cx.ineg (C : Cx p s m meth c Z n0 own bc maxL ret nm) {x : Int32} (hd : decode bc pc = .ok (.ineg, 1)) (hp : pc + 1 = pc')  (hr : Go p l e R s m args below meth c n0 F h k n pc' Ls (.int (-x) :: st)) : Go p l e R s m args below meth c n0 F h k n pc Ls (.int x :: st) := by
  subst hp; exact Go.pl (fun T locs X eT t q => XS.ineg X.here C.1 rfl (hb C.2.2.2.1 hd) rfl q) hr
theorem Cx.ladd (C : Cx p s m meth c Z n0 own bc maxL ret nm) {x y : Int64} (hd : decode bc pc = .ok (.ladd, 1)) (hp : pc + 1 = pc')  (hr : Go p l e R s m args below meth c n0 F h k n pc' Ls (.long (x + y) :: st)) : Go p l e R s m args below meth c n0 F h k n pc Ls (.long y :: .long x :: st) := by
  subst hp; exact Go.pl (fun T locs X eT t q => XT.ladd X.here C.1 rfl (hb C.2.2.2.1 hd) rfl q) hr
theorem Cx.lsub (C : Cx p s m meth c Z n0 own bc maxL ret nm) {x y : Int64} (hd : decode bc pc = .ok (.lsub, 1)) (hp : pc + 1 = pc')  (hr : Go p l e R s m args below meth c n0 F h k n pc' Ls (.long (x - y) :: st)) : Go p l e R s m args below meth c n0 F h k n pc Ls (.long y :: .long x :: st) := by
  subst hp; exact Go.pl (fun T locs X eT t q => XT.lsub X.here C.1 rfl (hb C.2.2.2.1 hd) rfl q) hr
theorem Cx.lmul (C : Cx p s m meth c Z n0 own bc maxL ret nm) {x y : Int64} (hd : decode bc pc = .ok (.lmul, 1)) (hp : pc + 1 = pc')  (hr : Go p l e R s m args below meth c n0 F h k n pc' Ls (.long (x * y) :: st)) : Go p l e R s m args below meth c n0 F h k n pc Ls (.long y :: .long x :: st) := by
  subst hp; exact Go.pl (fun T locs X eT t q => XT.lmul X.here C.1 rfl (hb C.2.2.2.1 hd) rfl q) hr
theorem Cx.land (C : Cx p s m meth c Z n0 own bc maxL ret nm) {x y : Int64} (hd : decode bc pc = .ok (.land, 1)) (hp : pc + 1 = pc')  (hr : Go p l e R s m args below meth c n0 F h k n pc' Ls (.long (x &&& y) :: st)) : Go p l e R s m args below meth c n0 F h k n pc Ls (.long y :: .long x :: st) := by
  subst hp; exact Go.pl (fun T locs X eT t q => XT.land X.here C.1 rfl (hb C.2.2.2.1 hd) rfl q) hr
theorem Cx.lor (C : Cx p s m meth c Z n0 own bc maxL ret nm) {x y : Int64} (hd : decode bc pc = .ok (.lor, 1)) (hp : pc + 1 = pc')  (hr : Go p l e R s m args below meth c n0 F h k n pc' Ls (.long (x ||| y) :: st)) : Go p l e R s m args below meth c n0 F h k n pc Ls (.long y :: .long x :: st) := by
  subst hp; exact Go.pl (fun T locs X eT t q => XT.lor X.here C.1 rfl (hb C.2.2.2.1 hd) rfl q) hr
theorem Cx.lxor (C : Cx p s m meth c Z n0 own bc maxL ret nm) {x y : Int64} (hd : decode bc pc = .ok (.lxor, 1)) (hp : pc + 1 = pc')  (hr : Go p l e R s m args below meth c n0 F h k n pc' Ls (.long (x ^^^ y) :: st)) : Go p l e R s m args below meth c n0 F h k n pc Ls (.long y :: .long x :: st) := by
  subst hp; exact Go.pl (fun T locs X eT t q => XT.lxor X.here C.1 rfl (hb C.2.2.2.1 hd) rfl q) hr
theorem Cx.ldiv (C : Cx p s m meth c Z n0 own bc maxL ret nm) {x y : Int64} (hd : decode bc pc = .ok (.ldiv, 1)) (hp : pc + 1 = pc') (hy : y ≠ 0) (hr : Go p l e R s m args below meth c n0 F h k n pc' Ls (.long (x / y) :: st)) : Go p l e R s m args below meth c n0 F h k n pc Ls (.long y :: .long x :: st) := by
  subst hp; exact Go.pl (fun T locs X eT t q => XT.ldiv X.here C.1 rfl (hb C.2.2.2.1 hd) rfl hy q) hr
theorem Cx.lrem (C : Cx p s m meth c Z n0 own bc maxL ret nm) {x y : Int64} (hd : decode bc pc = .ok (.lrem, 1)) (hp : pc + 1 = pc') (hy : y ≠ 0) (hr : Go p l e R s m args below meth c n0 F h k n pc' Ls (.long (x - (x / y) * y) :: st)) : Go p l e R s m args below meth c n0 F h k n pc Ls (.long y :: .long x :: st) := by
  subst hp; exact Go.pl (fun T locs X eT t q => XT.lrem X.here C.1 rfl (hb C.2.2.2.1 hd) rfl hy q) hr
theorem Cx.lshl (C : Cx p s m meth c Z n0 own bc maxL ret nm) {x : Int64} {y : Int32} (hd : decode bc pc = .ok (.lshl, 1)) (hp : pc + 1 = pc')  (hr : Go p l e R s m args below meth c n0 F h k n pc' Ls (.long (x <<< (y.toInt64 &&& 63)) :: st)) : Go p l e R s m args below meth c n0 F h k n pc Ls (.int y :: .long x :: st) := by
  subst hp; exact Go.pl (fun T locs X eT t q => XT.lshl X.here C.1 rfl (hb C.2.2.2.1 hd) rfl q) hr
theorem Cx.lshr (C : Cx p s m meth c Z n0 own bc maxL ret nm) {x : Int64} {y : Int32} (hd : decode bc pc = .ok (.lshr, 1)) (hp : pc + 1 = pc')  (hr : Go p l e R s m args below meth c n0 F h k n pc' Ls (.long (x >>> (y.toInt64 &&& 63)) :: st)) : Go p l e R s m args below meth c n0 F h k n pc Ls (.int y :: .long x :: st) := by
  subst hp; exact Go.pl (fun T locs X eT t q => XT.lshr X.here C.1 rfl (hb C.2.2.2.1 hd) rfl q) hr
theorem Cx.lushr (C : Cx p s m meth c Z n0 own bc maxL ret nm) {x : Int64} {y : Int32} (hd : decode bc pc = .ok (.lushr, 1)) (hp : pc + 1 = pc')  (hr : Go p l e R s m args below meth c n0 F h k n pc' Ls (.long (XT.ushrL x y) :: st)) : Go p l e R s m args below meth c n0 F h k n pc Ls (.int y :: .long x :: st) := by
  subst hp; exact Go.pl (fun T locs X eT t q => XT.lushr X.here C.1 rfl (hb C.2.2.2.1 hd) rfl q) hr
theorem Cx.lneg (C : Cx p s m meth c Z n0 own bc maxL ret nm) {x : Int64} (hd : decode bc pc = .ok (.lneg, 1)) (hp : pc + 1 = pc')  (hr : Go p l e R s m args below meth c n0 F h k n pc' Ls (.long (-x) :: st)) : Go p l e R s m args below meth c n0 F h k n pc Ls (.long x :: st) := by
  subst hp; exact Go.pl (fun T locs X eT t q => XT.lneg X.here C.1 rfl (hb C.2.2.2.1 hd) rfl q) hr
theorem Cx.i2l (C : Cx p s m meth c Z n0 own bc maxL ret nm) {x : Int32} (hd : decode bc pc = .ok (.i2l, 1)) (hp : pc + 1 = pc')  (hr : Go p l e R s m args below meth c n0 F h k n pc' Ls (.long x.toInt64 :: st)) : Go p l e R s m args below meth c n0 F h k n pc Ls (.int x :: st) := by
  subst hp; exact Go.pl (fun T locs X eT t q => XT.i2l X.here C.1 rfl (hb C.2.2.2.1 hd) rfl q) hr
theorem Cx.l2i (C : Cx p s m meth c Z n0 own bc maxL ret nm) {x : Int64} (hd : decode bc pc = .ok (.l2i, 1)) (hp : pc + 1 = pc')  (hr : Go p l e R s m args below meth c n0 F h k n pc' Ls (.int x.toInt32 :: st)) : Go p l e R s m args below meth c n0 F h k n pc Ls (.long x :: st) := by
  subst hp; exact Go.pl (fun T locs X eT t q => XT.l2i X.here C.1 rfl (hb C.2.2.2.1 hd) rfl q) hr
theorem Cx.i2b (C : Cx p s m meth c Z n0 own bc maxL ret nm) {x : Int32} (hd : decode bc pc = .ok (.i2b, 1)) (hp : pc + 1 = pc')  (hr : Go p l e R s m args below meth c n0 F h k n pc' Ls (.int x.toInt8.toInt32 :: st)) : Go p l e R s m args below meth c n0 F h k n pc Ls (.int x :: st) := by
  subst hp; exact Go.pl (fun T locs X eT t q => XT.i2b X.here C.1 rfl (hb C.2.2.2.1 hd) rfl q) hr
theorem Cx.i2c (C : Cx p s m meth c Z n0 own bc maxL ret nm) {x : Int32} (hd : decode bc pc = .ok (.i2c, 1)) (hp : pc + 1 = pc')  (hr : Go p l e R s m args below meth c n0 F h k n pc' Ls (.int x.toUInt32.toUInt16.toUInt32.toInt32 :: st)) : Go p l e R s m args below meth c n0 F h k n pc Ls (.int x :: st) := by
  subst hp; exact Go.pl (fun T locs X eT t q => XT.i2c X.here C.1 rfl (hb C.2.2.2.1 hd) rfl q) hr
theorem Cx.lcmp (C : Cx p s m meth c Z n0 own bc maxL ret nm) {x y : Int64} (hd : decode bc pc = .ok (.lcmp, 1)) (hp : pc + 1 = pc')  (hr : Go p l e R s m args below meth c n0 F h k n pc' Ls (.int (XT.cmpL x y) :: st)) : Go p l e R s m args below meth c n0 F h k n pc Ls (.long y :: .long x :: st) := by
  subst hp; exact Go.pl (fun T locs X eT t q => XT.lcmp X.here C.1 rfl (hb C.2.2.2.1 hd) rfl q) hr
theorem Cx.iinc (C : Cx p s m meth c Z n0 own bc maxL ret nm) {j : Nat} {i : Int} {x : Int32} {Ls' : Array Slot} (v : Int32) (hd : decode bc pc = .ok (.iinc j i, 3)) (hp : pc + 3 = pc') (hv : Int32.ofInt i = v) (hl : Ls[j]? = some (.val (.int x))) (hl' : storeLocals Ls j (.int (x + v)) = some Ls') (hr : Go p l e R s m args below meth c n0 F h k n pc' Ls' st) : Go p l e R s m args below meth c n0 F h k n pc Ls st := by
  subst hp hv; exact Go.pl (fun T locs X eT t q => XS.iinc X.here C.1 rfl (hb C.2.2.2.1 hd) hl hl' q) hr
theorem Cx.dup (C : Cx p s m meth c Z n0 own bc maxL ret nm) {x : Value} (hd : decode bc pc = .ok (.dup, 1)) (hp : pc + 1 = pc') (hc : x.category = 1) (hr : Go p l e R s m args below meth c n0 F h k n pc' Ls (x :: x :: st)) : Go p l e R s m args below meth c n0 F h k n pc Ls (x :: st) := by
  subst hp; exact Go.pl (fun T locs X eT t q => XS.dup X.here C.1 rfl (hb C.2.2.2.1 hd) rfl hc q) hr
theorem Cx.pop (C : Cx p s m meth c Z n0 own bc maxL ret nm) {x : Value} (hd : decode bc pc = .ok (.pop, 1)) (hp : pc + 1 = pc') (hc : x.category = 1) (hr : Go p l e R s m args below meth c n0 F h k n pc' Ls (st)) : Go p l e R s m args below meth c n0 F h k n pc Ls (x :: st) := by
  subst hp; exact Go.pl (fun T locs X eT t q => XT.pop X.here C.1 rfl (hb C.2.2.2.1 hd) rfl hc q) hr
theorem Cx.dupX1 (C : Cx p s m meth c Z n0 own bc maxL ret nm) {x y : Value} (hd : decode bc pc = .ok (.dup_x1, 1)) (hp : pc + 1 = pc') (hc : x.category = 1) (hc' : y.category = 1) (hr : Go p l e R s m args below meth c n0 F h k n pc' Ls (x :: y :: x :: st)) : Go p l e R s m args below meth c n0 F h k n pc Ls (x :: y :: st) := by
  subst hp; exact Go.pl (fun T locs X eT t q => XT.dupX1 X.here C.1 rfl (hb C.2.2.2.1 hd) rfl hc hc' q) hr
theorem Cx.dup2 (C : Cx p s m meth c Z n0 own bc maxL ret nm) {x y : Value} (hd : decode bc pc = .ok (.dup2, 1)) (hp : pc + 1 = pc') (hc : x.category = 1) (hc' : y.category = 1) (hr : Go p l e R s m args below meth c n0 F h k n pc' Ls (x :: y :: x :: y :: st)) : Go p l e R s m args below meth c n0 F h k n pc Ls (x :: y :: st) := by
  subst hp; exact Go.pl (fun T locs X eT t q => XT.dup2 X.here C.1 rfl (hb C.2.2.2.1 hd) rfl hc hc' q) hr
theorem Cx.dup2L (C : Cx p s m meth c Z n0 own bc maxL ret nm) {x : Int64} (hd : decode bc pc = .ok (.dup2, 1)) (hp : pc + 1 = pc')  (hr : Go p l e R s m args below meth c n0 F h k n pc' Ls (.long x :: .long x :: st)) : Go p l e R s m args below meth c n0 F h k n pc Ls (.long x :: st) := by
  subst hp; exact Go.pl (fun T locs X eT t q => XT.dup2L X.here C.1 rfl (hb C.2.2.2.1 hd) rfl q) hr
theorem Cx.goto (C : Cx p s m meth c Z n0 own bc maxL ret nm) {o : Int} (hd : decode bc pc = .ok (.goto o, 3)) (ho : 0 ≤ (pc : Int) + o) (hp : ((pc : Int) + o).toNat = pc') (hr : Go p l e R s m args below meth c n0 F h k n pc' Ls st) : Go p l e R s m args below meth c n0 F h k n pc Ls st := by
  exact Go.pl (fun T locs X eT t q => XS.goto X.here C.1 rfl rfl (hb C.2.2.2.1 hd) ho hp q) hr
theorem Cx.if_eq_t (C : Cx p s m meth c Z n0 own bc maxL ret nm) {x : Int32} {o : Int} (hd : decode bc pc = .ok (.ifCond .eq o, 3)) (ho : 0 ≤ (pc : Int) + o) (hp : ((pc : Int) + o).toNat = pc') (hq : x = 0) (hr : Go p l e R s m args below meth c n0 F h k n pc' Ls st) : Go p l e R s m args below meth c n0 F h k n pc Ls (.int x :: st) :=
  Go.pl (fun T locs X eT t q => XS.ifYes X.here C.1 rfl rfl (hb C.2.2.2.1 hd) rfl (XT.i0_eq_t hq) ho hp q) hr
theorem Cx.if_eq_f (C : Cx p s m meth c Z n0 own bc maxL ret nm) {x : Int32} {o : Int} (hd : decode bc pc = .ok (.ifCond .eq o, 3)) (hp : pc + 3 = pc') (hq : ¬ x = 0) (hr : Go p l e R s m args below meth c n0 F h k n pc' Ls st) : Go p l e R s m args below meth c n0 F h k n pc Ls (.int x :: st) := by
  subst hp; exact Go.pl (fun T locs X eT t q => XS.ifNo X.here C.1 rfl (hb C.2.2.2.1 hd) rfl (XT.i0_eq_f hq) q) hr
theorem Cx.if_eq (C : Cx p s m meth c Z n0 own bc maxL ret nm) {x : Int32} {o : Int} {pc'' : Nat} (hd : decode bc pc = .ok (.ifCond .eq o, 3)) (ho : 0 ≤ (pc : Int) + o) (hp : ((pc : Int) + o).toNat = pc') (hp' : pc + 3 = pc'') (hy : x = 0 → Go p l e R s m args below meth c n0 F h k n pc' Ls st) (hn : ¬ x = 0 → Go p l e R s m args below meth c n0 F h k n pc'' Ls st) : Go p l e R s m args below meth c n0 F h k n pc Ls (.int x :: st) := by
  by_cases q : x = 0
  · exact C.if_eq_t hd ho hp q (hy q)
  · exact C.if_eq_f hd hp' q (hn q)
theorem Cx.icmp_eq_t (C : Cx p s m meth c Z n0 own bc maxL ret nm) {x y : Int32} {o : Int} (hd : decode bc pc = .ok (.if_icmp .eq o, 3)) (ho : 0 ≤ (pc : Int) + o) (hp : ((pc : Int) + o).toNat = pc') (hq : x = y) (hr : Go p l e R s m args below meth c n0 F h k n pc' Ls st) : Go p l e R s m args below meth c n0 F h k n pc Ls (.int y :: .int x :: st) :=
  Go.pl (fun T locs X eT t q => XS.icmpYes X.here C.1 rfl rfl (hb C.2.2.2.1 hd) rfl (XT.ii_eq_t hq) ho hp q) hr
theorem Cx.icmp_eq_f (C : Cx p s m meth c Z n0 own bc maxL ret nm) {x y : Int32} {o : Int} (hd : decode bc pc = .ok (.if_icmp .eq o, 3)) (hp : pc + 3 = pc') (hq : ¬ x = y) (hr : Go p l e R s m args below meth c n0 F h k n pc' Ls st) : Go p l e R s m args below meth c n0 F h k n pc Ls (.int y :: .int x :: st) := by
  subst hp; exact Go.pl (fun T locs X eT t q => XS.icmpNo X.here C.1 rfl (hb C.2.2.2.1 hd) rfl (XT.ii_eq_f hq) q) hr
theorem Cx.icmp_eq (C : Cx p s m meth c Z n0 own bc maxL ret nm) {x y : Int32} {o : Int} {pc'' : Nat} (hd : decode bc pc = .ok (.if_icmp .eq o, 3)) (ho : 0 ≤ (pc : Int) + o) (hp : ((pc : Int) + o).toNat = pc') (hp' : pc + 3 = pc'') (hy : x = y → Go p l e R s m args below meth c n0 F h k n pc' Ls st) (hn : ¬ x = y → Go p l e R s m args below meth c n0 F h k n pc'' Ls st) : Go p l e R s m args below meth c n0 F h k n pc Ls (.int y :: .int x :: st) := by
  by_cases q : x = y
  · exact C.icmp_eq_t hd ho hp q (hy q)
  · exact C.icmp_eq_f hd hp' q (hn q)
theorem Cx.lif_eq_t (C : Cx p s m meth c Z n0 own bc maxL ret nm) {x y : Int64} {o : Int} (hd : decode bc pc = .ok (.ifCond .eq o, 3)) (ho : 0 ≤ (pc : Int) + o) (hp : ((pc : Int) + o).toNat = pc') (hq : x = y) (hr : Go p l e R s m args below meth c n0 F h k n pc' Ls st) : Go p l e R s m args below meth c n0 F h k n pc Ls (.int (XT.cmpL x y) :: st) :=
  Go.pl (fun T locs X eT t q => XS.ifYes X.here C.1 rfl rfl (hb C.2.2.2.1 hd) rfl (XT.ll_eq_t hq) ho hp q) hr
theorem Cx.lif_eq_f (C : Cx p s m meth c Z n0 own bc maxL ret nm) {x y : Int64} {o : Int} (hd : decode bc pc = .ok (.ifCond .eq o, 3)) (hp : pc + 3 = pc') (hq : ¬ x = y) (hr : Go p l e R s m args below meth c n0 F h k n pc' Ls st) : Go p l e R s m args below meth c n0 F h k n pc Ls (.int (XT.cmpL x y) :: st) := by
  subst hp; exact Go.pl (fun T locs X eT t q => XS.ifNo X.here C.1 rfl (hb C.2.2.2.1 hd) rfl (XT.ll_eq_f hq) q) hr
theorem Cx.lif_eq (C : Cx p s m meth c Z n0 own bc maxL ret nm) {x y : Int64} {o : Int} {pc'' : Nat} (hd : decode bc pc = .ok (.ifCond .eq o, 3)) (ho : 0 ≤ (pc : Int) + o) (hp : ((pc : Int) + o).toNat = pc') (hp' : pc + 3 = pc'') (hy : x = y → Go p l e R s m args below meth c n0 F h k n pc' Ls st) (hn : ¬ x = y → Go p l e R s m args below meth c n0 F h k n pc'' Ls st) : Go p l e R s m args below meth c n0 F h k n pc Ls (.int (XT.cmpL x y) :: st) := by
  by_cases q : x = y
  · exact C.lif_eq_t hd ho hp q (hy q)
  · exact C.lif_eq_f hd hp' q (hn q)
theorem Cx.if_ne_t (C : Cx p s m meth c Z n0 own bc maxL ret nm) {x : Int32} {o : Int} (hd : decode bc pc = .ok (.ifCond .ne o, 3)) (ho : 0 ≤ (pc : Int) + o) (hp : ((pc : Int) + o).toNat = pc') (hq : ¬ x = 0) (hr : Go p l e R s m args below meth c n0 F h k n pc' Ls st) : Go p l e R s m args below meth c n0 F h k n pc Ls (.int x :: st) :=
  Go.pl (fun T locs X eT t q => XS.ifYes X.here C.1 rfl rfl (hb C.2.2.2.1 hd) rfl (XT.i0_ne_t hq) ho hp q) hr
theorem Cx.if_ne_f (C : Cx p s m meth c Z n0 own bc maxL ret nm) {x : Int32} {o : Int} (hd : decode bc pc = .ok (.ifCond .ne o, 3)) (hp : pc + 3 = pc') (hq : x = 0) (hr : Go p l e R s m args below meth c n0 F h k n pc' Ls st) : Go p l e R s m args below meth c n0 F h k n pc Ls (.int x :: st) := by
  subst hp; exact Go.pl (fun T locs X eT t q => XS.ifNo X.here C.1 rfl (hb C.2.2.2.1 hd) rfl (XT.i0_ne_f hq) q) hr
theorem Cx.if_ne (C : Cx p s m meth c Z n0 own bc maxL ret nm) {x : Int32} {o : Int} {pc'' : Nat} (hd : decode bc pc = .ok (.ifCond .ne o, 3)) (ho : 0 ≤ (pc : Int) + o) (hp : ((pc : Int) + o).toNat = pc') (hp' : pc + 3 = pc'') (hy : ¬ x = 0 → Go p l e R s m args below meth c n0 F h k n pc' Ls st) (hn : x = 0 → Go p l e R s m args below meth c n0 F h k n pc'' Ls st) : Go p l e R s m args below meth c n0 F h k n pc Ls (.int x :: st) := by
  by_cases q : x = 0
  · exact C.if_ne_f hd hp' q (hn q)
  · exact C.if_ne_t hd ho hp q (hy q)
theorem Cx.icmp_ne_t (C : Cx p s m meth c Z n0 own bc maxL ret nm) {x y : Int32} {o : Int} (hd : decode bc pc = .ok (.if_icmp .ne o, 3)) (ho : 0 ≤ (pc : Int) + o) (hp : ((pc : Int) + o).toNat = pc') (hq : ¬ x = y) (hr : Go p l e R s m args below meth c n0 F h k n pc' Ls st) : Go p l e R s m args below meth c n0 F h k n pc Ls (.int y :: .int x :: st) :=
  Go.pl (fun T locs X eT t q => XS.icmpYes X.here C.1 rfl rfl (hb C.2.2.2.1 hd) rfl (XT.ii_ne_t hq) ho hp q) hr
theorem Cx.icmp_ne_f (C : Cx p s m meth c Z n0 own bc maxL ret nm) {x y : Int32} {o : Int} (hd : decode bc pc = .ok (.if_icmp .ne o, 3)) (hp : pc + 3 = pc') (hq : x = y) (hr : Go p l e R s m args below meth c n0 F h k n pc' Ls st) : Go p l e R s m args below meth c n0 F h k n pc Ls (.int y :: .int x :: st) := by
  subst hp; exact Go.pl (fun T locs X eT t q => XS.icmpNo X.here C.1 rfl (hb C.2.2.2.1 hd) rfl (XT.ii_ne_f hq) q) hr
theorem Cx.icmp_ne (C : Cx p s m meth c Z n0 own bc maxL ret nm) {x y : Int32} {o : Int} {pc'' : Nat} (hd : decode bc pc = .ok (.if_icmp .ne o, 3)) (ho : 0 ≤ (pc : Int) + o) (hp : ((pc : Int) + o).toNat = pc') (hp' : pc + 3 = pc'') (hy : ¬ x = y → Go p l e R s m args below meth c n0 F h k n pc' Ls st) (hn : x = y → Go p l e R s m args below meth c n0 F h k n pc'' Ls st) : Go p l e R s m args below meth c n0 F h k n pc Ls (.int y :: .int x :: st) := by
  by_cases q : x = y
  · exact C.icmp_ne_f hd hp' q (hn q)
  · exact C.icmp_ne_t hd ho hp q (hy q)
theorem Cx.lif_ne_t (C : Cx p s m meth c Z n0 own bc maxL ret nm) {x y : Int64} {o : Int} (hd : decode bc pc = .ok (.ifCond .ne o, 3)) (ho : 0 ≤ (pc : Int) + o) (hp : ((pc : Int) + o).toNat = pc') (hq : ¬ x = y) (hr : Go p l e R s m args below meth c n0 F h k n pc' Ls st) : Go p l e R s m args below meth c n0 F h k n pc Ls (.int (XT.cmpL x y) :: st) :=
  Go.pl (fun T locs X eT t q => XS.ifYes X.here C.1 rfl rfl (hb C.2.2.2.1 hd) rfl (XT.ll_ne_t hq) ho hp q) hr
theorem Cx.lif_ne_f (C : Cx p s m meth c Z n0 own bc maxL ret nm) {x y : Int64} {o : Int} (hd : decode bc pc = .ok (.ifCond .ne o, 3)) (hp : pc + 3 = pc') (hq : x = y) (hr : Go p l e R s m args below meth c n0 F h k n pc' Ls st) : Go p l e R s m args below meth c n0 F h k n pc Ls (.int (XT.cmpL x y) :: st) := by
  subst hp; exact Go.pl (fun T locs X eT t q => XS.ifNo X.here C.1 rfl (hb C.2.2.2.1 hd) rfl (XT.ll_ne_f hq) q) hr
theorem Cx.lif_ne (C : Cx p s m meth c Z n0 own bc maxL ret nm) {x y : Int64} {o : Int} {pc'' : Nat} (hd : decode bc pc = .ok (.ifCond .ne o, 3)) (ho : 0 ≤ (pc : Int) + o) (hp : ((pc : Int) + o).toNat = pc') (hp' : pc + 3 = pc'') (hy : ¬ x = y → Go p l e R s m args below meth c n0 F h k n pc' Ls st) (hn : x = y → Go p l e R s m args below meth c n0 F h k n pc'' Ls st) : Go p l e R s m args below meth c n0 F h k n pc Ls (.int (XT.cmpL x y) :: st) := by
  by_cases q : x = y
  · exact C.lif_ne_f hd hp' q (hn q)
  · exact C.lif_ne_t hd ho hp q (hy q)
theorem Cx.if_lt_t (C : Cx p s m meth c Z n0 own bc maxL ret nm) {x : Int32} {o : Int} (hd : decode bc pc = .ok (.ifCond .lt o, 3)) (ho : 0 ≤ (pc : Int) + o) (hp : ((pc : Int) + o).toNat = pc') (hq : x < 0) (hr : Go p l e R s m args below meth c n0 F h k n pc' Ls st) : Go p l e R s m args below meth c n0 F h k n pc Ls (.int x :: st) :=
  Go.pl (fun T locs X eT t q => XS.ifYes X.here C.1 rfl rfl (hb C.2.2.2.1 hd) rfl (XT.i0_lt_t hq) ho hp q) hr
theorem Cx.if_lt_f (C : Cx p s m meth c Z n0 own bc maxL ret nm) {x : Int32} {o : Int} (hd : decode bc pc = .ok (.ifCond .lt o, 3)) (hp : pc + 3 = pc') (hq : ¬ x < 0) (hr : Go p l e R s m args below meth c n0 F h k n pc' Ls st) : Go p l e R s m args below meth c n0 F h k n pc Ls (.int x :: st) := by
  subst hp; exact Go.pl (fun T locs X eT t q => XS.ifNo X.here C.1 rfl (hb C.2.2.2.1 hd) rfl (XT.i0_lt_f hq) q) hr
theorem Cx.if_lt (C : Cx p s m meth c Z n0 own bc maxL ret nm) {x : Int32} {o : Int} {pc'' : Nat} (hd : decode bc pc = .ok (.ifCond .lt o, 3)) (ho : 0 ≤ (pc : Int) + o) (hp : ((pc : Int) + o).toNat = pc') (hp' : pc + 3 = pc'') (hy : x < 0 → Go p l e R s m args below meth c n0 F h k n pc' Ls st) (hn : ¬ x < 0 → Go p l e R s m args below meth c n0 F h k n pc'' Ls st) : Go p l e R s m args below meth c n0 F h k n pc Ls (.int x :: st) := by
  by_cases q : x < 0
  · exact C.if_lt_t hd ho hp q (hy q)
  · exact C.if_lt_f hd hp' q (hn q)
theorem Cx.icmp_lt_t (C : Cx p s m meth c Z n0 own bc maxL ret nm) {x y : Int32} {o : Int} (hd : decode bc pc = .ok (.if_icmp .lt o, 3)) (ho : 0 ≤ (pc : Int) + o) (hp : ((pc : Int) + o).toNat = pc') (hq : x < y) (hr : Go p l e R s m args below meth c n0 F h k n pc' Ls st) : Go p l e R s m args below meth c n0 F h k n pc Ls (.int y :: .int x :: st) :=
  Go.pl (fun T locs X eT t q => XS.icmpYes X.here C.1 rfl rfl (hb C.2.2.2.1 hd) rfl (XT.ii_lt_t hq) ho hp q) hr
theorem Cx.icmp_lt_f (C : Cx p s m meth c Z n0 own bc maxL ret nm) {x y : Int32} {o : Int} (hd : decode bc pc = .ok (.if_icmp .lt o, 3)) (hp : pc + 3 = pc') (hq : ¬ x < y) (hr : Go p l e R s m args below meth c n0 F h k n pc' Ls st) : Go p l e R s m args below meth c n0 F h k n pc Ls (.int y :: .int x :: st) := by
  subst hp; exact Go.pl (fun T locs X eT t q => XS.icmpNo X.here C.1 rfl (hb C.2.2.2.1 hd) rfl (XT.ii_lt_f hq) q) hr
theorem Cx.icmp_lt (C : Cx p s m meth c Z n0 own bc maxL ret nm) {x y : Int32} {o : Int} {pc'' : Nat} (hd : decode bc pc = .ok (.if_icmp .lt o, 3)) (ho : 0 ≤ (pc : Int) + o) (hp : ((pc : Int) + o).toNat = pc') (hp' : pc + 3 = pc'') (hy : x < y → Go p l e R s m args below meth c n0 F h k n pc' Ls st) (hn : ¬ x < y → Go p l e R s m args below meth c n0 F h k n pc'' Ls st) : Go p l e R s m args below meth c n0 F h k n pc Ls (.int y :: .int x :: st) := by
  by_cases q : x < y
  · exact C.icmp_lt_t hd ho hp q (hy q)
  · exact C.icmp_lt_f hd hp' q (hn q)
theorem Cx.lif_lt_t (C : Cx p s m meth c Z n0 own bc maxL ret nm) {x y : Int64} {o : Int} (hd : decode bc pc = .ok (.ifCond .lt o, 3)) (ho : 0 ≤ (pc : Int) + o) (hp : ((pc : Int) + o).toNat = pc') (hq : x < y) (hr : Go p l e R s m args below meth c n0 F h k n pc' Ls st) : Go p l e R s m args below meth c n0 F h k n pc Ls (.int (XT.cmpL x y) :: st) :=
  Go.pl (fun T locs X eT t q => XS.ifYes X.here C.1 rfl rfl (hb C.2.2.2.1 hd) rfl (XT.ll_lt_t hq) ho hp q) hr
theorem Cx.lif_lt_f (C : Cx p s m meth c Z n0 own bc maxL ret nm) {x y : Int64} {o : Int} (hd : decode bc pc = .ok (.ifCond .lt o, 3)) (hp : pc + 3 = pc') (hq : ¬ x < y) (hr : Go p l e R s m args below meth c n0 F h k n pc' Ls st) : Go p l e R s m args below meth c n0 F h k n pc Ls (.int (XT.cmpL x y) :: st) := by
  subst hp; exact Go.pl (fun T locs X eT t q => XS.ifNo X.here C.1 rfl (hb C.2.2.2.1 hd) rfl (XT.ll_lt_f hq) q) hr
theorem Cx.lif_lt (C : Cx p s m meth c Z n0 own bc maxL ret nm) {x y : Int64} {o : Int} {pc'' : Nat} (hd : decode bc pc = .ok (.ifCond .lt o, 3)) (ho : 0 ≤ (pc : Int) + o) (hp : ((pc : Int) + o).toNat = pc') (hp' : pc + 3 = pc'') (hy : x < y → Go p l e R s m args below meth c n0 F h k n pc' Ls st) (hn : ¬ x < y → Go p l e R s m args below meth c n0 F h k n pc'' Ls st) : Go p l e R s m args below meth c n0 F h k n pc Ls (.int (XT.cmpL x y) :: st) := by
  by_cases q : x < y
  · exact C.lif_lt_t hd ho hp q (hy q)
  · exact C.lif_lt_f hd hp' q (hn q)
theorem Cx.if_ge_t (C : Cx p s m meth c Z n0 own bc maxL ret nm) {x : Int32} {o : Int} (hd : decode bc pc = .ok (.ifCond .ge o, 3)) (ho : 0 ≤ (pc : Int) + o) (hp : ((pc : Int) + o).toNat = pc') (hq : ¬ x < 0) (hr : Go p l e R s m args below meth c n0 F h k n pc' Ls st) : Go p l e R s m args below meth c n0 F h k n pc Ls (.int x :: st) :=
  Go.pl (fun T locs X eT t q => XS.ifYes X.here C.1 rfl rfl (hb C.2.2.2.1 hd) rfl (XT.i0_ge_t hq) ho hp q) hr
theorem Cx.if_ge_f (C : Cx p s m meth c Z n0 own bc maxL ret nm) {x : Int32} {o : Int} (hd : decode bc pc = .ok (.ifCond .ge o, 3)) (hp : pc + 3 = pc') (hq : x < 0) (hr : Go p l e R s m args below meth c n0 F h k n pc' Ls st) : Go p l e R s m args below meth c n0 F h k n pc Ls (.int x :: st) := by
  subst hp; exact Go.pl (fun T locs X eT t q => XS.ifNo X.here C.1 rfl (hb C.2.2.2.1 hd) rfl (XT.i0_ge_f hq) q) hr
theorem Cx.if_ge (C : Cx p s m meth c Z n0 own bc maxL ret nm) {x : Int32} {o : Int} {pc'' : Nat} (hd : decode bc pc = .ok (.ifCond .ge o, 3)) (ho : 0 ≤ (pc : Int) + o) (hp : ((pc : Int) + o).toNat = pc') (hp' : pc + 3 = pc'') (hy : ¬ x < 0 → Go p l e R s m args below meth c n0 F h k n pc' Ls st) (hn : x < 0 → Go p l e R s m args below meth c n0 F h k n pc'' Ls st) : Go p l e R s m args below meth c n0 F h k n pc Ls (.int x :: st) := by
  by_cases q : x < 0
  · exact C.if_ge_f hd hp' q (hn q)
  · exact C.if_ge_t hd ho hp q (hy q)
theorem Cx.icmp_ge_t (C : Cx p s m meth c Z n0 own bc maxL ret nm) {x y : Int32} {o : Int} (hd : decode bc pc = .ok (.if_icmp .ge o, 3)) (ho : 0 ≤ (pc : Int) + o) (hp : ((pc : Int) + o).toNat = pc') (hq : ¬ x < y) (hr : Go p l e R s m args below meth c n0 F h k n pc' Ls st) : Go p l e R s m args below meth c n0 F h k n pc Ls (.int y :: .int x :: st) :=
  Go.pl (fun T locs X eT t q => XS.icmpYes X.here C.1 rfl rfl (hb C.2.2.2.1 hd) rfl (XT.ii_ge_t hq) ho hp q) hr
theorem Cx.icmp_ge_f (C : Cx p s m meth c Z n0 own bc maxL ret nm) {x y : Int32} {o : Int} (hd : decode bc pc = .ok (.if_icmp .ge o, 3)) (hp : pc + 3 = pc') (hq : x < y) (hr : Go p l e R s m args below meth c n0 F h k n pc' Ls st) : Go p l e R s m args below meth c n0 F h k n pc Ls (.int y :: .int x :: st) := by
  subst hp; exact Go.pl (fun T locs X eT t q => XS.icmpNo X.here C.1 rfl (hb C.2.2.2.1 hd) rfl (XT.ii_ge_f hq) q) hr
theorem Cx.icmp_ge (C : Cx p s m meth c Z n0 own bc maxL ret nm) {x y : Int32} {o : Int} {pc'' : Nat} (hd : decode bc pc = .ok (.if_icmp .ge o, 3)) (ho : 0 ≤ (pc : Int) + o) (hp : ((pc : Int) + o).toNat = pc') (hp' : pc + 3 = pc'') (hy : ¬ x < y → Go p l e R s m args below meth c n0 F h k n pc' Ls st) (hn : x < y → Go p l e R s m args below meth c n0 F h k n pc'' Ls st) : Go p l e R s m args below meth c n0 F h k n pc Ls (.int y :: .int x :: st) := by
  by_cases q : x < y
  · exact C.icmp_ge_f hd hp' q (hn q)
  · exact C.icmp_ge_t hd ho hp q (hy q)
theorem Cx.lif_ge_t (C : Cx p s m meth c Z n0 own bc maxL ret nm) {x y : Int64} {o : Int} (hd : decode bc pc = .ok (.ifCond .ge o, 3)) (ho : 0 ≤ (pc : Int) + o) (hp : ((pc : Int) + o).toNat = pc') (hq : ¬ x < y) (hr : Go p l e R s m args below meth c n0 F h k n pc' Ls st) : Go p l e R s m args below meth c n0 F h k n pc Ls (.int (XT.cmpL x y) :: st) :=
  Go.pl (fun T locs X eT t q => XS.ifYes X.here C.1 rfl rfl (hb C.2.2.2.1 hd) rfl (XT.ll_ge_t hq) ho hp q) hr
theorem Cx.lif_ge_f (C : Cx p s m meth c Z n0 own bc maxL ret nm) {x y : Int64} {o : Int} (hd : decode bc pc = .ok (.ifCond .ge o, 3)) (hp : pc + 3 = pc') (hq : x < y) (hr : Go p l e R s m args below meth c n0 F h k n pc' Ls st) : Go p l e R s m args below meth c n0 F h k n pc Ls (.int (XT.cmpL x y) :: st) := by
  subst hp; exact Go.pl (fun T locs X eT t q => XS.ifNo X.here C.1 rfl (hb C.2.2.2.1 hd) rfl (XT.ll_ge_f hq) q) hr
theorem Cx.lif_ge (C : Cx p s m meth c Z n0 own bc maxL ret nm) {x y : Int64} {o : Int} {pc'' : Nat} (hd : decode bc pc = .ok (.ifCond .ge o, 3)) (ho : 0 ≤ (pc : Int) + o) (hp : ((pc : Int) + o).toNat = pc') (hp' : pc + 3 = pc'') (hy : ¬ x < y → Go p l e R s m args below meth c n0 F h k n pc' Ls st) (hn : x < y → Go p l e R s m args below meth c n0 F h k n pc'' Ls st) : Go p l e R s m args below meth c n0 F h k n pc Ls (.int (XT.cmpL x y) :: st) := by
  by_cases q : x < y
  · exact C.lif_ge_f hd hp' q (hn q)
  · exact C.lif_ge_t hd ho hp q (hy q)
theorem Cx.if_gt_t (C : Cx p s m meth c Z n0 own bc maxL ret nm) {x : Int32} {o : Int} (hd : decode bc pc = .ok (.ifCond .gt o, 3)) (ho : 0 ≤ (pc : Int) + o) (hp : ((pc : Int) + o).toNat = pc') (hq : 0 < x) (hr : Go p l e R s m args below meth c n0 F h k n pc' Ls st) : Go p l e R s m args below meth c n0 F h k n pc Ls (.int x :: st) :=
  Go.pl (fun T locs X eT t q => XS.ifYes X.here C.1 rfl rfl (hb C.2.2.2.1 hd) rfl (XT.i0_gt_t hq) ho hp q) hr
theorem Cx.if_gt_f (C : Cx p s m meth c Z n0 own bc maxL ret nm) {x : Int32} {o : Int} (hd : decode bc pc = .ok (.ifCond .gt o, 3)) (hp : pc + 3 = pc') (hq : ¬ 0 < x) (hr : Go p l e R s m args below meth c n0 F h k n pc' Ls st) : Go p l e R s m args below meth c n0 F h k n pc Ls (.int x :: st) := by
  subst hp; exact Go.pl (fun T locs X eT t q => XS.ifNo X.here C.1 rfl (hb C.2.2.2.1 hd) rfl (XT.i0_gt_f hq) q) hr
theorem Cx.if_gt (C : Cx p s m meth c Z n0 own bc maxL ret nm) {x : Int32} {o : Int} {pc'' : Nat} (hd : decode bc pc = .ok (.ifCond .gt o, 3)) (ho : 0 ≤ (pc : Int) + o) (hp : ((pc : Int) + o).toNat = pc') (hp' : pc + 3 = pc'') (hy : 0 < x → Go p l e R s m args below meth c n0 F h k n pc' Ls st) (hn : ¬ 0 < x → Go p l e R s m args below meth c n0 F h k n pc'' Ls st) : Go p l e R s m args below meth c n0 F h k n pc Ls (.int x :: st) := by
  by_cases q : 0 < x
  · exact C.if_gt_t hd ho hp q (hy q)
  · exact C.if_gt_f hd hp' q (hn q)
theorem Cx.icmp_gt_t (C : Cx p s m meth c Z n0 own bc maxL ret nm) {x y : Int32} {o : Int} (hd : decode bc pc = .ok (.if_icmp .gt o, 3)) (ho : 0 ≤ (pc : Int) + o) (hp : ((pc : Int) + o).toNat = pc') (hq : y < x) (hr : Go p l e R s m args below meth c n0 F h k n pc' Ls st) : Go p l e R s m args below meth c n0 F h k n pc Ls (.int y :: .int x :: st) :=
  Go.pl (fun T locs X eT t q => XS.icmpYes X.here C.1 rfl rfl (hb C.2.2.2.1 hd) rfl (XT.ii_gt_t hq) ho hp q) hr
theorem Cx.icmp_gt_f (C : Cx p s m meth c Z n0 own bc maxL ret nm) {x y : Int32} {o : Int} (hd : decode bc pc = .ok (.if_icmp .gt o, 3)) (hp : pc + 3 = pc') (hq : ¬ y < x) (hr : Go p l e R s m args below meth c n0 F h k n pc' Ls st) : Go p l e R s m args below meth c n0 F h k n pc Ls (.int y :: .int x :: st) := by
  subst hp; exact Go.pl (fun T locs X eT t q => XS.icmpNo X.here C.1 rfl (hb C.2.2.2.1 hd) rfl (XT.ii_gt_f hq) q) hr
theorem Cx.icmp_gt (C : Cx p s m meth c Z n0 own bc maxL ret nm) {x y : Int32} {o : Int} {pc'' : Nat} (hd : decode bc pc = .ok (.if_icmp .gt o, 3)) (ho : 0 ≤ (pc : Int) + o) (hp : ((pc : Int) + o).toNat = pc') (hp' : pc + 3 = pc'') (hy : y < x → Go p l e R s m args below meth c n0 F h k n pc' Ls st) (hn : ¬ y < x → Go p l e R s m args below meth c n0 F h k n pc'' Ls st) : Go p l e R s m args below meth c n0 F h k n pc Ls (.int y :: .int x :: st) := by
  by_cases q : y < x
  · exact C.icmp_gt_t hd ho hp q (hy q)
  · exact C.icmp_gt_f hd hp' q (hn q)
theorem Cx.lif_gt_t (C : Cx p s m meth c Z n0 own bc maxL ret nm) {x y : Int64} {o : Int} (hd : decode bc pc = .ok (.ifCond .gt o, 3)) (ho : 0 ≤ (pc : Int) + o) (hp : ((pc : Int) + o).toNat = pc') (hq : y < x) (hr : Go p l e R s m args below meth c n0 F h k n pc' Ls st) : Go p l e R s m args below meth c n0 F h k n pc Ls (.int (XT.cmpL x y) :: st) :=
  Go.pl (fun T locs X eT t q => XS.ifYes X.here C.1 rfl rfl (hb C.2.2.2.1 hd) rfl (XT.ll_gt_t hq) ho hp q) hr
theorem Cx.lif_gt_f (C : Cx p s m meth c Z n0 own bc maxL ret nm) {x y : Int64} {o : Int} (hd : decode bc pc = .ok (.ifCond .gt o, 3)) (hp : pc + 3 = pc') (hq : ¬ y < x) (hr : Go p l e R s m args below meth c n0 F h k n pc' Ls st) : Go p l e R s m args below meth c n0 F h k n pc Ls (.int (XT.cmpL x y) :: st) := by
  subst hp; exact Go.pl (fun T locs X eT t q => XS.ifNo X.here C.1 rfl (hb C.2.2.2.1 hd) rfl (XT.ll_gt_f hq) q) hr
theorem Cx.lif_gt (C : Cx p s m meth c Z n0 own bc maxL ret nm) {x y : Int64} {o : Int} {pc'' : Nat} (hd : decode bc pc = .ok (.ifCond .gt o, 3)) (ho : 0 ≤ (pc : Int) + o) (hp : ((pc : Int) + o).toNat = pc') (hp' : pc + 3 = pc'') (hy : y < x → Go p l e R s m args below meth c n0 F h k n pc' Ls st) (hn : ¬ y < x → Go p l e R s m args below meth c n0 F h k n pc'' Ls st) : Go p l e R s m args below meth c n0 F h k n pc Ls (.int (XT.cmpL x y) :: st) := by
  by_cases q : y < x
  · exact C.lif_gt_t hd ho hp q (hy q)
  · exact C.lif_gt_f hd hp' q (hn q)
theorem Cx.if_le_t (C : Cx p s m meth c Z n0 own bc maxL ret nm) {x : Int32} {o : Int} (hd : decode bc pc = .ok (.ifCond .le o, 3)) (ho : 0 ≤ (pc : Int) + o) (hp : ((pc : Int) + o).toNat = pc') (hq : ¬ 0 < x) (hr : Go p l e R s m args below meth c n0 F h k n pc' Ls st) : Go p l e R s m args below meth c n0 F h k n pc Ls (.int x :: st) :=
  Go.pl (fun T locs X eT t q => XS.ifYes X.here C.1 rfl rfl (hb C.2.2.2.1 hd) rfl (XT.i0_le_t hq) ho hp q) hr
theorem Cx.if_le_f (C : Cx p s m meth c Z n0 own bc maxL ret nm) {x : Int32} {o : Int} (hd : decode bc pc = .ok (.ifCond .le o, 3)) (hp : pc + 3 = pc') (hq : 0 < x) (hr : Go p l e R s m args below meth c n0 F h k n pc' Ls st) : Go p l e R s m args below meth c n0 F h k n pc Ls (.int x :: st) := by
  subst hp; exact Go.pl (fun T locs X eT t q => XS.ifNo X.here C.1 rfl (hb C.2.2.2.1 hd) rfl (XT.i0_le_f hq) q) hr
theorem Cx.if_le (C : Cx p s m meth c Z n0 own bc maxL ret nm) {x : Int32} {o : Int} {pc'' : Nat} (hd : decode bc pc = .ok (.ifCond .le o, 3)) (ho : 0 ≤ (pc : Int) + o) (hp : ((pc : Int) + o).toNat = pc') (hp' : pc + 3 = pc'') (hy : ¬ 0 < x → Go p l e R s m args below meth c n0 F h k n pc' Ls st) (hn : 0 < x → Go p l e R s m args below meth c n0 F h k n pc'' Ls st) : Go p l e R s m args below meth c n0 F h k n pc Ls (.int x :: st) := by
  by_cases q : 0 < x
  · exact C.if_le_f hd hp' q (hn q)
  · exact C.if_le_t hd ho hp q (hy q)
theorem Cx.icmp_le_t (C : Cx p s m meth c Z n0 own bc maxL ret nm) {x y : Int32} {o : Int} (hd : decode bc pc = .ok (.if_icmp .le o, 3)) (ho : 0 ≤ (pc : Int) + o) (hp : ((pc : Int) + o).toNat = pc') (hq : ¬ y < x) (hr : Go p l e R s m args below meth c n0 F h k n pc' Ls st) : Go p l e R s m args below meth c n0 F h k n pc Ls (.int y :: .int x :: st) :=
  Go.pl (fun T locs X eT t q => XS.icmpYes X.here C.1 rfl rfl (hb C.2.2.2.1 hd) rfl (XT.ii_le_t hq) ho hp q) hr
theorem Cx.icmp_le_f (C : Cx p s m meth c Z n0 own bc maxL ret nm) {x y : Int32} {o : Int} (hd : decode bc pc = .ok (.if_icmp .le o, 3)) (hp : pc + 3 = pc') (hq : y < x) (hr : Go p l e R s m args below meth c n0 F h k n pc' Ls st) : Go p l e R s m args below meth c n0 F h k n pc Ls (.int y :: .int x :: st) := by
  subst hp; exact Go.pl (fun T locs X eT t q => XS.icmpNo X.here C.1 rfl (hb C.2.2.2.1 hd) rfl (XT.ii_le_f hq) q) hr
theorem Cx.icmp_le (C : Cx p s m meth c Z n0 own bc maxL ret nm) {x y : Int32} {o : Int} {pc'' : Nat} (hd : decode bc pc = .ok (.if_icmp .le o, 3)) (ho : 0 ≤ (pc : Int) + o) (hp : ((pc : Int) + o).toNat = pc') (hp' : pc + 3 = pc'') (hy : ¬ y < x → Go p l e R s m args below meth c n0 F h k n pc' Ls st) (hn : y < x → Go p l e R s m args below meth c n0 F h k n pc'' Ls st) : Go p l e R s m args below meth c n0 F h k n pc Ls (.int y :: .int x :: st) := by
  by_cases q : y < x
  · exact C.icmp_le_f hd hp' q (hn q)
  · exact C.icmp_le_t hd ho hp q (hy q)
theorem Cx.lif_le_t (C : Cx p s m meth c Z n0 own bc maxL ret nm) {x y : Int64} {o : Int} (hd : decode bc pc = .ok (.ifCond .le o, 3)) (ho : 0 ≤ (pc : Int) + o) (hp : ((pc : Int) + o).toNat = pc') (hq : ¬ y < x) (hr : Go p l e R s m args below meth c n0 F h k n pc' Ls st) : Go p l e R s m args below meth c n0 F h k n pc Ls (.int (XT.cmpL x y) :: st) :=
  Go.pl (fun T locs X eT t q => XS.ifYes X.here C.1 rfl rfl (hb C.2.2.2.1 hd) rfl (XT.ll_le_t hq) ho hp q) hr
theorem Cx.lif_le_f (C : Cx p s m meth c Z n0 own bc maxL ret nm) {x y : Int64} {o : Int} (hd : decode bc pc = .ok (.ifCond .le o, 3)) (hp : pc + 3 = pc') (hq : y < x) (hr : Go p l e R s m args below meth c n0 F h k n pc' Ls st) : Go p l e R s m args below meth c n0 F h k n pc Ls (.int (XT.cmpL x y) :: st) := by
  subst hp; exact Go.pl (fun T locs X eT t q => XS.ifNo X.here C.1 rfl (hb C.2.2.2.1 hd) rfl (XT.ll_le_f hq) q) hr
theorem Cx.lif_le (C : Cx p s m meth c Z n0 own bc maxL ret nm) {x y : Int64} {o : Int} {pc'' : Nat} (hd : decode bc pc = .ok (.ifCond .le o, 3)) (ho : 0 ≤ (pc : Int) + o) (hp : ((pc : Int) + o).toNat = pc') (hp' : pc + 3 = pc'') (hy : ¬ y < x → Go p l e R s m args below meth c n0 F h k n pc' Ls st) (hn : y < x → Go p l e R s m args below meth c n0 F h k n pc'' Ls st) : Go p l e R s m args below meth c n0 F h k n pc Ls (.int (XT.cmpL x y) :: st) := by
  by_cases q : y < x
  · exact C.lif_le_f hd hp' q (hn q)
  · exact C.lif_le_t hd ho hp q (hy q)
theorem Cx.ifnull_ref (C : Cx p s m meth c Z n0 own bc maxL ret nm) {o : Int} {b : Addr} (hd : decode bc pc = .ok (.ifnull o, 3)) (hp : pc + 3 = pc')  (hr : Go p l e R s m args below meth c n0 F h k n pc' Ls (st)) : Go p l e R s m args below meth c n0 F h k n pc Ls (.ref b :: st) := by
  subst hp; exact Go.pl (fun T locs X eT t q => XS.ifnullNo X.here C.1 rfl (hb C.2.2.2.1 hd) rfl q) hr
theorem Cx.ifnonnull_null (C : Cx p s m meth c Z n0 own bc maxL ret nm) {o : Int} (hd : decode bc pc = .ok (.ifnonnull o, 3)) (hp : pc + 3 = pc')  (hr : Go p l e R s m args below meth c n0 F h k n pc' Ls (st)) : Go p l e R s m args below meth c n0 F h k n pc Ls (.null :: st) := by
  subst hp; exact Go.pl (fun T locs X eT t q => XT.ifnonnullNo X.here C.1 rfl (hb C.2.2.2.1 hd) rfl q) hr
theorem Cx.ifnull_null (C : Cx p s m meth c Z n0 own bc maxL ret nm) {b : Addr} {o : Int} (hd : decode bc pc = .ok (.ifnull o, 3)) (ho : 0 ≤ (pc : Int) + o) (hp : ((pc : Int) + o).toNat = pc') (hr : Go p l e R s m args below meth c n0 F h k n pc' Ls st) : Go p l e R s m args below meth c n0 F h k n pc Ls (.null :: st) := by
  exact Go.pl (fun T locs X eT t q => XS.ifnullYes X.here C.1 rfl rfl (hb C.2.2.2.1 hd) rfl ho hp q) hr
theorem Cx.ifnonnull_ref (C : Cx p s m meth c Z n0 own bc maxL ret nm) {b : Addr} {o : Int} (hd : decode bc pc = .ok (.ifnonnull o, 3)) (ho : 0 ≤ (pc : Int) + o) (hp : ((pc : Int) + o).toNat = pc') (hr : Go p l e R s m args below meth c n0 F h k n pc' Ls st) : Go p l e R s m args below meth c n0 F h k n pc Ls (.ref b :: st) := by
  exact Go.pl (fun T locs X eT t q => XT.ifnonnullYes X.here C.1 rfl rfl (hb C.2.2.2.1 hd) rfl ho hp q) hr
theorem Cx.ldcI (C : Cx p s m meth c Z n0 own bc maxL ret nm) {j : Nat} {v : Int32} (hd : decode bc pc = .ok (.ldc j, 2)) (hp : pc + 2 = pc') (w : (Jvm.Cond.constant own j v).before a0 Z = true) (hr : Go p l e R s m args below meth c n0 F h k n pc' Ls (.int v :: st)) : Go p l e R s m args below meth c n0 F h k n pc Ls st := by
  subst hp; exact Go.pl (fun T locs X eT t q => X.ldcI C.1 C.2.2.1 (mv C.2.1 w) rfl (hb C.2.2.2.1 hd) q) hr
theorem Cx.ldcWI (C : Cx p s m meth c Z n0 own bc maxL ret nm) {j : Nat} {v : Int32} (hd : decode bc pc = .ok (.ldc_w j, 3)) (hp : pc + 3 = pc') (w : (Jvm.Cond.constant own j v).before a0 Z = true) (hr : Go p l e R s m args below meth c n0 F h k n pc' Ls (.int v :: st)) : Go p l e R s m args below meth c n0 F h k n pc Ls st := by
  subst hp; exact Go.pl (fun T locs X eT t q => X.ldcWI C.1 C.2.2.1 (mv C.2.1 w) rfl (hb C.2.2.2.1 hd) q) hr
theorem Cx.ldc2J (C : Cx p s m meth c Z n0 own bc maxL ret nm) {j : Nat} {v : Int64} (hd : decode bc pc = .ok (.ldc2_w j, 3)) (hp : pc + 3 = pc') (w : (Jvm.Cond.constantLong own j v).before a0 Z = true) (hr : Go p l e R s m args below meth c n0 F h k n pc' Ls (.long v :: st)) : Go p l e R s m args below meth c n0 F h k n pc Ls st := by
  subst hp; exact Go.pl (fun T locs X eT t q => X.ldc2J C.1 C.2.2.1 (mv C.2.1 w) rfl (hb C.2.2.2.1 hd) q) hr
theorem Cx.alen (C : Cx p s m meth c Z n0 own bc maxL ret nm) {a : Addr} {ty : FieldType} {vs : List Value} (hd : decode bc pc = .ok (.arraylength, 1)) (hp : pc + 1 = pc') (A : Av Z h a ty vs) (hr : Go p l e R s m args below meth c n0 F h k n pc' Ls (.int vs.length.toInt32 :: st)) : Go p l e R s m args below meth c n0 F h k n pc Ls (.ref a :: st) := by
  obtain ⟨cl, A, rfl, -⟩ := A; subst hp; refine Go.pl (fun T locs X eT t q => X.arraylength C.1 (cell := cl) (by rw [eT]; exact A.1) (State.isArrayOf_alike C.2.1.alike A.2.1) (g := mkF m pc Ls (.ref a :: st)) rfl rfl (hb C.2.2.2.1 hd) t q) (by simpa using hr)
theorem Cx.iaload (C : Cx p s m meth c Z n0 own bc maxL ret nm) {a : Addr} {vs : List Value} {j : Int32} (v : Value) (hd : decode bc pc = .ok (.iaload, 1)) (hp : pc + 1 = pc') (A : Av Z h a .int vs) (hj : ¬ j < 0) (hv : vs[j.toNatClampNeg]? = some v) (hr : Go p l e R s m args below meth c n0 F h k n pc' Ls (v :: st)) : Go p l e R s m args below meth c n0 F h k n pc Ls (.int j :: .ref a :: st) := by
  obtain ⟨cl, A, rfl, -⟩ := A; subst hp; rw [Array.getElem?_toList] at hv; exact Go.pl (fun T locs X eT t q => X.iaload C.1 (by rw [eT]; exact A.1) (State.isArrayOf_alike C.2.1.alike A.2.1) A.2.2 (own_in hj hv) hv (g := mkF m pc Ls (.int j :: .ref a :: st)) rfl rfl (hb C.2.2.2.1 hd) t q) hr
theorem Cx.laload (C : Cx p s m meth c Z n0 own bc maxL ret nm) {a : Addr} {vs : List Value} {j : Int32} (v : Value) (hd : decode bc pc = .ok (.laload, 1)) (hp : pc + 1 = pc') (A : Av Z h a .long vs) (hj : ¬ j < 0) (hv : vs[j.toNatClampNeg]? = some v) (hr : Go p l e R s m args below meth c n0 F h k n pc' Ls (v :: st)) : Go p l e R s m args below meth c n0 F h k n pc Ls (.int j :: .ref a :: st) := by
  obtain ⟨cl, A, rfl, -⟩ := A; subst hp; rw [Array.getElem?_toList] at hv; exact Go.pl (fun T locs X eT t q => X.laload C.1 (by rw [eT]; exact A.1) (State.isArrayOf_alike C.2.1.alike A.2.1) A.2.2 (own_in hj hv) hv (g := mkF m pc Ls (.int j :: .ref a :: st)) rfl rfl (hb C.2.2.2.1 hd) t q) hr
theorem Cx.caload (C : Cx p s m meth c Z n0 own bc maxL ret nm) {a : Addr} {vs : List Value} {j : Int32} (v : Value) (hd : decode bc pc = .ok (.caload, 1)) (hp : pc + 1 = pc') (A : Av Z h a .char vs) (hj : ¬ j < 0) (hv : vs[j.toNatClampNeg]? = some v) (hr : Go p l e R s m args below meth c n0 F h k n pc' Ls (v :: st)) : Go p l e R s m args below meth c n0 F h k n pc Ls (.int j :: .ref a :: st) := by
  obtain ⟨cl, A, rfl, -⟩ := A; subst hp; rw [Array.getElem?_toList] at hv; exact Go.pl (fun T locs X eT t q => X.caload C.1 (by rw [eT]; exact A.1) (State.isArrayOf_alike C.2.1.alike A.2.1) A.2.2 (own_in hj hv) hv (g := mkF m pc Ls (.int j :: .ref a :: st)) rfl rfl (hb C.2.2.2.1 hd) t q) hr
theorem Cx.baload (C : Cx p s m meth c Z n0 own bc maxL ret nm) {a : Addr} {vs : List Value} {j : Int32} (v : Value) (hd : decode bc pc = .ok (.baload, 1)) (hp : pc + 1 = pc') (A : Av Z h a .byte vs) (hj : ¬ j < 0) (hv : vs[j.toNatClampNeg]? = some v) (hr : Go p l e R s m args below meth c n0 F h k n pc' Ls (v :: st)) : Go p l e R s m args below meth c n0 F h k n pc Ls (.int j :: .ref a :: st) := by
  obtain ⟨cl, A, rfl, -⟩ := A; subst hp; rw [Array.getElem?_toList] at hv; exact Go.pl (fun T locs X eT t q => X.baloadBytes C.1 (by rw [eT]; exact A.1) (State.isArrayOf_alike C.2.1.alike A.2.1) A.2.2 (own_in hj hv) hv (g := mkF m pc Ls (.int j :: .ref a :: st)) rfl rfl (hb C.2.2.2.1 hd) t q) hr
theorem Cx.zaload (C : Cx p s m meth c Z n0 own bc maxL ret nm) {a : Addr} {vs : List Value} {j : Int32} (v : Value) (hd : decode bc pc = .ok (.baload, 1)) (hp : pc + 1 = pc') (A : Av Z h a .boolean vs) (hj : ¬ j < 0) (hv : vs[j.toNatClampNeg]? = some v) (hr : Go p l e R s m args below meth c n0 F h k n pc' Ls (v :: st)) : Go p l e R s m args below meth c n0 F h k n pc Ls (.int j :: .ref a :: st) := by
  obtain ⟨cl, A, rfl, -⟩ := A; subst hp; rw [Array.getElem?_toList] at hv; exact Go.pl (fun T locs X eT t q => X.baloadBooleans C.1 (by rw [eT]; exact A.1) (State.isArrayOf_alike C.2.1.alike A.2.1) A.2.2 (own_in hj hv) hv (g := mkF m pc Ls (.int j :: .ref a :: st)) rfl rfl (hb C.2.2.2.1 hd) t q) hr
theorem Cx.iastore (C : Cx p s m meth c Z n0 own bc maxL ret nm) {a : Addr} {vs : List Value} {j : Int32} {x : Int32} (hd : decode bc pc = .ok (.iastore, 1)) (hp : pc + 1 = pc') (A : Av Z h a .int vs) (ha : n0 ≤ a) (hj : ¬ j < 0) (hl : j.toNatClampNeg < vs.length) (hr : ∀ h', Wr h h' a j.toNatClampNeg (.int x) → Av Z h' a .int (vs.set j.toNatClampNeg (.int x)) → Go p l e R s m args below meth c n0 F h' k n pc' Ls st) : Go p l e R s m args below meth c n0 F h k n pc Ls (.int x :: .int j :: .ref a :: st) := by
  intro T locs X eT N; have A0 := A; obtain ⟨cl, A, rfl, -⟩ := A; subst hp; rw [Array.length_toList] at hl
  obtain ⟨T', h', X', e', W, stp⟩ := stI X C.1 C.2.1 eT A (own_in2 hj hl) (g := mkF m pc Ls (.int x :: .int j :: .ref a :: st)) rfl rfl (hb C.2.2.2.1 hd)
  obtain ⟨s₂, o, q1, q2⟩ := hr h' W (A0.same W rfl) T' _ X' e' (Fr.snoc X' N ha)
  exact ⟨s₂, o, stp _ q1, q2⟩
theorem Cx.lastore (C : Cx p s m meth c Z n0 own bc maxL ret nm) {a : Addr} {vs : List Value} {j : Int32} {x : Int64} (hd : decode bc pc = .ok (.lastore, 1)) (hp : pc + 1 = pc') (A : Av Z h a .long vs) (ha : n0 ≤ a) (hj : ¬ j < 0) (hl : j.toNatClampNeg < vs.length) (hr : ∀ h', Wr h h' a j.toNatClampNeg (.long x) → Av Z h' a .long (vs.set j.toNatClampNeg (.long x)) → Go p l e R s m args below meth c n0 F h' k n pc' Ls st) : Go p l e R s m args below meth c n0 F h k n pc Ls (.long x :: .int j :: .ref a :: st) := by
  intro T locs X eT N; have A0 := A; obtain ⟨cl, A, rfl, -⟩ := A; subst hp; rw [Array.length_toList] at hl
  obtain ⟨T', h', X', e', W, stp⟩ := stJ X C.1 C.2.1 eT A (own_in2 hj hl) (g := mkF m pc Ls (.long x :: .int j :: .ref a :: st)) rfl rfl (hb C.2.2.2.1 hd)
  obtain ⟨s₂, o, q1, q2⟩ := hr h' W (A0.same W rfl) T' _ X' e' (Fr.snoc X' N ha)
  exact ⟨s₂, o, stp _ q1, q2⟩
theorem Cx.castore (C : Cx p s m meth c Z n0 own bc maxL ret nm) {a : Addr} {vs : List Value} {j : Int32} {x : Int32} (hd : decode bc pc = .ok (.castore, 1)) (hp : pc + 1 = pc') (A : Av Z h a .char vs) (ha : n0 ≤ a) (hj : ¬ j < 0) (hl : j.toNatClampNeg < vs.length) (hr : ∀ h', Wr h h' a j.toNatClampNeg (.int (nar .char x)) → Av Z h' a .char (vs.set j.toNatClampNeg (.int (nar .char x))) → Go p l e R s m args below meth c n0 F h' k n pc' Ls st) : Go p l e R s m args below meth c n0 F h k n pc Ls (.int x :: .int j :: .ref a :: st) := by
  intro T locs X eT N; have A0 := A; obtain ⟨cl, A, rfl, -⟩ := A; subst hp; rw [Array.length_toList] at hl
  obtain ⟨T', h', X', e', W, stp⟩ := stC X C.1 C.2.1 eT A (own_in2 hj hl) (g := mkF m pc Ls (.int x :: .int j :: .ref a :: st)) rfl rfl (hb C.2.2.2.1 hd)
  obtain ⟨s₂, o, q1, q2⟩ := hr h' W (A0.same W (fits_nar_char x)) T' _ X' e' (Fr.snoc X' N ha)
  exact ⟨s₂, o, stp _ q1, q2⟩
theorem Cx.bastore (C : Cx p s m meth c Z n0 own bc maxL ret nm) {a : Addr} {vs : List Value} {j : Int32} {x : Int32} (hd : decode bc pc = .ok (.bastore, 1)) (hp : pc + 1 = pc') (A : Av Z h a .byte vs) (ha : n0 ≤ a) (hj : ¬ j < 0) (hl : j.toNatClampNeg < vs.length) (hr : ∀ h', Wr h h' a j.toNatClampNeg (.int (nar .byte x)) → Av Z h' a .byte (vs.set j.toNatClampNeg (.int (nar .byte x))) → Go p l e R s m args below meth c n0 F h' k n pc' Ls st) : Go p l e R s m args below meth c n0 F h k n pc Ls (.int x :: .int j :: .ref a :: st) := by
  intro T locs X eT N; have A0 := A; obtain ⟨cl, A, rfl, -⟩ := A; subst hp; rw [Array.length_toList] at hl
  obtain ⟨T', h', X', e', W, stp⟩ := stB X C.1 C.2.1 eT A (own_in2 hj hl) (g := mkF m pc Ls (.int x :: .int j :: .ref a :: st)) rfl rfl (hb C.2.2.2.1 hd)
  obtain ⟨s₂, o, q1, q2⟩ := hr h' W (A0.same W (fits_nar_byte x)) T' _ X' e' (Fr.snoc X' N ha)
  exact ⟨s₂, o, stp _ q1, q2⟩
theorem Cx.zastore (C : Cx p s m meth c Z n0 own bc maxL ret nm) {a : Addr} {vs : List Value} {j : Int32} {x : Int32} (hd : decode bc pc = .ok (.bastore, 1)) (hp : pc + 1 = pc') (A : Av Z h a .boolean vs) (ha : n0 ≤ a) (hj : ¬ j < 0) (hl : j.toNatClampNeg < vs.length) (hr : ∀ h', Wr h h' a j.toNatClampNeg (.int (nar .boolean x)) → Av Z h' a .boolean (vs.set j.toNatClampNeg (.int (nar .boolean x))) → Go p l e R s m args below meth c n0 F h' k n pc' Ls st) : Go p l e R s m args below meth c n0 F h k n pc Ls (.int x :: .int j :: .ref a :: st) := by
  intro T locs X eT N; have A0 := A; obtain ⟨cl, A, rfl, -⟩ := A; subst hp; rw [Array.length_toList] at hl
  obtain ⟨T', h', X', e', W, stp⟩ := stZ X C.1 C.2.1 eT A (own_in2 hj hl) (g := mkF m pc Ls (.int x :: .int j :: .ref a :: st)) rfl rfl (hb C.2.2.2.1 hd)
  obtain ⟨s₂, o, q1, q2⟩ := hr h' W (A0.same W (fits_nar_bool x)) T' _ X' e' (Fr.snoc X' N ha)
  exact ⟨s₂, o, stp _ q1, q2⟩
theorem Cx.new (C : Cx p s m meth c Z n0 own bc maxL ret nm) {cls : String} {j nn : Nat} (hd : decode bc pc = .ok (.new j, 3)) (hp : pc + 3 = pc') (w1 : (Jvm.Cond.classLink own j cls).before a0 Z = true) (w2 : (Jvm.Cond.instantiable cls nn).before a0 Z = true) (w3 : (Jvm.Cond.initialized cls).before a0 Z = true) (hk : k + 1 ≤ R.cells) (hn : n + nn ≤ R.slots)
    (hr : ∀ (a : Addr) (h' : Heap), a = h.size → n0 ≤ a → Ext h h' → Exa Z h' a cls → (∀ {O f d : String} {ty : FieldType}, Laid Z a0 cls O f d → parseFieldDescriptor d = some ty → Fld Z h' a O f d (defaultValue ty)) → Go p l e R s m args below meth c n0 F h' (k + 1) (n + nn) pc' Ls (.ref a :: st)) : Go p l e R s m args below meth c n0 F h k n pc Ls st := by
  intro T locs X eT N
  subst hp
  obtain ⟨T', h', X', e', E', A', D', -, stp⟩ := newO X C.1 C.2.1 C.2.2.1 w1 w2 w3 eT (g := mkF m pc Ls st) rfl (hb C.2.2.2.1 hd) hk hn
  obtain ⟨s₂, o, q1, q2⟩ := hr h.size h' rfl (by rw [← eT]; exact C.size X) E' A' D' T' _ X' e' N
  exact ⟨s₂, o, stp _ q1, q2⟩
theorem Cx.newarr (C : Cx p s m meth c Z n0 own bc maxL ret nm) {aty : ArrayType} {ty : FieldType} {z : Int32} (cap : Nat) (hd : decode bc pc = .ok (.newarray aty, 2)) (hp : pc + 2 = pc') (hty : newarray.typeOf aty = ty) (w : (Jvm.Cond.arrayClass ty).before a0 Z = true) (hz : ¬ z < 0) (hcap : z.toNatClampNeg ≤ cap) (hb8 : cap * 8 ≤ 536870912) (hk : k + 1 ≤ R.cells) (hn : n + cap ≤ R.slots)
    (hr : ∀ (a : Addr) (h' : Heap), a = h.size → n0 ≤ a → Ext h h' → Av Z h' a ty (List.replicate z.toNatClampNeg (defaultValue ty)) → Go p l e R s m args below meth c n0 F h' (k + 1) (n + cap) pc' Ls (.ref a :: st)) : Go p l e R s m args below meth c n0 F h k n pc Ls (.int z :: st) := by
  intro T locs X eT N
  subst hp hty
  obtain ⟨T', h', cA, X', e', E', A', stp⟩ := newP X C.1 C.2.1 w eT (g := mkF m pc Ls (.int z :: st)) rfl (hb C.2.2.2.1 hd) rfl hz hcap hb8 hk hn
  obtain ⟨s₂, o, q1, q2⟩ := hr h.size h' rfl (by rw [← eT]; exact C.size X) E' (Av.new A') T' _ X' e' N
  exact ⟨s₂, o, stp _ q1, q2⟩
theorem Cx.initO (C : Cx p s m meth c Z n0 own bc maxL ret nm) {j : Nat} {a : Addr} (W : Nat) (hd : decode bc pc = .ok (.invokespecial j, 3)) (hp : pc + 3 = pc') (w1 : (Jvm.Cond.methodLink own j Lib.objectInit).before a0 Z = true) (w2 : (Jvm.Cond.instanceMethod Lib.objectInit).before a0 Z = true) (w3 : (Jvm.Cond.code Lib.objectInit ⟨#[0xb1]⟩ 1 none).before a0 Z = true) (hsz : Ls.size = maxL) (hf : 1 ≤ R.frames) (hW : (st.map fun v => v.category).sum ≤ W) (hl : W + 12 ≤ R.locals)
    (hr : Go p l e R s m args below meth c n0 F h k n pc' Ls st) : Go p l e R s m args below meth c n0 F h k n pc Ls (.ref a :: st) := by
  intro T locs X eT N
  subst hp
  obtain ⟨T', X', e', stp⟩ := RoadKit.initO X C.1 C.2.1 C.2.2.1 w1 w2 w3 eT (g := mkF m pc Ls (.ref a :: st)) rfl (hsz.trans C.2.2.2.2.1.symm) rfl (hb C.2.2.2.1 hd) hf (W := W) (by show 2 * 0 + _ ≤ W; omega) hl
  obtain ⟨s₂, o, q1, q2⟩ := hr T' _ X' e' N
  exact ⟨s₂, o, stp _ q1, q2⟩
theorem Cx.getF (C : Cx p s m meth c Z n0 own bc maxL ret nm) {O f d : String} {j : Nat} {a : Addr} {v : Value} (hd : decode bc pc = .ok (.getfield j, 3)) (hp : pc + 3 = pc') (w : (Jvm.Cond.fieldLink own j O f d).before a0 Z = true) (F' : Fld Z h a O f d v)
    (hr : Go p l e R s m args below meth c n0 F h k n pc' Ls (v :: st)) : Go p l e R s m args below meth c n0 F h k n pc Ls (.ref a :: st) := by
  intro T locs X eT N
  subst hp
  obtain ⟨T', X', e', stp⟩ := RoadKit.getF X C.1 C.2.1 C.2.2.1 (host := "") (Or.inl w) Via.refl eT F' (g := mkF m pc Ls (.ref a :: st)) rfl rfl (hb C.2.2.2.1 hd)
  obtain ⟨s₂, o, q1, q2⟩ := hr T' _ X' e' N
  exact ⟨s₂, o, stp _ q1, q2⟩
theorem Cx.putF (C : Cx p s m meth c Z n0 own bc maxL ret nm) {O f d cls : String} {j kk : Nat} {ty : FieldType} {a : Addr} {v old : Value} (hd : decode bc pc = .ok (.putfield j, 3)) (hp : pc + 3 = pc') (w : (Jvm.Cond.fieldLink own j O f d).before a0 Z = true) (F' : Fld Z h a O f d old) (E : Exa Z h a cls)
    (L : (Jvm.Cond.lays cls O f d).before a0 Z = true ∨ ((Jvm.Cond.laysFinal cls O f d).before a0 Z = true ∧ own = O ∧ nm = "<init>")) (wi : (Jvm.Cond.instantiable cls kk).before a0 Z = true) (hty : parseFieldDescriptor d = some ty) (hnr : narrow ty v = v) (hf : fits ty v = true) (ha : n0 ≤ a)
    (hr : ∀ h', Wr h h' a (Jvm.RoadKit.slotOf Z O f d) v → Fld Z h' a O f d v → Go p l e R s m args below meth c n0 F h' k n pc' Ls st) : Go p l e R s m args below meth c n0 F h k n pc Ls (v :: .ref a :: st) := by
  intro T locs X eT N
  subst hp
  obtain ⟨T', h', X', e', W, stp⟩ := RoadKit.putF X C.1 C.2.1 C.2.2.1 (host := "") (Or.inl w) Via.refl eT F' E (L.imp id fun q => ⟨q.1, q.2.1, C.2.2.2.2.2.2.1.trans q.2.2⟩) wi hty hnr hf (g := mkF m pc Ls (v :: .ref a :: st)) rfl rfl (hb C.2.2.2.1 hd)
  obtain ⟨s₂, o, q1, q2⟩ := hr h' W (F'.same W) T' _ X' e' (Fr.snoc X' N ha)
  exact ⟨s₂, o, stp _ q1, q2⟩
/-! the end of a body -/
theorem Cx.ret0 {Q : Option Value → Heap → Prop} {ck cs : Nat} (C : Cx p s m meth c Z n0 own bc maxL none nm) (hd : decode bc pc = .ok (.return_, 1)) (hk : k ≤ ck) (hn : n ≤ cs) (hq : Q none h) : Go p l e R s m args below meth c n0 (FinQ s n0 Q ck cs) h k n pc Ls [] := by
  intro T locs X eT N
  have hlk := C.2.2.2.2.2.2.2.1
  obtain ⟨fs, hr, hrun, hended, hW, hsame⟩ := X.leave (v := none) (fun _ => rfl) hlk
  exact ⟨_, _, X.returnOut C.1 C.2.2.2.2.2.1 (hb C.2.2.2.1 hd) hr, hrun, hended, _, _, rfl, ⟨by show Q none T.heap; rw [eT]; exact hq, N⟩, ⟨_, rfl⟩, hW, hsame.mono hk hn⟩
theorem Cx.retW {Q : Option Value → Heap → Prop} {ck cs : Nat} {t : FieldType} {w : Value} {i : Instr} (C : Cx p s m meth c Z n0 own bc maxL (some t) nm) (hd : decode bc pc = .ok (i, 1)) (hnr : narrow t w = w)
    (hi : (i = .ireturn ∧ (t = .int ∨ t = .boolean ∨ t = .byte ∨ t = .char ∨ t = .short) ∧ ∃ z, w = .int z) ∨ (i = .lreturn ∧ t = .long ∧ ∃ z, w = .long z) ∨ (i = .dreturn ∧ t = .double ∧ ∃ z, w = .double z) ∨ (i = .freturn ∧ t = .float ∧ ∃ z, w = .float z) ∨ (i = .areturn ∧ t.isReference = true ∧ w.isRef = true))
    (hk : k ≤ ck) (hn : n ≤ cs) (hq : Q (some w) h) : Go p l e R s m args below meth c n0 (FinQ s n0 Q ck cs) h k n pc Ls (w :: st) := by
  intro T locs X eT N
  have hlk := C.2.2.2.2.2.2.2.1
  have hrt := C.2.2.2.2.2.1
  obtain ⟨fs, hr, hrun, hended, hW, hsame⟩ := X.leave (v := some w) (fun q => by rw [hrt] at q; cases q) hlk
  exact ⟨_, _, retOut X C.1 hrt hnr hi (hb C.2.2.2.1 hd) hr, hrun, hended, _, _, rfl, ⟨by show Q (some w) T.heap; rw [eT]; exact hq, N⟩, ⟨_, rfl⟩, hW, hsame.mono hk hn⟩
theorem Cx.retI {Q : Option Value → Heap → Prop} {ck cs : Nat} {z : Int32} (C : Cx p s m meth c Z n0 own bc maxL (some .int) nm) (hd : decode bc pc = .ok (.ireturn, 1)) (hk : k ≤ ck) (hn : n ≤ cs) (hq : Q (some (.int z)) h) : Go p l e R s m args below meth c n0 (FinQ s n0 Q ck cs) h k n pc Ls (.int z :: st) :=
  C.retW hd rfl (Or.inl ⟨rfl, Or.inl rfl, z, rfl⟩) hk hn hq
theorem Cx.retZ {Q : Option Value → Heap → Prop} {ck cs : Nat} {z : Int32} (C : Cx p s m meth c Z n0 own bc maxL (some .boolean) nm) (hd : decode bc pc = .ok (.ireturn, 1)) (hz : narrow .boolean (.int z) = .int z) (hk : k ≤ ck) (hn : n ≤ cs) (hq : Q (some (.int z)) h) : Go p l e R s m args below meth c n0 (FinQ s n0 Q ck cs) h k n pc Ls (.int z :: st) :=
  C.retW hd hz (Or.inl ⟨rfl, Or.inr (Or.inl rfl), z, rfl⟩) hk hn hq
theorem Cx.retC {Q : Option Value → Heap → Prop} {ck cs : Nat} {z : Int32} (C : Cx p s m meth c Z n0 own bc maxL (some .char) nm) (hd : decode bc pc = .ok (.ireturn, 1)) (hz : narrow .char (.int z) = .int z) (hk : k ≤ ck) (hn : n ≤ cs) (hq : Q (some (.int z)) h) : Go p l e R s m args below meth c n0 (FinQ s n0 Q ck cs) h k n pc Ls (.int z :: st) :=
  C.retW hd hz (Or.inl ⟨rfl, Or.inr (Or.inr (Or.inr (Or.inl rfl))), z, rfl⟩) hk hn hq
theorem Cx.retJ {Q : Option Value → Heap → Prop} {ck cs : Nat} {z : Int64} (C : Cx p s m meth c Z n0 own bc maxL (some .long) nm) (hd : decode bc pc = .ok (.lreturn, 1)) (hk : k ≤ ck) (hn : n ≤ cs) (hq : Q (some (.long z)) h) : Go p l e R s m args below meth c n0 (FinQ s n0 Q ck cs) h k n pc Ls (.long z :: st) :=
  C.retW hd rfl (Or.inr (Or.inl ⟨rfl, rfl, z, rfl⟩)) hk hn hq
theorem Cx.retA {Q : Option Value → Heap → Prop} {ck cs : Nat} {t : FieldType} {a : Addr} (C : Cx p s m meth c Z n0 own bc maxL (some t) nm) (hd : decode bc pc = .ok (.areturn, 1)) (ht : t.isReference = true) (hnr : narrow t (.ref a) = .ref a) (hk : k ≤ ck) (hn : n ≤ cs) (hq : Q (some (.ref a)) h) : Go p l e R s m args below meth c n0 (FinQ s n0 Q ck cs) h k n pc Ls (.ref a :: st) :=
  C.retW hd hnr (Or.inr (Or.inr (Or.inr (Or.inr ⟨rfl, ht, rfl⟩)))) hk hn hq
/-! a body's contract out of its walk -/
theorem Con.of {ws : List Jvm.Cond} {y : MethodName} {as : Array Value} {h0 : Heap} {Q : Option Value → Heap → Prop} (hn : plainFor y = true) (ef : ∀ m, entryFrame m as maxL = mkF m 0 Ls []) (hn0 : n0 ≤ h0.size)
    (body : ∀ p e s m below meth c, Cx p s m meth c Z n0 y.cls bc maxL ret y.name → Go p l e R s m as below meth c n0 (FinQ s n0 Q R.cells R.slots) h0 0 0 0 Ls []) : Con l Z n0 ws y bc maxL ret R as h0 Q := by
  refine MetFree.of_bodySF hn hisR ?_
  intro p e s m args below meth c s₁ Bd hml0 hP hK
  obtain ⟨rfl, hZ, hh⟩ := hP
  have e0 : s₁.heap = h0 := by rw [← hh, Bd.state]; rfl
  have X0 : Stand p l e R s m args below meth c s₁ [] 0 0 := Stand.of_body Bd
  obtain ⟨s₂, o, q1, q2, q3, q4⟩ := body p e s m below meth c ⟨Bd.exec, hZ, findClass_of_methodNamed Bd.named, Bd.bytes, hml0, Bd.returns, (name_of_methodNamed Bd.named Bd.method).1, Bd.notSynchronized, by rw [hh]; exact hn0⟩ s₁ [] X0 e0 (Fr.nil n0)
  exact ⟨s₂, o, castTop (ef m) q1, q2, q3, q4⟩
theorem Con.imp {ws : List Jvm.Cond} {y : MethodName} {as : Array Value} {h0 : Heap} {Q Q' : Option Value → Heap → Prop} (H : Con l Z n0 ws y bc maxL ret R as h0 Q) (q : ∀ v h, Q v h → Q' v h) : Con l Z n0 ws y bc maxL ret R as h0 Q' := by
  intro p e ha hc hk s m args below hf happ hP hK
  obtain ⟨n, o, h1, h2, h3, v, L, r1, ⟨r2, r3⟩, r4⟩ := H p e ha hc hk s m args below hf happ hP hK
  exact ⟨n, o, h1, h2, h3, v, L, r1, ⟨q _ _ r2, r3⟩, r4⟩
/-! calls by contract -/
theorem Cx.callS (C : Cx p s m meth c Z n0 own bc maxL ret nm) {y : MethodName} {bc' : ByteArray} {maxL' j : Nat} {ret' : Option FieldType} {R' : Room} {argsL rest : List Value} {Q : Option Value → Heap → Prop} (W : Nat) (hC : n0 ≤ h.size → Con l Z n0 [] y bc' maxL' ret' R' argsL.toArray h Q) (hd : decode bc pc = .ok (.invokestatic j, 3)) (hp : pc + 3 = pc')
    (w1 : (Jvm.Cond.methodLink own j y).before a0 Z = true) (w2 : (Jvm.Cond.static y).before a0 Z = true) (w3 : (Jvm.Cond.initialized y.cls).before a0 Z = true) (w4 : (Jvm.Cond.code y bc' maxL' ret').before a0 Z = true) (hy : y.cls ≠ "java/lang/invoke/MethodHandle" ∧ y.cls ≠ "java/lang/invoke/VarHandle") {ps : List FieldType} {r : Option FieldType} (hpd : parseMethodDescriptor y.desc = some ⟨ps, r⟩) (hlen : argsL.length = ps.length)
    (hst : st = argsL.reverse ++ rest) (hsz : Ls.size = maxL) (hW : (rest.map fun v => v.category).sum ≤ W) (hf : R'.frames + 1 ≤ R.frames) (hl : W + (maxL' + 11) + R'.locals ≤ R.locals) (hk : k + R'.cells ≤ R.cells) (hn : n + R'.slots ≤ R.slots)
    (hr : ∀ v h', Q v h' → Go p l e R s m args below meth c n0 F h' (k + R'.cells) (n + R'.slots) pc' Ls (v.toList ++ rest)) : Go p l e R s m args below meth c n0 F h k n pc Ls st := by
  intro T locs X eT N
  subst hp hst
  obtain ⟨v, _, ⟨T', L', k', n'⟩, -, X', ⟨Lc, hQ, l1, y1, z1⟩, stp⟩ := Jvm.LawKit.callS X C.1 (y := y) C.2.2.1 (mvT C.2.1 w1) (mvT C.2.1 w2) (mvT C.2.1 w3) (mvT C.2.1 w4) hy (backOf (Z := Z) (h := h) (bytes := bc') (maxL := maxL') (ret := ret') (rm := R') (as' := argsL.toArray) (Q := fun v h' L => Q v h' ∧ Fr n0 L) (W := W) (hC (by rw [← eT]; exact C.size X)) C.2.1 w4 w3 hf hl) (g := mkF m pc Ls (argsL.reverse ++ rest)) rfl (hsz.trans C.2.2.2.2.1.symm) (argsL := argsL) (rest := rest) (lenOf hpd hlen) rfl (by show 2 * 0 + _ ≤ W; omega) (hb C.2.2.2.1 hd) (fun _ _ => ⟨rfl, eT, hk, hn⟩)
  dsimp only [Pt.U, Pt.locs, Pt.cells, Pt.slots] at X' l1 y1 z1 stp hQ
  subst l1 y1 z1
  obtain ⟨s₂, o, q1, q2⟩ := hr v T'.heap hQ.1 T' _ X' rfl (Fr.app N hQ.2)
  exact ⟨s₂, o, stp _ q1, q2⟩
theorem Cx.callN (C : Cx p s m meth c Z n0 own bc maxL ret nm) {y : MethodName} {bc' : ByteArray} {maxL' j : Nat} {R' : Room} {a : Addr} {argsL rest : List Value} {Q : Option Value → Heap → Prop} (W : Nat) (hC : n0 ≤ h.size → Con l Z n0 [] y bc' maxL' none R' (.ref a :: argsL).toArray h Q) (hd : decode bc pc = .ok (.invokespecial j, 3)) (hp : pc + 3 = pc') (hy1 : y.name = "<init>")
    (w1 : (Jvm.Cond.methodLink own j y).before a0 Z = true) (w2 : (Jvm.Cond.instanceMethod y).before a0 Z = true) (w3 : (Jvm.Cond.initialized y.cls).before a0 Z = true) (w4 : (Jvm.Cond.code y bc' maxL' none).before a0 Z = true) (hy : y.cls ≠ "java/lang/invoke/MethodHandle" ∧ y.cls ≠ "java/lang/invoke/VarHandle") {ps : List FieldType} {r : Option FieldType} (hpd : parseMethodDescriptor y.desc = some ⟨ps, r⟩) (hlen : argsL.length = ps.length)
    (hst : st = argsL.reverse ++ .ref a :: rest) (hsz : Ls.size = maxL) (hW : (rest.map fun v => v.category).sum ≤ W) (hf : R'.frames + 1 ≤ R.frames) (hl : W + (maxL' + 11) + R'.locals ≤ R.locals) (hk : k + R'.cells ≤ R.cells) (hn : n + R'.slots ≤ R.slots)
    (hr : ∀ v h', Q v h' → Go p l e R s m args below meth c n0 F h' (k + R'.cells) (n + R'.slots) pc' Ls (v.toList ++ rest)) : Go p l e R s m args below meth c n0 F h k n pc Ls st := by
  intro T locs X eT N
  subst hp hst
  obtain ⟨v, _, ⟨T', L', k', n'⟩, -, X', ⟨Lc, hQ, l1, y1, z1⟩, stp⟩ := X.specialBack C.1 (y := y) hy1 C.2.2.1 (mvT C.2.1 w1) (mvT C.2.1 w2) (mvT C.2.1 w4) hy (backOf (Z := Z) (h := h) (bytes := bc') (maxL := maxL') (ret := none) (rm := R') (as' := (Value.ref a :: argsL).toArray) (Q := fun v h' L => Q v h' ∧ Fr n0 L) (W := W) (hC (by rw [← eT]; exact C.size X)) C.2.1 w4 w3 hf hl) (g := mkF m pc Ls (argsL.reverse ++ .ref a :: rest)) rfl (hsz.trans C.2.2.2.2.1.symm) (Steps.refl _) (a := a) (argsL := argsL) (rest := rest) (lenOf hpd hlen) rfl (by show 2 * 0 + _ ≤ W; omega) (hb C.2.2.2.1 hd) (fun _ _ => ⟨rfl, eT, hk, hn⟩)
  dsimp only [Pt.U, Pt.locs, Pt.cells, Pt.slots] at X' l1 y1 z1 stp hQ
  subst l1 y1 z1
  obtain ⟨s₂, o, q1, q2⟩ := hr v T'.heap hQ.1 T' _ X' rfl (Fr.app N hQ.2)
  exact ⟨s₂, o, stp.trans q1, q2⟩
theorem Cx.callV (C : Cx p s m meth c Z n0 own bc maxL ret nm) {y : MethodName} {cls : String} {bc' : ByteArray} {maxL' j : Nat} {ret' : Option FieldType} {R' : Room} {a : Addr} {argsL rest : List Value} {Q : Option Value → Heap → Prop} (W : Nat) (hC : n0 ≤ h.size → Con l Z n0 [] y bc' maxL' ret' R' (.ref a :: argsL).toArray h Q) (E : Exa Z h a cls) (hd : decode bc pc = .ok (.invokevirtual j, 3)) (hp : pc + 3 = pc')
    (w1 : (Jvm.Cond.methodLink own j y).before a0 Z = true) (w2 : (Jvm.Cond.declares y).before a0 Z = true) (w3 : (Jvm.Cond.instanceMethod y).before a0 Z = true) (w4 : (Jvm.Cond.selects cls y y).before a0 Z = true) (w5 : (Jvm.Cond.initialized y.cls).before a0 Z = true) (w6 : (Jvm.Cond.code y bc' maxL' ret').before a0 Z = true) (hy : y.cls ≠ "java/lang/invoke/MethodHandle" ∧ y.cls ≠ "java/lang/invoke/VarHandle") {ps : List FieldType} {r : Option FieldType} (hpd : parseMethodDescriptor y.desc = some ⟨ps, r⟩) (hlen : argsL.length = ps.length)
    (hst : st = argsL.reverse ++ .ref a :: rest) (hsz : Ls.size = maxL) (hW : (rest.map fun v => v.category).sum ≤ W) (hf : R'.frames + 1 ≤ R.frames) (hl : W + (maxL' + 11) + R'.locals ≤ R.locals) (hk : k + R'.cells ≤ R.cells) (hn : n + R'.slots ≤ R.slots)
    (hr : ∀ v h', Q v h' → Go p l e R s m args below meth c n0 F h' (k + R'.cells) (n + R'.slots) pc' Ls (v.toList ++ rest)) : Go p l e R s m args below meth c n0 F h k n pc Ls st := by
  intro T locs X eT N
  subst hp hst
  obtain ⟨cq, kq, qa, qb, qc⟩ := isOf (T := T) C.2.1 eT E
  obtain ⟨v, _, ⟨T', L', k', n'⟩, -, X', ⟨Lc, hQ, l1, y1, z1⟩, stp⟩ := X.virtualBack C.1 (y := y) (z := y) C.2.2.1 (mvT C.2.1 w1) (mvT C.2.1 w2) (notFace_of_selects (args := #[]) (mvT C.2.1 w4)) (mvT C.2.1 w4) (mvT C.2.1 w3) hy (backOf (Z := Z) (h := h) (bytes := bc') (maxL := maxL') (ret := ret') (rm := R') (as' := (Value.ref a :: argsL).toArray) (Q := fun v h' L => Q v h' ∧ Fr n0 L) (W := W) (hC (by rw [← eT]; exact C.size X)) C.2.1 w6 w5 hf hl) qa qc (g := mkF m pc Ls (argsL.reverse ++ .ref a :: rest)) rfl (hsz.trans C.2.2.2.2.1.symm) (Steps.refl _) (argsL := argsL) (rest := rest) (lenOf hpd hlen) rfl (by show 2 * 0 + _ ≤ W; omega) (hb C.2.2.2.1 hd) (fun _ _ => ⟨rfl, eT, hk, hn⟩)
  dsimp only [Pt.U, Pt.locs, Pt.cells, Pt.slots] at X' l1 y1 z1 stp hQ
  subst l1 y1 z1
  obtain ⟨s₂, o, q1, q2⟩ := hr v T'.heap hQ.1 T' _ X' rfl (Fr.app N hQ.2)
  exact ⟨s₂, o, stp.trans q1, q2⟩
end Own
theorem own_or_l {a b : Int64} (q : ¬ a = 0) : ¬ a ||| b = 0 := fun e => q (by
  have f := congrArg Int64.toBitVec e
  rw [Int64.toBitVec_or] at f
  exact Int64.toBitVec_inj.1 (BitVec.or_eq_zero_iff.mp f).1)
theorem own_or_r {a b : Int64} (q : ¬ b = 0) : ¬ a ||| b = 0 := fun e => q (by
  have f := congrArg Int64.toBitVec e
  rw [Int64.toBitVec_or] at f
  exact Int64.toBitVec_inj.1 (BitVec.or_eq_zero_iff.mp f).2)
section OwnArr
variable {p : Program} {l : Launch} {e : Env} {R : Room} {s : State} {m : MethodId} {args : Array Value} {below : List Frame} {meth : Method} {c : Code} {n0 : Nat} {F : State → Outcome → Prop} {h : Heap} {k n pc pc' : Nat} {Ls : Array Slot} {st : List Value} {Z : State} {own : String} {bc : ByteArray} {maxL : Nat} {ret : Option FieldType} {nm : String} {a0 : Array Value}
theorem own_clamp {j : Nat} (q : j < 2 ^ 31) : j.toInt32.toNatClampNeg = j ∧ ¬ j.toInt32 < 0 := by
  have e := len_toInt q
  constructor
  · simp only [Int32.toNatClampNeg, e]; omega
  · rw [Int32.lt_iff_toInt_lt, e]; simp only [Int32.reduceToInt]; omega
theorem Av.arv {a : Addr} {ty : FieldType} {vs : List Value} (A : Av Z h a ty vs) (q : vs.length < 2 ^ 31) (dv : Value) : ∃ kc, Arv Z h a kc ty vs.length.toInt32 vs dv := by
  obtain ⟨cl, A, rfl, r⟩ := A
  obtain ⟨e1, e2⟩ := own_clamp q
  rw [Array.length_toList] at q e1 e2 ⊢
  refine ⟨cl.cls, cl, A, rfl, e1.symm, e2, fun i hi => ?_, fun i hi => ?_⟩
  · simp [List.getD_eq_getElem?_getD, hi]
  · have : cl.slots.toList.getD i dv = cl.slots[i] := by simp [List.getD_eq_getElem?_getD, hi]
    rw [this]; exact r _ (by simp)
theorem Arv.av {a : Addr} {kc : ClassId} {ty : FieldType} {z : Int32} {vs : List Value} {dv : Value} (A : Arv Z h a kc ty z vs dv) (q : z.toNatClampNeg = vs.length) : Av Z h a ty vs := by
  obtain ⟨cl, A, -, S, -, H, G⟩ := A
  have e : cl.slots.toList = vs := by
    apply List.ext_getElem?
    intro i
    by_cases hi : i < cl.slots.size
    · have := H i hi
      rw [Array.getElem?_toList, this]
      have h2 : i < vs.length := by omega
      simp [List.getD_eq_getElem?_getD, h2]
    · rw [List.getElem?_eq_none (by simpa using hi), List.getElem?_eq_none (by omega)]
  refine ⟨cl, A, e, fun v hv => ?_⟩
  obtain ⟨i, hi, rfl⟩ := List.getElem_of_mem hv
  have := G i (by omega)
  simpa [List.getD_eq_getElem?_getD, hi] using this
theorem own_range (vs : List Value) (sp nn : Nat) (q : sp + nn ≤ vs.length) (d : Value) : (List.range nn).map (fun i => vs.getD (sp + i) d) = (vs.drop sp).take nn := by
  apply List.ext_getElem?
  intro i
  by_cases hi : i < nn
  · simp [hi, List.getElem?_take, List.getD_eq_getElem?_getD, show sp + i < vs.length by omega]
  · rw [List.getElem?_eq_none (by simpa using hi), List.getElem?_eq_none (by simp; omega)]
theorem Cx.acopy (C : Cx p s m meth c Z n0 own bc maxL ret nm) {j : Nat} {a b : Addr} {ty : FieldType} {sp dp nn : Int32} {vs vd : List Value} (W : Nat) (hd : decode bc pc = .ok (.invokestatic j, 3)) (hp : pc + 3 = pc') (w1 : (Jvm.Cond.methodLink own j Jvm.Stand.acN).before a0 Z = true) (w2 : (Jvm.Cond.native Jvm.Stand.acN).before a0 Z = true) (w3 : (Jvm.Cond.static Jvm.Stand.acN).before a0 Z = true) (w4 : (Jvm.Cond.initialized "java/lang/System").before a0 Z = true)
    (A : Av Z h a ty vs) (B : Av Z h b ty vd) (hty : refKind ty = false) (l1 : vs.length < 2 ^ 31) (l2 : vd.length < 2 ^ 31) (h1 : ¬ sp < 0) (h2 : ¬ dp < 0) (h3 : ¬ nn < 0) (h4 : sp.toNatClampNeg + nn.toNatClampNeg ≤ vs.length) (h5 : dp.toNatClampNeg + nn.toNatClampNeg ≤ vd.length) (ge : n0 ≤ b) (hsz : Ls.size = maxL) (hf : 1 ≤ R.frames) (hW : (st.map fun v => v.category).sum ≤ W) (hlo : W + (nativeFrameWords "java/lang/System" "arraycopy" 5 + 11) ≤ R.locals)
    (hr : ∀ h', Keep h h' [b] → Av Z h' b ty (vd.take dp.toNatClampNeg ++ (vs.drop sp.toNatClampNeg).take nn.toNatClampNeg ++ vd.drop (dp.toNatClampNeg + nn.toNatClampNeg)) → Go p l e R s m args below meth c n0 F h' k n pc' Ls st) : Go p l e R s m args below meth c n0 F h k n pc Ls (.int nn :: .int dp :: .ref b :: .int sp :: .ref a :: st) := by
  intro T locs X eT N
  subst hp
  obtain ⟨ka, A'⟩ := A.arv l1 (.int 0)
  obtain ⟨kb, B'⟩ := B.arv l2 (.int 0)
  have c1 := (own_clamp l1).1
  have c2 := (own_clamp l2).1
  obtain ⟨T', h', L', X', e', N', K', V', stp⟩ := cpA X C.1 C.2.1 C.2.2.1 w1 w2 w3 w4 eT A' B' (Or.inl ⟨rfl, hty⟩) h1 h2 h3 (by rw [c1]; exact h4) (by rw [c2]; exact h5) rfl h5 N ge (g := mkF m pc Ls (.int nn :: .int dp :: .ref b :: .int sp :: .ref a :: st)) rfl (hsz.trans C.2.2.2.2.1.symm) rfl (hb C.2.2.2.1 hd) hf (W := W) (by show 2 * 0 + _ ≤ W; omega) hlo
  rw [own_range vs _ _ h4] at V'
  have V2 := Arv.av V' (by rw [c2]; simp; omega)
  obtain ⟨s₂, o, q1, q2⟩ := hr h' K' V2 T' _ X' e' N'
  exact ⟨s₂, o, stp _ q1, q2⟩
end OwnArr
section OwnCalls
variable {p : Program} {l : Launch} {e : Env} {R : Room} {s : State} {m : MethodId} {args : Array Value} {below : List Frame} {meth : Method} {c : Code} {n0 : Nat} {F : State → Outcome → Prop} {h : Heap} {k n pc pc' : Nat} {Ls : Array Slot} {st : List Value} {Z : State} {own : String} {bc : ByteArray} {maxL : Nat} {ret : Option FieldType} {nm : String} {a0 : Array Value}
theorem Cx.callNN (C : Cx p s m meth c Z n0 own bc maxL ret nm) {y : MethodName} {host : String} {bc' : ByteArray} {maxL' j : Nat} {R' : Room} {a : Addr} {argsL rest : List Value} {Q : Option Value → Heap → Prop} (W : Nat) (hC : n0 ≤ h.size → Con l Z n0 [] y bc' maxL' none R' (.ref a :: argsL).toArray h Q) (hd : decode bc pc = .ok (.invokespecial j, 3)) (hp : pc + 3 = pc') (hy1 : y.name = "<init>")
    (w1 : (Jvm.Cond.methodLinkNest own j y host).before a0 Z = true) (w2 : (Jvm.Cond.instanceMethod y).before a0 Z = true) (w3 : (Jvm.Cond.initialized y.cls).before a0 Z = true) (w4 : (Jvm.Cond.code y bc' maxL' none).before a0 Z = true) (hy : y.cls ≠ "java/lang/invoke/MethodHandle" ∧ y.cls ≠ "java/lang/invoke/VarHandle") {ps : List FieldType} {r : Option FieldType} (hpd : parseMethodDescriptor y.desc = some ⟨ps, r⟩) (hlen : argsL.length = ps.length)
    (hst : st = argsL.reverse ++ .ref a :: rest) (hsz : Ls.size = maxL) (hW : (rest.map fun v => v.category).sum ≤ W) (hf : R'.frames + 1 ≤ R.frames) (hl : W + (maxL' + 11) + R'.locals ≤ R.locals) (hk : k + R'.cells ≤ R.cells) (hn : n + R'.slots ≤ R.slots)
    (hr : ∀ v h', Q v h' → Go p l e R s m args below meth c n0 F h' (k + R'.cells) (n + R'.slots) pc' Ls (v.toList ++ rest)) : Go p l e R s m args below meth c n0 F h k n pc Ls st := by
  intro T locs X eT N
  subst hp hst
  obtain ⟨v, _, ⟨T', L', k', n'⟩, -, X', ⟨Lc, hQ, l1, y1, z1⟩, stp⟩ := X.specialBackNest C.1 (y := y) hy1 C.2.2.1 (Cond.methodLinkNest_wide C.2.1 w1 :) (mvT C.2.1 w2) (mvT C.2.1 w4) hy (backOf (Z := Z) (h := h) (bytes := bc') (maxL := maxL') (ret := none) (rm := R') (as' := (Value.ref a :: argsL).toArray) (Q := fun v h' L => Q v h' ∧ Fr n0 L) (W := W) (hC (by rw [← eT]; exact C.size X)) C.2.1 w4 w3 hf hl) (g := mkF m pc Ls (argsL.reverse ++ .ref a :: rest)) rfl (hsz.trans C.2.2.2.2.1.symm) (Steps.refl _) (a := a) (argsL := argsL) (rest := rest) (lenOf hpd hlen) rfl (by show 2 * 0 + _ ≤ W; omega) (hb C.2.2.2.1 hd) (fun _ _ => ⟨rfl, eT, hk, hn⟩)
  dsimp only [Pt.U, Pt.locs, Pt.cells, Pt.slots] at X' l1 y1 z1 stp hQ
  subst l1 y1 z1
  obtain ⟨s₂, o, q1, q2⟩ := hr v T'.heap hQ.1 T' _ X' rfl (Fr.app N hQ.2)
  exact ⟨s₂, o, stp.trans q1, q2⟩
end OwnCalls
section OwnPriv
variable {p : Program} {l : Launch} {e : Env} {R : Room} {s : State} {m : MethodId} {args : Array Value} {below : List Frame} {meth : Method} {c : Code} {n0 : Nat} {F : State → Outcome → Prop} {h : Heap} {k n pc pc' : Nat} {Ls : Array Slot} {st : List Value} {Z : State} {own : String} {bc : ByteArray} {maxL : Nat} {ret : Option FieldType} {nm : String} {a0 : Array Value}
theorem Cx.callP (C : Cx p s m meth c Z n0 own bc maxL ret nm) {y : MethodName} {cls : String} {bc' : ByteArray} {maxL' j : Nat} {ret' : Option FieldType} {R' : Room} {a : Addr} {argsL rest : List Value} {Q : Option Value → Heap → Prop} (W : Nat) (hC : n0 ≤ h.size → Con l Z n0 [] y bc' maxL' ret' R' (.ref a :: argsL).toArray h Q) (E : Exa Z h a cls) (hd : decode bc pc = .ok (.invokevirtual j, 3)) (hp : pc + 3 = pc')
    (w1 : (Jvm.Cond.methodLink own j y).before a0 Z = true) (w2 : (Jvm.Cond.privateMethod y).before a0 Z = true) (w3 : (Jvm.Cond.instanceMethod y).before a0 Z = true) (w4 : (Jvm.Cond.selects y.cls y y).before a0 Z = true) (w5 : (Jvm.Cond.initialized y.cls).before a0 Z = true) (w6 : (Jvm.Cond.code y bc' maxL' ret').before a0 Z = true) (hy : y.cls ≠ "java/lang/invoke/MethodHandle" ∧ y.cls ≠ "java/lang/invoke/VarHandle") {ps : List FieldType} {r : Option FieldType} (hpd : parseMethodDescriptor y.desc = some ⟨ps, r⟩) (hlen : argsL.length = ps.length)
    (hst : st = argsL.reverse ++ .ref a :: rest) (hsz : Ls.size = maxL) (hW : (rest.map fun v => v.category).sum ≤ W) (hf : R'.frames + 1 ≤ R.frames) (hl : W + (maxL' + 11) + R'.locals ≤ R.locals) (hk : k + R'.cells ≤ R.cells) (hn : n + R'.slots ≤ R.slots)
    (hr : ∀ v h', Q v h' → Go p l e R s m args below meth c n0 F h' (k + R'.cells) (n + R'.slots) pc' Ls (v.toList ++ rest)) : Go p l e R s m args below meth c n0 F h k n pc Ls st := by
  intro T locs X eT N
  subst hp hst
  obtain ⟨cell, hc1, hc2⟩ := E.cell
  obtain ⟨v, _, ⟨T', L', k', n'⟩, -, X', ⟨Lc, hQ, l1, y1, z1⟩, stp⟩ := X.privateBack C.1 (y := y) C.2.2.1 (mvT C.2.1 w1) (mvT C.2.1 w3) (mvT C.2.1 w4) (Cond.privateMethod_at (args := #[]) (mvP C.2.1 w2)) (mvT C.2.1 w6) hy (backOf (Z := Z) (h := h) (bytes := bc') (maxL := maxL') (ret := ret') (rm := R') (as' := (Value.ref a :: argsL).toArray) (Q := fun v h' L => Q v h' ∧ Fr n0 L) (W := W) (hC (by rw [← eT]; exact C.size X)) C.2.1 w6 w5 hf hl) (g := mkF m pc Ls (argsL.reverse ++ .ref a :: rest)) rfl (hsz.trans C.2.2.2.2.1.symm) (Steps.refl _) (by rw [eT]; exact hc1) hc2 (argsL := argsL) (rest := rest) (lenOf hpd hlen) rfl (by show 2 * 0 + _ ≤ W; omega) (hb C.2.2.2.1 hd) (fun _ _ => ⟨rfl, eT, hk, hn⟩)
  dsimp only [Pt.U, Pt.locs, Pt.cells, Pt.slots] at X' l1 y1 z1 stp hQ
  subst l1 y1 z1
  obtain ⟨s₂, o, q1, q2⟩ := hr v T'.heap hQ.1 T' _ X' rfl (Fr.app N hQ.2)
  exact ⟨s₂, o, stp.trans q1, q2⟩
end OwnPriv
theorem own_mod1 (x : Int32) : (x &&& 2147483647) % 1 = 0 := by
  have e : (x &&& 2147483647).toInt = x.toInt % 2 ^ 31 := Jvm.Kit.i32_mask x 2147483647 (k := 31) (by decide) (by decide)
  have f : ((x &&& 2147483647) % 1).toInt = (x &&& 2147483647).toInt % 1 := Jvm.Kit.i32_rem_nonneg (by omega)
  simp only [← Int32.toInt_inj, Int32.reduceToInt]; omega
theorem own_mod2 (x : Int32) : (x &&& 2147483647) % 2 = 0 ∨ (x &&& 2147483647) % 2 = 1 := by
  have e : (x &&& 2147483647).toInt = x.toInt % 2 ^ 31 := Jvm.Kit.i32_mask x 2147483647 (k := 31) (by decide) (by decide)
  have f : ((x &&& 2147483647) % 2).toInt = (x &&& 2147483647).toInt % 2 := Jvm.Kit.i32_rem_nonneg (by omega)
  simp only [← Int32.toInt_inj, Int32.reduceToInt]; omega
theorem own_mod3 (x : Int32) : (x &&& 2147483647) % 3 = 0 ∨ (x &&& 2147483647) % 3 = 1 ∨ (x &&& 2147483647) % 3 = 2 := by
  have e : (x &&& 2147483647).toInt = x.toInt % 2 ^ 31 := Jvm.Kit.i32_mask x 2147483647 (k := 31) (by decide) (by decide)
  have f : ((x &&& 2147483647) % 3).toInt = (x &&& 2147483647).toInt % 3 := Jvm.Kit.i32_rem_nonneg (by omega)
  simp only [← Int32.toInt_inj, Int32.reduceToInt]; omega
theorem own_mod4 (x : Int32) : (x &&& 2147483647) % 4 = 0 ∨ (x &&& 2147483647) % 4 = 1 ∨ (x &&& 2147483647) % 4 = 2 ∨ (x &&& 2147483647) % 4 = 3 := by
  have e : (x &&& 2147483647).toInt = x.toInt % 2 ^ 31 := Jvm.Kit.i32_mask x 2147483647 (k := 31) (by decide) (by decide)
  have f : ((x &&& 2147483647) % 4).toInt = (x &&& 2147483647).toInt % 4 := Jvm.Kit.i32_rem_nonneg (by omega)
  simp only [← Int32.toInt_inj, Int32.reduceToInt]; omega
theorem own_mod5 (x : Int32) : (x &&& 2147483647) % 5 = 0 ∨ (x &&& 2147483647) % 5 = 1 ∨ (x &&& 2147483647) % 5 = 2 ∨ (x &&& 2147483647) % 5 = 3 ∨ (x &&& 2147483647) % 5 = 4 := by
  have e : (x &&& 2147483647).toInt = x.toInt % 2 ^ 31 := Jvm.Kit.i32_mask x 2147483647 (k := 31) (by decide) (by decide)
  have f : ((x &&& 2147483647) % 5).toInt = (x &&& 2147483647).toInt % 5 := Jvm.Kit.i32_rem_nonneg (by omega)
  simp only [← Int32.toInt_inj, Int32.reduceToInt]; omega
theorem own_mod6 (x : Int32) : (x &&& 2147483647) % 6 = 0 ∨ (x &&& 2147483647) % 6 = 1 ∨ (x &&& 2147483647) % 6 = 2 ∨ (x &&& 2147483647) % 6 = 3 ∨ (x &&& 2147483647) % 6 = 4 ∨ (x &&& 2147483647) % 6 = 5 := by
  have e : (x &&& 2147483647).toInt = x.toInt % 2 ^ 31 := Jvm.Kit.i32_mask x 2147483647 (k := 31) (by decide) (by decide)
  have f : ((x &&& 2147483647) % 6).toInt = (x &&& 2147483647).toInt % 6 := Jvm.Kit.i32_rem_nonneg (by omega)
  simp only [← Int32.toInt_inj, Int32.reduceToInt]; omega
theorem own_mod7 (x : Int32) : (x &&& 2147483647) % 7 = 0 ∨ (x &&& 2147483647) % 7 = 1 ∨ (x &&& 2147483647) % 7 = 2 ∨ (x &&& 2147483647) % 7 = 3 ∨ (x &&& 2147483647) % 7 = 4 ∨ (x &&& 2147483647) % 7 = 5 ∨ (x &&& 2147483647) % 7 = 6 := by
  have e : (x &&& 2147483647).toInt = x.toInt % 2 ^ 31 := Jvm.Kit.i32_mask x 2147483647 (k := 31) (by decide) (by decide)
  have f : ((x &&& 2147483647) % 7).toInt = (x &&& 2147483647).toInt % 7 := Jvm.Kit.i32_rem_nonneg (by omega)
  simp only [← Int32.toInt_inj, Int32.reduceToInt]; omega
theorem own_mod8 (x : Int32) : (x &&& 2147483647) % 8 = 0 ∨ (x &&& 2147483647) % 8 = 1 ∨ (x &&& 2147483647) % 8 = 2 ∨ (x &&& 2147483647) % 8 = 3 ∨ (x &&& 2147483647) % 8 = 4 ∨ (x &&& 2147483647) % 8 = 5 ∨ (x &&& 2147483647) % 8 = 6 ∨ (x &&& 2147483647) % 8 = 7 := by
  have e : (x &&& 2147483647).toInt = x.toInt % 2 ^ 31 := Jvm.Kit.i32_mask x 2147483647 (k := 31) (by decide) (by decide)
  have f : ((x &&& 2147483647) % 8).toInt = (x &&& 2147483647).toInt % 8 := Jvm.Kit.i32_rem_nonneg (by omega)
  simp only [← Int32.toInt_inj, Int32.reduceToInt]; omega
theorem own_mod9 (x : Int32) : (x &&& 2147483647) % 9 = 0 ∨ (x &&& 2147483647) % 9 = 1 ∨ (x &&& 2147483647) % 9 = 2 ∨ (x &&& 2147483647) % 9 = 3 ∨ (x &&& 2147483647) % 9 = 4 ∨ (x &&& 2147483647) % 9 = 5 ∨ (x &&& 2147483647) % 9 = 6 ∨ (x &&& 2147483647) % 9 = 7 ∨ (x &&& 2147483647) % 9 = 8 := by
  have e : (x &&& 2147483647).toInt = x.toInt % 2 ^ 31 := Jvm.Kit.i32_mask x 2147483647 (k := 31) (by decide) (by decide)
  have f : ((x &&& 2147483647) % 9).toInt = (x &&& 2147483647).toInt % 9 := Jvm.Kit.i32_rem_nonneg (by omega)
  simp only [← Int32.toInt_inj, Int32.reduceToInt]; omega
theorem own_nelen {z : Int32} {vs : List Value} (hn : ¬ z < 0) (hl : z.toNatClampNeg < vs.length) (h31 : vs.length < 2 ^ 31) : ¬ z = vs.length.toInt32 := fun q => by
  rw [q, (own_clamp h31).1] at hl; exact Nat.lt_irrefl _ hl
theorem d1_0 : decode prog_18_method_1_code 0 = .ok (.aload_n 0, 1) := by decide +kernel
theorem d1_1 : decode prog_18_method_1_code 1 = .ok (.invokespecial 1, 3) := by decide +kernel
theorem d1_4 : decode prog_18_method_1_code 4 = .ok (.aload_n 0, 1) := by decide +kernel
theorem d1_5 : decode prog_18_method_1_code 5 = .ok (.bipush 8, 2) := by decide +kernel
theorem d1_7 : decode prog_18_method_1_code 7 = .ok (.newarray .int, 2) := by decide +kernel
theorem d1_9 : decode prog_18_method_1_code 9 = .ok (.putfield 9, 3) := by decide +kernel
theorem d1_12 : decode prog_18_method_1_code 12 = .ok (.return_, 1) := by decide +kernel
theorem pf_0 : plainFor (⟨"com/example/leaseledger/leaseledger/journal/IntColumn", "<init>", "()V"⟩ : MethodName) = true := by first | exact plainFor_of_name (by first | (simp [plainName, overriddenIn]; done) | decide +kernel) | decide +kernel
def Qcon_ini (Z : State) (n0 : Nat) (h0 : Heap) (a : Addr) (v : Option Value) (h' : Heap) : Prop := ∃ (b : Addr), (v = none) ∧ (Keep h0 h' [a]) ∧ (n0 ≤ b) ∧ (h0.size ≤ b) ∧ (Fld Z h' a "com/example/leaseledger/leaseledger/journal/IntColumn" "values" "[I" (.ref b)) ∧ (Fld Z h' a "com/example/leaseledger/leaseledger/journal/IntColumn" "size" "I" (.int 0)) ∧ (Av Z h' b .int ([.int 0, .int 0, .int 0, .int 0, .int 0, .int 0, .int 0, .int 0]))
theorem ef_con_ini (m : MethodId) (a : Addr) : entryFrame m #[(.ref a)] 1 = mkF m 0 #[.val (.ref a)] [] := by first | (simp [entryFrame, mkF, argsToLocals, Value.category]; done) | rfl
set_option maxRecDepth 65536 in
set_option maxHeartbeats 40000000 in
theorem con_ini (l : Launch) (Z : State) (a0 : Array Value) (hw : ∀ d ∈ tables_1, d.before a0 Z = true) (n0 : Nat) (h0 : Heap) (hn0 : n0 ≤ h0.size) (a : Addr) (P0 : Exa Z h0 a "com/example/leaseledger/leaseledger/journal/IntColumn") (P1 : Fld Z h0 a "com/example/leaseledger/leaseledger/journal/IntColumn" "values" "[I" (.null)) (P2 : Fld Z h0 a "com/example/leaseledger/leaseledger/journal/IntColumn" "size" "I" (.int 0)) (g_a : n0 ≤ a) :
    Con l Z n0 [] (⟨"com/example/leaseledger/leaseledger/journal/IntColumn", "<init>", "()V"⟩ : MethodName) prog_18_method_1_code 1 none ({ frames := 1, cells := 1, slots := 8, locals := 12 } : Room) #[(.ref a)] h0 (Qcon_ini Z n0 h0 a) := by
  refine Con.of pf_0 (fun m => ef_con_ini m a) hn0 ?_
  intro p e s m below meth c C
  refine C.aloadN d1_0 rfl rfl rfl ?_
  refine C.initO 0 d1_1 rfl (tw hw 8 rfl) (tw hw 9 rfl) (tw hw 10 rfl) rfl (by decide) (Nat.le_of_eq rfl) (by decide) ?_
  refine C.aloadN d1_4 rfl rfl rfl ?_
  refine C.bipush 8 d1_5 rfl rfl ?_
  refine C.newarr 8 d1_7 rfl rfl (tw hw 0 rfl) (by decide) (by decide) (by decide) (by decide) (by decide) (fun a19 h20 z23 g24 X21 F22 => ?_)
  have gz25 : h0.size ≤ a19 := by rw [z23]; exact (Keep.refl h0 [a]).1
  have ne26 : a ≠ a19 := by rw [z23]; exact Nat.ne_of_lt P0.lt
  have F27 : Exa Z h20 a "com/example/leaseledger/leaseledger/journal/IntColumn" := Exa.ext X21 P0
  have F28 : Fld Z h20 a "com/example/leaseledger/leaseledger/journal/IntColumn" "values" "[I" (.null) := Fld.ext X21 P1
  have F29 : Fld Z h20 a "com/example/leaseledger/leaseledger/journal/IntColumn" "size" "I" (.int 0) := Fld.ext X21 P2
  have F30 : Av Z h20 a19 .int ([.int 0, .int 0, .int 0, .int 0, .int 0, .int 0, .int 0, .int 0]) := F22
  refine C.putF d1_9 rfl (tw hw 11 rfl) F28 F27 (Or.inl (tw hw 12 rfl)) (tw hw 3 rfl) (ty := (.array .int)) (by decide) rfl rfl g_a (fun h31 W32 F33 => ?_)
  have F34 : Exa Z h31 a "com/example/leaseledger/leaseledger/journal/IntColumn" := Exa.wr W32 F27
  have F35 : Fld Z h31 a "com/example/leaseledger/leaseledger/journal/IntColumn" "size" "I" (.int 0) := Fld.other W32 F29 (Or.inr (slot_ne (C := "com/example/leaseledger/leaseledger/journal/IntColumn") (t := .int) (t' := (.array .int)) (Or.inl (tw hw 19 rfl)) (Or.inl (tw hw 12 rfl)) (by decide) (by decide) (by decide)))
  have F36 : Av Z h31 a19 .int ([.int 0, .int 0, .int 0, .int 0, .int 0, .int 0, .int 0, .int 0]) := F30.other W32 (Ne.symm ne26)
  exact C.ret0 d1_12 (by decide) (by decide) ⟨a19, rfl, (((Keep.refl h0 [a]).ext X21).wr W32 (Or.inl (List.mem_of_getElem? (i := 0) rfl))), g24, gz25, F33, F35, F36⟩
theorem d3_0 : decode prog_18_method_3_code 0 = .ok (.aload_n 0, 1) := by decide +kernel
theorem d3_1 : decode prog_18_method_3_code 1 = .ok (.getfield 13, 3) := by decide +kernel
theorem d3_4 : decode prog_18_method_3_code 4 = .ok (.aload_n 0, 1) := by decide +kernel
theorem d3_5 : decode prog_18_method_3_code 5 = .ok (.getfield 9, 3) := by decide +kernel
theorem d3_8 : decode prog_18_method_3_code 8 = .ok (.arraylength, 1) := by decide +kernel
theorem d3_9 : decode prog_18_method_3_code 9 = .ok (.if_icmp .ne 20, 3) := by decide +kernel
theorem d3_12 : decode prog_18_method_3_code 12 = .ok (.aload_n 0, 1) := by decide +kernel
theorem d3_13 : decode prog_18_method_3_code 13 = .ok (.aload_n 0, 1) := by decide +kernel
theorem d3_14 : decode prog_18_method_3_code 14 = .ok (.getfield 9, 3) := by decide +kernel
theorem d3_17 : decode prog_18_method_3_code 17 = .ok (.iconst 2, 1) := by decide +kernel
theorem d3_18 : decode prog_18_method_3_code 18 = .ok (.aload_n 0, 1) := by decide +kernel
theorem d3_19 : decode prog_18_method_3_code 19 = .ok (.getfield 13, 3) := by decide +kernel
theorem d3_22 : decode prog_18_method_3_code 22 = .ok (.imul, 1) := by decide +kernel
theorem d3_23 : decode prog_18_method_3_code 23 = .ok (.invokestatic 17, 3) := by decide +kernel
theorem d3_26 : decode prog_18_method_3_code 26 = .ok (.putfield 9, 3) := by decide +kernel
theorem d3_29 : decode prog_18_method_3_code 29 = .ok (.aload_n 0, 1) := by decide +kernel
theorem d3_30 : decode prog_18_method_3_code 30 = .ok (.getfield 9, 3) := by decide +kernel
theorem d3_33 : decode prog_18_method_3_code 33 = .ok (.aload_n 0, 1) := by decide +kernel
theorem d3_34 : decode prog_18_method_3_code 34 = .ok (.dup, 1) := by decide +kernel
theorem d3_35 : decode prog_18_method_3_code 35 = .ok (.getfield 13, 3) := by decide +kernel
theorem d3_38 : decode prog_18_method_3_code 38 = .ok (.dup_x1, 1) := by decide +kernel
theorem d3_39 : decode prog_18_method_3_code 39 = .ok (.iconst 1, 1) := by decide +kernel
theorem d3_40 : decode prog_18_method_3_code 40 = .ok (.iadd, 1) := by decide +kernel
theorem d3_41 : decode prog_18_method_3_code 41 = .ok (.putfield 13, 3) := by decide +kernel
theorem d3_44 : decode prog_18_method_3_code 44 = .ok (.iload_n 1, 1) := by decide +kernel
theorem d3_45 : decode prog_18_method_3_code 45 = .ok (.iastore, 1) := by decide +kernel
theorem d3_46 : decode prog_18_method_3_code 46 = .ok (.return_, 1) := by decide +kernel
theorem pf_1 : plainFor (⟨"com/example/leaseledger/leaseledger/journal/IntColumn", "add", "(I)V"⟩ : MethodName) = true := by first | exact plainFor_of_name (by first | (simp [plainName, overriddenIn]; done) | decide +kernel) | decide +kernel
def Qcon_add (Z : State) (n0 : Nat) (h0 : Heap) (a : Addr) (b : Addr) (w : Int32) (n : Int32) (vs : List Value) (v : Option Value) (h' : Heap) : Prop := (v = none) ∧ (Keep h0 h' [a, b]) ∧ (Fld Z h' a "com/example/leaseledger/leaseledger/journal/IntColumn" "values" "[I" (.ref b)) ∧ (Fld Z h' a "com/example/leaseledger/leaseledger/journal/IntColumn" "size" "I" (.int (n + 1))) ∧ (Av Z h' b .int (vs.set (Int32.toNatClampNeg n) (.int w)))
theorem ef_con_add (m : MethodId) (a : Addr) (w : Int32) : entryFrame m #[(.ref a), (.int w)] 2 = mkF m 0 #[.val (.ref a), .val (.int w)] [] := by first | (simp [entryFrame, mkF, argsToLocals, Value.category]; done) | rfl
set_option maxRecDepth 65536 in
set_option maxHeartbeats 40000000 in
theorem con_add (l : Launch) (Z : State) (a0 : Array Value) (hw : ∀ d ∈ tables_1, d.before a0 Z = true) (n0 : Nat) (h0 : Heap) (hn0 : n0 ≤ h0.size) (a : Addr) (b : Addr) (w : Int32) (n : Int32) (vs : List Value) (P0 : Exa Z h0 a "com/example/leaseledger/leaseledger/journal/IntColumn") (P1 : Fld Z h0 a "com/example/leaseledger/leaseledger/journal/IntColumn" "values" "[I" (.ref b)) (P2 : Fld Z h0 a "com/example/leaseledger/leaseledger/journal/IntColumn" "size" "I" (.int n)) (P3 : Av Z h0 b .int vs) (g_a : n0 ≤ a) (g_b : n0 ≤ b) (ne_a_b : a ≠ b) (hn : ¬ n < 0) (hl : n.toNatClampNeg < vs.length) (h31 : vs.length < 2 ^ 31) :
    Con l Z n0 [] (⟨"com/example/leaseledger/leaseledger/journal/IntColumn", "add", "(I)V"⟩ : MethodName) prog_18_method_3_code 2 none ({ frames := 0, cells := 0, slots := 0, locals := 0 } : Room) #[(.ref a), (.int w)] h0 (Qcon_add Z n0 h0 a b w n vs) := by
  refine Con.of pf_1 (fun m => ef_con_add m a w) hn0 ?_
  intro p e s m below meth c C
  refine C.aloadN d3_0 rfl rfl rfl ?_
  refine C.getF d3_1 rfl (tw hw 18 rfl) P2 ?_
  refine C.aloadN d3_4 rfl rfl rfl ?_
  refine C.getF d3_5 rfl (tw hw 11 rfl) P1 ?_
  refine C.alen d3_8 rfl P3 ?_
  refine C.icmp_ne_t d3_9 (by decide) rfl (own_nelen hn hl h31) ?_
  refine C.aloadN d3_29 rfl rfl rfl ?_
  refine C.getF d3_30 rfl (tw hw 11 rfl) P1 ?_
  refine C.aloadN d3_33 rfl rfl rfl ?_
  refine C.dup d3_34 rfl rfl ?_
  refine C.getF d3_35 rfl (tw hw 18 rfl) P2 ?_
  refine C.dupX1 d3_38 rfl rfl rfl ?_
  refine C.iconst 1 d3_39 rfl rfl ?_
  refine C.iadd d3_40 rfl ?_
  refine C.putF d3_41 rfl (tw hw 18 rfl) P2 P0 (Or.inl (tw hw 19 rfl)) (tw hw 3 rfl) (ty := .int) (by decide) rfl rfl g_a (fun h49 W50 F51 => ?_)
  have F52 : Exa Z h49 a "com/example/leaseledger/leaseledger/journal/IntColumn" := Exa.wr W50 P0
  have F53 : Fld Z h49 a "com/example/leaseledger/leaseledger/journal/IntColumn" "values" "[I" (.ref b) := Fld.other W50 P1 (Or.inr (slot_ne (C := "com/example/leaseledger/leaseledger/journal/IntColumn") (t := (.array .int)) (t' := .int) (Or.inl (tw hw 12 rfl)) (Or.inl (tw hw 19 rfl)) (by decide) (by decide) (by decide)))
  have F54 : Av Z h49 b .int vs := P3.other W50 (Ne.symm ne_a_b)
  refine C.iloadN d3_44 rfl rfl ?_
  refine C.iastore d3_45 rfl F54 g_b hn hl (fun h55 W56 F57 => ?_)
  have F58 : Exa Z h55 a "com/example/leaseledger/leaseledger/journal/IntColumn" := Exa.wr W56 F52
  have F59 : Fld Z h55 a "com/example/leaseledger/leaseledger/journal/IntColumn" "values" "[I" (.ref b) := Fld.other W56 F53 (Or.inl ne_a_b)
  have F60 : Fld Z h55 a "com/example/leaseledger/leaseledger/journal/IntColumn" "size" "I" (.int (n + 1)) := Fld.other W56 F51 (Or.inl ne_a_b)
  exact C.ret0 d3_46 (by decide) (by decide) ⟨rfl, (((Keep.refl h0 [a, b]).wr W50 (Or.inl (List.mem_of_getElem? (i := 0) rfl))).wr W56 (Or.inl (List.mem_of_getElem? (i := 1) rfl))), F59, F60, F57⟩
theorem d6_0 : decode jdk_41_method_11_code 0 = .ok (.iload_n 0, 1) := by decide +kernel
theorem d6_1 : decode jdk_41_method_11_code 1 = .ok (.ifCond .lt 8, 3) := by decide +kernel
theorem d6_4 : decode jdk_41_method_11_code 4 = .ok (.iload_n 0, 1) := by decide +kernel
theorem d6_5 : decode jdk_41_method_11_code 5 = .ok (.iload_n 1, 1) := by decide +kernel
theorem d6_6 : decode jdk_41_method_11_code 6 = .ok (.if_icmp .lt 10, 3) := by decide +kernel
theorem d6_9 : decode jdk_41_method_11_code 9 = .ok (.aload_n 2, 1) := by decide +kernel
theorem d6_10 : decode jdk_41_method_11_code 10 = .ok (.iload_n 0, 1) := by decide +kernel
theorem d6_11 : decode jdk_41_method_11_code 11 = .ok (.iload_n 1, 1) := by decide +kernel
theorem d6_12 : decode jdk_41_method_11_code 12 = .ok (.invokestatic 95, 3) := by decide +kernel
theorem d6_15 : decode jdk_41_method_11_code 15 = .ok (.athrow, 1) := by decide +kernel
theorem d6_16 : decode jdk_41_method_11_code 16 = .ok (.iload_n 0, 1) := by decide +kernel
theorem d6_17 : decode jdk_41_method_11_code 17 = .ok (.ireturn, 1) := by decide +kernel
theorem pf_2 : plainFor (⟨"jdk/internal/util/Preconditions", "checkIndex", "(IILjava/util/function/BiFunction;)I"⟩ : MethodName) = true := by first | exact plainFor_of_name (by first | (simp [plainName, overriddenIn]; done) | decide +kernel) | decide +kernel
def Qcon_pre (Z : State) (n0 : Nat) (h0 : Heap) (i : Int32) (z : Int32) (v : Option Value) (h' : Heap) : Prop := (v = some (.int i)) ∧ (h0 = h')
theorem ef_con_pre (m : MethodId) (i : Int32) (z : Int32) : entryFrame m #[(.int i), (.int z), .null] 3 = mkF m 0 #[.val (.int i), .val (.int z), .val (.null)] [] := by first | (simp [entryFrame, mkF, argsToLocals, Value.category]; done) | rfl
set_option maxRecDepth 65536 in
set_option maxHeartbeats 40000000 in
theorem con_pre (l : Launch) (Z : State) (a0 : Array Value) (hw : ∀ d ∈ tables_1, d.before a0 Z = true) (n0 : Nat) (h0 : Heap) (hn0 : n0 ≤ h0.size) (i : Int32) (z : Int32) (hi : ¬ i < 0) (hz : i < z) :
    Con l Z n0 [] (⟨"jdk/internal/util/Preconditions", "checkIndex", "(IILjava/util/function/BiFunction;)I"⟩ : MethodName) jdk_41_method_11_code 3 (some .int) ({ frames := 0, cells := 0, slots := 0, locals := 0 } : Room) #[(.int i), (.int z), .null] h0 (Qcon_pre Z n0 h0 i z) := by
  refine Con.of pf_2 (fun m => ef_con_pre m i z) hn0 ?_
  intro p e s m below meth c C
  refine C.iloadN d6_0 rfl rfl ?_
  refine C.if_lt_f d6_1 rfl hi ?_
  refine C.iloadN d6_4 rfl rfl ?_
  refine C.iloadN d6_5 rfl rfl ?_
  refine C.icmp_lt_t d6_6 (by decide) rfl hz ?_
  refine C.iloadN d6_16 rfl rfl ?_
  exact C.retI d6_17 (by decide) (by decide) ⟨rfl, rfl⟩
theorem d5_0 : decode jdk_31_method_17_code 0 = .ok (.iload_n 0, 1) := by decide +kernel
theorem d5_1 : decode jdk_31_method_17_code 1 = .ok (.iload_n 1, 1) := by decide +kernel
theorem d5_2 : decode jdk_31_method_17_code 2 = .ok (.aconst_null, 1) := by decide +kernel
theorem d5_3 : decode jdk_31_method_17_code 3 = .ok (.invokestatic 105, 3) := by decide +kernel
theorem d5_6 : decode jdk_31_method_17_code 6 = .ok (.ireturn, 1) := by decide +kernel
theorem pf_3 : plainFor (⟨"java/util/Objects", "checkIndex", "(II)I"⟩ : MethodName) = true := by first | exact plainFor_of_name (by first | (simp [plainName, overriddenIn]; done) | decide +kernel) | decide +kernel
theorem pd_0 : parseMethodDescriptor "(IILjava/util/function/BiFunction;)I" = some ⟨[.int, .int, (.object "java/util/function/BiFunction")], some .int⟩ := by decide +kernel
def Qcon_chk (Z : State) (n0 : Nat) (h0 : Heap) (i : Int32) (z : Int32) (v : Option Value) (h' : Heap) : Prop := (v = some (.int i)) ∧ (h0 = h')
theorem ef_con_chk (m : MethodId) (i : Int32) (z : Int32) : entryFrame m #[(.int i), (.int z)] 2 = mkF m 0 #[.val (.int i), .val (.int z)] [] := by first | (simp [entryFrame, mkF, argsToLocals, Value.category]; done) | rfl
set_option maxRecDepth 65536 in
set_option maxHeartbeats 40000000 in
theorem con_chk (l : Launch) (Z : State) (a0 : Array Value) (hw : ∀ d ∈ tables_1, d.before a0 Z = true) (n0 : Nat) (h0 : Heap) (hn0 : n0 ≤ h0.size) (i : Int32) (z : Int32) (hi : ¬ i < 0) (hz : i < z) :
    Con l Z n0 [] (⟨"java/util/Objects", "checkIndex", "(II)I"⟩ : MethodName) jdk_31_method_17_code 2 (some .int) ({ frames := 1, cells := 0, slots := 0, locals := 14 } : Room) #[(.int i), (.int z)] h0 (Qcon_chk Z n0 h0 i z) := by
  refine Con.of pf_3 (fun m => ef_con_chk m i z) hn0 ?_
  intro p e s m below meth c C
  refine C.iloadN d5_0 rfl rfl ?_
  refine C.iloadN d5_1 rfl rfl ?_
  refine C.aconst_null d5_2 rfl ?_
  refine C.callS (argsL := [(.int i), (.int z), .null]) (rest := []) 0 (fun zz => con_pre l Z a0 hw n0 h0 zz i z hi hz) d5_3 rfl (tw hw 29 rfl) (tw hw 30 rfl) (tw hw 31 rfl) (tw hw 32 rfl) (by decide) pd_0 rfl rfl rfl (Nat.le_of_eq rfl) (by decide) (by decide) (by decide) (by decide) (fun v65 h66 r67 => ?_)
  obtain ⟨rfl, rfl⟩ := r67
  exact C.retI d5_6 (by decide) (by decide) ⟨rfl, rfl⟩
theorem d4_0 : decode prog_18_method_4_code 0 = .ok (.aload_n 0, 1) := by decide +kernel
theorem d4_1 : decode prog_18_method_4_code 1 = .ok (.getfield 9, 3) := by decide +kernel
theorem d4_4 : decode prog_18_method_4_code 4 = .ok (.iload_n 1, 1) := by decide +kernel
theorem d4_5 : decode prog_18_method_4_code 5 = .ok (.aload_n 0, 1) := by decide +kernel
theorem d4_6 : decode prog_18_method_4_code 6 = .ok (.getfield 13, 3) := by decide +kernel
theorem d4_9 : decode prog_18_method_4_code 9 = .ok (.invokestatic 23, 3) := by decide +kernel
theorem d4_12 : decode prog_18_method_4_code 12 = .ok (.iaload, 1) := by decide +kernel
theorem d4_13 : decode prog_18_method_4_code 13 = .ok (.ireturn, 1) := by decide +kernel
theorem pf_4 : plainFor (⟨"com/example/leaseledger/leaseledger/journal/IntColumn", "get", "(I)I"⟩ : MethodName) = true := by first | exact plainFor_of_name (by first | (simp [plainName, overriddenIn]; done) | decide +kernel) | decide +kernel
theorem pd_1 : parseMethodDescriptor "(II)I" = some ⟨[.int, .int], some .int⟩ := by decide +kernel
def Qcon_get (Z : State) (n0 : Nat) (h0 : Heap) (a : Addr) (b : Addr) (i : Int32) (w : Int32) (n : Int32) (vs : List Value) (v : Option Value) (h' : Heap) : Prop := (v = some (.int w)) ∧ (h0 = h')
theorem ef_con_get (m : MethodId) (a : Addr) (i : Int32) : entryFrame m #[(.ref a), (.int i)] 2 = mkF m 0 #[.val (.ref a), .val (.int i)] [] := by first | (simp [entryFrame, mkF, argsToLocals, Value.category]; done) | rfl
set_option maxRecDepth 65536 in
set_option maxHeartbeats 40000000 in
theorem con_get (l : Launch) (Z : State) (a0 : Array Value) (hw : ∀ d ∈ tables_1, d.before a0 Z = true) (n0 : Nat) (h0 : Heap) (hn0 : n0 ≤ h0.size) (a : Addr) (b : Addr) (i : Int32) (w : Int32) (n : Int32) (vs : List Value) (P0 : Fld Z h0 a "com/example/leaseledger/leaseledger/journal/IntColumn" "values" "[I" (.ref b)) (P1 : Fld Z h0 a "com/example/leaseledger/leaseledger/journal/IntColumn" "size" "I" (.int n)) (P2 : Av Z h0 b .int vs) (hi : ¬ i < 0) (hz : i < n) (hg : vs[i.toNatClampNeg]? = some (.int w)) :
    Con l Z n0 [] (⟨"com/example/leaseledger/leaseledger/journal/IntColumn", "get", "(I)I"⟩ : MethodName) prog_18_method_4_code 2 (some .int) ({ frames := 2, cells := 0, slots := 0, locals := 28 } : Room) #[(.ref a), (.int i)] h0 (Qcon_get Z n0 h0 a b i w n vs) := by
  refine Con.of pf_4 (fun m => ef_con_get m a i) hn0 ?_
  intro p e s m below meth c C
  refine C.aloadN d4_0 rfl rfl rfl ?_
  refine C.getF d4_1 rfl (tw hw 11 rfl) P0 ?_
  refine C.iloadN d4_4 rfl rfl ?_
  refine C.aloadN d4_5 rfl rfl rfl ?_
  refine C.getF d4_6 rfl (tw hw 18 rfl) P1 ?_
  refine C.callS (argsL := [(.int i), (.int n)]) (rest := [(.ref b)]) 1 (fun zz => con_chk l Z a0 hw n0 h0 zz i n hi hz) d4_9 rfl (tw hw 25 rfl) (tw hw 26 rfl) (tw hw 27 rfl) (tw hw 28 rfl) (by decide) pd_1 rfl rfl rfl (Nat.le_of_eq rfl) (by decide) (by decide) (by decide) (by decide) (fun v73 h74 r75 => ?_)
  obtain ⟨rfl, rfl⟩ := r75
  refine C.iaload (.int w) d4_12 rfl P2 hi hg ?_
  exact C.retI d4_13 (by decide) (by decide) ⟨rfl, rfl⟩
def own_minI (x y : Int32) : Int32 := if y < x then y else x
theorem own_minN (x y : Int32) (hx : ¬ x < 0) (hy : ¬ y < 0) : ¬ own_minI x y < 0 ∧ (own_minI x y).toNatClampNeg = min x.toNatClampNeg y.toNatClampNeg := by
  simp only [own_minI]
  split <;> simp only [Int32.lt_iff_toInt_lt, Int32.toNatClampNeg, Int32.reduceToInt] at * <;> omega
theorem d8_0 : decode jdk_29_method_69_code 0 = .ok (.iload_n 0, 1) := by decide +kernel
theorem d8_1 : decode jdk_29_method_69_code 1 = .ok (.iload_n 1, 1) := by decide +kernel
theorem d8_2 : decode jdk_29_method_69_code 2 = .ok (.if_icmp .gt 7, 3) := by decide +kernel
theorem d8_5 : decode jdk_29_method_69_code 5 = .ok (.iload_n 0, 1) := by decide +kernel
theorem d8_6 : decode jdk_29_method_69_code 6 = .ok (.goto 4, 3) := by decide +kernel
theorem d8_9 : decode jdk_29_method_69_code 9 = .ok (.iload_n 1, 1) := by decide +kernel
theorem d8_10 : decode jdk_29_method_69_code 10 = .ok (.ireturn, 1) := by decide +kernel
theorem pf_5 : plainFor (⟨"java/lang/Math", "min", "(II)I"⟩ : MethodName) = true := by first | exact plainFor_of_name (by first | (simp [plainName, overriddenIn]; done) | decide +kernel) | decide +kernel
def Qcon_min (Z : State) (n0 : Nat) (h0 : Heap) (u1 : Int32) (u2 : Int32) (v : Option Value) (h' : Heap) : Prop := (v = some (.int (own_minI u1 u2))) ∧ (h0 = h')
theorem ef_con_min (m : MethodId) (u1 : Int32) (u2 : Int32) : entryFrame m #[(.int u1), (.int u2)] 2 = mkF m 0 #[.val (.int u1), .val (.int u2)] [] := by first | (simp [entryFrame, mkF, argsToLocals, Value.category]; done) | rfl
set_option maxRecDepth 65536 in
set_option maxHeartbeats 40000000 in
theorem con_min (l : Launch) (Z : State) (a0 : Array Value) (hw : ∀ d ∈ tables_1, d.before a0 Z = true) (n0 : Nat) (h0 : Heap) (hn0 : n0 ≤ h0.size) (u1 : Int32) (u2 : Int32) :
    Con l Z n0 [] (⟨"java/lang/Math", "min", "(II)I"⟩ : MethodName) jdk_29_method_69_code 2 (some .int) ({ frames := 0, cells := 0, slots := 0, locals := 0 } : Room) #[(.int u1), (.int u2)] h0 (Qcon_min Z n0 h0 u1 u2) := by
  refine Con.of pf_5 (fun m => ef_con_min m u1 u2) hn0 ?_
  intro p e s m below meth c C
  refine C.iloadN d8_0 rfl rfl ?_
  refine C.iloadN d8_1 rfl rfl ?_
  refine C.icmp_gt d8_2 (by decide) rfl rfl (fun q2 => ?_) (fun q2 => ?_)
  · refine C.iloadN d8_9 rfl rfl ?_
    exact C.retI d8_10 (by decide) (by decide) ⟨(by simp [own_minI, q2]), rfl⟩
  · refine C.iloadN d8_5 rfl rfl ?_
    refine C.goto d8_6 (by decide) rfl ?_
    exact C.retI d8_10 (by decide) (by decide) ⟨(by simp [own_minI, q2]), rfl⟩
def own_copy (vs : List Value) (j : Nat) : List Value := vs.take j ++ List.replicate (j - vs.length) (.int 0)
theorem own_cp (vs : List Value) (z : Int32) (hz : ¬ z < 0) (h31 : vs.length < 2 ^ 31) : ((List.replicate z.toNatClampNeg (Value.int 0)).take (0 : Int32).toNatClampNeg ++ (vs.drop (0 : Int32).toNatClampNeg).take (own_minI vs.length.toInt32 z).toNatClampNeg ++ (List.replicate z.toNatClampNeg (Value.int 0)).drop ((0 : Int32).toNatClampNeg + (own_minI vs.length.toInt32 z).toNatClampNeg)) = own_copy vs z.toNatClampNeg := by
  obtain ⟨c1, c2⟩ := own_clamp h31
  rw [(own_minN _ z c2 hz).2, c1, show (0 : Int32).toNatClampNeg = 0 from rfl]
  simp only [List.take_zero, List.drop_zero, List.nil_append, Nat.zero_add, own_copy, List.drop_replicate]
  have e : vs.take (min vs.length z.toNatClampNeg) = vs.take z.toNatClampNeg := by
    rcases Nat.le_total vs.length z.toNatClampNeg with q | q
    · rw [Nat.min_eq_left q, List.take_length, List.take_of_length_le q]
    · rw [Nat.min_eq_right q]
  rw [e]; congr 2; omega
theorem d7_0 : decode jdk_65_method_123_code 0 = .ok (.iload_n 1, 1) := by decide +kernel
theorem d7_1 : decode jdk_65_method_123_code 1 = .ok (.aload_n 0, 1) := by decide +kernel
theorem d7_2 : decode jdk_65_method_123_code 2 = .ok (.arraylength, 1) := by decide +kernel
theorem d7_3 : decode jdk_65_method_123_code 3 = .ok (.if_icmp .ne 11, 3) := by decide +kernel
theorem d7_6 : decode jdk_65_method_123_code 6 = .ok (.aload_n 0, 1) := by decide +kernel
theorem d7_7 : decode jdk_65_method_123_code 7 = .ok (.invokevirtual 316, 3) := by decide +kernel
theorem d7_10 : decode jdk_65_method_123_code 10 = .ok (.checkcast 317, 3) := by decide +kernel
theorem d7_13 : decode jdk_65_method_123_code 13 = .ok (.areturn, 1) := by decide +kernel
theorem d7_14 : decode jdk_65_method_123_code 14 = .ok (.iload_n 1, 1) := by decide +kernel
theorem d7_15 : decode jdk_65_method_123_code 15 = .ok (.newarray .int, 2) := by decide +kernel
theorem d7_17 : decode jdk_65_method_123_code 17 = .ok (.astore_n 2, 1) := by decide +kernel
theorem d7_18 : decode jdk_65_method_123_code 18 = .ok (.aload_n 0, 1) := by decide +kernel
theorem d7_19 : decode jdk_65_method_123_code 19 = .ok (.iconst 0, 1) := by decide +kernel
theorem d7_20 : decode jdk_65_method_123_code 20 = .ok (.aload_n 2, 1) := by decide +kernel
theorem d7_21 : decode jdk_65_method_123_code 21 = .ok (.iconst 0, 1) := by decide +kernel
theorem d7_22 : decode jdk_65_method_123_code 22 = .ok (.aload_n 0, 1) := by decide +kernel
theorem d7_23 : decode jdk_65_method_123_code 23 = .ok (.arraylength, 1) := by decide +kernel
theorem d7_24 : decode jdk_65_method_123_code 24 = .ok (.iload_n 1, 1) := by decide +kernel
theorem d7_25 : decode jdk_65_method_123_code 25 = .ok (.invokestatic 304, 3) := by decide +kernel
theorem d7_28 : decode jdk_65_method_123_code 28 = .ok (.invokestatic 150, 3) := by decide +kernel
theorem d7_31 : decode jdk_65_method_123_code 31 = .ok (.aload_n 2, 1) := by decide +kernel
theorem d7_32 : decode jdk_65_method_123_code 32 = .ok (.areturn, 1) := by decide +kernel
theorem pf_6 : plainFor (⟨"java/util/Arrays", "copyOf", "([II)[I"⟩ : MethodName) = true := by first | exact plainFor_of_name (by first | (simp [plainName, overriddenIn]; done) | decide +kernel) | decide +kernel
def Qcon_copy (Z : State) (n0 : Nat) (h0 : Heap) (b : Addr) (z : Int32) (vs : List Value) (v : Option Value) (h' : Heap) : Prop := ∃ (r : Addr), (v = some (.ref r)) ∧ (Keep h0 h' []) ∧ (n0 ≤ r) ∧ (h0.size ≤ r) ∧ (Av Z h' r .int (own_copy vs (Int32.toNatClampNeg z)))
theorem ef_con_copy (m : MethodId) (b : Addr) (z : Int32) : entryFrame m #[(.ref b), (.int z)] 3 = mkF m 0 #[.val (.ref b), .val (.int z), .unset] [] := by first | (simp [entryFrame, mkF, argsToLocals, Value.category]; done) | rfl
set_option maxRecDepth 65536 in
set_option maxHeartbeats 40000000 in
theorem con_copy (l : Launch) (Z : State) (a0 : Array Value) (hw : ∀ d ∈ tables_1, d.before a0 Z = true) (n0 : Nat) (h0 : Heap) (hn0 : n0 ≤ h0.size) (b : Addr) (z : Int32) (vs : List Value) (P0 : Av Z h0 b .int vs) (hz : ¬ z < 0) (hc : z.toNatClampNeg ≤ 16) (hne : ¬ z = vs.length.toInt32) (h31 : vs.length < 2 ^ 31) :
    Con l Z n0 [] (⟨"java/util/Arrays", "copyOf", "([II)[I"⟩ : MethodName) jdk_65_method_123_code 3 (some (.array .int)) ({ frames := 1, cells := 1, slots := 16, locals := 18 } : Room) #[(.ref b), (.int z)] h0 (Qcon_copy Z n0 h0 b z vs) := by
  refine Con.of pf_6 (fun m => ef_con_copy m b z) hn0 ?_
  intro p e s m below meth c C
  refine C.iloadN d7_0 rfl rfl ?_
  refine C.aloadN d7_1 rfl rfl rfl ?_
  refine C.alen d7_2 rfl P0 ?_
  refine C.icmp_ne_t d7_3 (by decide) rfl hne ?_
  refine C.iloadN d7_14 rfl rfl ?_
  refine C.newarr 16 d7_15 rfl rfl (tw hw 0 rfl) hz hc (by decide) (by decide) (by decide) (fun a97 h98 z101 g102 X99 F100 => ?_)
  have gz103 : h0.size ≤ a97 := by rw [z101]; exact (Keep.refl h0 []).1
  have ne104 : b ≠ a97 := by rw [z101]; exact Nat.ne_of_lt P0.lt
  have F105 : Av Z h98 b .int vs := P0.ext X99
  have F106 : Av Z h98 a97 .int (List.replicate (Int32.toNatClampNeg z) (.int 0)) := F100
  refine C.astoreN (Ls' := #[.val (.ref b), .val (.int z), .val (.ref a97)]) d7_17 rfl rfl rfl ?_
  refine C.aloadN d7_18 rfl rfl rfl ?_
  refine C.iconst 0 d7_19 rfl rfl ?_
  refine C.aloadN d7_20 rfl rfl rfl ?_
  refine C.iconst 0 d7_21 rfl rfl ?_
  refine C.aloadN d7_22 rfl rfl rfl ?_
  refine C.alen d7_23 rfl F105 ?_
  refine C.iloadN d7_24 rfl rfl ?_
  refine C.callS (argsL := [(.int vs.length.toInt32), (.int z)]) (rest := [(.int 0), (.ref a97), (.int 0), (.ref b)]) 4 (fun zz => con_min l Z a0 hw n0 h98 zz vs.length.toInt32 z ) d7_25 rfl (tw hw 37 rfl) (tw hw 38 rfl) (tw hw 39 rfl) (tw hw 40 rfl) (by decide) pd_1 rfl rfl rfl (Nat.le_of_eq rfl) (by decide) (by decide) (by decide) (by decide) (fun v107 h108 r109 => ?_)
  obtain ⟨rfl, rfl⟩ := r109
  refine C.acopy 0 d7_28 rfl (tw hw 41 rfl) (tw hw 44 rfl) (tw hw 42 rfl) (tw hw 43 rfl) F105 F106 rfl h31 (by rw [List.length_replicate]; exact (back32 hz).2) (by decide) (by decide) (own_minN _ z (own_clamp h31).2 hz).1 (by rw [(own_minN _ z (own_clamp h31).2 hz).2, (own_clamp h31).1]; show 0 + _ ≤ _; omega) (by rw [(own_minN _ z (own_clamp h31).2 hz).2, (own_clamp h31).1, List.length_replicate]; show 0 + _ ≤ _; omega) g102 rfl (by decide) (Nat.le_of_eq rfl) (by decide) (fun h111 K112 F113 => ?_)
  have F114 : Av Z h111 b .int vs := F105.keep K112 (ninS ne104 nin0)
  have F116 : Av Z h111 a97 .int (own_copy vs (Int32.toNatClampNeg z)) := (by have q := F113; rw [own_cp vs z hz h31] at q; exact q)
  refine C.aloadN d7_31 rfl rfl rfl ?_
  exact C.retA d7_32 rfl rfl (by decide) (by decide) ⟨a97, rfl, (((Keep.refl h0 []).ext X99).trans K112 (allS (Or.inr gz103) all0)), g102, gz103, F116⟩
theorem own_cl (vs : List Value) (h : vs.length = 8) : (own_copy vs 16).length = 16 := by simp [own_copy, h]
theorem pd_2 : parseMethodDescriptor "([II)[I" = some ⟨[(.array .int), .int], some (.array .int)⟩ := by decide +kernel
def Qcon_ag (Z : State) (n0 : Nat) (h0 : Heap) (a : Addr) (b : Addr) (w : Int32) (vs : List Value) (v : Option Value) (h' : Heap) : Prop := ∃ (r : Addr), (v = none) ∧ (Keep h0 h' [a]) ∧ (n0 ≤ r) ∧ (h0.size ≤ r) ∧ (Fld Z h' a "com/example/leaseledger/leaseledger/journal/IntColumn" "values" "[I" (.ref r)) ∧ (Fld Z h' a "com/example/leaseledger/leaseledger/journal/IntColumn" "size" "I" (.int 9)) ∧ (Av Z h' r .int ((own_copy vs 16).set 8 (.int w)))
theorem ef_con_ag (m : MethodId) (a : Addr) (w : Int32) : entryFrame m #[(.ref a), (.int w)] 2 = mkF m 0 #[.val (.ref a), .val (.int w)] [] := by first | (simp [entryFrame, mkF, argsToLocals, Value.category]; done) | rfl
set_option maxRecDepth 65536 in
set_option maxHeartbeats 40000000 in
theorem con_ag (l : Launch) (Z : State) (a0 : Array Value) (hw : ∀ d ∈ tables_1, d.before a0 Z = true) (n0 : Nat) (h0 : Heap) (hn0 : n0 ≤ h0.size) (a : Addr) (b : Addr) (w : Int32) (vs : List Value) (P0 : Exa Z h0 a "com/example/leaseledger/leaseledger/journal/IntColumn") (P1 : Fld Z h0 a "com/example/leaseledger/leaseledger/journal/IntColumn" "values" "[I" (.ref b)) (P2 : Fld Z h0 a "com/example/leaseledger/leaseledger/journal/IntColumn" "size" "I" (.int 8)) (P3 : Av Z h0 b .int vs) (g_a : n0 ≤ a) (g_b : n0 ≤ b) (ne_a_b : a ≠ b) (h8 : vs.length = 8) :
    Con l Z n0 [] (⟨"com/example/leaseledger/leaseledger/journal/IntColumn", "add", "(I)V"⟩ : MethodName) prog_18_method_3_code 2 none ({ frames := 2, cells := 1, slots := 16, locals := 33 } : Room) #[(.ref a), (.int w)] h0 (Qcon_ag Z n0 h0 a b w vs) := by
  refine Con.of pf_1 (fun m => ef_con_ag m a w) hn0 ?_
  intro p e s m below meth c C
  refine C.aloadN d3_0 rfl rfl rfl ?_
  refine C.getF d3_1 rfl (tw hw 18 rfl) P2 ?_
  refine C.aloadN d3_4 rfl rfl rfl ?_
  refine C.getF d3_5 rfl (tw hw 11 rfl) P1 ?_
  refine C.alen d3_8 rfl P3 ?_
  refine C.icmp_ne_f d3_9 rfl (by rw [h8]; rfl) ?_
  refine C.aloadN d3_12 rfl rfl rfl ?_
  refine C.aloadN d3_13 rfl rfl rfl ?_
  refine C.getF d3_14 rfl (tw hw 11 rfl) P1 ?_
  refine C.iconst 2 d3_17 rfl rfl ?_
  refine C.aloadN d3_18 rfl rfl rfl ?_
  refine C.getF d3_19 rfl (tw hw 18 rfl) P2 ?_
  refine C.imul d3_22 rfl ?_
  show Go p l e ({ frames := 2, cells := 1, slots := 16, locals := 33 } : Room) s m #[(.ref a), (.int w)] below meth c n0 (FinQ s n0 (Qcon_ag Z n0 h0 a b w vs) ({ frames := 2, cells := 1, slots := 16, locals := 33 } : Room).cells ({ frames := 2, cells := 1, slots := 16, locals := 33 } : Room).slots) h0 0 0 23 #[.val (.ref a), .val (.int w)] [(.int 16), (.ref b), (.ref a)]
  refine C.callS (argsL := [(.ref b), (.int 16)]) (rest := [(.ref a)]) 1 (fun zz => con_copy l Z a0 hw n0 h0 zz b 16 vs P3 (by decide) (by decide) (by rw [h8]; decide) (by rw [h8]; decide)) d3_23 rfl (tw hw 33 rfl) (tw hw 34 rfl) (tw hw 35 rfl) (tw hw 36 rfl) (by decide) pd_2 rfl rfl rfl (Nat.le_of_eq rfl) (by decide) (by decide) (by decide) (by decide) (fun v153 h154 r155 => ?_)
  obtain ⟨a156, rfl, K157, g159, gz160, F158⟩ := r155
  have gz161 : h0.size ≤ a156 := Nat.le_trans (Keep.refl h0 [a]).1 gz160
  have ne162 : a ≠ a156 := Nat.ne_of_lt (Nat.lt_of_lt_of_le P0.lt gz160)
  have ne163 : b ≠ a156 := Nat.ne_of_lt (Nat.lt_of_lt_of_le P3.lt gz160)
  have F164 : Exa Z h154 a "com/example/leaseledger/leaseledger/journal/IntColumn" := P0.keep K157
  have F165 : Fld Z h154 a "com/example/leaseledger/leaseledger/journal/IntColumn" "values" "[I" (.ref b) := P1.keep K157 nin0
  have F166 : Fld Z h154 a "com/example/leaseledger/leaseledger/journal/IntColumn" "size" "I" (.int 8) := P2.keep K157 nin0
  have F167 : Av Z h154 b .int vs := P3.keep K157 nin0
  refine C.putF d3_26 rfl (tw hw 11 rfl) F165 F164 (Or.inl (tw hw 12 rfl)) (tw hw 3 rfl) (ty := (.array .int)) (by decide) rfl rfl g_a (fun h168 W169 F170 => ?_)
  have F171 : Exa Z h168 a "com/example/leaseledger/leaseledger/journal/IntColumn" := Exa.wr W169 F164
  have F172 : Fld Z h168 a "com/example/leaseledger/leaseledger/journal/IntColumn" "size" "I" (.int 8) := Fld.other W169 F166 (Or.inr (slot_ne (C := "com/example/leaseledger/leaseledger/journal/IntColumn") (t := .int) (t' := (.array .int)) (Or.inl (tw hw 19 rfl)) (Or.inl (tw hw 12 rfl)) (by decide) (by decide) (by decide)))
  have F173 : Av Z h168 b .int vs := F167.other W169 (Ne.symm ne_a_b)
  have F174 : Av Z h168 a156 .int (own_copy vs (Int32.toNatClampNeg 16)) := F158.other W169 (Ne.symm ne162)
  refine C.aloadN d3_29 rfl rfl rfl ?_
  refine C.getF d3_30 rfl (tw hw 11 rfl) F170 ?_
  refine C.aloadN d3_33 rfl rfl rfl ?_
  refine C.dup d3_34 rfl rfl ?_
  refine C.getF d3_35 rfl (tw hw 18 rfl) F172 ?_
  refine C.dupX1 d3_38 rfl rfl rfl ?_
  refine C.iconst 1 d3_39 rfl rfl ?_
  refine C.iadd d3_40 rfl ?_
  show Go p l e ({ frames := 2, cells := 1, slots := 16, locals := 33 } : Room) s m #[(.ref a), (.int w)] below meth c n0 (FinQ s n0 (Qcon_ag Z n0 h0 a b w vs) ({ frames := 2, cells := 1, slots := 16, locals := 33 } : Room).cells ({ frames := 2, cells := 1, slots := 16, locals := 33 } : Room).slots) h168 1 16 41 #[.val (.ref a), .val (.int w)] [(.int 9), (.ref a), (.int 8), (.ref a156)]
  refine C.putF d3_41 rfl (tw hw 18 rfl) F172 F171 (Or.inl (tw hw 19 rfl)) (tw hw 3 rfl) (ty := .int) (by decide) rfl rfl g_a (fun h175 W176 F177 => ?_)
  have F178 : Exa Z h175 a "com/example/leaseledger/leaseledger/journal/IntColumn" := Exa.wr W176 F171
  have F179 : Av Z h175 b .int vs := F173.other W176 (Ne.symm ne_a_b)
  have F180 : Av Z h175 a156 .int (own_copy vs (Int32.toNatClampNeg 16)) := F174.other W176 (Ne.symm ne162)
  have F181 : Fld Z h175 a "com/example/leaseledger/leaseledger/journal/IntColumn" "values" "[I" (.ref a156) := Fld.other W176 F170 (Or.inr (slot_ne (C := "com/example/leaseledger/leaseledger/journal/IntColumn") (t := (.array .int)) (t' := .int) (Or.inl (tw hw 12 rfl)) (Or.inl (tw hw 19 rfl)) (by decide) (by decide) (by decide)))
  refine C.iloadN d3_44 rfl rfl ?_
  refine C.iastore d3_45 rfl F180 g159 (by decide) (by rw [show (16 : Int32).toNatClampNeg = 16 from rfl, own_cl vs h8]; decide) (fun h182 W183 F184 => ?_)
  have F185 : Exa Z h182 a "com/example/leaseledger/leaseledger/journal/IntColumn" := Exa.wr W183 F178
  have F186 : Av Z h182 b .int vs := F179.other W183 ne163
  have F187 : Fld Z h182 a "com/example/leaseledger/leaseledger/journal/IntColumn" "values" "[I" (.ref a156) := Fld.other W183 F181 (Or.inl ne162)
  have F188 : Fld Z h182 a "com/example/leaseledger/leaseledger/journal/IntColumn" "size" "I" (.int 9) := Fld.other W183 F177 (Or.inl ne162)
  exact C.ret0 d3_46 (by decide) (by decide) ⟨a156, rfl, (((((Keep.refl h0 [a]).trans K157 all0).wr W169 (Or.inl (List.mem_of_getElem? (i := 0) rfl))).wr W176 (Or.inl (List.mem_of_getElem? (i := 0) rfl))).wr W183 (Or.inr gz161)), g159, gz161, F187, F188, F184⟩
theorem pf_7 : plainFor x = true := by first | exact plainFor_of_name (by first | (simp [plainName, overriddenIn]; done) | decide +kernel) | decide +kernel
theorem pd_3 : parseMethodDescriptor "()V" = some ⟨[], none⟩ := by decide +kernel
theorem pd_4 : parseMethodDescriptor "(I)V" = some ⟨[.int], none⟩ := by decide +kernel
theorem pd_5 : parseMethodDescriptor "(I)I" = some ⟨[.int], some .int⟩ := by decide +kernel
def Qcon0 (Z : State) (n0 : Nat) (h0 : Heap) (x0 : Int32) (x1 : Int32) (x2 : Int32) (x3 : Int32) (x4 : Int32) (v : Option Value) (h' : Heap) : Prop := v = some (.int 1) ∧ True
theorem ef_con0 (m : MethodId) (x0 : Int32) (x1 : Int32) (x2 : Int32) (x3 : Int32) (x4 : Int32) : entryFrame m #[(.int x0), (.int x1), (.int x2), (.int x3), (.int x4)] maxLocals = mkF m 0 #[.val (.int x0), .val (.int x1), .val (.int x2), .val (.int x3), .val (.int x4), .unset, .unset, .unset, .unset] [] := by first | (simp [entryFrame, mkF, argsToLocals, Value.category, maxLocals]; done) | rfl
set_option maxRecDepth 65536 in
set_option maxHeartbeats 40000000 in
theorem con0 (l : Launch) (Z : State) (a0 : Array Value) (hw : ∀ d ∈ tables_1, d.before a0 Z = true) (n0 : Nat) (h0 : Heap) (hn0 : n0 ≤ h0.size) (x0 : Int32) (x1 : Int32) (x2 : Int32) (x3 : Int32) (x4 : Int32) :
    Con l Z n0 tables_1 x code maxLocals ret room_1 #[(.int x0), (.int x1), (.int x2), (.int x3), (.int x4)] h0 (Qcon0 Z n0 h0 x0 x1 x2 x3 x4) := by
  refine Con.of pf_7 (fun m => ef_con0 m x0 x1 x2 x3 x4) hn0 ?_
  intro p e s m below meth c C
  refine C.bipush 9 at_0 rfl rfl ?_
  refine C.newarr 9 at_2 rfl rfl (tw hw 0 rfl) (by decide) (by decide) (by decide) (by decide) (by decide) (fun a189 h190 z193 g194 X191 F192 => ?_)
  have F195 : Av Z h190 a189 .int ([.int 0, .int 0, .int 0, .int 0, .int 0, .int 0, .int 0, .int 0, .int 0]) := F192
  refine C.astore (Ls' := #[.val (.int x0), .val (.int x1), .val (.int x2), .val (.int x3), .val (.int x4), .val (.ref a189), .unset, .unset, .unset]) at_4 rfl rfl rfl ?_
  refine C.aload at_6 rfl rfl rfl ?_
  refine C.iconst 0 at_8 rfl rfl ?_
  refine C.iloadN at_9 rfl rfl ?_
  refine C.iastore at_10 rfl F195 g194 (by decide) (Nat.le_of_ble_eq_true rfl) (fun h196 W197 F198 => ?_)
  have F199 : Av Z h196 a189 .int ([.int x0, .int 0, .int 0, .int 0, .int 0, .int 0, .int 0, .int 0, .int 0]) := F198
  refine C.aload at_11 rfl rfl rfl ?_
  refine C.iconst 1 at_13 rfl rfl ?_
  refine C.iloadN at_14 rfl rfl ?_
  refine C.iastore at_15 rfl F199 g194 (by decide) (Nat.le_of_ble_eq_true rfl) (fun h200 W201 F202 => ?_)
  have F203 : Av Z h200 a189 .int ([.int x0, .int x1, .int 0, .int 0, .int 0, .int 0, .int 0, .int 0, .int 0]) := F202
  refine C.aload at_16 rfl rfl rfl ?_
  refine C.iconst 2 at_18 rfl rfl ?_
  refine C.iloadN at_19 rfl rfl ?_
  refine C.iastore at_20 rfl F203 g194 (by decide) (Nat.le_of_ble_eq_true rfl) (fun h204 W205 F206 => ?_)
  have F207 : Av Z h204 a189 .int ([.int x0, .int x1, .int x2, .int 0, .int 0, .int 0, .int 0, .int 0, .int 0]) := F206
  refine C.aload at_21 rfl rfl rfl ?_
  refine C.iconst 3 at_23 rfl rfl ?_
  refine C.iloadN at_24 rfl rfl ?_
  refine C.iloadN at_25 rfl rfl ?_
  refine C.ixor at_26 rfl ?_
  refine C.iastore at_27 rfl F207 g194 (by decide) (Nat.le_of_ble_eq_true rfl) (fun h208 W209 F210 => ?_)
  have F211 : Av Z h208 a189 .int ([.int x0, .int x1, .int x2, .int (x0 ^^^ x1), .int 0, .int 0, .int 0, .int 0, .int 0]) := F210
  refine C.aload at_28 rfl rfl rfl ?_
  refine C.iconst 4 at_30 rfl rfl ?_
  refine C.iloadN at_31 rfl rfl ?_
  refine C.iloadN at_32 rfl rfl ?_
  refine C.ixor at_33 rfl ?_
  refine C.iastore at_34 rfl F211 g194 (by decide) (Nat.le_of_ble_eq_true rfl) (fun h212 W213 F214 => ?_)
  have F215 : Av Z h212 a189 .int ([.int x0, .int x1, .int x2, .int (x0 ^^^ x1), .int (x1 ^^^ x2), .int 0, .int 0, .int 0, .int 0]) := F214
  refine C.aload at_35 rfl rfl rfl ?_
  refine C.iconst 5 at_37 rfl rfl ?_
  refine C.iloadN at_38 rfl rfl ?_
  refine C.iloadN at_39 rfl rfl ?_
  refine C.iadd at_40 rfl ?_
  refine C.iastore at_41 rfl F215 g194 (by decide) (Nat.le_of_ble_eq_true rfl) (fun h216 W217 F218 => ?_)
  have F219 : Av Z h216 a189 .int ([.int x0, .int x1, .int x2, .int (x0 ^^^ x1), .int (x1 ^^^ x2), .int (x0 + x2), .int 0, .int 0, .int 0]) := F218
  refine C.aload at_42 rfl rfl rfl ?_
  refine C.bipush 6 at_44 rfl rfl ?_
  refine C.iloadN at_46 rfl rfl ?_
  refine C.iconst (-1) at_47 rfl rfl ?_
  refine C.ixor at_48 rfl ?_
  refine C.iastore at_49 rfl F219 g194 (by decide) (Nat.le_of_ble_eq_true rfl) (fun h220 W221 F222 => ?_)
  have F223 : Av Z h220 a189 .int ([.int x0, .int x1, .int x2, .int (x0 ^^^ x1), .int (x1 ^^^ x2), .int (x0 + x2), .int (x0 ^^^ (-1 : Int32)), .int 0, .int 0]) := F222
  refine C.aload at_50 rfl rfl rfl ?_
  refine C.bipush 7 at_52 rfl rfl ?_
  refine C.iloadN at_54 rfl rfl ?_
  refine C.ineg at_55 rfl ?_
  refine C.iastore at_56 rfl F223 g194 (by decide) (Nat.le_of_ble_eq_true rfl) (fun h224 W225 F226 => ?_)
  have F227 : Av Z h224 a189 .int ([.int x0, .int x1, .int x2, .int (x0 ^^^ x1), .int (x1 ^^^ x2), .int (x0 + x2), .int (x0 ^^^ (-1 : Int32)), .int (-x1), .int 0]) := F226
  refine C.aload at_57 rfl rfl rfl ?_
  refine C.bipush 8 at_59 rfl rfl ?_
  refine C.iloadN at_61 rfl rfl ?_
  refine C.iloadN at_62 rfl rfl ?_
  refine C.isub at_63 rfl ?_
  refine C.iastore at_64 rfl F227 g194 (by decide) (Nat.le_of_ble_eq_true rfl) (fun h228 W229 F230 => ?_)
  have F231 : Av Z h228 a189 .int ([.int x0, .int x1, .int x2, .int (x0 ^^^ x1), .int (x1 ^^^ x2), .int (x0 + x2), .int (x0 ^^^ (-1 : Int32)), .int (-x1), .int (x2 - x0)]) := F230
  refine C.iconst 1 at_65 rfl rfl ?_
  refine C.iloadN at_66 rfl rfl ?_
  refine C.ldcI at_67 rfl (tw hw 1 rfl) ?_
  refine C.iand at_69 rfl ?_
  refine C.bipush 9 at_70 rfl rfl ?_
  refine C.irem at_72 rfl (by decide) ?_
  refine C.iadd at_73 rfl ?_
  refine C.istore (Ls' := #[.val (.int x0), .val (.int x1), .val (.int x2), .val (.int x3), .val (.int x4), .val (.ref a189), .val (.int (1 + ((x3 &&& 2147483647) % 9))), .unset, .unset]) at_74 rfl rfl ?_
  rcases own_mod9 x3 with qc | qc | qc | qc | qc | qc | qc | qc | qc
  · rw [qc]
    show Go p l e room_1 s m #[(.int x0), (.int x1), (.int x2), (.int x3), (.int x4)] below meth c n0 (FinQ s n0 (Qcon0 Z n0 h0 x0 x1 x2 x3 x4) room_1.cells room_1.slots) h228 1 9 76 #[.val (.int x0), .val (.int x1), .val (.int x2), .val (.int x3), .val (.int x4), .val (.ref a189), .val (.int 1), .unset, .unset] []
    refine C.iload at_76 rfl rfl ?_
    refine C.ldcI at_78 rfl (tw hw 1 rfl) ?_
    refine C.iand at_80 rfl ?_
    refine C.iload at_81 rfl rfl ?_
    refine C.irem at_83 rfl (by decide) ?_
    refine C.istore (Ls' := #[.val (.int x0), .val (.int x1), .val (.int x2), .val (.int x3), .val (.int x4), .val (.ref a189), .val (.int 1), .val (.int ((x4 &&& 2147483647) % 1)), .unset]) at_84 rfl rfl ?_
    refine C.new at_86 rfl (tw hw 2 rfl) (tw hw 3 rfl) (tw hw 4 rfl) (by decide) (by decide) (fun a232 h233 z237 g238 X235 E234 D236 => ?_)
    have ne239 : a189 ≠ a232 := by rw [z237]; exact Nat.ne_of_lt F231.lt
    have F240 : Av Z h233 a189 .int ([.int x0, .int x1, .int x2, .int (x0 ^^^ x1), .int (x1 ^^^ x2), .int (x0 + x2), .int (x0 ^^^ (-1 : Int32)), .int (-x1), .int (x2 - x0)]) := F231.ext X235
    have F241 : Fld Z h233 a232 "com/example/leaseledger/leaseledger/journal/IntColumn" "values" "[I" (.null) := D236 (Or.inl (tw hw 12 rfl)) (ty := (.array .int)) (by decide)
    have F242 : Fld Z h233 a232 "com/example/leaseledger/leaseledger/journal/IntColumn" "size" "I" (.int 0) := D236 (Or.inl (tw hw 19 rfl)) (ty := .int) (by decide)
    refine C.dup at_89 rfl rfl ?_
    refine C.callN (argsL := []) (rest := [(.ref a232)]) 1 (fun zz => con_ini l Z a0 hw n0 h233 zz a232 E234 F241 F242 g238) at_90 rfl rfl (tw hw 5 rfl) (tw hw 6 rfl) (tw hw 4 rfl) (tw hw 7 rfl) (by decide) pd_3 rfl rfl rfl (Nat.le_of_eq rfl) (by decide) (by decide) (by decide) (by decide) (fun v243 h244 r245 => ?_)
    obtain ⟨a246, rfl, K247, g251, gz252, F248, F249, F250⟩ := r245
    have ne253 : a189 ≠ a246 := Nat.ne_of_lt (Nat.lt_of_lt_of_le F240.lt gz252)
    have ne254 : a232 ≠ a246 := Nat.ne_of_lt (Nat.lt_of_lt_of_le E234.lt gz252)
    have F255 : Av Z h244 a189 .int ([.int x0, .int x1, .int x2, .int (x0 ^^^ x1), .int (x1 ^^^ x2), .int (x0 + x2), .int (x0 ^^^ (-1 : Int32)), .int (-x1), .int (x2 - x0)]) := F240.keep K247 (ninS ne239 nin0)
    have F256 : Exa Z h244 a232 "com/example/leaseledger/leaseledger/journal/IntColumn" := E234.keep K247
    have F259 : Av Z h244 a246 .int ([.int 0, .int 0, .int 0, .int 0, .int 0, .int 0, .int 0, .int 0]) := F250
    refine C.astore (Ls' := #[.val (.int x0), .val (.int x1), .val (.int x2), .val (.int x3), .val (.int x4), .val (.ref a189), .val (.int 1), .val (.int ((x4 &&& 2147483647) % 1)), .val (.ref a232)]) at_93 rfl rfl rfl ?_
    refine C.iload at_95 rfl rfl ?_
    refine C.if_le_f at_97 rfl (by decide) ?_
    refine C.aload at_100 rfl rfl rfl ?_
    refine C.aload at_102 rfl rfl rfl ?_
    refine C.iconst 0 at_104 rfl rfl ?_
    refine C.iaload (.int x0) at_105 rfl F255 (by decide) rfl ?_
    refine C.callV (argsL := [(.int x0)]) (rest := []) 0 (fun zz => con_add l Z a0 hw n0 h244 zz a232 a246 x0 0 ([.int 0, .int 0, .int 0, .int 0, .int 0, .int 0, .int 0, .int 0]) F256 F248 F249 F259 g238 g251 ne254 (by decide) (Nat.le_of_ble_eq_true rfl) (Nat.le_of_ble_eq_true rfl)) F256 at_106 rfl (tw hw 13 rfl) (tw hw 14 rfl) (tw hw 15 rfl) (tw hw 16 rfl) (tw hw 4 rfl) (tw hw 17 rfl) (by decide) pd_4 rfl rfl rfl (Nat.le_of_eq rfl) (by decide) (by decide) (by decide) (by decide) (fun v260 h261 r262 => ?_)
    obtain ⟨rfl, K263, F264, F265, F266⟩ := r262
    have F267 : Av Z h261 a189 .int ([.int x0, .int x1, .int x2, .int (x0 ^^^ x1), .int (x1 ^^^ x2), .int (x0 + x2), .int (x0 ^^^ (-1 : Int32)), .int (-x1), .int (x2 - x0)]) := F255.keep K263 (ninS ne239 (ninS ne253 nin0))
    have F268 : Exa Z h261 a232 "com/example/leaseledger/leaseledger/journal/IntColumn" := F256.keep K263
    have F272 : Fld Z h261 a232 "com/example/leaseledger/leaseledger/journal/IntColumn" "size" "I" (.int 1) := F265
    have F273 : Av Z h261 a246 .int ([.int x0, .int 0, .int 0, .int 0, .int 0, .int 0, .int 0, .int 0]) := F266
    refine C.iload at_109 rfl rfl ?_
    refine C.iconst 1 at_111 rfl rfl ?_
    refine C.icmp_le_t at_112 (by decide) rfl (by decide) ?_
    refine C.iload at_124 rfl rfl ?_
    refine C.iconst 2 at_126 rfl rfl ?_
    refine C.icmp_le_t at_127 (by decide) rfl (by decide) ?_
    refine C.iload at_139 rfl rfl ?_
    refine C.iconst 3 at_141 rfl rfl ?_
    refine C.icmp_le_t at_142 (by decide) rfl (by decide) ?_
    refine C.iload at_154 rfl rfl ?_
    refine C.iconst 4 at_156 rfl rfl ?_
    refine C.icmp_le_t at_157 (by decide) rfl (by decide) ?_
    refine C.iload at_169 rfl rfl ?_
    refine C.iconst 5 at_171 rfl rfl ?_
    refine C.icmp_le_t at_172 (by decide) rfl (by decide) ?_
    refine C.iload at_184 rfl rfl ?_
    refine C.bipush 6 at_186 rfl rfl ?_
    refine C.icmp_le_t at_188 (by decide) rfl (by decide) ?_
    refine C.iload at_201 rfl rfl ?_
    refine C.bipush 7 at_203 rfl rfl ?_
    refine C.icmp_le_t at_205 (by decide) rfl (by decide) ?_
    refine C.iload at_218 rfl rfl ?_
    refine C.bipush 8 at_220 rfl rfl ?_
    refine C.icmp_le_t at_222 (by decide) rfl (by decide) ?_
    rcases own_mod1 x4 with qr
    · rw [qr]
      refine C.aload at_235 rfl rfl rfl ?_
      refine C.iload at_237 rfl rfl ?_
      refine C.callV (argsL := [(.int 0)]) (rest := []) 0 (fun zz => con_get l Z a0 hw n0 h261 zz a232 a246 0 x0 1 ([.int x0, .int 0, .int 0, .int 0, .int 0, .int 0, .int 0, .int 0]) F264 F272 F273 (by decide) (by decide) rfl) F268 at_239 rfl (tw hw 20 rfl) (tw hw 21 rfl) (tw hw 22 rfl) (tw hw 23 rfl) (tw hw 4 rfl) (tw hw 24 rfl) (by decide) pd_5 rfl rfl rfl (Nat.le_of_eq rfl) (by decide) (by decide) (by decide) (by decide) (fun v274 h275 r276 => ?_)
      obtain ⟨rfl, rfl⟩ := r276
      refine C.aload at_242 rfl rfl rfl ?_
      refine C.iload at_244 rfl rfl ?_
      refine C.iaload (.int x0) at_246 rfl F267 (by decide) rfl ?_
      refine C.icmp_ne_f at_247 rfl rfl ?_
      refine C.iconst 1 at_250 rfl rfl ?_
      refine C.goto at_251 (by decide) rfl ?_
      exact C.retZ at_255 rfl (by decide) (by decide) ⟨rfl, trivial⟩
  · rw [qc]
    show Go p l e room_1 s m #[(.int x0), (.int x1), (.int x2), (.int x3), (.int x4)] below meth c n0 (FinQ s n0 (Qcon0 Z n0 h0 x0 x1 x2 x3 x4) room_1.cells room_1.slots) h228 1 9 76 #[.val (.int x0), .val (.int x1), .val (.int x2), .val (.int x3), .val (.int x4), .val (.ref a189), .val (.int 2), .unset, .unset] []
    refine C.iload at_76 rfl rfl ?_
    refine C.ldcI at_78 rfl (tw hw 1 rfl) ?_
    refine C.iand at_80 rfl ?_
    refine C.iload at_81 rfl rfl ?_
    refine C.irem at_83 rfl (by decide) ?_
    refine C.istore (Ls' := #[.val (.int x0), .val (.int x1), .val (.int x2), .val (.int x3), .val (.int x4), .val (.ref a189), .val (.int 2), .val (.int ((x4 &&& 2147483647) % 2)), .unset]) at_84 rfl rfl ?_
    refine C.new at_86 rfl (tw hw 2 rfl) (tw hw 3 rfl) (tw hw 4 rfl) (by decide) (by decide) (fun a278 h279 z283 g284 X281 E280 D282 => ?_)
    have ne285 : a189 ≠ a278 := by rw [z283]; exact Nat.ne_of_lt F231.lt
    have F286 : Av Z h279 a189 .int ([.int x0, .int x1, .int x2, .int (x0 ^^^ x1), .int (x1 ^^^ x2), .int (x0 + x2), .int (x0 ^^^ (-1 : Int32)), .int (-x1), .int (x2 - x0)]) := F231.ext X281
    have F287 : Fld Z h279 a278 "com/example/leaseledger/leaseledger/journal/IntColumn" "values" "[I" (.null) := D282 (Or.inl (tw hw 12 rfl)) (ty := (.array .int)) (by decide)
    have F288 : Fld Z h279 a278 "com/example/leaseledger/leaseledger/journal/IntColumn" "size" "I" (.int 0) := D282 (Or.inl (tw hw 19 rfl)) (ty := .int) (by decide)
    refine C.dup at_89 rfl rfl ?_
    refine C.callN (argsL := []) (rest := [(.ref a278)]) 1 (fun zz => con_ini l Z a0 hw n0 h279 zz a278 E280 F287 F288 g284) at_90 rfl rfl (tw hw 5 rfl) (tw hw 6 rfl) (tw hw 4 rfl) (tw hw 7 rfl) (by decide) pd_3 rfl rfl rfl (Nat.le_of_eq rfl) (by decide) (by decide) (by decide) (by decide) (fun v289 h290 r291 => ?_)
    obtain ⟨a292, rfl, K293, g297, gz298, F294, F295, F296⟩ := r291
    have ne299 : a189 ≠ a292 := Nat.ne_of_lt (Nat.lt_of_lt_of_le F286.lt gz298)
    have ne300 : a278 ≠ a292 := Nat.ne_of_lt (Nat.lt_of_lt_of_le E280.lt gz298)
    have F301 : Av Z h290 a189 .int ([.int x0, .int x1, .int x2, .int (x0 ^^^ x1), .int (x1 ^^^ x2), .int (x0 + x2), .int (x0 ^^^ (-1 : Int32)), .int (-x1), .int (x2 - x0)]) := F286.keep K293 (ninS ne285 nin0)
    have F302 : Exa Z h290 a278 "com/example/leaseledger/leaseledger/journal/IntColumn" := E280.keep K293
    have F305 : Av Z h290 a292 .int ([.int 0, .int 0, .int 0, .int 0, .int 0, .int 0, .int 0, .int 0]) := F296
    refine C.astore (Ls' := #[.val (.int x0), .val (.int x1), .val (.int x2), .val (.int x3), .val (.int x4), .val (.ref a189), .val (.int 2), .val (.int ((x4 &&& 2147483647) % 2)), .val (.ref a278)]) at_93 rfl rfl rfl ?_
    refine C.iload at_95 rfl rfl ?_
    refine C.if_le_f at_97 rfl (by decide) ?_
    refine C.aload at_100 rfl rfl rfl ?_
    refine C.aload at_102 rfl rfl rfl ?_
    refine C.iconst 0 at_104 rfl rfl ?_
    refine C.iaload (.int x0) at_105 rfl F301 (by decide) rfl ?_
    refine C.callV (argsL := [(.int x0)]) (rest := []) 0 (fun zz => con_add l Z a0 hw n0 h290 zz a278 a292 x0 0 ([.int 0, .int 0, .int 0, .int 0, .int 0, .int 0, .int 0, .int 0]) F302 F294 F295 F305 g284 g297 ne300 (by decide) (Nat.le_of_ble_eq_true rfl) (Nat.le_of_ble_eq_true rfl)) F302 at_106 rfl (tw hw 13 rfl) (tw hw 14 rfl) (tw hw 15 rfl) (tw hw 16 rfl) (tw hw 4 rfl) (tw hw 17 rfl) (by decide) pd_4 rfl rfl rfl (Nat.le_of_eq rfl) (by decide) (by decide) (by decide) (by decide) (fun v306 h307 r308 => ?_)
    obtain ⟨rfl, K309, F310, F311, F312⟩ := r308
    have F313 : Av Z h307 a189 .int ([.int x0, .int x1, .int x2, .int (x0 ^^^ x1), .int (x1 ^^^ x2), .int (x0 + x2), .int (x0 ^^^ (-1 : Int32)), .int (-x1), .int (x2 - x0)]) := F301.keep K309 (ninS ne285 (ninS ne299 nin0))
    have F314 : Exa Z h307 a278 "com/example/leaseledger/leaseledger/journal/IntColumn" := F302.keep K309
    have F318 : Fld Z h307 a278 "com/example/leaseledger/leaseledger/journal/IntColumn" "size" "I" (.int 1) := F311
    have F319 : Av Z h307 a292 .int ([.int x0, .int 0, .int 0, .int 0, .int 0, .int 0, .int 0, .int 0]) := F312
    refine C.iload at_109 rfl rfl ?_
    refine C.iconst 1 at_111 rfl rfl ?_
    refine C.icmp_le_f at_112 rfl (by decide) ?_
    refine C.aload at_115 rfl rfl rfl ?_
    refine C.aload at_117 rfl rfl rfl ?_
    refine C.iconst 1 at_119 rfl rfl ?_
    refine C.iaload (.int x1) at_120 rfl F313 (by decide) rfl ?_
    refine C.callV (argsL := [(.int x1)]) (rest := []) 0 (fun zz => con_add l Z a0 hw n0 h307 zz a278 a292 x1 1 ([.int x0, .int 0, .int 0, .int 0, .int 0, .int 0, .int 0, .int 0]) F314 F310 F318 F319 g284 g297 ne300 (by decide) (Nat.le_of_ble_eq_true rfl) (Nat.le_of_ble_eq_true rfl)) F314 at_121 rfl (tw hw 13 rfl) (tw hw 14 rfl) (tw hw 15 rfl) (tw hw 16 rfl) (tw hw 4 rfl) (tw hw 17 rfl) (by decide) pd_4 rfl rfl rfl (Nat.le_of_eq rfl) (by decide) (by decide) (by decide) (by decide) (fun v320 h321 r322 => ?_)
    obtain ⟨rfl, K323, F324, F325, F326⟩ := r322
    have F327 : Av Z h321 a189 .int ([.int x0, .int x1, .int x2, .int (x0 ^^^ x1), .int (x1 ^^^ x2), .int (x0 + x2), .int (x0 ^^^ (-1 : Int32)), .int (-x1), .int (x2 - x0)]) := F313.keep K323 (ninS ne285 (ninS ne299 nin0))
    have F328 : Exa Z h321 a278 "com/example/leaseledger/leaseledger/journal/IntColumn" := F314.keep K323
    have F332 : Fld Z h321 a278 "com/example/leaseledger/leaseledger/journal/IntColumn" "size" "I" (.int 2) := F325
    have F333 : Av Z h321 a292 .int ([.int x0, .int x1, .int 0, .int 0, .int 0, .int 0, .int 0, .int 0]) := F326
    refine C.iload at_124 rfl rfl ?_
    refine C.iconst 2 at_126 rfl rfl ?_
    refine C.icmp_le_t at_127 (by decide) rfl (by decide) ?_
    refine C.iload at_139 rfl rfl ?_
    refine C.iconst 3 at_141 rfl rfl ?_
    refine C.icmp_le_t at_142 (by decide) rfl (by decide) ?_
    refine C.iload at_154 rfl rfl ?_
    refine C.iconst 4 at_156 rfl rfl ?_
    refine C.icmp_le_t at_157 (by decide) rfl (by decide) ?_
    refine C.iload at_169 rfl rfl ?_
    refine C.iconst 5 at_171 rfl rfl ?_
    refine C.icmp_le_t at_172 (by decide) rfl (by decide) ?_
    refine C.iload at_184 rfl rfl ?_
    refine C.bipush 6 at_186 rfl rfl ?_
    refine C.icmp_le_t at_188 (by decide) rfl (by decide) ?_
    refine C.iload at_201 rfl rfl ?_
    refine C.bipush 7 at_203 rfl rfl ?_
    refine C.icmp_le_t at_205 (by decide) rfl (by decide) ?_
    refine C.iload at_218 rfl rfl ?_
    refine C.bipush 8 at_220 rfl rfl ?_
    refine C.icmp_le_t at_222 (by decide) rfl (by decide) ?_
    rcases own_mod2 x4 with qr | qr
    · rw [qr]
      refine C.aload at_235 rfl rfl rfl ?_
      refine C.iload at_237 rfl rfl ?_
      refine C.callV (argsL := [(.int 0)]) (rest := []) 0 (fun zz => con_get l Z a0 hw n0 h321 zz a278 a292 0 x0 2 ([.int x0, .int x1, .int 0, .int 0, .int 0, .int 0, .int 0, .int 0]) F324 F332 F333 (by decide) (by decide) rfl) F328 at_239 rfl (tw hw 20 rfl) (tw hw 21 rfl) (tw hw 22 rfl) (tw hw 23 rfl) (tw hw 4 rfl) (tw hw 24 rfl) (by decide) pd_5 rfl rfl rfl (Nat.le_of_eq rfl) (by decide) (by decide) (by decide) (by decide) (fun v334 h335 r336 => ?_)
      obtain ⟨rfl, rfl⟩ := r336
      refine C.aload at_242 rfl rfl rfl ?_
      refine C.iload at_244 rfl rfl ?_
      refine C.iaload (.int x0) at_246 rfl F327 (by decide) rfl ?_
      refine C.icmp_ne_f at_247 rfl rfl ?_
      refine C.iconst 1 at_250 rfl rfl ?_
      refine C.goto at_251 (by decide) rfl ?_
      exact C.retZ at_255 rfl (by decide) (by decide) ⟨rfl, trivial⟩
    · rw [qr]
      refine C.aload at_235 rfl rfl rfl ?_
      refine C.iload at_237 rfl rfl ?_
      refine C.callV (argsL := [(.int 1)]) (rest := []) 0 (fun zz => con_get l Z a0 hw n0 h321 zz a278 a292 1 x1 2 ([.int x0, .int x1, .int 0, .int 0, .int 0, .int 0, .int 0, .int 0]) F324 F332 F333 (by decide) (by decide) rfl) F328 at_239 rfl (tw hw 20 rfl) (tw hw 21 rfl) (tw hw 22 rfl) (tw hw 23 rfl) (tw hw 4 rfl) (tw hw 24 rfl) (by decide) pd_5 rfl rfl rfl (Nat.le_of_eq rfl) (by decide) (by decide) (by decide) (by decide) (fun v338 h339 r340 => ?_)
      obtain ⟨rfl, rfl⟩ := r340
      refine C.aload at_242 rfl rfl rfl ?_
      refine C.iload at_244 rfl rfl ?_
      refine C.iaload (.int x1) at_246 rfl F327 (by decide) rfl ?_
      refine C.icmp_ne_f at_247 rfl rfl ?_
      refine C.iconst 1 at_250 rfl rfl ?_
      refine C.goto at_251 (by decide) rfl ?_
      exact C.retZ at_255 rfl (by decide) (by decide) ⟨rfl, trivial⟩
  · rw [qc]
    show Go p l e room_1 s m #[(.int x0), (.int x1), (.int x2), (.int x3), (.int x4)] below meth c n0 (FinQ s n0 (Qcon0 Z n0 h0 x0 x1 x2 x3 x4) room_1.cells room_1.slots) h228 1 9 76 #[.val (.int x0), .val (.int x1), .val (.int x2), .val (.int x3), .val (.int x4), .val (.ref a189), .val (.int 3), .unset, .unset] []
    refine C.iload at_76 rfl rfl ?_
    refine C.ldcI at_78 rfl (tw hw 1 rfl) ?_
    refine C.iand at_80 rfl ?_
    refine C.iload at_81 rfl rfl ?_
    refine C.irem at_83 rfl (by decide) ?_
    refine C.istore (Ls' := #[.val (.int x0), .val (.int x1), .val (.int x2), .val (.int x3), .val (.int x4), .val (.ref a189), .val (.int 3), .val (.int ((x4 &&& 2147483647) % 3)), .unset]) at_84 rfl rfl ?_
    refine C.new at_86 rfl (tw hw 2 rfl) (tw hw 3 rfl) (tw hw 4 rfl) (by decide) (by decide) (fun a342 h343 z347 g348 X345 E344 D346 => ?_)
    have ne349 : a189 ≠ a342 := by rw [z347]; exact Nat.ne_of_lt F231.lt
    have F350 : Av Z h343 a189 .int ([.int x0, .int x1, .int x2, .int (x0 ^^^ x1), .int (x1 ^^^ x2), .int (x0 + x2), .int (x0 ^^^ (-1 : Int32)), .int (-x1), .int (x2 - x0)]) := F231.ext X345
    have F351 : Fld Z h343 a342 "com/example/leaseledger/leaseledger/journal/IntColumn" "values" "[I" (.null) := D346 (Or.inl (tw hw 12 rfl)) (ty := (.array .int)) (by decide)
    have F352 : Fld Z h343 a342 "com/example/leaseledger/leaseledger/journal/IntColumn" "size" "I" (.int 0) := D346 (Or.inl (tw hw 19 rfl)) (ty := .int) (by decide)
    refine C.dup at_89 rfl rfl ?_
    refine C.callN (argsL := []) (rest := [(.ref a342)]) 1 (fun zz => con_ini l Z a0 hw n0 h343 zz a342 E344 F351 F352 g348) at_90 rfl rfl (tw hw 5 rfl) (tw hw 6 rfl) (tw hw 4 rfl) (tw hw 7 rfl) (by decide) pd_3 rfl rfl rfl (Nat.le_of_eq rfl) (by decide) (by decide) (by decide) (by decide) (fun v353 h354 r355 => ?_)
    obtain ⟨a356, rfl, K357, g361, gz362, F358, F359, F360⟩ := r355
    have ne363 : a189 ≠ a356 := Nat.ne_of_lt (Nat.lt_of_lt_of_le F350.lt gz362)
    have ne364 : a342 ≠ a356 := Nat.ne_of_lt (Nat.lt_of_lt_of_le E344.lt gz362)
    have F365 : Av Z h354 a189 .int ([.int x0, .int x1, .int x2, .int (x0 ^^^ x1), .int (x1 ^^^ x2), .int (x0 + x2), .int (x0 ^^^ (-1 : Int32)), .int (-x1), .int (x2 - x0)]) := F350.keep K357 (ninS ne349 nin0)
    have F366 : Exa Z h354 a342 "com/example/leaseledger/leaseledger/journal/IntColumn" := E344.keep K357
    have F369 : Av Z h354 a356 .int ([.int 0, .int 0, .int 0, .int 0, .int 0, .int 0, .int 0, .int 0]) := F360
    refine C.astore (Ls' := #[.val (.int x0), .val (.int x1), .val (.int x2), .val (.int x3), .val (.int x4), .val (.ref a189), .val (.int 3), .val (.int ((x4 &&& 2147483647) % 3)), .val (.ref a342)]) at_93 rfl rfl rfl ?_
    refine C.iload at_95 rfl rfl ?_
    refine C.if_le_f at_97 rfl (by decide) ?_
    refine C.aload at_100 rfl rfl rfl ?_
    refine C.aload at_102 rfl rfl rfl ?_
    refine C.iconst 0 at_104 rfl rfl ?_
    refine C.iaload (.int x0) at_105 rfl F365 (by decide) rfl ?_
    refine C.callV (argsL := [(.int x0)]) (rest := []) 0 (fun zz => con_add l Z a0 hw n0 h354 zz a342 a356 x0 0 ([.int 0, .int 0, .int 0, .int 0, .int 0, .int 0, .int 0, .int 0]) F366 F358 F359 F369 g348 g361 ne364 (by decide) (Nat.le_of_ble_eq_true rfl) (Nat.le_of_ble_eq_true rfl)) F366 at_106 rfl (tw hw 13 rfl) (tw hw 14 rfl) (tw hw 15 rfl) (tw hw 16 rfl) (tw hw 4 rfl) (tw hw 17 rfl) (by decide) pd_4 rfl rfl rfl (Nat.le_of_eq rfl) (by decide) (by decide) (by decide) (by decide) (fun v370 h371 r372 => ?_)
    obtain ⟨rfl, K373, F374, F375, F376⟩ := r372
    have F377 : Av Z h371 a189 .int ([.int x0, .int x1, .int x2, .int (x0 ^^^ x1), .int (x1 ^^^ x2), .int (x0 + x2), .int (x0 ^^^ (-1 : Int32)), .int (-x1), .int (x2 - x0)]) := F365.keep K373 (ninS ne349 (ninS ne363 nin0))
    have F378 : Exa Z h371 a342 "com/example/leaseledger/leaseledger/journal/IntColumn" := F366.keep K373
    have F382 : Fld Z h371 a342 "com/example/leaseledger/leaseledger/journal/IntColumn" "size" "I" (.int 1) := F375
    have F383 : Av Z h371 a356 .int ([.int x0, .int 0, .int 0, .int 0, .int 0, .int 0, .int 0, .int 0]) := F376
    refine C.iload at_109 rfl rfl ?_
    refine C.iconst 1 at_111 rfl rfl ?_
    refine C.icmp_le_f at_112 rfl (by decide) ?_
    refine C.aload at_115 rfl rfl rfl ?_
    refine C.aload at_117 rfl rfl rfl ?_
    refine C.iconst 1 at_119 rfl rfl ?_
    refine C.iaload (.int x1) at_120 rfl F377 (by decide) rfl ?_
    refine C.callV (argsL := [(.int x1)]) (rest := []) 0 (fun zz => con_add l Z a0 hw n0 h371 zz a342 a356 x1 1 ([.int x0, .int 0, .int 0, .int 0, .int 0, .int 0, .int 0, .int 0]) F378 F374 F382 F383 g348 g361 ne364 (by decide) (Nat.le_of_ble_eq_true rfl) (Nat.le_of_ble_eq_true rfl)) F378 at_121 rfl (tw hw 13 rfl) (tw hw 14 rfl) (tw hw 15 rfl) (tw hw 16 rfl) (tw hw 4 rfl) (tw hw 17 rfl) (by decide) pd_4 rfl rfl rfl (Nat.le_of_eq rfl) (by decide) (by decide) (by decide) (by decide) (fun v384 h385 r386 => ?_)
    obtain ⟨rfl, K387, F388, F389, F390⟩ := r386
    have F391 : Av Z h385 a189 .int ([.int x0, .int x1, .int x2, .int (x0 ^^^ x1), .int (x1 ^^^ x2), .int (x0 + x2), .int (x0 ^^^ (-1 : Int32)), .int (-x1), .int (x2 - x0)]) := F377.keep K387 (ninS ne349 (ninS ne363 nin0))
    have F392 : Exa Z h385 a342 "com/example/leaseledger/leaseledger/journal/IntColumn" := F378.keep K387
    have F396 : Fld Z h385 a342 "com/example/leaseledger/leaseledger/journal/IntColumn" "size" "I" (.int 2) := F389
    have F397 : Av Z h385 a356 .int ([.int x0, .int x1, .int 0, .int 0, .int 0, .int 0, .int 0, .int 0]) := F390
    refine C.iload at_124 rfl rfl ?_
    refine C.iconst 2 at_126 rfl rfl ?_
    refine C.icmp_le_f at_127 rfl (by decide) ?_
    refine C.aload at_130 rfl rfl rfl ?_
    refine C.aload at_132 rfl rfl rfl ?_
    refine C.iconst 2 at_134 rfl rfl ?_
    refine C.iaload (.int x2) at_135 rfl F391 (by decide) rfl ?_
    refine C.callV (argsL := [(.int x2)]) (rest := []) 0 (fun zz => con_add l Z a0 hw n0 h385 zz a342 a356 x2 2 ([.int x0, .int x1, .int 0, .int 0, .int 0, .int 0, .int 0, .int 0]) F392 F388 F396 F397 g348 g361 ne364 (by decide) (Nat.le_of_ble_eq_true rfl) (Nat.le_of_ble_eq_true rfl)) F392 at_136 rfl (tw hw 13 rfl) (tw hw 14 rfl) (tw hw 15 rfl) (tw hw 16 rfl) (tw hw 4 rfl) (tw hw 17 rfl) (by decide) pd_4 rfl rfl rfl (Nat.le_of_eq rfl) (by decide) (by decide) (by decide) (by decide) (fun v398 h399 r400 => ?_)
    obtain ⟨rfl, K401, F402, F403, F404⟩ := r400
    have F405 : Av Z h399 a189 .int ([.int x0, .int x1, .int x2, .int (x0 ^^^ x1), .int (x1 ^^^ x2), .int (x0 + x2), .int (x0 ^^^ (-1 : Int32)), .int (-x1), .int (x2 - x0)]) := F391.keep K401 (ninS ne349 (ninS ne363 nin0))
    have F406 : Exa Z h399 a342 "com/example/leaseledger/leaseledger/journal/IntColumn" := F392.keep K401
    have F410 : Fld Z h399 a342 "com/example/leaseledger/leaseledger/journal/IntColumn" "size" "I" (.int 3) := F403
    have F411 : Av Z h399 a356 .int ([.int x0, .int x1, .int x2, .int 0, .int 0, .int 0, .int 0, .int 0]) := F404
    refine C.iload at_139 rfl rfl ?_
    refine C.iconst 3 at_141 rfl rfl ?_
    refine C.icmp_le_t at_142 (by decide) rfl (by decide) ?_
    refine C.iload at_154 rfl rfl ?_
    refine C.iconst 4 at_156 rfl rfl ?_
    refine C.icmp_le_t at_157 (by decide) rfl (by decide) ?_
    refine C.iload at_169 rfl rfl ?_
    refine C.iconst 5 at_171 rfl rfl ?_
    refine C.icmp_le_t at_172 (by decide) rfl (by decide) ?_
    refine C.iload at_184 rfl rfl ?_
    refine C.bipush 6 at_186 rfl rfl ?_
    refine C.icmp_le_t at_188 (by decide) rfl (by decide) ?_
    refine C.iload at_201 rfl rfl ?_
    refine C.bipush 7 at_203 rfl rfl ?_
    refine C.icmp_le_t at_205 (by decide) rfl (by decide) ?_
    refine C.iload at_218 rfl rfl ?_
    refine C.bipush 8 at_220 rfl rfl ?_
    refine C.icmp_le_t at_222 (by decide) rfl (by decide) ?_
    rcases own_mod3 x4 with qr | qr | qr
    · rw [qr]
      refine C.aload at_235 rfl rfl rfl ?_
      refine C.iload at_237 rfl rfl ?_
      refine C.callV (argsL := [(.int 0)]) (rest := []) 0 (fun zz => con_get l Z a0 hw n0 h399 zz a342 a356 0 x0 3 ([.int x0, .int x1, .int x2, .int 0, .int 0, .int 0, .int 0, .int 0]) F402 F410 F411 (by decide) (by decide) rfl) F406 at_239 rfl (tw hw 20 rfl) (tw hw 21 rfl) (tw hw 22 rfl) (tw hw 23 rfl) (tw hw 4 rfl) (tw hw 24 rfl) (by decide) pd_5 rfl rfl rfl (Nat.le_of_eq rfl) (by decide) (by decide) (by decide) (by decide) (fun v412 h413 r414 => ?_)
      obtain ⟨rfl, rfl⟩ := r414
      refine C.aload at_242 rfl rfl rfl ?_
      refine C.iload at_244 rfl rfl ?_
      refine C.iaload (.int x0) at_246 rfl F405 (by decide) rfl ?_
      refine C.icmp_ne_f at_247 rfl rfl ?_
      refine C.iconst 1 at_250 rfl rfl ?_
      refine C.goto at_251 (by decide) rfl ?_
      exact C.retZ at_255 rfl (by decide) (by decide) ⟨rfl, trivial⟩
    · rw [qr]
      refine C.aload at_235 rfl rfl rfl ?_
      refine C.iload at_237 rfl rfl ?_
      refine C.callV (argsL := [(.int 1)]) (rest := []) 0 (fun zz => con_get l Z a0 hw n0 h399 zz a342 a356 1 x1 3 ([.int x0, .int x1, .int x2, .int 0, .int 0, .int 0, .int 0, .int 0]) F402 F410 F411 (by decide) (by decide) rfl) F406 at_239 rfl (tw hw 20 rfl) (tw hw 21 rfl) (tw hw 22 rfl) (tw hw 23 rfl) (tw hw 4 rfl) (tw hw 24 rfl) (by decide) pd_5 rfl rfl rfl (Nat.le_of_eq rfl) (by decide) (by decide) (by decide) (by decide) (fun v416 h417 r418 => ?_)
      obtain ⟨rfl, rfl⟩ := r418
      refine C.aload at_242 rfl rfl rfl ?_
      refine C.iload at_244 rfl rfl ?_
      refine C.iaload (.int x1) at_246 rfl F405 (by decide) rfl ?_
      refine C.icmp_ne_f at_247 rfl rfl ?_
      refine C.iconst 1 at_250 rfl rfl ?_
      refine C.goto at_251 (by decide) rfl ?_
      exact C.retZ at_255 rfl (by decide) (by decide) ⟨rfl, trivial⟩
    · rw [qr]
      refine C.aload at_235 rfl rfl rfl ?_
      refine C.iload at_237 rfl rfl ?_
      refine C.callV (argsL := [(.int 2)]) (rest := []) 0 (fun zz => con_get l Z a0 hw n0 h399 zz a342 a356 2 x2 3 ([.int x0, .int x1, .int x2, .int 0, .int 0, .int 0, .int 0, .int 0]) F402 F410 F411 (by decide) (by decide) rfl) F406 at_239 rfl (tw hw 20 rfl) (tw hw 21 rfl) (tw hw 22 rfl) (tw hw 23 rfl) (tw hw 4 rfl) (tw hw 24 rfl) (by decide) pd_5 rfl rfl rfl (Nat.le_of_eq rfl) (by decide) (by decide) (by decide) (by decide) (fun v420 h421 r422 => ?_)
      obtain ⟨rfl, rfl⟩ := r422
      refine C.aload at_242 rfl rfl rfl ?_
      refine C.iload at_244 rfl rfl ?_
      refine C.iaload (.int x2) at_246 rfl F405 (by decide) rfl ?_
      refine C.icmp_ne_f at_247 rfl rfl ?_
      refine C.iconst 1 at_250 rfl rfl ?_
      refine C.goto at_251 (by decide) rfl ?_
      exact C.retZ at_255 rfl (by decide) (by decide) ⟨rfl, trivial⟩
  · rw [qc]
    show Go p l e room_1 s m #[(.int x0), (.int x1), (.int x2), (.int x3), (.int x4)] below meth c n0 (FinQ s n0 (Qcon0 Z n0 h0 x0 x1 x2 x3 x4) room_1.cells room_1.slots) h228 1 9 76 #[.val (.int x0), .val (.int x1), .val (.int x2), .val (.int x3), .val (.int x4), .val (.ref a189), .val (.int 4), .unset, .unset] []
    refine C.iload at_76 rfl rfl ?_
    refine C.ldcI at_78 rfl (tw hw 1 rfl) ?_
    refine C.iand at_80 rfl ?_
    refine C.iload at_81 rfl rfl ?_
    refine C.irem at_83 rfl (by decide) ?_
    refine C.istore (Ls' := #[.val (.int x0), .val (.int x1), .val (.int x2), .val (.int x3), .val (.int x4), .val (.ref a189), .val (.int 4), .val (.int ((x4 &&& 2147483647) % 4)), .unset]) at_84 rfl rfl ?_
    refine C.new at_86 rfl (tw hw 2 rfl) (tw hw 3 rfl) (tw hw 4 rfl) (by decide) (by decide) (fun a424 h425 z429 g430 X427 E426 D428 => ?_)
    have ne431 : a189 ≠ a424 := by rw [z429]; exact Nat.ne_of_lt F231.lt
    have F432 : Av Z h425 a189 .int ([.int x0, .int x1, .int x2, .int (x0 ^^^ x1), .int (x1 ^^^ x2), .int (x0 + x2), .int (x0 ^^^ (-1 : Int32)), .int (-x1), .int (x2 - x0)]) := F231.ext X427
    have F433 : Fld Z h425 a424 "com/example/leaseledger/leaseledger/journal/IntColumn" "values" "[I" (.null) := D428 (Or.inl (tw hw 12 rfl)) (ty := (.array .int)) (by decide)
    have F434 : Fld Z h425 a424 "com/example/leaseledger/leaseledger/journal/IntColumn" "size" "I" (.int 0) := D428 (Or.inl (tw hw 19 rfl)) (ty := .int) (by decide)
    refine C.dup at_89 rfl rfl ?_
    refine C.callN (argsL := []) (rest := [(.ref a424)]) 1 (fun zz => con_ini l Z a0 hw n0 h425 zz a424 E426 F433 F434 g430) at_90 rfl rfl (tw hw 5 rfl) (tw hw 6 rfl) (tw hw 4 rfl) (tw hw 7 rfl) (by decide) pd_3 rfl rfl rfl (Nat.le_of_eq rfl) (by decide) (by decide) (by decide) (by decide) (fun v435 h436 r437 => ?_)
    obtain ⟨a438, rfl, K439, g443, gz444, F440, F441, F442⟩ := r437
    have ne445 : a189 ≠ a438 := Nat.ne_of_lt (Nat.lt_of_lt_of_le F432.lt gz444)
    have ne446 : a424 ≠ a438 := Nat.ne_of_lt (Nat.lt_of_lt_of_le E426.lt gz444)
    have F447 : Av Z h436 a189 .int ([.int x0, .int x1, .int x2, .int (x0 ^^^ x1), .int (x1 ^^^ x2), .int (x0 + x2), .int (x0 ^^^ (-1 : Int32)), .int (-x1), .int (x2 - x0)]) := F432.keep K439 (ninS ne431 nin0)
    have F448 : Exa Z h436 a424 "com/example/leaseledger/leaseledger/journal/IntColumn" := E426.keep K439
    have F451 : Av Z h436 a438 .int ([.int 0, .int 0, .int 0, .int 0, .int 0, .int 0, .int 0, .int 0]) := F442
    refine C.astore (Ls' := #[.val (.int x0), .val (.int x1), .val (.int x2), .val (.int x3), .val (.int x4), .val (.ref a189), .val (.int 4), .val (.int ((x4 &&& 2147483647) % 4)), .val (.ref a424)]) at_93 rfl rfl rfl ?_
    refine C.iload at_95 rfl rfl ?_
    refine C.if_le_f at_97 rfl (by decide) ?_
    refine C.aload at_100 rfl rfl rfl ?_
    refine C.aload at_102 rfl rfl rfl ?_
    refine C.iconst 0 at_104 rfl rfl ?_
    refine C.iaload (.int x0) at_105 rfl F447 (by decide) rfl ?_
    refine C.callV (argsL := [(.int x0)]) (rest := []) 0 (fun zz => con_add l Z a0 hw n0 h436 zz a424 a438 x0 0 ([.int 0, .int 0, .int 0, .int 0, .int 0, .int 0, .int 0, .int 0]) F448 F440 F441 F451 g430 g443 ne446 (by decide) (Nat.le_of_ble_eq_true rfl) (Nat.le_of_ble_eq_true rfl)) F448 at_106 rfl (tw hw 13 rfl) (tw hw 14 rfl) (tw hw 15 rfl) (tw hw 16 rfl) (tw hw 4 rfl) (tw hw 17 rfl) (by decide) pd_4 rfl rfl rfl (Nat.le_of_eq rfl) (by decide) (by decide) (by decide) (by decide) (fun v452 h453 r454 => ?_)
    obtain ⟨rfl, K455, F456, F457, F458⟩ := r454
    have F459 : Av Z h453 a189 .int ([.int x0, .int x1, .int x2, .int (x0 ^^^ x1), .int (x1 ^^^ x2), .int (x0 + x2), .int (x0 ^^^ (-1 : Int32)), .int (-x1), .int (x2 - x0)]) := F447.keep K455 (ninS ne431 (ninS ne445 nin0))
    have F460 : Exa Z h453 a424 "com/example/leaseledger/leaseledger/journal/IntColumn" := F448.keep K455
    have F464 : Fld Z h453 a424 "com/example/leaseledger/leaseledger/journal/IntColumn" "size" "I" (.int 1) := F457
    have F465 : Av Z h453 a438 .int ([.int x0, .int 0, .int 0, .int 0, .int 0, .int 0, .int 0, .int 0]) := F458
    refine C.iload at_109 rfl rfl ?_
    refine C.iconst 1 at_111 rfl rfl ?_
    refine C.icmp_le_f at_112 rfl (by decide) ?_
    refine C.aload at_115 rfl rfl rfl ?_
    refine C.aload at_117 rfl rfl rfl ?_
    refine C.iconst 1 at_119 rfl rfl ?_
    refine C.iaload (.int x1) at_120 rfl F459 (by decide) rfl ?_
    refine C.callV (argsL := [(.int x1)]) (rest := []) 0 (fun zz => con_add l Z a0 hw n0 h453 zz a424 a438 x1 1 ([.int x0, .int 0, .int 0, .int 0, .int 0, .int 0, .int 0, .int 0]) F460 F456 F464 F465 g430 g443 ne446 (by decide) (Nat.le_of_ble_eq_true rfl) (Nat.le_of_ble_eq_true rfl)) F460 at_121 rfl (tw hw 13 rfl) (tw hw 14 rfl) (tw hw 15 rfl) (tw hw 16 rfl) (tw hw 4 rfl) (tw hw 17 rfl) (by decide) pd_4 rfl rfl rfl (Nat.le_of_eq rfl) (by decide) (by decide) (by decide) (by decide) (fun v466 h467 r468 => ?_)
    obtain ⟨rfl, K469, F470, F471, F472⟩ := r468
    have F473 : Av Z h467 a189 .int ([.int x0, .int x1, .int x2, .int (x0 ^^^ x1), .int (x1 ^^^ x2), .int (x0 + x2), .int (x0 ^^^ (-1 : Int32)), .int (-x1), .int (x2 - x0)]) := F459.keep K469 (ninS ne431 (ninS ne445 nin0))
    have F474 : Exa Z h467 a424 "com/example/leaseledger/leaseledger/journal/IntColumn" := F460.keep K469
    have F478 : Fld Z h467 a424 "com/example/leaseledger/leaseledger/journal/IntColumn" "size" "I" (.int 2) := F471
    have F479 : Av Z h467 a438 .int ([.int x0, .int x1, .int 0, .int 0, .int 0, .int 0, .int 0, .int 0]) := F472
    refine C.iload at_124 rfl rfl ?_
    refine C.iconst 2 at_126 rfl rfl ?_
    refine C.icmp_le_f at_127 rfl (by decide) ?_
    refine C.aload at_130 rfl rfl rfl ?_
    refine C.aload at_132 rfl rfl rfl ?_
    refine C.iconst 2 at_134 rfl rfl ?_
    refine C.iaload (.int x2) at_135 rfl F473 (by decide) rfl ?_
    refine C.callV (argsL := [(.int x2)]) (rest := []) 0 (fun zz => con_add l Z a0 hw n0 h467 zz a424 a438 x2 2 ([.int x0, .int x1, .int 0, .int 0, .int 0, .int 0, .int 0, .int 0]) F474 F470 F478 F479 g430 g443 ne446 (by decide) (Nat.le_of_ble_eq_true rfl) (Nat.le_of_ble_eq_true rfl)) F474 at_136 rfl (tw hw 13 rfl) (tw hw 14 rfl) (tw hw 15 rfl) (tw hw 16 rfl) (tw hw 4 rfl) (tw hw 17 rfl) (by decide) pd_4 rfl rfl rfl (Nat.le_of_eq rfl) (by decide) (by decide) (by decide) (by decide) (fun v480 h481 r482 => ?_)
    obtain ⟨rfl, K483, F484, F485, F486⟩ := r482
    have F487 : Av Z h481 a189 .int ([.int x0, .int x1, .int x2, .int (x0 ^^^ x1), .int (x1 ^^^ x2), .int (x0 + x2), .int (x0 ^^^ (-1 : Int32)), .int (-x1), .int (x2 - x0)]) := F473.keep K483 (ninS ne431 (ninS ne445 nin0))
    have F488 : Exa Z h481 a424 "com/example/leaseledger/leaseledger/journal/IntColumn" := F474.keep K483
    have F492 : Fld Z h481 a424 "com/example/leaseledger/leaseledger/journal/IntColumn" "size" "I" (.int 3) := F485
    have F493 : Av Z h481 a438 .int ([.int x0, .int x1, .int x2, .int 0, .int 0, .int 0, .int 0, .int 0]) := F486
    refine C.iload at_139 rfl rfl ?_
    refine C.iconst 3 at_141 rfl rfl ?_
    refine C.icmp_le_f at_142 rfl (by decide) ?_
    refine C.aload at_145 rfl rfl rfl ?_
    refine C.aload at_147 rfl rfl rfl ?_
    refine C.iconst 3 at_149 rfl rfl ?_
    refine C.iaload (.int (x0 ^^^ x1)) at_150 rfl F487 (by decide) rfl ?_
    refine C.callV (argsL := [(.int (x0 ^^^ x1))]) (rest := []) 0 (fun zz => con_add l Z a0 hw n0 h481 zz a424 a438 (x0 ^^^ x1) 3 ([.int x0, .int x1, .int x2, .int 0, .int 0, .int 0, .int 0, .int 0]) F488 F484 F492 F493 g430 g443 ne446 (by decide) (Nat.le_of_ble_eq_true rfl) (Nat.le_of_ble_eq_true rfl)) F488 at_151 rfl (tw hw 13 rfl) (tw hw 14 rfl) (tw hw 15 rfl) (tw hw 16 rfl) (tw hw 4 rfl) (tw hw 17 rfl) (by decide) pd_4 rfl rfl rfl (Nat.le_of_eq rfl) (by decide) (by decide) (by decide) (by decide) (fun v494 h495 r496 => ?_)
    obtain ⟨rfl, K497, F498, F499, F500⟩ := r496
    have F501 : Av Z h495 a189 .int ([.int x0, .int x1, .int x2, .int (x0 ^^^ x1), .int (x1 ^^^ x2), .int (x0 + x2), .int (x0 ^^^ (-1 : Int32)), .int (-x1), .int (x2 - x0)]) := F487.keep K497 (ninS ne431 (ninS ne445 nin0))
    have F502 : Exa Z h495 a424 "com/example/leaseledger/leaseledger/journal/IntColumn" := F488.keep K497
    have F506 : Fld Z h495 a424 "com/example/leaseledger/leaseledger/journal/IntColumn" "size" "I" (.int 4) := F499
    have F507 : Av Z h495 a438 .int ([.int x0, .int x1, .int x2, .int (x0 ^^^ x1), .int 0, .int 0, .int 0, .int 0]) := F500
    refine C.iload at_154 rfl rfl ?_
    refine C.iconst 4 at_156 rfl rfl ?_
    refine C.icmp_le_t at_157 (by decide) rfl (by decide) ?_
    refine C.iload at_169 rfl rfl ?_
    refine C.iconst 5 at_171 rfl rfl ?_
    refine C.icmp_le_t at_172 (by decide) rfl (by decide) ?_
    refine C.iload at_184 rfl rfl ?_
    refine C.bipush 6 at_186 rfl rfl ?_
    refine C.icmp_le_t at_188 (by decide) rfl (by decide) ?_
    refine C.iload at_201 rfl rfl ?_
    refine C.bipush 7 at_203 rfl rfl ?_
    refine C.icmp_le_t at_205 (by decide) rfl (by decide) ?_
    refine C.iload at_218 rfl rfl ?_
    refine C.bipush 8 at_220 rfl rfl ?_
    refine C.icmp_le_t at_222 (by decide) rfl (by decide) ?_
    rcases own_mod4 x4 with qr | qr | qr | qr
    · rw [qr]
      refine C.aload at_235 rfl rfl rfl ?_
      refine C.iload at_237 rfl rfl ?_
      refine C.callV (argsL := [(.int 0)]) (rest := []) 0 (fun zz => con_get l Z a0 hw n0 h495 zz a424 a438 0 x0 4 ([.int x0, .int x1, .int x2, .int (x0 ^^^ x1), .int 0, .int 0, .int 0, .int 0]) F498 F506 F507 (by decide) (by decide) rfl) F502 at_239 rfl (tw hw 20 rfl) (tw hw 21 rfl) (tw hw 22 rfl) (tw hw 23 rfl) (tw hw 4 rfl) (tw hw 24 rfl) (by decide) pd_5 rfl rfl rfl (Nat.le_of_eq rfl) (by decide) (by decide) (by decide) (by decide) (fun v508 h509 r510 => ?_)
      obtain ⟨rfl, rfl⟩ := r510
      refine C.aload at_242 rfl rfl rfl ?_
      refine C.iload at_244 rfl rfl ?_
      refine C.iaload (.int x0) at_246 rfl F501 (by decide) rfl ?_
      refine C.icmp_ne_f at_247 rfl rfl ?_
      refine C.iconst 1 at_250 rfl rfl ?_
      refine C.goto at_251 (by decide) rfl ?_
      exact C.retZ at_255 rfl (by decide) (by decide) ⟨rfl, trivial⟩
    · rw [qr]
      refine C.aload at_235 rfl rfl rfl ?_
      refine C.iload at_237 rfl rfl ?_
      refine C.callV (argsL := [(.int 1)]) (rest := []) 0 (fun zz => con_get l Z a0 hw n0 h495 zz a424 a438 1 x1 4 ([.int x0, .int x1, .int x2, .int (x0 ^^^ x1), .int 0, .int 0, .int 0, .int 0]) F498 F506 F507 (by decide) (by decide) rfl) F502 at_239 rfl (tw hw 20 rfl) (tw hw 21 rfl) (tw hw 22 rfl) (tw hw 23 rfl) (tw hw 4 rfl) (tw hw 24 rfl) (by decide) pd_5 rfl rfl rfl (Nat.le_of_eq rfl) (by decide) (by decide) (by decide) (by decide) (fun v512 h513 r514 => ?_)
      obtain ⟨rfl, rfl⟩ := r514
      refine C.aload at_242 rfl rfl rfl ?_
      refine C.iload at_244 rfl rfl ?_
      refine C.iaload (.int x1) at_246 rfl F501 (by decide) rfl ?_
      refine C.icmp_ne_f at_247 rfl rfl ?_
      refine C.iconst 1 at_250 rfl rfl ?_
      refine C.goto at_251 (by decide) rfl ?_
      exact C.retZ at_255 rfl (by decide) (by decide) ⟨rfl, trivial⟩
    · rw [qr]
      refine C.aload at_235 rfl rfl rfl ?_
      refine C.iload at_237 rfl rfl ?_
      refine C.callV (argsL := [(.int 2)]) (rest := []) 0 (fun zz => con_get l Z a0 hw n0 h495 zz a424 a438 2 x2 4 ([.int x0, .int x1, .int x2, .int (x0 ^^^ x1), .int 0, .int 0, .int 0, .int 0]) F498 F506 F507 (by decide) (by decide) rfl) F502 at_239 rfl (tw hw 20 rfl) (tw hw 21 rfl) (tw hw 22 rfl) (tw hw 23 rfl) (tw hw 4 rfl) (tw hw 24 rfl) (by decide) pd_5 rfl rfl rfl (Nat.le_of_eq rfl) (by decide) (by decide) (by decide) (by decide) (fun v516 h517 r518 => ?_)
      obtain ⟨rfl, rfl⟩ := r518
      refine C.aload at_242 rfl rfl rfl ?_
      refine C.iload at_244 rfl rfl ?_
      refine C.iaload (.int x2) at_246 rfl F501 (by decide) rfl ?_
      refine C.icmp_ne_f at_247 rfl rfl ?_
      refine C.iconst 1 at_250 rfl rfl ?_
      refine C.goto at_251 (by decide) rfl ?_
      exact C.retZ at_255 rfl (by decide) (by decide) ⟨rfl, trivial⟩
    · rw [qr]
      refine C.aload at_235 rfl rfl rfl ?_
      refine C.iload at_237 rfl rfl ?_
      refine C.callV (argsL := [(.int 3)]) (rest := []) 0 (fun zz => con_get l Z a0 hw n0 h495 zz a424 a438 3 (x0 ^^^ x1) 4 ([.int x0, .int x1, .int x2, .int (x0 ^^^ x1), .int 0, .int 0, .int 0, .int 0]) F498 F506 F507 (by decide) (by decide) rfl) F502 at_239 rfl (tw hw 20 rfl) (tw hw 21 rfl) (tw hw 22 rfl) (tw hw 23 rfl) (tw hw 4 rfl) (tw hw 24 rfl) (by decide) pd_5 rfl rfl rfl (Nat.le_of_eq rfl) (by decide) (by decide) (by decide) (by decide) (fun v520 h521 r522 => ?_)
      obtain ⟨rfl, rfl⟩ := r522
      refine C.aload at_242 rfl rfl rfl ?_
      refine C.iload at_244 rfl rfl ?_
      refine C.iaload (.int (x0 ^^^ x1)) at_246 rfl F501 (by decide) rfl ?_
      refine C.icmp_ne_f at_247 rfl rfl ?_
      refine C.iconst 1 at_250 rfl rfl ?_
      refine C.goto at_251 (by decide) rfl ?_
      exact C.retZ at_255 rfl (by decide) (by decide) ⟨rfl, trivial⟩
  · rw [qc]
    show Go p l e room_1 s m #[(.int x0), (.int x1), (.int x2), (.int x3), (.int x4)] below meth c n0 (FinQ s n0 (Qcon0 Z n0 h0 x0 x1 x2 x3 x4) room_1.cells room_1.slots) h228 1 9 76 #[.val (.int x0), .val (.int x1), .val (.int x2), .val (.int x3), .val (.int x4), .val (.ref a189), .val (.int 5), .unset, .unset] []
    refine C.iload at_76 rfl rfl ?_
    refine C.ldcI at_78 rfl (tw hw 1 rfl) ?_
    refine C.iand at_80 rfl ?_
    refine C.iload at_81 rfl rfl ?_
    refine C.irem at_83 rfl (by decide) ?_
    refine C.istore (Ls' := #[.val (.int x0), .val (.int x1), .val (.int x2), .val (.int x3), .val (.int x4), .val (.ref a189), .val (.int 5), .val (.int ((x4 &&& 2147483647) % 5)), .unset]) at_84 rfl rfl ?_
    refine C.new at_86 rfl (tw hw 2 rfl) (tw hw 3 rfl) (tw hw 4 rfl) (by decide) (by decide) (fun a524 h525 z529 g530 X527 E526 D528 => ?_)
    have ne531 : a189 ≠ a524 := by rw [z529]; exact Nat.ne_of_lt F231.lt
    have F532 : Av Z h525 a189 .int ([.int x0, .int x1, .int x2, .int (x0 ^^^ x1), .int (x1 ^^^ x2), .int (x0 + x2), .int (x0 ^^^ (-1 : Int32)), .int (-x1), .int (x2 - x0)]) := F231.ext X527
    have F533 : Fld Z h525 a524 "com/example/leaseledger/leaseledger/journal/IntColumn" "values" "[I" (.null) := D528 (Or.inl (tw hw 12 rfl)) (ty := (.array .int)) (by decide)
    have F534 : Fld Z h525 a524 "com/example/leaseledger/leaseledger/journal/IntColumn" "size" "I" (.int 0) := D528 (Or.inl (tw hw 19 rfl)) (ty := .int) (by decide)
    refine C.dup at_89 rfl rfl ?_
    refine C.callN (argsL := []) (rest := [(.ref a524)]) 1 (fun zz => con_ini l Z a0 hw n0 h525 zz a524 E526 F533 F534 g530) at_90 rfl rfl (tw hw 5 rfl) (tw hw 6 rfl) (tw hw 4 rfl) (tw hw 7 rfl) (by decide) pd_3 rfl rfl rfl (Nat.le_of_eq rfl) (by decide) (by decide) (by decide) (by decide) (fun v535 h536 r537 => ?_)
    obtain ⟨a538, rfl, K539, g543, gz544, F540, F541, F542⟩ := r537
    have ne545 : a189 ≠ a538 := Nat.ne_of_lt (Nat.lt_of_lt_of_le F532.lt gz544)
    have ne546 : a524 ≠ a538 := Nat.ne_of_lt (Nat.lt_of_lt_of_le E526.lt gz544)
    have F547 : Av Z h536 a189 .int ([.int x0, .int x1, .int x2, .int (x0 ^^^ x1), .int (x1 ^^^ x2), .int (x0 + x2), .int (x0 ^^^ (-1 : Int32)), .int (-x1), .int (x2 - x0)]) := F532.keep K539 (ninS ne531 nin0)
    have F548 : Exa Z h536 a524 "com/example/leaseledger/leaseledger/journal/IntColumn" := E526.keep K539
    have F551 : Av Z h536 a538 .int ([.int 0, .int 0, .int 0, .int 0, .int 0, .int 0, .int 0, .int 0]) := F542
    refine C.astore (Ls' := #[.val (.int x0), .val (.int x1), .val (.int x2), .val (.int x3), .val (.int x4), .val (.ref a189), .val (.int 5), .val (.int ((x4 &&& 2147483647) % 5)), .val (.ref a524)]) at_93 rfl rfl rfl ?_
    refine C.iload at_95 rfl rfl ?_
    refine C.if_le_f at_97 rfl (by decide) ?_
    refine C.aload at_100 rfl rfl rfl ?_
    refine C.aload at_102 rfl rfl rfl ?_
    refine C.iconst 0 at_104 rfl rfl ?_
    refine C.iaload (.int x0) at_105 rfl F547 (by decide) rfl ?_
    refine C.callV (argsL := [(.int x0)]) (rest := []) 0 (fun zz => con_add l Z a0 hw n0 h536 zz a524 a538 x0 0 ([.int 0, .int 0, .int 0, .int 0, .int 0, .int 0, .int 0, .int 0]) F548 F540 F541 F551 g530 g543 ne546 (by decide) (Nat.le_of_ble_eq_true rfl) (Nat.le_of_ble_eq_true rfl)) F548 at_106 rfl (tw hw 13 rfl) (tw hw 14 rfl) (tw hw 15 rfl) (tw hw 16 rfl) (tw hw 4 rfl) (tw hw 17 rfl) (by decide) pd_4 rfl rfl rfl (Nat.le_of_eq rfl) (by decide) (by decide) (by decide) (by decide) (fun v552 h553 r554 => ?_)
    obtain ⟨rfl, K555, F556, F557, F558⟩ := r554
    have F559 : Av Z h553 a189 .int ([.int x0, .int x1, .int x2, .int (x0 ^^^ x1), .int (x1 ^^^ x2), .int (x0 + x2), .int (x0 ^^^ (-1 : Int32)), .int (-x1), .int (x2 - x0)]) := F547.keep K555 (ninS ne531 (ninS ne545 nin0))
    have F560 : Exa Z h553 a524 "com/example/leaseledger/leaseledger/journal/IntColumn" := F548.keep K555
    have F564 : Fld Z h553 a524 "com/example/leaseledger/leaseledger/journal/IntColumn" "size" "I" (.int 1) := F557
    have F565 : Av Z h553 a538 .int ([.int x0, .int 0, .int 0, .int 0, .int 0, .int 0, .int 0, .int 0]) := F558
    refine C.iload at_109 rfl rfl ?_
    refine C.iconst 1 at_111 rfl rfl ?_
    refine C.icmp_le_f at_112 rfl (by decide) ?_
    refine C.aload at_115 rfl rfl rfl ?_
    refine C.aload at_117 rfl rfl rfl ?_
    refine C.iconst 1 at_119 rfl rfl ?_
    refine C.iaload (.int x1) at_120 rfl F559 (by decide) rfl ?_
    refine C.callV (argsL := [(.int x1)]) (rest := []) 0 (fun zz => con_add l Z a0 hw n0 h553 zz a524 a538 x1 1 ([.int x0, .int 0, .int 0, .int 0, .int 0, .int 0, .int 0, .int 0]) F560 F556 F564 F565 g530 g543 ne546 (by decide) (Nat.le_of_ble_eq_true rfl) (Nat.le_of_ble_eq_true rfl)) F560 at_121 rfl (tw hw 13 rfl) (tw hw 14 rfl) (tw hw 15 rfl) (tw hw 16 rfl) (tw hw 4 rfl) (tw hw 17 rfl) (by decide) pd_4 rfl rfl rfl (Nat.le_of_eq rfl) (by decide) (by decide) (by decide) (by decide) (fun v566 h567 r568 => ?_)
    obtain ⟨rfl, K569, F570, F571, F572⟩ := r568
    have F573 : Av Z h567 a189 .int ([.int x0, .int x1, .int x2, .int (x0 ^^^ x1), .int (x1 ^^^ x2), .int (x0 + x2), .int (x0 ^^^ (-1 : Int32)), .int (-x1), .int (x2 - x0)]) := F559.keep K569 (ninS ne531 (ninS ne545 nin0))
    have F574 : Exa Z h567 a524 "com/example/leaseledger/leaseledger/journal/IntColumn" := F560.keep K569
    have F578 : Fld Z h567 a524 "com/example/leaseledger/leaseledger/journal/IntColumn" "size" "I" (.int 2) := F571
    have F579 : Av Z h567 a538 .int ([.int x0, .int x1, .int 0, .int 0, .int 0, .int 0, .int 0, .int 0]) := F572
    refine C.iload at_124 rfl rfl ?_
    refine C.iconst 2 at_126 rfl rfl ?_
    refine C.icmp_le_f at_127 rfl (by decide) ?_
    refine C.aload at_130 rfl rfl rfl ?_
    refine C.aload at_132 rfl rfl rfl ?_
    refine C.iconst 2 at_134 rfl rfl ?_
    refine C.iaload (.int x2) at_135 rfl F573 (by decide) rfl ?_
    refine C.callV (argsL := [(.int x2)]) (rest := []) 0 (fun zz => con_add l Z a0 hw n0 h567 zz a524 a538 x2 2 ([.int x0, .int x1, .int 0, .int 0, .int 0, .int 0, .int 0, .int 0]) F574 F570 F578 F579 g530 g543 ne546 (by decide) (Nat.le_of_ble_eq_true rfl) (Nat.le_of_ble_eq_true rfl)) F574 at_136 rfl (tw hw 13 rfl) (tw hw 14 rfl) (tw hw 15 rfl) (tw hw 16 rfl) (tw hw 4 rfl) (tw hw 17 rfl) (by decide) pd_4 rfl rfl rfl (Nat.le_of_eq rfl) (by decide) (by decide) (by decide) (by decide) (fun v580 h581 r582 => ?_)
    obtain ⟨rfl, K583, F584, F585, F586⟩ := r582
    have F587 : Av Z h581 a189 .int ([.int x0, .int x1, .int x2, .int (x0 ^^^ x1), .int (x1 ^^^ x2), .int (x0 + x2), .int (x0 ^^^ (-1 : Int32)), .int (-x1), .int (x2 - x0)]) := F573.keep K583 (ninS ne531 (ninS ne545 nin0))
    have F588 : Exa Z h581 a524 "com/example/leaseledger/leaseledger/journal/IntColumn" := F574.keep K583
    have F592 : Fld Z h581 a524 "com/example/leaseledger/leaseledger/journal/IntColumn" "size" "I" (.int 3) := F585
    have F593 : Av Z h581 a538 .int ([.int x0, .int x1, .int x2, .int 0, .int 0, .int 0, .int 0, .int 0]) := F586
    refine C.iload at_139 rfl rfl ?_
    refine C.iconst 3 at_141 rfl rfl ?_
    refine C.icmp_le_f at_142 rfl (by decide) ?_
    refine C.aload at_145 rfl rfl rfl ?_
    refine C.aload at_147 rfl rfl rfl ?_
    refine C.iconst 3 at_149 rfl rfl ?_
    refine C.iaload (.int (x0 ^^^ x1)) at_150 rfl F587 (by decide) rfl ?_
    refine C.callV (argsL := [(.int (x0 ^^^ x1))]) (rest := []) 0 (fun zz => con_add l Z a0 hw n0 h581 zz a524 a538 (x0 ^^^ x1) 3 ([.int x0, .int x1, .int x2, .int 0, .int 0, .int 0, .int 0, .int 0]) F588 F584 F592 F593 g530 g543 ne546 (by decide) (Nat.le_of_ble_eq_true rfl) (Nat.le_of_ble_eq_true rfl)) F588 at_151 rfl (tw hw 13 rfl) (tw hw 14 rfl) (tw hw 15 rfl) (tw hw 16 rfl) (tw hw 4 rfl) (tw hw 17 rfl) (by decide) pd_4 rfl rfl rfl (Nat.le_of_eq rfl) (by decide) (by decide) (by decide) (by decide) (fun v594 h595 r596 => ?_)
    obtain ⟨rfl, K597, F598, F599, F600⟩ := r596
    have F601 : Av Z h595 a189 .int ([.int x0, .int x1, .int x2, .int (x0 ^^^ x1), .int (x1 ^^^ x2), .int (x0 + x2), .int (x0 ^^^ (-1 : Int32)), .int (-x1), .int (x2 - x0)]) := F587.keep K597 (ninS ne531 (ninS ne545 nin0))
    have F602 : Exa Z h595 a524 "com/example/leaseledger/leaseledger/journal/IntColumn" := F588.keep K597
    have F606 : Fld Z h595 a524 "com/example/leaseledger/leaseledger/journal/IntColumn" "size" "I" (.int 4) := F599
    have F607 : Av Z h595 a538 .int ([.int x0, .int x1, .int x2, .int (x0 ^^^ x1), .int 0, .int 0, .int 0, .int 0]) := F600
    refine C.iload at_154 rfl rfl ?_
    refine C.iconst 4 at_156 rfl rfl ?_
    refine C.icmp_le_f at_157 rfl (by decide) ?_
    refine C.aload at_160 rfl rfl rfl ?_
    refine C.aload at_162 rfl rfl rfl ?_
    refine C.iconst 4 at_164 rfl rfl ?_
    refine C.iaload (.int (x1 ^^^ x2)) at_165 rfl F601 (by decide) rfl ?_
    refine C.callV (argsL := [(.int (x1 ^^^ x2))]) (rest := []) 0 (fun zz => con_add l Z a0 hw n0 h595 zz a524 a538 (x1 ^^^ x2) 4 ([.int x0, .int x1, .int x2, .int (x0 ^^^ x1), .int 0, .int 0, .int 0, .int 0]) F602 F598 F606 F607 g530 g543 ne546 (by decide) (Nat.le_of_ble_eq_true rfl) (Nat.le_of_ble_eq_true rfl)) F602 at_166 rfl (tw hw 13 rfl) (tw hw 14 rfl) (tw hw 15 rfl) (tw hw 16 rfl) (tw hw 4 rfl) (tw hw 17 rfl) (by decide) pd_4 rfl rfl rfl (Nat.le_of_eq rfl) (by decide) (by decide) (by decide) (by decide) (fun v608 h609 r610 => ?_)
    obtain ⟨rfl, K611, F612, F613, F614⟩ := r610
    have F615 : Av Z h609 a189 .int ([.int x0, .int x1, .int x2, .int (x0 ^^^ x1), .int (x1 ^^^ x2), .int (x0 + x2), .int (x0 ^^^ (-1 : Int32)), .int (-x1), .int (x2 - x0)]) := F601.keep K611 (ninS ne531 (ninS ne545 nin0))
    have F616 : Exa Z h609 a524 "com/example/leaseledger/leaseledger/journal/IntColumn" := F602.keep K611
    have F620 : Fld Z h609 a524 "com/example/leaseledger/leaseledger/journal/IntColumn" "size" "I" (.int 5) := F613
    have F621 : Av Z h609 a538 .int ([.int x0, .int x1, .int x2, .int (x0 ^^^ x1), .int (x1 ^^^ x2), .int 0, .int 0, .int 0]) := F614
    refine C.iload at_169 rfl rfl ?_
    refine C.iconst 5 at_171 rfl rfl ?_
    refine C.icmp_le_t at_172 (by decide) rfl (by decide) ?_
    refine C.iload at_184 rfl rfl ?_
    refine C.bipush 6 at_186 rfl rfl ?_
    refine C.icmp_le_t at_188 (by decide) rfl (by decide) ?_
    refine C.iload at_201 rfl rfl ?_
    refine C.bipush 7 at_203 rfl rfl ?_
    refine C.icmp_le_t at_205 (by decide) rfl (by decide) ?_
    refine C.iload at_218 rfl rfl ?_
    refine C.bipush 8 at_220 rfl rfl ?_
    refine C.icmp_le_t at_222 (by decide) rfl (by decide) ?_
    rcases own_mod5 x4 with qr | qr | qr | qr | qr
    · rw [qr]
      refine C.aload at_235 rfl rfl rfl ?_
      refine C.iload at_237 rfl rfl ?_
      refine C.callV (argsL := [(.int 0)]) (rest := []) 0 (fun zz => con_get l Z a0 hw n0 h609 zz a524 a538 0 x0 5 ([.int x0, .int x1, .int x2, .int (x0 ^^^ x1), .int (x1 ^^^ x2), .int 0, .int 0, .int 0]) F612 F620 F621 (by decide) (by decide) rfl) F616 at_239 rfl (tw hw 20 rfl) (tw hw 21 rfl) (tw hw 22 rfl) (tw hw 23 rfl) (tw hw 4 rfl) (tw hw 24 rfl) (by decide) pd_5 rfl rfl rfl (Nat.le_of_eq rfl) (by decide) (by decide) (by decide) (by decide) (fun v622 h623 r624 => ?_)
      obtain ⟨rfl, rfl⟩ := r624
      refine C.aload at_242 rfl rfl rfl ?_
      refine C.iload at_244 rfl rfl ?_
      refine C.iaload (.int x0) at_246 rfl F615 (by decide) rfl ?_
      refine C.icmp_ne_f at_247 rfl rfl ?_
      refine C.iconst 1 at_250 rfl rfl ?_
      refine C.goto at_251 (by decide) rfl ?_
      exact C.retZ at_255 rfl (by decide) (by decide) ⟨rfl, trivial⟩
    · rw [qr]
      refine C.aload at_235 rfl rfl rfl ?_
      refine C.iload at_237 rfl rfl ?_
      refine C.callV (argsL := [(.int 1)]) (rest := []) 0 (fun zz => con_get l Z a0 hw n0 h609 zz a524 a538 1 x1 5 ([.int x0, .int x1, .int x2, .int (x0 ^^^ x1), .int (x1 ^^^ x2), .int 0, .int 0, .int 0]) F612 F620 F621 (by decide) (by decide) rfl) F616 at_239 rfl (tw hw 20 rfl) (tw hw 21 rfl) (tw hw 22 rfl) (tw hw 23 rfl) (tw hw 4 rfl) (tw hw 24 rfl) (by decide) pd_5 rfl rfl rfl (Nat.le_of_eq rfl) (by decide) (by decide) (by decide) (by decide) (fun v626 h627 r628 => ?_)
      obtain ⟨rfl, rfl⟩ := r628
      refine C.aload at_242 rfl rfl rfl ?_
      refine C.iload at_244 rfl rfl ?_
      refine C.iaload (.int x1) at_246 rfl F615 (by decide) rfl ?_
      refine C.icmp_ne_f at_247 rfl rfl ?_
      refine C.iconst 1 at_250 rfl rfl ?_
      refine C.goto at_251 (by decide) rfl ?_
      exact C.retZ at_255 rfl (by decide) (by decide) ⟨rfl, trivial⟩
    · rw [qr]
      refine C.aload at_235 rfl rfl rfl ?_
      refine C.iload at_237 rfl rfl ?_
      refine C.callV (argsL := [(.int 2)]) (rest := []) 0 (fun zz => con_get l Z a0 hw n0 h609 zz a524 a538 2 x2 5 ([.int x0, .int x1, .int x2, .int (x0 ^^^ x1), .int (x1 ^^^ x2), .int 0, .int 0, .int 0]) F612 F620 F621 (by decide) (by decide) rfl) F616 at_239 rfl (tw hw 20 rfl) (tw hw 21 rfl) (tw hw 22 rfl) (tw hw 23 rfl) (tw hw 4 rfl) (tw hw 24 rfl) (by decide) pd_5 rfl rfl rfl (Nat.le_of_eq rfl) (by decide) (by decide) (by decide) (by decide) (fun v630 h631 r632 => ?_)
      obtain ⟨rfl, rfl⟩ := r632
      refine C.aload at_242 rfl rfl rfl ?_
      refine C.iload at_244 rfl rfl ?_
      refine C.iaload (.int x2) at_246 rfl F615 (by decide) rfl ?_
      refine C.icmp_ne_f at_247 rfl rfl ?_
      refine C.iconst 1 at_250 rfl rfl ?_
      refine C.goto at_251 (by decide) rfl ?_
      exact C.retZ at_255 rfl (by decide) (by decide) ⟨rfl, trivial⟩
    · rw [qr]
      refine C.aload at_235 rfl rfl rfl ?_
      refine C.iload at_237 rfl rfl ?_
      refine C.callV (argsL := [(.int 3)]) (rest := []) 0 (fun zz => con_get l Z a0 hw n0 h609 zz a524 a538 3 (x0 ^^^ x1) 5 ([.int x0, .int x1, .int x2, .int (x0 ^^^ x1), .int (x1 ^^^ x2), .int 0, .int 0, .int 0]) F612 F620 F621 (by decide) (by decide) rfl) F616 at_239 rfl (tw hw 20 rfl) (tw hw 21 rfl) (tw hw 22 rfl) (tw hw 23 rfl) (tw hw 4 rfl) (tw hw 24 rfl) (by decide) pd_5 rfl rfl rfl (Nat.le_of_eq rfl) (by decide) (by decide) (by decide) (by decide) (fun v634 h635 r636 => ?_)
      obtain ⟨rfl, rfl⟩ := r636
      refine C.aload at_242 rfl rfl rfl ?_
      refine C.iload at_244 rfl rfl ?_
      refine C.iaload (.int (x0 ^^^ x1)) at_246 rfl F615 (by decide) rfl ?_
      refine C.icmp_ne_f at_247 rfl rfl ?_
      refine C.iconst 1 at_250 rfl rfl ?_
      refine C.goto at_251 (by decide) rfl ?_
      exact C.retZ at_255 rfl (by decide) (by decide) ⟨rfl, trivial⟩
    · rw [qr]
      refine C.aload at_235 rfl rfl rfl ?_
      refine C.iload at_237 rfl rfl ?_
      refine C.callV (argsL := [(.int 4)]) (rest := []) 0 (fun zz => con_get l Z a0 hw n0 h609 zz a524 a538 4 (x1 ^^^ x2) 5 ([.int x0, .int x1, .int x2, .int (x0 ^^^ x1), .int (x1 ^^^ x2), .int 0, .int 0, .int 0]) F612 F620 F621 (by decide) (by decide) rfl) F616 at_239 rfl (tw hw 20 rfl) (tw hw 21 rfl) (tw hw 22 rfl) (tw hw 23 rfl) (tw hw 4 rfl) (tw hw 24 rfl) (by decide) pd_5 rfl rfl rfl (Nat.le_of_eq rfl) (by decide) (by decide) (by decide) (by decide) (fun v638 h639 r640 => ?_)
      obtain ⟨rfl, rfl⟩ := r640
      refine C.aload at_242 rfl rfl rfl ?_
      refine C.iload at_244 rfl rfl ?_
      refine C.iaload (.int (x1 ^^^ x2)) at_246 rfl F615 (by decide) rfl ?_
      refine C.icmp_ne_f at_247 rfl rfl ?_
      refine C.iconst 1 at_250 rfl rfl ?_
      refine C.goto at_251 (by decide) rfl ?_
      exact C.retZ at_255 rfl (by decide) (by decide) ⟨rfl, trivial⟩
  · rw [qc]
    show Go p l e room_1 s m #[(.int x0), (.int x1), (.int x2), (.int x3), (.int x4)] below meth c n0 (FinQ s n0 (Qcon0 Z n0 h0 x0 x1 x2 x3 x4) room_1.cells room_1.slots) h228 1 9 76 #[.val (.int x0), .val (.int x1), .val (.int x2), .val (.int x3), .val (.int x4), .val (.ref a189), .val (.int 6), .unset, .unset] []
    refine C.iload at_76 rfl rfl ?_
    refine C.ldcI at_78 rfl (tw hw 1 rfl) ?_
    refine C.iand at_80 rfl ?_
    refine C.iload at_81 rfl rfl ?_
    refine C.irem at_83 rfl (by decide) ?_
    refine C.istore (Ls' := #[.val (.int x0), .val (.int x1), .val (.int x2), .val (.int x3), .val (.int x4), .val (.ref a189), .val (.int 6), .val (.int ((x4 &&& 2147483647) % 6)), .unset]) at_84 rfl rfl ?_
    refine C.new at_86 rfl (tw hw 2 rfl) (tw hw 3 rfl) (tw hw 4 rfl) (by decide) (by decide) (fun a642 h643 z647 g648 X645 E644 D646 => ?_)
    have ne649 : a189 ≠ a642 := by rw [z647]; exact Nat.ne_of_lt F231.lt
    have F650 : Av Z h643 a189 .int ([.int x0, .int x1, .int x2, .int (x0 ^^^ x1), .int (x1 ^^^ x2), .int (x0 + x2), .int (x0 ^^^ (-1 : Int32)), .int (-x1), .int (x2 - x0)]) := F231.ext X645
    have F651 : Fld Z h643 a642 "com/example/leaseledger/leaseledger/journal/IntColumn" "values" "[I" (.null) := D646 (Or.inl (tw hw 12 rfl)) (ty := (.array .int)) (by decide)
    have F652 : Fld Z h643 a642 "com/example/leaseledger/leaseledger/journal/IntColumn" "size" "I" (.int 0) := D646 (Or.inl (tw hw 19 rfl)) (ty := .int) (by decide)
    refine C.dup at_89 rfl rfl ?_
    refine C.callN (argsL := []) (rest := [(.ref a642)]) 1 (fun zz => con_ini l Z a0 hw n0 h643 zz a642 E644 F651 F652 g648) at_90 rfl rfl (tw hw 5 rfl) (tw hw 6 rfl) (tw hw 4 rfl) (tw hw 7 rfl) (by decide) pd_3 rfl rfl rfl (Nat.le_of_eq rfl) (by decide) (by decide) (by decide) (by decide) (fun v653 h654 r655 => ?_)
    obtain ⟨a656, rfl, K657, g661, gz662, F658, F659, F660⟩ := r655
    have ne663 : a189 ≠ a656 := Nat.ne_of_lt (Nat.lt_of_lt_of_le F650.lt gz662)
    have ne664 : a642 ≠ a656 := Nat.ne_of_lt (Nat.lt_of_lt_of_le E644.lt gz662)
    have F665 : Av Z h654 a189 .int ([.int x0, .int x1, .int x2, .int (x0 ^^^ x1), .int (x1 ^^^ x2), .int (x0 + x2), .int (x0 ^^^ (-1 : Int32)), .int (-x1), .int (x2 - x0)]) := F650.keep K657 (ninS ne649 nin0)
    have F666 : Exa Z h654 a642 "com/example/leaseledger/leaseledger/journal/IntColumn" := E644.keep K657
    have F669 : Av Z h654 a656 .int ([.int 0, .int 0, .int 0, .int 0, .int 0, .int 0, .int 0, .int 0]) := F660
    refine C.astore (Ls' := #[.val (.int x0), .val (.int x1), .val (.int x2), .val (.int x3), .val (.int x4), .val (.ref a189), .val (.int 6), .val (.int ((x4 &&& 2147483647) % 6)), .val (.ref a642)]) at_93 rfl rfl rfl ?_
    refine C.iload at_95 rfl rfl ?_
    refine C.if_le_f at_97 rfl (by decide) ?_
    refine C.aload at_100 rfl rfl rfl ?_
    refine C.aload at_102 rfl rfl rfl ?_
    refine C.iconst 0 at_104 rfl rfl ?_
    refine C.iaload (.int x0) at_105 rfl F665 (by decide) rfl ?_
    refine C.callV (argsL := [(.int x0)]) (rest := []) 0 (fun zz => con_add l Z a0 hw n0 h654 zz a642 a656 x0 0 ([.int 0, .int 0, .int 0, .int 0, .int 0, .int 0, .int 0, .int 0]) F666 F658 F659 F669 g648 g661 ne664 (by decide) (Nat.le_of_ble_eq_true rfl) (Nat.le_of_ble_eq_true rfl)) F666 at_106 rfl (tw hw 13 rfl) (tw hw 14 rfl) (tw hw 15 rfl) (tw hw 16 rfl) (tw hw 4 rfl) (tw hw 17 rfl) (by decide) pd_4 rfl rfl rfl (Nat.le_of_eq rfl) (by decide) (by decide) (by decide) (by decide) (fun v670 h671 r672 => ?_)
    obtain ⟨rfl, K673, F674, F675, F676⟩ := r672
    have F677 : Av Z h671 a189 .int ([.int x0, .int x1, .int x2, .int (x0 ^^^ x1), .int (x1 ^^^ x2), .int (x0 + x2), .int (x0 ^^^ (-1 : Int32)), .int (-x1), .int (x2 - x0)]) := F665.keep K673 (ninS ne649 (ninS ne663 nin0))
    have F678 : Exa Z h671 a642 "com/example/leaseledger/leaseledger/journal/IntColumn" := F666.keep K673
    have F682 : Fld Z h671 a642 "com/example/leaseledger/leaseledger/journal/IntColumn" "size" "I" (.int 1) := F675
    have F683 : Av Z h671 a656 .int ([.int x0, .int 0, .int 0, .int 0, .int 0, .int 0, .int 0, .int 0]) := F676
    refine C.iload at_109 rfl rfl ?_
    refine C.iconst 1 at_111 rfl rfl ?_
    refine C.icmp_le_f at_112 rfl (by decide) ?_
    refine C.aload at_115 rfl rfl rfl ?_
    refine C.aload at_117 rfl rfl rfl ?_
    refine C.iconst 1 at_119 rfl rfl ?_
    refine C.iaload (.int x1) at_120 rfl F677 (by decide) rfl ?_
    refine C.callV (argsL := [(.int x1)]) (rest := []) 0 (fun zz => con_add l Z a0 hw n0 h671 zz a642 a656 x1 1 ([.int x0, .int 0, .int 0, .int 0, .int 0, .int 0, .int 0, .int 0]) F678 F674 F682 F683 g648 g661 ne664 (by decide) (Nat.le_of_ble_eq_true rfl) (Nat.le_of_ble_eq_true rfl)) F678 at_121 rfl (tw hw 13 rfl) (tw hw 14 rfl) (tw hw 15 rfl) (tw hw 16 rfl) (tw hw 4 rfl) (tw hw 17 rfl) (by decide) pd_4 rfl rfl rfl (Nat.le_of_eq rfl) (by decide) (by decide) (by decide) (by decide) (fun v684 h685 r686 => ?_)
    obtain ⟨rfl, K687, F688, F689, F690⟩ := r686
    have F691 : Av Z h685 a189 .int ([.int x0, .int x1, .int x2, .int (x0 ^^^ x1), .int (x1 ^^^ x2), .int (x0 + x2), .int (x0 ^^^ (-1 : Int32)), .int (-x1), .int (x2 - x0)]) := F677.keep K687 (ninS ne649 (ninS ne663 nin0))
    have F692 : Exa Z h685 a642 "com/example/leaseledger/leaseledger/journal/IntColumn" := F678.keep K687
    have F696 : Fld Z h685 a642 "com/example/leaseledger/leaseledger/journal/IntColumn" "size" "I" (.int 2) := F689
    have F697 : Av Z h685 a656 .int ([.int x0, .int x1, .int 0, .int 0, .int 0, .int 0, .int 0, .int 0]) := F690
    refine C.iload at_124 rfl rfl ?_
    refine C.iconst 2 at_126 rfl rfl ?_
    refine C.icmp_le_f at_127 rfl (by decide) ?_
    refine C.aload at_130 rfl rfl rfl ?_
    refine C.aload at_132 rfl rfl rfl ?_
    refine C.iconst 2 at_134 rfl rfl ?_
    refine C.iaload (.int x2) at_135 rfl F691 (by decide) rfl ?_
    refine C.callV (argsL := [(.int x2)]) (rest := []) 0 (fun zz => con_add l Z a0 hw n0 h685 zz a642 a656 x2 2 ([.int x0, .int x1, .int 0, .int 0, .int 0, .int 0, .int 0, .int 0]) F692 F688 F696 F697 g648 g661 ne664 (by decide) (Nat.le_of_ble_eq_true rfl) (Nat.le_of_ble_eq_true rfl)) F692 at_136 rfl (tw hw 13 rfl) (tw hw 14 rfl) (tw hw 15 rfl) (tw hw 16 rfl) (tw hw 4 rfl) (tw hw 17 rfl) (by decide) pd_4 rfl rfl rfl (Nat.le_of_eq rfl) (by decide) (by decide) (by decide) (by decide) (fun v698 h699 r700 => ?_)
    obtain ⟨rfl, K701, F702, F703, F704⟩ := r700
    have F705 : Av Z h699 a189 .int ([.int x0, .int x1, .int x2, .int (x0 ^^^ x1), .int (x1 ^^^ x2), .int (x0 + x2), .int (x0 ^^^ (-1 : Int32)), .int (-x1), .int (x2 - x0)]) := F691.keep K701 (ninS ne649 (ninS ne663 nin0))
    have F706 : Exa Z h699 a642 "com/example/leaseledger/leaseledger/journal/IntColumn" := F692.keep K701
    have F710 : Fld Z h699 a642 "com/example/leaseledger/leaseledger/journal/IntColumn" "size" "I" (.int 3) := F703
    have F711 : Av Z h699 a656 .int ([.int x0, .int x1, .int x2, .int 0, .int 0, .int 0, .int 0, .int 0]) := F704
    refine C.iload at_139 rfl rfl ?_
    refine C.iconst 3 at_141 rfl rfl ?_
    refine C.icmp_le_f at_142 rfl (by decide) ?_
    refine C.aload at_145 rfl rfl rfl ?_
    refine C.aload at_147 rfl rfl rfl ?_
    refine C.iconst 3 at_149 rfl rfl ?_
    refine C.iaload (.int (x0 ^^^ x1)) at_150 rfl F705 (by decide) rfl ?_
    refine C.callV (argsL := [(.int (x0 ^^^ x1))]) (rest := []) 0 (fun zz => con_add l Z a0 hw n0 h699 zz a642 a656 (x0 ^^^ x1) 3 ([.int x0, .int x1, .int x2, .int 0, .int 0, .int 0, .int 0, .int 0]) F706 F702 F710 F711 g648 g661 ne664 (by decide) (Nat.le_of_ble_eq_true rfl) (Nat.le_of_ble_eq_true rfl)) F706 at_151 rfl (tw hw 13 rfl) (tw hw 14 rfl) (tw hw 15 rfl) (tw hw 16 rfl) (tw hw 4 rfl) (tw hw 17 rfl) (by decide) pd_4 rfl rfl rfl (Nat.le_of_eq rfl) (by decide) (by decide) (by decide) (by decide) (fun v712 h713 r714 => ?_)
    obtain ⟨rfl, K715, F716, F717, F718⟩ := r714
    have F719 : Av Z h713 a189 .int ([.int x0, .int x1, .int x2, .int (x0 ^^^ x1), .int (x1 ^^^ x2), .int (x0 + x2), .int (x0 ^^^ (-1 : Int32)), .int (-x1), .int (x2 - x0)]) := F705.keep K715 (ninS ne649 (ninS ne663 nin0))
    have F720 : Exa Z h713 a642 "com/example/leaseledger/leaseledger/journal/IntColumn" := F706.keep K715
    have F724 : Fld Z h713 a642 "com/example/leaseledger/leaseledger/journal/IntColumn" "size" "I" (.int 4) := F717
    have F725 : Av Z h713 a656 .int ([.int x0, .int x1, .int x2, .int (x0 ^^^ x1), .int 0, .int 0, .int 0, .int 0]) := F718
    refine C.iload at_154 rfl rfl ?_
    refine C.iconst 4 at_156 rfl rfl ?_
    refine C.icmp_le_f at_157 rfl (by decide) ?_
    refine C.aload at_160 rfl rfl rfl ?_
    refine C.aload at_162 rfl rfl rfl ?_
    refine C.iconst 4 at_164 rfl rfl ?_
    refine C.iaload (.int (x1 ^^^ x2)) at_165 rfl F719 (by decide) rfl ?_
    refine C.callV (argsL := [(.int (x1 ^^^ x2))]) (rest := []) 0 (fun zz => con_add l Z a0 hw n0 h713 zz a642 a656 (x1 ^^^ x2) 4 ([.int x0, .int x1, .int x2, .int (x0 ^^^ x1), .int 0, .int 0, .int 0, .int 0]) F720 F716 F724 F725 g648 g661 ne664 (by decide) (Nat.le_of_ble_eq_true rfl) (Nat.le_of_ble_eq_true rfl)) F720 at_166 rfl (tw hw 13 rfl) (tw hw 14 rfl) (tw hw 15 rfl) (tw hw 16 rfl) (tw hw 4 rfl) (tw hw 17 rfl) (by decide) pd_4 rfl rfl rfl (Nat.le_of_eq rfl) (by decide) (by decide) (by decide) (by decide) (fun v726 h727 r728 => ?_)
    obtain ⟨rfl, K729, F730, F731, F732⟩ := r728
    have F733 : Av Z h727 a189 .int ([.int x0, .int x1, .int x2, .int (x0 ^^^ x1), .int (x1 ^^^ x2), .int (x0 + x2), .int (x0 ^^^ (-1 : Int32)), .int (-x1), .int (x2 - x0)]) := F719.keep K729 (ninS ne649 (ninS ne663 nin0))
    have F734 : Exa Z h727 a642 "com/example/leaseledger/leaseledger/journal/IntColumn" := F720.keep K729
    have F738 : Fld Z h727 a642 "com/example/leaseledger/leaseledger/journal/IntColumn" "size" "I" (.int 5) := F731
    have F739 : Av Z h727 a656 .int ([.int x0, .int x1, .int x2, .int (x0 ^^^ x1), .int (x1 ^^^ x2), .int 0, .int 0, .int 0]) := F732
    refine C.iload at_169 rfl rfl ?_
    refine C.iconst 5 at_171 rfl rfl ?_
    refine C.icmp_le_f at_172 rfl (by decide) ?_
    refine C.aload at_175 rfl rfl rfl ?_
    refine C.aload at_177 rfl rfl rfl ?_
    refine C.iconst 5 at_179 rfl rfl ?_
    refine C.iaload (.int (x0 + x2)) at_180 rfl F733 (by decide) rfl ?_
    refine C.callV (argsL := [(.int (x0 + x2))]) (rest := []) 0 (fun zz => con_add l Z a0 hw n0 h727 zz a642 a656 (x0 + x2) 5 ([.int x0, .int x1, .int x2, .int (x0 ^^^ x1), .int (x1 ^^^ x2), .int 0, .int 0, .int 0]) F734 F730 F738 F739 g648 g661 ne664 (by decide) (Nat.le_of_ble_eq_true rfl) (Nat.le_of_ble_eq_true rfl)) F734 at_181 rfl (tw hw 13 rfl) (tw hw 14 rfl) (tw hw 15 rfl) (tw hw 16 rfl) (tw hw 4 rfl) (tw hw 17 rfl) (by decide) pd_4 rfl rfl rfl (Nat.le_of_eq rfl) (by decide) (by decide) (by decide) (by decide) (fun v740 h741 r742 => ?_)
    obtain ⟨rfl, K743, F744, F745, F746⟩ := r742
    have F747 : Av Z h741 a189 .int ([.int x0, .int x1, .int x2, .int (x0 ^^^ x1), .int (x1 ^^^ x2), .int (x0 + x2), .int (x0 ^^^ (-1 : Int32)), .int (-x1), .int (x2 - x0)]) := F733.keep K743 (ninS ne649 (ninS ne663 nin0))
    have F748 : Exa Z h741 a642 "com/example/leaseledger/leaseledger/journal/IntColumn" := F734.keep K743
    have F752 : Fld Z h741 a642 "com/example/leaseledger/leaseledger/journal/IntColumn" "size" "I" (.int 6) := F745
    have F753 : Av Z h741 a656 .int ([.int x0, .int x1, .int x2, .int (x0 ^^^ x1), .int (x1 ^^^ x2), .int (x0 + x2), .int 0, .int 0]) := F746
    refine C.iload at_184 rfl rfl ?_
    refine C.bipush 6 at_186 rfl rfl ?_
    refine C.icmp_le_t at_188 (by decide) rfl (by decide) ?_
    refine C.iload at_201 rfl rfl ?_
    refine C.bipush 7 at_203 rfl rfl ?_
    refine C.icmp_le_t at_205 (by decide) rfl (by decide) ?_
    refine C.iload at_218 rfl rfl ?_
    refine C.bipush 8 at_220 rfl rfl ?_
    refine C.icmp_le_t at_222 (by decide) rfl (by decide) ?_
    rcases own_mod6 x4 with qr | qr | qr | qr | qr | qr
    · rw [qr]
      refine C.aload at_235 rfl rfl rfl ?_
      refine C.iload at_237 rfl rfl ?_
      refine C.callV (argsL := [(.int 0)]) (rest := []) 0 (fun zz => con_get l Z a0 hw n0 h741 zz a642 a656 0 x0 6 ([.int x0, .int x1, .int x2, .int (x0 ^^^ x1), .int (x1 ^^^ x2), .int (x0 + x2), .int 0, .int 0]) F744 F752 F753 (by decide) (by decide) rfl) F748 at_239 rfl (tw hw 20 rfl) (tw hw 21 rfl) (tw hw 22 rfl) (tw hw 23 rfl) (tw hw 4 rfl) (tw hw 24 rfl) (by decide) pd_5 rfl rfl rfl (Nat.le_of_eq rfl) (by decide) (by decide) (by decide) (by decide) (fun v754 h755 r756 => ?_)
      obtain ⟨rfl, rfl⟩ := r756
      refine C.aload at_242 rfl rfl rfl ?_
      refine C.iload at_244 rfl rfl ?_
      refine C.iaload (.int x0) at_246 rfl F747 (by decide) rfl ?_
      refine C.icmp_ne_f at_247 rfl rfl ?_
      refine C.iconst 1 at_250 rfl rfl ?_
      refine C.goto at_251 (by decide) rfl ?_
      exact C.retZ at_255 rfl (by decide) (by decide) ⟨rfl, trivial⟩
    · rw [qr]
      refine C.aload at_235 rfl rfl rfl ?_
      refine C.iload at_237 rfl rfl ?_
      refine C.callV (argsL := [(.int 1)]) (rest := []) 0 (fun zz => con_get l Z a0 hw n0 h741 zz a642 a656 1 x1 6 ([.int x0, .int x1, .int x2, .int (x0 ^^^ x1), .int (x1 ^^^ x2), .int (x0 + x2), .int 0, .int 0]) F744 F752 F753 (by decide) (by decide) rfl) F748 at_239 rfl (tw hw 20 rfl) (tw hw 21 rfl) (tw hw 22 rfl) (tw hw 23 rfl) (tw hw 4 rfl) (tw hw 24 rfl) (by decide) pd_5 rfl rfl rfl (Nat.le_of_eq rfl) (by decide) (by decide) (by decide) (by decide) (fun v758 h759 r760 => ?_)
      obtain ⟨rfl, rfl⟩ := r760
      refine C.aload at_242 rfl rfl rfl ?_
      refine C.iload at_244 rfl rfl ?_
      refine C.iaload (.int x1) at_246 rfl F747 (by decide) rfl ?_
      refine C.icmp_ne_f at_247 rfl rfl ?_
      refine C.iconst 1 at_250 rfl rfl ?_
      refine C.goto at_251 (by decide) rfl ?_
      exact C.retZ at_255 rfl (by decide) (by decide) ⟨rfl, trivial⟩
    · rw [qr]
      refine C.aload at_235 rfl rfl rfl ?_
      refine C.iload at_237 rfl rfl ?_
      refine C.callV (argsL := [(.int 2)]) (rest := []) 0 (fun zz => con_get l Z a0 hw n0 h741 zz a642 a656 2 x2 6 ([.int x0, .int x1, .int x2, .int (x0 ^^^ x1), .int (x1 ^^^ x2), .int (x0 + x2), .int 0, .int 0]) F744 F752 F753 (by decide) (by decide) rfl) F748 at_239 rfl (tw hw 20 rfl) (tw hw 21 rfl) (tw hw 22 rfl) (tw hw 23 rfl) (tw hw 4 rfl) (tw hw 24 rfl) (by decide) pd_5 rfl rfl rfl (Nat.le_of_eq rfl) (by decide) (by decide) (by decide) (by decide) (fun v762 h763 r764 => ?_)
      obtain ⟨rfl, rfl⟩ := r764
      refine C.aload at_242 rfl rfl rfl ?_
      refine C.iload at_244 rfl rfl ?_
      refine C.iaload (.int x2) at_246 rfl F747 (by decide) rfl ?_
      refine C.icmp_ne_f at_247 rfl rfl ?_
      refine C.iconst 1 at_250 rfl rfl ?_
      refine C.goto at_251 (by decide) rfl ?_
      exact C.retZ at_255 rfl (by decide) (by decide) ⟨rfl, trivial⟩
    · rw [qr]
      refine C.aload at_235 rfl rfl rfl ?_
      refine C.iload at_237 rfl rfl ?_
      refine C.callV (argsL := [(.int 3)]) (rest := []) 0 (fun zz => con_get l Z a0 hw n0 h741 zz a642 a656 3 (x0 ^^^ x1) 6 ([.int x0, .int x1, .int x2, .int (x0 ^^^ x1), .int (x1 ^^^ x2), .int (x0 + x2), .int 0, .int 0]) F744 F752 F753 (by decide) (by decide) rfl) F748 at_239 rfl (tw hw 20 rfl) (tw hw 21 rfl) (tw hw 22 rfl) (tw hw 23 rfl) (tw hw 4 rfl) (tw hw 24 rfl) (by decide) pd_5 rfl rfl rfl (Nat.le_of_eq rfl) (by decide) (by decide) (by decide) (by decide) (fun v766 h767 r768 => ?_)
      obtain ⟨rfl, rfl⟩ := r768
      refine C.aload at_242 rfl rfl rfl ?_
      refine C.iload at_244 rfl rfl ?_
      refine C.iaload (.int (x0 ^^^ x1)) at_246 rfl F747 (by decide) rfl ?_
      refine C.icmp_ne_f at_247 rfl rfl ?_
      refine C.iconst 1 at_250 rfl rfl ?_
      refine C.goto at_251 (by decide) rfl ?_
      exact C.retZ at_255 rfl (by decide) (by decide) ⟨rfl, trivial⟩
    · rw [qr]
      refine C.aload at_235 rfl rfl rfl ?_
      refine C.iload at_237 rfl rfl ?_
      refine C.callV (argsL := [(.int 4)]) (rest := []) 0 (fun zz => con_get l Z a0 hw n0 h741 zz a642 a656 4 (x1 ^^^ x2) 6 ([.int x0, .int x1, .int x2, .int (x0 ^^^ x1), .int (x1 ^^^ x2), .int (x0 + x2), .int 0, .int 0]) F744 F752 F753 (by decide) (by decide) rfl) F748 at_239 rfl (tw hw 20 rfl) (tw hw 21 rfl) (tw hw 22 rfl) (tw hw 23 rfl) (tw hw 4 rfl) (tw hw 24 rfl) (by decide) pd_5 rfl rfl rfl (Nat.le_of_eq rfl) (by decide) (by decide) (by decide) (by decide) (fun v770 h771 r772 => ?_)
      obtain ⟨rfl, rfl⟩ := r772
      refine C.aload at_242 rfl rfl rfl ?_
      refine C.iload at_244 rfl rfl ?_
      refine C.iaload (.int (x1 ^^^ x2)) at_246 rfl F747 (by decide) rfl ?_
      refine C.icmp_ne_f at_247 rfl rfl ?_
      refine C.iconst 1 at_250 rfl rfl ?_
      refine C.goto at_251 (by decide) rfl ?_
      exact C.retZ at_255 rfl (by decide) (by decide) ⟨rfl, trivial⟩
    · rw [qr]
      refine C.aload at_235 rfl rfl rfl ?_
      refine C.iload at_237 rfl rfl ?_
      refine C.callV (argsL := [(.int 5)]) (rest := []) 0 (fun zz => con_get l Z a0 hw n0 h741 zz a642 a656 5 (x0 + x2) 6 ([.int x0, .int x1, .int x2, .int (x0 ^^^ x1), .int (x1 ^^^ x2), .int (x0 + x2), .int 0, .int 0]) F744 F752 F753 (by decide) (by decide) rfl) F748 at_239 rfl (tw hw 20 rfl) (tw hw 21 rfl) (tw hw 22 rfl) (tw hw 23 rfl) (tw hw 4 rfl) (tw hw 24 rfl) (by decide) pd_5 rfl rfl rfl (Nat.le_of_eq rfl) (by decide) (by decide) (by decide) (by decide) (fun v774 h775 r776 => ?_)
      obtain ⟨rfl, rfl⟩ := r776
      refine C.aload at_242 rfl rfl rfl ?_
      refine C.iload at_244 rfl rfl ?_
      refine C.iaload (.int (x0 + x2)) at_246 rfl F747 (by decide) rfl ?_
      refine C.icmp_ne_f at_247 rfl rfl ?_
      refine C.iconst 1 at_250 rfl rfl ?_
      refine C.goto at_251 (by decide) rfl ?_
      exact C.retZ at_255 rfl (by decide) (by decide) ⟨rfl, trivial⟩
  · rw [qc]
    show Go p l e room_1 s m #[(.int x0), (.int x1), (.int x2), (.int x3), (.int x4)] below meth c n0 (FinQ s n0 (Qcon0 Z n0 h0 x0 x1 x2 x3 x4) room_1.cells room_1.slots) h228 1 9 76 #[.val (.int x0), .val (.int x1), .val (.int x2), .val (.int x3), .val (.int x4), .val (.ref a189), .val (.int 7), .unset, .unset] []
    refine C.iload at_76 rfl rfl ?_
    refine C.ldcI at_78 rfl (tw hw 1 rfl) ?_
    refine C.iand at_80 rfl ?_
    refine C.iload at_81 rfl rfl ?_
    refine C.irem at_83 rfl (by decide) ?_
    refine C.istore (Ls' := #[.val (.int x0), .val (.int x1), .val (.int x2), .val (.int x3), .val (.int x4), .val (.ref a189), .val (.int 7), .val (.int ((x4 &&& 2147483647) % 7)), .unset]) at_84 rfl rfl ?_
    refine C.new at_86 rfl (tw hw 2 rfl) (tw hw 3 rfl) (tw hw 4 rfl) (by decide) (by decide) (fun a778 h779 z783 g784 X781 E780 D782 => ?_)
    have ne785 : a189 ≠ a778 := by rw [z783]; exact Nat.ne_of_lt F231.lt
    have F786 : Av Z h779 a189 .int ([.int x0, .int x1, .int x2, .int (x0 ^^^ x1), .int (x1 ^^^ x2), .int (x0 + x2), .int (x0 ^^^ (-1 : Int32)), .int (-x1), .int (x2 - x0)]) := F231.ext X781
    have F787 : Fld Z h779 a778 "com/example/leaseledger/leaseledger/journal/IntColumn" "values" "[I" (.null) := D782 (Or.inl (tw hw 12 rfl)) (ty := (.array .int)) (by decide)
    have F788 : Fld Z h779 a778 "com/example/leaseledger/leaseledger/journal/IntColumn" "size" "I" (.int 0) := D782 (Or.inl (tw hw 19 rfl)) (ty := .int) (by decide)
    refine C.dup at_89 rfl rfl ?_
    refine C.callN (argsL := []) (rest := [(.ref a778)]) 1 (fun zz => con_ini l Z a0 hw n0 h779 zz a778 E780 F787 F788 g784) at_90 rfl rfl (tw hw 5 rfl) (tw hw 6 rfl) (tw hw 4 rfl) (tw hw 7 rfl) (by decide) pd_3 rfl rfl rfl (Nat.le_of_eq rfl) (by decide) (by decide) (by decide) (by decide) (fun v789 h790 r791 => ?_)
    obtain ⟨a792, rfl, K793, g797, gz798, F794, F795, F796⟩ := r791
    have ne799 : a189 ≠ a792 := Nat.ne_of_lt (Nat.lt_of_lt_of_le F786.lt gz798)
    have ne800 : a778 ≠ a792 := Nat.ne_of_lt (Nat.lt_of_lt_of_le E780.lt gz798)
    have F801 : Av Z h790 a189 .int ([.int x0, .int x1, .int x2, .int (x0 ^^^ x1), .int (x1 ^^^ x2), .int (x0 + x2), .int (x0 ^^^ (-1 : Int32)), .int (-x1), .int (x2 - x0)]) := F786.keep K793 (ninS ne785 nin0)
    have F802 : Exa Z h790 a778 "com/example/leaseledger/leaseledger/journal/IntColumn" := E780.keep K793
    have F805 : Av Z h790 a792 .int ([.int 0, .int 0, .int 0, .int 0, .int 0, .int 0, .int 0, .int 0]) := F796
    refine C.astore (Ls' := #[.val (.int x0), .val (.int x1), .val (.int x2), .val (.int x3), .val (.int x4), .val (.ref a189), .val (.int 7), .val (.int ((x4 &&& 2147483647) % 7)), .val (.ref a778)]) at_93 rfl rfl rfl ?_
    refine C.iload at_95 rfl rfl ?_
    refine C.if_le_f at_97 rfl (by decide) ?_
    refine C.aload at_100 rfl rfl rfl ?_
    refine C.aload at_102 rfl rfl rfl ?_
    refine C.iconst 0 at_104 rfl rfl ?_
    refine C.iaload (.int x0) at_105 rfl F801 (by decide) rfl ?_
    refine C.callV (argsL := [(.int x0)]) (rest := []) 0 (fun zz => con_add l Z a0 hw n0 h790 zz a778 a792 x0 0 ([.int 0, .int 0, .int 0, .int 0, .int 0, .int 0, .int 0, .int 0]) F802 F794 F795 F805 g784 g797 ne800 (by decide) (Nat.le_of_ble_eq_true rfl) (Nat.le_of_ble_eq_true rfl)) F802 at_106 rfl (tw hw 13 rfl) (tw hw 14 rfl) (tw hw 15 rfl) (tw hw 16 rfl) (tw hw 4 rfl) (tw hw 17 rfl) (by decide) pd_4 rfl rfl rfl (Nat.le_of_eq rfl) (by decide) (by decide) (by decide) (by decide) (fun v806 h807 r808 => ?_)
    obtain ⟨rfl, K809, F810, F811, F812⟩ := r808
    have F813 : Av Z h807 a189 .int ([.int x0, .int x1, .int x2, .int (x0 ^^^ x1), .int (x1 ^^^ x2), .int (x0 + x2), .int (x0 ^^^ (-1 : Int32)), .int (-x1), .int (x2 - x0)]) := F801.keep K809 (ninS ne785 (ninS ne799 nin0))
    have F814 : Exa Z h807 a778 "com/example/leaseledger/leaseledger/journal/IntColumn" := F802.keep K809
    have F818 : Fld Z h807 a778 "com/example/leaseledger/leaseledger/journal/IntColumn" "size" "I" (.int 1) := F811
    have F819 : Av Z h807 a792 .int ([.int x0, .int 0, .int 0, .int 0, .int 0, .int 0, .int 0, .int 0]) := F812
    refine C.iload at_109 rfl rfl ?_
    refine C.iconst 1 at_111 rfl rfl ?_
    refine C.icmp_le_f at_112 rfl (by decide) ?_
    refine C.aload at_115 rfl rfl rfl ?_
    refine C.aload at_117 rfl rfl rfl ?_
    refine C.iconst 1 at_119 rfl rfl ?_
    refine C.iaload (.int x1) at_120 rfl F813 (by decide) rfl ?_
    refine C.callV (argsL := [(.int x1)]) (rest := []) 0 (fun zz => con_add l Z a0 hw n0 h807 zz a778 a792 x1 1 ([.int x0, .int 0, .int 0, .int 0, .int 0, .int 0, .int 0, .int 0]) F814 F810 F818 F819 g784 g797 ne800 (by decide) (Nat.le_of_ble_eq_true rfl) (Nat.le_of_ble_eq_true rfl)) F814 at_121 rfl (tw hw 13 rfl) (tw hw 14 rfl) (tw hw 15 rfl) (tw hw 16 rfl) (tw hw 4 rfl) (tw hw 17 rfl) (by decide) pd_4 rfl rfl rfl (Nat.le_of_eq rfl) (by decide) (by decide) (by decide) (by decide) (fun v820 h821 r822 => ?_)
    obtain ⟨rfl, K823, F824, F825, F826⟩ := r822
    have F827 : Av Z h821 a189 .int ([.int x0, .int x1, .int x2, .int (x0 ^^^ x1), .int (x1 ^^^ x2), .int (x0 + x2), .int (x0 ^^^ (-1 : Int32)), .int (-x1), .int (x2 - x0)]) := F813.keep K823 (ninS ne785 (ninS ne799 nin0))
    have F828 : Exa Z h821 a778 "com/example/leaseledger/leaseledger/journal/IntColumn" := F814.keep K823
    have F832 : Fld Z h821 a778 "com/example/leaseledger/leaseledger/journal/IntColumn" "size" "I" (.int 2) := F825
    have F833 : Av Z h821 a792 .int ([.int x0, .int x1, .int 0, .int 0, .int 0, .int 0, .int 0, .int 0]) := F826
    refine C.iload at_124 rfl rfl ?_
    refine C.iconst 2 at_126 rfl rfl ?_
    refine C.icmp_le_f at_127 rfl (by decide) ?_
    refine C.aload at_130 rfl rfl rfl ?_
    refine C.aload at_132 rfl rfl rfl ?_
    refine C.iconst 2 at_134 rfl rfl ?_
    refine C.iaload (.int x2) at_135 rfl F827 (by decide) rfl ?_
    refine C.callV (argsL := [(.int x2)]) (rest := []) 0 (fun zz => con_add l Z a0 hw n0 h821 zz a778 a792 x2 2 ([.int x0, .int x1, .int 0, .int 0, .int 0, .int 0, .int 0, .int 0]) F828 F824 F832 F833 g784 g797 ne800 (by decide) (Nat.le_of_ble_eq_true rfl) (Nat.le_of_ble_eq_true rfl)) F828 at_136 rfl (tw hw 13 rfl) (tw hw 14 rfl) (tw hw 15 rfl) (tw hw 16 rfl) (tw hw 4 rfl) (tw hw 17 rfl) (by decide) pd_4 rfl rfl rfl (Nat.le_of_eq rfl) (by decide) (by decide) (by decide) (by decide) (fun v834 h835 r836 => ?_)
    obtain ⟨rfl, K837, F838, F839, F840⟩ := r836
    have F841 : Av Z h835 a189 .int ([.int x0, .int x1, .int x2, .int (x0 ^^^ x1), .int (x1 ^^^ x2), .int (x0 + x2), .int (x0 ^^^ (-1 : Int32)), .int (-x1), .int (x2 - x0)]) := F827.keep K837 (ninS ne785 (ninS ne799 nin0))
    have F842 : Exa Z h835 a778 "com/example/leaseledger/leaseledger/journal/IntColumn" := F828.keep K837
    have F846 : Fld Z h835 a778 "com/example/leaseledger/leaseledger/journal/IntColumn" "size" "I" (.int 3) := F839
    have F847 : Av Z h835 a792 .int ([.int x0, .int x1, .int x2, .int 0, .int 0, .int 0, .int 0, .int 0]) := F840
    refine C.iload at_139 rfl rfl ?_
    refine C.iconst 3 at_141 rfl rfl ?_
    refine C.icmp_le_f at_142 rfl (by decide) ?_
    refine C.aload at_145 rfl rfl rfl ?_
    refine C.aload at_147 rfl rfl rfl ?_
    refine C.iconst 3 at_149 rfl rfl ?_
    refine C.iaload (.int (x0 ^^^ x1)) at_150 rfl F841 (by decide) rfl ?_
    refine C.callV (argsL := [(.int (x0 ^^^ x1))]) (rest := []) 0 (fun zz => con_add l Z a0 hw n0 h835 zz a778 a792 (x0 ^^^ x1) 3 ([.int x0, .int x1, .int x2, .int 0, .int 0, .int 0, .int 0, .int 0]) F842 F838 F846 F847 g784 g797 ne800 (by decide) (Nat.le_of_ble_eq_true rfl) (Nat.le_of_ble_eq_true rfl)) F842 at_151 rfl (tw hw 13 rfl) (tw hw 14 rfl) (tw hw 15 rfl) (tw hw 16 rfl) (tw hw 4 rfl) (tw hw 17 rfl) (by decide) pd_4 rfl rfl rfl (Nat.le_of_eq rfl) (by decide) (by decide) (by decide) (by decide) (fun v848 h849 r850 => ?_)
    obtain ⟨rfl, K851, F852, F853, F854⟩ := r850
    have F855 : Av Z h849 a189 .int ([.int x0, .int x1, .int x2, .int (x0 ^^^ x1), .int (x1 ^^^ x2), .int (x0 + x2), .int (x0 ^^^ (-1 : Int32)), .int (-x1), .int (x2 - x0)]) := F841.keep K851 (ninS ne785 (ninS ne799 nin0))
    have F856 : Exa Z h849 a778 "com/example/leaseledger/leaseledger/journal/IntColumn" := F842.keep K851
    have F860 : Fld Z h849 a778 "com/example/leaseledger/leaseledger/journal/IntColumn" "size" "I" (.int 4) := F853
    have F861 : Av Z h849 a792 .int ([.int x0, .int x1, .int x2, .int (x0 ^^^ x1), .int 0, .int 0, .int 0, .int 0]) := F854
    refine C.iload at_154 rfl rfl ?_
    refine C.iconst 4 at_156 rfl rfl ?_
    refine C.icmp_le_f at_157 rfl (by decide) ?_
    refine C.aload at_160 rfl rfl rfl ?_
    refine C.aload at_162 rfl rfl rfl ?_
    refine C.iconst 4 at_164 rfl rfl ?_
    refine C.iaload (.int (x1 ^^^ x2)) at_165 rfl F855 (by decide) rfl ?_
    refine C.callV (argsL := [(.int (x1 ^^^ x2))]) (rest := []) 0 (fun zz => con_add l Z a0 hw n0 h849 zz a778 a792 (x1 ^^^ x2) 4 ([.int x0, .int x1, .int x2, .int (x0 ^^^ x1), .int 0, .int 0, .int 0, .int 0]) F856 F852 F860 F861 g784 g797 ne800 (by decide) (Nat.le_of_ble_eq_true rfl) (Nat.le_of_ble_eq_true rfl)) F856 at_166 rfl (tw hw 13 rfl) (tw hw 14 rfl) (tw hw 15 rfl) (tw hw 16 rfl) (tw hw 4 rfl) (tw hw 17 rfl) (by decide) pd_4 rfl rfl rfl (Nat.le_of_eq rfl) (by decide) (by decide) (by decide) (by decide) (fun v862 h863 r864 => ?_)
    obtain ⟨rfl, K865, F866, F867, F868⟩ := r864
    have F869 : Av Z h863 a189 .int ([.int x0, .int x1, .int x2, .int (x0 ^^^ x1), .int (x1 ^^^ x2), .int (x0 + x2), .int (x0 ^^^ (-1 : Int32)), .int (-x1), .int (x2 - x0)]) := F855.keep K865 (ninS ne785 (ninS ne799 nin0))
    have F870 : Exa Z h863 a778 "com/example/leaseledger/leaseledger/journal/IntColumn" := F856.keep K865
    have F874 : Fld Z h863 a778 "com/example/leaseledger/leaseledger/journal/IntColumn" "size" "I" (.int 5) := F867
    have F875 : Av Z h863 a792 .int ([.int x0, .int x1, .int x2, .int (x0 ^^^ x1), .int (x1 ^^^ x2), .int 0, .int 0, .int 0]) := F868
    refine C.iload at_169 rfl rfl ?_
    refine C.iconst 5 at_171 rfl rfl ?_
    refine C.icmp_le_f at_172 rfl (by decide) ?_
    refine C.aload at_175 rfl rfl rfl ?_
    refine C.aload at_177 rfl rfl rfl ?_
    refine C.iconst 5 at_179 rfl rfl ?_
    refine C.iaload (.int (x0 + x2)) at_180 rfl F869 (by decide) rfl ?_
    refine C.callV (argsL := [(.int (x0 + x2))]) (rest := []) 0 (fun zz => con_add l Z a0 hw n0 h863 zz a778 a792 (x0 + x2) 5 ([.int x0, .int x1, .int x2, .int (x0 ^^^ x1), .int (x1 ^^^ x2), .int 0, .int 0, .int 0]) F870 F866 F874 F875 g784 g797 ne800 (by decide) (Nat.le_of_ble_eq_true rfl) (Nat.le_of_ble_eq_true rfl)) F870 at_181 rfl (tw hw 13 rfl) (tw hw 14 rfl) (tw hw 15 rfl) (tw hw 16 rfl) (tw hw 4 rfl) (tw hw 17 rfl) (by decide) pd_4 rfl rfl rfl (Nat.le_of_eq rfl) (by decide) (by decide) (by decide) (by decide) (fun v876 h877 r878 => ?_)
    obtain ⟨rfl, K879, F880, F881, F882⟩ := r878
    have F883 : Av Z h877 a189 .int ([.int x0, .int x1, .int x2, .int (x0 ^^^ x1), .int (x1 ^^^ x2), .int (x0 + x2), .int (x0 ^^^ (-1 : Int32)), .int (-x1), .int (x2 - x0)]) := F869.keep K879 (ninS ne785 (ninS ne799 nin0))
    have F884 : Exa Z h877 a778 "com/example/leaseledger/leaseledger/journal/IntColumn" := F870.keep K879
    have F888 : Fld Z h877 a778 "com/example/leaseledger/leaseledger/journal/IntColumn" "size" "I" (.int 6) := F881
    have F889 : Av Z h877 a792 .int ([.int x0, .int x1, .int x2, .int (x0 ^^^ x1), .int (x1 ^^^ x2), .int (x0 + x2), .int 0, .int 0]) := F882
    refine C.iload at_184 rfl rfl ?_
    refine C.bipush 6 at_186 rfl rfl ?_
    refine C.icmp_le_f at_188 rfl (by decide) ?_
    refine C.aload at_191 rfl rfl rfl ?_
    refine C.aload at_193 rfl rfl rfl ?_
    refine C.bipush 6 at_195 rfl rfl ?_
    refine C.iaload (.int (x0 ^^^ (-1 : Int32))) at_197 rfl F883 (by decide) rfl ?_
    refine C.callV (argsL := [(.int (x0 ^^^ (-1 : Int32)))]) (rest := []) 0 (fun zz => con_add l Z a0 hw n0 h877 zz a778 a792 (x0 ^^^ (-1 : Int32)) 6 ([.int x0, .int x1, .int x2, .int (x0 ^^^ x1), .int (x1 ^^^ x2), .int (x0 + x2), .int 0, .int 0]) F884 F880 F888 F889 g784 g797 ne800 (by decide) (Nat.le_of_ble_eq_true rfl) (Nat.le_of_ble_eq_true rfl)) F884 at_198 rfl (tw hw 13 rfl) (tw hw 14 rfl) (tw hw 15 rfl) (tw hw 16 rfl) (tw hw 4 rfl) (tw hw 17 rfl) (by decide) pd_4 rfl rfl rfl (Nat.le_of_eq rfl) (by decide) (by decide) (by decide) (by decide) (fun v890 h891 r892 => ?_)
    obtain ⟨rfl, K893, F894, F895, F896⟩ := r892
    have F897 : Av Z h891 a189 .int ([.int x0, .int x1, .int x2, .int (x0 ^^^ x1), .int (x1 ^^^ x2), .int (x0 + x2), .int (x0 ^^^ (-1 : Int32)), .int (-x1), .int (x2 - x0)]) := F883.keep K893 (ninS ne785 (ninS ne799 nin0))
    have F898 : Exa Z h891 a778 "com/example/leaseledger/leaseledger/journal/IntColumn" := F884.keep K893
    have F902 : Fld Z h891 a778 "com/example/leaseledger/leaseledger/journal/IntColumn" "size" "I" (.int 7) := F895
    have F903 : Av Z h891 a792 .int ([.int x0, .int x1, .int x2, .int (x0 ^^^ x1), .int (x1 ^^^ x2), .int (x0 + x2), .int (x0 ^^^ (-1 : Int32)), .int 0]) := F896
    refine C.iload at_201 rfl rfl ?_
    refine C.bipush 7 at_203 rfl rfl ?_
    refine C.icmp_le_t at_205 (by decide) rfl (by decide) ?_
    refine C.iload at_218 rfl rfl ?_
    refine C.bipush 8 at_220 rfl rfl ?_
    refine C.icmp_le_t at_222 (by decide) rfl (by decide) ?_
    rcases own_mod7 x4 with qr | qr | qr | qr | qr | qr | qr
    · rw [qr]
      refine C.aload at_235 rfl rfl rfl ?_
      refine C.iload at_237 rfl rfl ?_
      refine C.callV (argsL := [(.int 0)]) (rest := []) 0 (fun zz => con_get l Z a0 hw n0 h891 zz a778 a792 0 x0 7 ([.int x0, .int x1, .int x2, .int (x0 ^^^ x1), .int (x1 ^^^ x2), .int (x0 + x2), .int (x0 ^^^ (-1 : Int32)), .int 0]) F894 F902 F903 (by decide) (by decide) rfl) F898 at_239 rfl (tw hw 20 rfl) (tw hw 21 rfl) (tw hw 22 rfl) (tw hw 23 rfl) (tw hw 4 rfl) (tw hw 24 rfl) (by decide) pd_5 rfl rfl rfl (Nat.le_of_eq rfl) (by decide) (by decide) (by decide) (by decide) (fun v904 h905 r906 => ?_)
      obtain ⟨rfl, rfl⟩ := r906
      refine C.aload at_242 rfl rfl rfl ?_
      refine C.iload at_244 rfl rfl ?_
      refine C.iaload (.int x0) at_246 rfl F897 (by decide) rfl ?_
      refine C.icmp_ne_f at_247 rfl rfl ?_
      refine C.iconst 1 at_250 rfl rfl ?_
      refine C.goto at_251 (by decide) rfl ?_
      exact C.retZ at_255 rfl (by decide) (by decide) ⟨rfl, trivial⟩
    · rw [qr]
      refine C.aload at_235 rfl rfl rfl ?_
      refine C.iload at_237 rfl rfl ?_
      refine C.callV (argsL := [(.int 1)]) (rest := []) 0 (fun zz => con_get l Z a0 hw n0 h891 zz a778 a792 1 x1 7 ([.int x0, .int x1, .int x2, .int (x0 ^^^ x1), .int (x1 ^^^ x2), .int (x0 + x2), .int (x0 ^^^ (-1 : Int32)), .int 0]) F894 F902 F903 (by decide) (by decide) rfl) F898 at_239 rfl (tw hw 20 rfl) (tw hw 21 rfl) (tw hw 22 rfl) (tw hw 23 rfl) (tw hw 4 rfl) (tw hw 24 rfl) (by decide) pd_5 rfl rfl rfl (Nat.le_of_eq rfl) (by decide) (by decide) (by decide) (by decide) (fun v908 h909 r910 => ?_)
      obtain ⟨rfl, rfl⟩ := r910
      refine C.aload at_242 rfl rfl rfl ?_
      refine C.iload at_244 rfl rfl ?_
      refine C.iaload (.int x1) at_246 rfl F897 (by decide) rfl ?_
      refine C.icmp_ne_f at_247 rfl rfl ?_
      refine C.iconst 1 at_250 rfl rfl ?_
      refine C.goto at_251 (by decide) rfl ?_
      exact C.retZ at_255 rfl (by decide) (by decide) ⟨rfl, trivial⟩
    · rw [qr]
      refine C.aload at_235 rfl rfl rfl ?_
      refine C.iload at_237 rfl rfl ?_
      refine C.callV (argsL := [(.int 2)]) (rest := []) 0 (fun zz => con_get l Z a0 hw n0 h891 zz a778 a792 2 x2 7 ([.int x0, .int x1, .int x2, .int (x0 ^^^ x1), .int (x1 ^^^ x2), .int (x0 + x2), .int (x0 ^^^ (-1 : Int32)), .int 0]) F894 F902 F903 (by decide) (by decide) rfl) F898 at_239 rfl (tw hw 20 rfl) (tw hw 21 rfl) (tw hw 22 rfl) (tw hw 23 rfl) (tw hw 4 rfl) (tw hw 24 rfl) (by decide) pd_5 rfl rfl rfl (Nat.le_of_eq rfl) (by decide) (by decide) (by decide) (by decide) (fun v912 h913 r914 => ?_)
      obtain ⟨rfl, rfl⟩ := r914
      refine C.aload at_242 rfl rfl rfl ?_
      refine C.iload at_244 rfl rfl ?_
      refine C.iaload (.int x2) at_246 rfl F897 (by decide) rfl ?_
      refine C.icmp_ne_f at_247 rfl rfl ?_
      refine C.iconst 1 at_250 rfl rfl ?_
      refine C.goto at_251 (by decide) rfl ?_
      exact C.retZ at_255 rfl (by decide) (by decide) ⟨rfl, trivial⟩
    · rw [qr]
      refine C.aload at_235 rfl rfl rfl ?_
      refine C.iload at_237 rfl rfl ?_
      refine C.callV (argsL := [(.int 3)]) (rest := []) 0 (fun zz => con_get l Z a0 hw n0 h891 zz a778 a792 3 (x0 ^^^ x1) 7 ([.int x0, .int x1, .int x2, .int (x0 ^^^ x1), .int (x1 ^^^ x2), .int (x0 + x2), .int (x0 ^^^ (-1 : Int32)), .int 0]) F894 F902 F903 (by decide) (by decide) rfl) F898 at_239 rfl (tw hw 20 rfl) (tw hw 21 rfl) (tw hw 22 rfl) (tw hw 23 rfl) (tw hw 4 rfl) (tw hw 24 rfl) (by decide) pd_5 rfl rfl rfl (Nat.le_of_eq rfl) (by decide) (by decide) (by decide) (by decide) (fun v916 h917 r918 => ?_)
      obtain ⟨rfl, rfl⟩ := r918
      refine C.aload at_242 rfl rfl rfl ?_
      refine C.iload at_244 rfl rfl ?_
      refine C.iaload (.int (x0 ^^^ x1)) at_246 rfl F897 (by decide) rfl ?_
      refine C.icmp_ne_f at_247 rfl rfl ?_
      refine C.iconst 1 at_250 rfl rfl ?_
      refine C.goto at_251 (by decide) rfl ?_
      exact C.retZ at_255 rfl (by decide) (by decide) ⟨rfl, trivial⟩
    · rw [qr]
      refine C.aload at_235 rfl rfl rfl ?_
      refine C.iload at_237 rfl rfl ?_
      refine C.callV (argsL := [(.int 4)]) (rest := []) 0 (fun zz => con_get l Z a0 hw n0 h891 zz a778 a792 4 (x1 ^^^ x2) 7 ([.int x0, .int x1, .int x2, .int (x0 ^^^ x1), .int (x1 ^^^ x2), .int (x0 + x2), .int (x0 ^^^ (-1 : Int32)), .int 0]) F894 F902 F903 (by decide) (by decide) rfl) F898 at_239 rfl (tw hw 20 rfl) (tw hw 21 rfl) (tw hw 22 rfl) (tw hw 23 rfl) (tw hw 4 rfl) (tw hw 24 rfl) (by decide) pd_5 rfl rfl rfl (Nat.le_of_eq rfl) (by decide) (by decide) (by decide) (by decide) (fun v920 h921 r922 => ?_)
      obtain ⟨rfl, rfl⟩ := r922
      refine C.aload at_242 rfl rfl rfl ?_
      refine C.iload at_244 rfl rfl ?_
      refine C.iaload (.int (x1 ^^^ x2)) at_246 rfl F897 (by decide) rfl ?_
      refine C.icmp_ne_f at_247 rfl rfl ?_
      refine C.iconst 1 at_250 rfl rfl ?_
      refine C.goto at_251 (by decide) rfl ?_
      exact C.retZ at_255 rfl (by decide) (by decide) ⟨rfl, trivial⟩
    · rw [qr]
      refine C.aload at_235 rfl rfl rfl ?_
      refine C.iload at_237 rfl rfl ?_
      refine C.callV (argsL := [(.int 5)]) (rest := []) 0 (fun zz => con_get l Z a0 hw n0 h891 zz a778 a792 5 (x0 + x2) 7 ([.int x0, .int x1, .int x2, .int (x0 ^^^ x1), .int (x1 ^^^ x2), .int (x0 + x2), .int (x0 ^^^ (-1 : Int32)), .int 0]) F894 F902 F903 (by decide) (by decide) rfl) F898 at_239 rfl (tw hw 20 rfl) (tw hw 21 rfl) (tw hw 22 rfl) (tw hw 23 rfl) (tw hw 4 rfl) (tw hw 24 rfl) (by decide) pd_5 rfl rfl rfl (Nat.le_of_eq rfl) (by decide) (by decide) (by decide) (by decide) (fun v924 h925 r926 => ?_)
      obtain ⟨rfl, rfl⟩ := r926
      refine C.aload at_242 rfl rfl rfl ?_
      refine C.iload at_244 rfl rfl ?_
      refine C.iaload (.int (x0 + x2)) at_246 rfl F897 (by decide) rfl ?_
      refine C.icmp_ne_f at_247 rfl rfl ?_
      refine C.iconst 1 at_250 rfl rfl ?_
      refine C.goto at_251 (by decide) rfl ?_
      exact C.retZ at_255 rfl (by decide) (by decide) ⟨rfl, trivial⟩
    · rw [qr]
      refine C.aload at_235 rfl rfl rfl ?_
      refine C.iload at_237 rfl rfl ?_
      refine C.callV (argsL := [(.int 6)]) (rest := []) 0 (fun zz => con_get l Z a0 hw n0 h891 zz a778 a792 6 (x0 ^^^ (-1 : Int32)) 7 ([.int x0, .int x1, .int x2, .int (x0 ^^^ x1), .int (x1 ^^^ x2), .int (x0 + x2), .int (x0 ^^^ (-1 : Int32)), .int 0]) F894 F902 F903 (by decide) (by decide) rfl) F898 at_239 rfl (tw hw 20 rfl) (tw hw 21 rfl) (tw hw 22 rfl) (tw hw 23 rfl) (tw hw 4 rfl) (tw hw 24 rfl) (by decide) pd_5 rfl rfl rfl (Nat.le_of_eq rfl) (by decide) (by decide) (by decide) (by decide) (fun v928 h929 r930 => ?_)
      obtain ⟨rfl, rfl⟩ := r930
      refine C.aload at_242 rfl rfl rfl ?_
      refine C.iload at_244 rfl rfl ?_
      refine C.iaload (.int (x0 ^^^ (-1 : Int32))) at_246 rfl F897 (by decide) rfl ?_
      refine C.icmp_ne_f at_247 rfl rfl ?_
      refine C.iconst 1 at_250 rfl rfl ?_
      refine C.goto at_251 (by decide) rfl ?_
      exact C.retZ at_255 rfl (by decide) (by decide) ⟨rfl, trivial⟩
  · rw [qc]
    show Go p l e room_1 s m #[(.int x0), (.int x1), (.int x2), (.int x3), (.int x4)] below meth c n0 (FinQ s n0 (Qcon0 Z n0 h0 x0 x1 x2 x3 x4) room_1.cells room_1.slots) h228 1 9 76 #[.val (.int x0), .val (.int x1), .val (.int x2), .val (.int x3), .val (.int x4), .val (.ref a189), .val (.int 8), .unset, .unset] []
    refine C.iload at_76 rfl rfl ?_
    refine C.ldcI at_78 rfl (tw hw 1 rfl) ?_
    refine C.iand at_80 rfl ?_
    refine C.iload at_81 rfl rfl ?_
    refine C.irem at_83 rfl (by decide) ?_
    refine C.istore (Ls' := #[.val (.int x0), .val (.int x1), .val (.int x2), .val (.int x3), .val (.int x4), .val (.ref a189), .val (.int 8), .val (.int ((x4 &&& 2147483647) % 8)), .unset]) at_84 rfl rfl ?_
    refine C.new at_86 rfl (tw hw 2 rfl) (tw hw 3 rfl) (tw hw 4 rfl) (by decide) (by decide) (fun a932 h933 z937 g938 X935 E934 D936 => ?_)
    have ne939 : a189 ≠ a932 := by rw [z937]; exact Nat.ne_of_lt F231.lt
    have F940 : Av Z h933 a189 .int ([.int x0, .int x1, .int x2, .int (x0 ^^^ x1), .int (x1 ^^^ x2), .int (x0 + x2), .int (x0 ^^^ (-1 : Int32)), .int (-x1), .int (x2 - x0)]) := F231.ext X935
    have F941 : Fld Z h933 a932 "com/example/leaseledger/leaseledger/journal/IntColumn" "values" "[I" (.null) := D936 (Or.inl (tw hw 12 rfl)) (ty := (.array .int)) (by decide)
    have F942 : Fld Z h933 a932 "com/example/leaseledger/leaseledger/journal/IntColumn" "size" "I" (.int 0) := D936 (Or.inl (tw hw 19 rfl)) (ty := .int) (by decide)
    refine C.dup at_89 rfl rfl ?_
    refine C.callN (argsL := []) (rest := [(.ref a932)]) 1 (fun zz => con_ini l Z a0 hw n0 h933 zz a932 E934 F941 F942 g938) at_90 rfl rfl (tw hw 5 rfl) (tw hw 6 rfl) (tw hw 4 rfl) (tw hw 7 rfl) (by decide) pd_3 rfl rfl rfl (Nat.le_of_eq rfl) (by decide) (by decide) (by decide) (by decide) (fun v943 h944 r945 => ?_)
    obtain ⟨a946, rfl, K947, g951, gz952, F948, F949, F950⟩ := r945
    have ne953 : a189 ≠ a946 := Nat.ne_of_lt (Nat.lt_of_lt_of_le F940.lt gz952)
    have ne954 : a932 ≠ a946 := Nat.ne_of_lt (Nat.lt_of_lt_of_le E934.lt gz952)
    have F955 : Av Z h944 a189 .int ([.int x0, .int x1, .int x2, .int (x0 ^^^ x1), .int (x1 ^^^ x2), .int (x0 + x2), .int (x0 ^^^ (-1 : Int32)), .int (-x1), .int (x2 - x0)]) := F940.keep K947 (ninS ne939 nin0)
    have F956 : Exa Z h944 a932 "com/example/leaseledger/leaseledger/journal/IntColumn" := E934.keep K947
    have F959 : Av Z h944 a946 .int ([.int 0, .int 0, .int 0, .int 0, .int 0, .int 0, .int 0, .int 0]) := F950
    refine C.astore (Ls' := #[.val (.int x0), .val (.int x1), .val (.int x2), .val (.int x3), .val (.int x4), .val (.ref a189), .val (.int 8), .val (.int ((x4 &&& 2147483647) % 8)), .val (.ref a932)]) at_93 rfl rfl rfl ?_
    refine C.iload at_95 rfl rfl ?_
    refine C.if_le_f at_97 rfl (by decide) ?_
    refine C.aload at_100 rfl rfl rfl ?_
    refine C.aload at_102 rfl rfl rfl ?_
    refine C.iconst 0 at_104 rfl rfl ?_
    refine C.iaload (.int x0) at_105 rfl F955 (by decide) rfl ?_
    refine C.callV (argsL := [(.int x0)]) (rest := []) 0 (fun zz => con_add l Z a0 hw n0 h944 zz a932 a946 x0 0 ([.int 0, .int 0, .int 0, .int 0, .int 0, .int 0, .int 0, .int 0]) F956 F948 F949 F959 g938 g951 ne954 (by decide) (Nat.le_of_ble_eq_true rfl) (Nat.le_of_ble_eq_true rfl)) F956 at_106 rfl (tw hw 13 rfl) (tw hw 14 rfl) (tw hw 15 rfl) (tw hw 16 rfl) (tw hw 4 rfl) (tw hw 17 rfl) (by decide) pd_4 rfl rfl rfl (Nat.le_of_eq rfl) (by decide) (by decide) (by decide) (by decide) (fun v960 h961 r962 => ?_)
    obtain ⟨rfl, K963, F964, F965, F966⟩ := r962
    have F967 : Av Z h961 a189 .int ([.int x0, .int x1, .int x2, .int (x0 ^^^ x1), .int (x1 ^^^ x2), .int (x0 + x2), .int (x0 ^^^ (-1 : Int32)), .int (-x1), .int (x2 - x0)]) := F955.keep K963 (ninS ne939 (ninS ne953 nin0))
    have F968 : Exa Z h961 a932 "com/example/leaseledger/leaseledger/journal/IntColumn" := F956.keep K963
    have F972 : Fld Z h961 a932 "com/example/leaseledger/leaseledger/journal/IntColumn" "size" "I" (.int 1) := F965
    have F973 : Av Z h961 a946 .int ([.int x0, .int 0, .int 0, .int 0, .int 0, .int 0, .int 0, .int 0]) := F966
    refine C.iload at_109 rfl rfl ?_
    refine C.iconst 1 at_111 rfl rfl ?_
    refine C.icmp_le_f at_112 rfl (by decide) ?_
    refine C.aload at_115 rfl rfl rfl ?_
    refine C.aload at_117 rfl rfl rfl ?_
    refine C.iconst 1 at_119 rfl rfl ?_
    refine C.iaload (.int x1) at_120 rfl F967 (by decide) rfl ?_
    refine C.callV (argsL := [(.int x1)]) (rest := []) 0 (fun zz => con_add l Z a0 hw n0 h961 zz a932 a946 x1 1 ([.int x0, .int 0, .int 0, .int 0, .int 0, .int 0, .int 0, .int 0]) F968 F964 F972 F973 g938 g951 ne954 (by decide) (Nat.le_of_ble_eq_true rfl) (Nat.le_of_ble_eq_true rfl)) F968 at_121 rfl (tw hw 13 rfl) (tw hw 14 rfl) (tw hw 15 rfl) (tw hw 16 rfl) (tw hw 4 rfl) (tw hw 17 rfl) (by decide) pd_4 rfl rfl rfl (Nat.le_of_eq rfl) (by decide) (by decide) (by decide) (by decide) (fun v974 h975 r976 => ?_)
    obtain ⟨rfl, K977, F978, F979, F980⟩ := r976
    have F981 : Av Z h975 a189 .int ([.int x0, .int x1, .int x2, .int (x0 ^^^ x1), .int (x1 ^^^ x2), .int (x0 + x2), .int (x0 ^^^ (-1 : Int32)), .int (-x1), .int (x2 - x0)]) := F967.keep K977 (ninS ne939 (ninS ne953 nin0))
    have F982 : Exa Z h975 a932 "com/example/leaseledger/leaseledger/journal/IntColumn" := F968.keep K977
    have F986 : Fld Z h975 a932 "com/example/leaseledger/leaseledger/journal/IntColumn" "size" "I" (.int 2) := F979
    have F987 : Av Z h975 a946 .int ([.int x0, .int x1, .int 0, .int 0, .int 0, .int 0, .int 0, .int 0]) := F980
    refine C.iload at_124 rfl rfl ?_
    refine C.iconst 2 at_126 rfl rfl ?_
    refine C.icmp_le_f at_127 rfl (by decide) ?_
    refine C.aload at_130 rfl rfl rfl ?_
    refine C.aload at_132 rfl rfl rfl ?_
    refine C.iconst 2 at_134 rfl rfl ?_
    refine C.iaload (.int x2) at_135 rfl F981 (by decide) rfl ?_
    refine C.callV (argsL := [(.int x2)]) (rest := []) 0 (fun zz => con_add l Z a0 hw n0 h975 zz a932 a946 x2 2 ([.int x0, .int x1, .int 0, .int 0, .int 0, .int 0, .int 0, .int 0]) F982 F978 F986 F987 g938 g951 ne954 (by decide) (Nat.le_of_ble_eq_true rfl) (Nat.le_of_ble_eq_true rfl)) F982 at_136 rfl (tw hw 13 rfl) (tw hw 14 rfl) (tw hw 15 rfl) (tw hw 16 rfl) (tw hw 4 rfl) (tw hw 17 rfl) (by decide) pd_4 rfl rfl rfl (Nat.le_of_eq rfl) (by decide) (by decide) (by decide) (by decide) (fun v988 h989 r990 => ?_)
    obtain ⟨rfl, K991, F992, F993, F994⟩ := r990
    have F995 : Av Z h989 a189 .int ([.int x0, .int x1, .int x2, .int (x0 ^^^ x1), .int (x1 ^^^ x2), .int (x0 + x2), .int (x0 ^^^ (-1 : Int32)), .int (-x1), .int (x2 - x0)]) := F981.keep K991 (ninS ne939 (ninS ne953 nin0))
    have F996 : Exa Z h989 a932 "com/example/leaseledger/leaseledger/journal/IntColumn" := F982.keep K991
    have F1000 : Fld Z h989 a932 "com/example/leaseledger/leaseledger/journal/IntColumn" "size" "I" (.int 3) := F993
    have F1001 : Av Z h989 a946 .int ([.int x0, .int x1, .int x2, .int 0, .int 0, .int 0, .int 0, .int 0]) := F994
    refine C.iload at_139 rfl rfl ?_
    refine C.iconst 3 at_141 rfl rfl ?_
    refine C.icmp_le_f at_142 rfl (by decide) ?_
    refine C.aload at_145 rfl rfl rfl ?_
    refine C.aload at_147 rfl rfl rfl ?_
    refine C.iconst 3 at_149 rfl rfl ?_
    refine C.iaload (.int (x0 ^^^ x1)) at_150 rfl F995 (by decide) rfl ?_
    refine C.callV (argsL := [(.int (x0 ^^^ x1))]) (rest := []) 0 (fun zz => con_add l Z a0 hw n0 h989 zz a932 a946 (x0 ^^^ x1) 3 ([.int x0, .int x1, .int x2, .int 0, .int 0, .int 0, .int 0, .int 0]) F996 F992 F1000 F1001 g938 g951 ne954 (by decide) (Nat.le_of_ble_eq_true rfl) (Nat.le_of_ble_eq_true rfl)) F996 at_151 rfl (tw hw 13 rfl) (tw hw 14 rfl) (tw hw 15 rfl) (tw hw 16 rfl) (tw hw 4 rfl) (tw hw 17 rfl) (by decide) pd_4 rfl rfl rfl (Nat.le_of_eq rfl) (by decide) (by decide) (by decide) (by decide) (fun v1002 h1003 r1004 => ?_)
    obtain ⟨rfl, K1005, F1006, F1007, F1008⟩ := r1004
    have F1009 : Av Z h1003 a189 .int ([.int x0, .int x1, .int x2, .int (x0 ^^^ x1), .int (x1 ^^^ x2), .int (x0 + x2), .int (x0 ^^^ (-1 : Int32)), .int (-x1), .int (x2 - x0)]) := F995.keep K1005 (ninS ne939 (ninS ne953 nin0))
    have F1010 : Exa Z h1003 a932 "com/example/leaseledger/leaseledger/journal/IntColumn" := F996.keep K1005
    have F1014 : Fld Z h1003 a932 "com/example/leaseledger/leaseledger/journal/IntColumn" "size" "I" (.int 4) := F1007
    have F1015 : Av Z h1003 a946 .int ([.int x0, .int x1, .int x2, .int (x0 ^^^ x1), .int 0, .int 0, .int 0, .int 0]) := F1008
    refine C.iload at_154 rfl rfl ?_
    refine C.iconst 4 at_156 rfl rfl ?_
    refine C.icmp_le_f at_157 rfl (by decide) ?_
    refine C.aload at_160 rfl rfl rfl ?_
    refine C.aload at_162 rfl rfl rfl ?_
    refine C.iconst 4 at_164 rfl rfl ?_
    refine C.iaload (.int (x1 ^^^ x2)) at_165 rfl F1009 (by decide) rfl ?_
    refine C.callV (argsL := [(.int (x1 ^^^ x2))]) (rest := []) 0 (fun zz => con_add l Z a0 hw n0 h1003 zz a932 a946 (x1 ^^^ x2) 4 ([.int x0, .int x1, .int x2, .int (x0 ^^^ x1), .int 0, .int 0, .int 0, .int 0]) F1010 F1006 F1014 F1015 g938 g951 ne954 (by decide) (Nat.le_of_ble_eq_true rfl) (Nat.le_of_ble_eq_true rfl)) F1010 at_166 rfl (tw hw 13 rfl) (tw hw 14 rfl) (tw hw 15 rfl) (tw hw 16 rfl) (tw hw 4 rfl) (tw hw 17 rfl) (by decide) pd_4 rfl rfl rfl (Nat.le_of_eq rfl) (by decide) (by decide) (by decide) (by decide) (fun v1016 h1017 r1018 => ?_)
    obtain ⟨rfl, K1019, F1020, F1021, F1022⟩ := r1018
    have F1023 : Av Z h1017 a189 .int ([.int x0, .int x1, .int x2, .int (x0 ^^^ x1), .int (x1 ^^^ x2), .int (x0 + x2), .int (x0 ^^^ (-1 : Int32)), .int (-x1), .int (x2 - x0)]) := F1009.keep K1019 (ninS ne939 (ninS ne953 nin0))
    have F1024 : Exa Z h1017 a932 "com/example/leaseledger/leaseledger/journal/IntColumn" := F1010.keep K1019
    have F1028 : Fld Z h1017 a932 "com/example/leaseledger/leaseledger/journal/IntColumn" "size" "I" (.int 5) := F1021
    have F1029 : Av Z h1017 a946 .int ([.int x0, .int x1, .int x2, .int (x0 ^^^ x1), .int (x1 ^^^ x2), .int 0, .int 0, .int 0]) := F1022
    refine C.iload at_169 rfl rfl ?_
    refine C.iconst 5 at_171 rfl rfl ?_
    refine C.icmp_le_f at_172 rfl (by decide) ?_
    refine C.aload at_175 rfl rfl rfl ?_
    refine C.aload at_177 rfl rfl rfl ?_
    refine C.iconst 5 at_179 rfl rfl ?_
    refine C.iaload (.int (x0 + x2)) at_180 rfl F1023 (by decide) rfl ?_
    refine C.callV (argsL := [(.int (x0 + x2))]) (rest := []) 0 (fun zz => con_add l Z a0 hw n0 h1017 zz a932 a946 (x0 + x2) 5 ([.int x0, .int x1, .int x2, .int (x0 ^^^ x1), .int (x1 ^^^ x2), .int 0, .int 0, .int 0]) F1024 F1020 F1028 F1029 g938 g951 ne954 (by decide) (Nat.le_of_ble_eq_true rfl) (Nat.le_of_ble_eq_true rfl)) F1024 at_181 rfl (tw hw 13 rfl) (tw hw 14 rfl) (tw hw 15 rfl) (tw hw 16 rfl) (tw hw 4 rfl) (tw hw 17 rfl) (by decide) pd_4 rfl rfl rfl (Nat.le_of_eq rfl) (by decide) (by decide) (by decide) (by decide) (fun v1030 h1031 r1032 => ?_)
    obtain ⟨rfl, K1033, F1034, F1035, F1036⟩ := r1032
    have F1037 : Av Z h1031 a189 .int ([.int x0, .int x1, .int x2, .int (x0 ^^^ x1), .int (x1 ^^^ x2), .int (x0 + x2), .int (x0 ^^^ (-1 : Int32)), .int (-x1), .int (x2 - x0)]) := F1023.keep K1033 (ninS ne939 (ninS ne953 nin0))
    have F1038 : Exa Z h1031 a932 "com/example/leaseledger/leaseledger/journal/IntColumn" := F1024.keep K1033
    have F1042 : Fld Z h1031 a932 "com/example/leaseledger/leaseledger/journal/IntColumn" "size" "I" (.int 6) := F1035
    have F1043 : Av Z h1031 a946 .int ([.int x0, .int x1, .int x2, .int (x0 ^^^ x1), .int (x1 ^^^ x2), .int (x0 + x2), .int 0, .int 0]) := F1036
    refine C.iload at_184 rfl rfl ?_
    refine C.bipush 6 at_186 rfl rfl ?_
    refine C.icmp_le_f at_188 rfl (by decide) ?_
    refine C.aload at_191 rfl rfl rfl ?_
    refine C.aload at_193 rfl rfl rfl ?_
    refine C.bipush 6 at_195 rfl rfl ?_
    refine C.iaload (.int (x0 ^^^ (-1 : Int32))) at_197 rfl F1037 (by decide) rfl ?_
    refine C.callV (argsL := [(.int (x0 ^^^ (-1 : Int32)))]) (rest := []) 0 (fun zz => con_add l Z a0 hw n0 h1031 zz a932 a946 (x0 ^^^ (-1 : Int32)) 6 ([.int x0, .int x1, .int x2, .int (x0 ^^^ x1), .int (x1 ^^^ x2), .int (x0 + x2), .int 0, .int 0]) F1038 F1034 F1042 F1043 g938 g951 ne954 (by decide) (Nat.le_of_ble_eq_true rfl) (Nat.le_of_ble_eq_true rfl)) F1038 at_198 rfl (tw hw 13 rfl) (tw hw 14 rfl) (tw hw 15 rfl) (tw hw 16 rfl) (tw hw 4 rfl) (tw hw 17 rfl) (by decide) pd_4 rfl rfl rfl (Nat.le_of_eq rfl) (by decide) (by decide) (by decide) (by decide) (fun v1044 h1045 r1046 => ?_)
    obtain ⟨rfl, K1047, F1048, F1049, F1050⟩ := r1046
    have F1051 : Av Z h1045 a189 .int ([.int x0, .int x1, .int x2, .int (x0 ^^^ x1), .int (x1 ^^^ x2), .int (x0 + x2), .int (x0 ^^^ (-1 : Int32)), .int (-x1), .int (x2 - x0)]) := F1037.keep K1047 (ninS ne939 (ninS ne953 nin0))
    have F1052 : Exa Z h1045 a932 "com/example/leaseledger/leaseledger/journal/IntColumn" := F1038.keep K1047
    have F1056 : Fld Z h1045 a932 "com/example/leaseledger/leaseledger/journal/IntColumn" "size" "I" (.int 7) := F1049
    have F1057 : Av Z h1045 a946 .int ([.int x0, .int x1, .int x2, .int (x0 ^^^ x1), .int (x1 ^^^ x2), .int (x0 + x2), .int (x0 ^^^ (-1 : Int32)), .int 0]) := F1050
    refine C.iload at_201 rfl rfl ?_
    refine C.bipush 7 at_203 rfl rfl ?_
    refine C.icmp_le_f at_205 rfl (by decide) ?_
    refine C.aload at_208 rfl rfl rfl ?_
    refine C.aload at_210 rfl rfl rfl ?_
    refine C.bipush 7 at_212 rfl rfl ?_
    refine C.iaload (.int (-x1)) at_214 rfl F1051 (by decide) rfl ?_
    refine C.callV (argsL := [(.int (-x1))]) (rest := []) 0 (fun zz => con_add l Z a0 hw n0 h1045 zz a932 a946 (-x1) 7 ([.int x0, .int x1, .int x2, .int (x0 ^^^ x1), .int (x1 ^^^ x2), .int (x0 + x2), .int (x0 ^^^ (-1 : Int32)), .int 0]) F1052 F1048 F1056 F1057 g938 g951 ne954 (by decide) (Nat.le_of_ble_eq_true rfl) (Nat.le_of_ble_eq_true rfl)) F1052 at_215 rfl (tw hw 13 rfl) (tw hw 14 rfl) (tw hw 15 rfl) (tw hw 16 rfl) (tw hw 4 rfl) (tw hw 17 rfl) (by decide) pd_4 rfl rfl rfl (Nat.le_of_eq rfl) (by decide) (by decide) (by decide) (by decide) (fun v1058 h1059 r1060 => ?_)
    obtain ⟨rfl, K1061, F1062, F1063, F1064⟩ := r1060
    have F1065 : Av Z h1059 a189 .int ([.int x0, .int x1, .int x2, .int (x0 ^^^ x1), .int (x1 ^^^ x2), .int (x0 + x2), .int (x0 ^^^ (-1 : Int32)), .int (-x1), .int (x2 - x0)]) := F1051.keep K1061 (ninS ne939 (ninS ne953 nin0))
    have F1066 : Exa Z h1059 a932 "com/example/leaseledger/leaseledger/journal/IntColumn" := F1052.keep K1061
    have F1070 : Fld Z h1059 a932 "com/example/leaseledger/leaseledger/journal/IntColumn" "size" "I" (.int 8) := F1063
    have F1071 : Av Z h1059 a946 .int ([.int x0, .int x1, .int x2, .int (x0 ^^^ x1), .int (x1 ^^^ x2), .int (x0 + x2), .int (x0 ^^^ (-1 : Int32)), .int (-x1)]) := F1064
    refine C.iload at_218 rfl rfl ?_
    refine C.bipush 8 at_220 rfl rfl ?_
    refine C.icmp_le_t at_222 (by decide) rfl (by decide) ?_
    rcases own_mod8 x4 with qr | qr | qr | qr | qr | qr | qr | qr
    · rw [qr]
      refine C.aload at_235 rfl rfl rfl ?_
      refine C.iload at_237 rfl rfl ?_
      refine C.callV (argsL := [(.int 0)]) (rest := []) 0 (fun zz => con_get l Z a0 hw n0 h1059 zz a932 a946 0 x0 8 ([.int x0, .int x1, .int x2, .int (x0 ^^^ x1), .int (x1 ^^^ x2), .int (x0 + x2), .int (x0 ^^^ (-1 : Int32)), .int (-x1)]) F1062 F1070 F1071 (by decide) (by decide) rfl) F1066 at_239 rfl (tw hw 20 rfl) (tw hw 21 rfl) (tw hw 22 rfl) (tw hw 23 rfl) (tw hw 4 rfl) (tw hw 24 rfl) (by decide) pd_5 rfl rfl rfl (Nat.le_of_eq rfl) (by decide) (by decide) (by decide) (by decide) (fun v1072 h1073 r1074 => ?_)
      obtain ⟨rfl, rfl⟩ := r1074
      refine C.aload at_242 rfl rfl rfl ?_
      refine C.iload at_244 rfl rfl ?_
      refine C.iaload (.int x0) at_246 rfl F1065 (by decide) rfl ?_
      refine C.icmp_ne_f at_247 rfl rfl ?_
      refine C.iconst 1 at_250 rfl rfl ?_
      refine C.goto at_251 (by decide) rfl ?_
      exact C.retZ at_255 rfl (by decide) (by decide) ⟨rfl, trivial⟩
    · rw [qr]
      refine C.aload at_235 rfl rfl rfl ?_
      refine C.iload at_237 rfl rfl ?_
      refine C.callV (argsL := [(.int 1)]) (rest := []) 0 (fun zz => con_get l Z a0 hw n0 h1059 zz a932 a946 1 x1 8 ([.int x0, .int x1, .int x2, .int (x0 ^^^ x1), .int (x1 ^^^ x2), .int (x0 + x2), .int (x0 ^^^ (-1 : Int32)), .int (-x1)]) F1062 F1070 F1071 (by decide) (by decide) rfl) F1066 at_239 rfl (tw hw 20 rfl) (tw hw 21 rfl) (tw hw 22 rfl) (tw hw 23 rfl) (tw hw 4 rfl) (tw hw 24 rfl) (by decide) pd_5 rfl rfl rfl (Nat.le_of_eq rfl) (by decide) (by decide) (by decide) (by decide) (fun v1076 h1077 r1078 => ?_)
      obtain ⟨rfl, rfl⟩ := r1078
      refine C.aload at_242 rfl rfl rfl ?_
      refine C.iload at_244 rfl rfl ?_
      refine C.iaload (.int x1) at_246 rfl F1065 (by decide) rfl ?_
      refine C.icmp_ne_f at_247 rfl rfl ?_
      refine C.iconst 1 at_250 rfl rfl ?_
      refine C.goto at_251 (by decide) rfl ?_
      exact C.retZ at_255 rfl (by decide) (by decide) ⟨rfl, trivial⟩
    · rw [qr]
      refine C.aload at_235 rfl rfl rfl ?_
      refine C.iload at_237 rfl rfl ?_
      refine C.callV (argsL := [(.int 2)]) (rest := []) 0 (fun zz => con_get l Z a0 hw n0 h1059 zz a932 a946 2 x2 8 ([.int x0, .int x1, .int x2, .int (x0 ^^^ x1), .int (x1 ^^^ x2), .int (x0 + x2), .int (x0 ^^^ (-1 : Int32)), .int (-x1)]) F1062 F1070 F1071 (by decide) (by decide) rfl) F1066 at_239 rfl (tw hw 20 rfl) (tw hw 21 rfl) (tw hw 22 rfl) (tw hw 23 rfl) (tw hw 4 rfl) (tw hw 24 rfl) (by decide) pd_5 rfl rfl rfl (Nat.le_of_eq rfl) (by decide) (by decide) (by decide) (by decide) (fun v1080 h1081 r1082 => ?_)
      obtain ⟨rfl, rfl⟩ := r1082
      refine C.aload at_242 rfl rfl rfl ?_
      refine C.iload at_244 rfl rfl ?_
      refine C.iaload (.int x2) at_246 rfl F1065 (by decide) rfl ?_
      refine C.icmp_ne_f at_247 rfl rfl ?_
      refine C.iconst 1 at_250 rfl rfl ?_
      refine C.goto at_251 (by decide) rfl ?_
      exact C.retZ at_255 rfl (by decide) (by decide) ⟨rfl, trivial⟩
    · rw [qr]
      refine C.aload at_235 rfl rfl rfl ?_
      refine C.iload at_237 rfl rfl ?_
      refine C.callV (argsL := [(.int 3)]) (rest := []) 0 (fun zz => con_get l Z a0 hw n0 h1059 zz a932 a946 3 (x0 ^^^ x1) 8 ([.int x0, .int x1, .int x2, .int (x0 ^^^ x1), .int (x1 ^^^ x2), .int (x0 + x2), .int (x0 ^^^ (-1 : Int32)), .int (-x1)]) F1062 F1070 F1071 (by decide) (by decide) rfl) F1066 at_239 rfl (tw hw 20 rfl) (tw hw 21 rfl) (tw hw 22 rfl) (tw hw 23 rfl) (tw hw 4 rfl) (tw hw 24 rfl) (by decide) pd_5 rfl rfl rfl (Nat.le_of_eq rfl) (by decide) (by decide) (by decide) (by decide) (fun v1084 h1085 r1086 => ?_)
      obtain ⟨rfl, rfl⟩ := r1086
      refine C.aload at_242 rfl rfl rfl ?_
      refine C.iload at_244 rfl rfl ?_
      refine C.iaload (.int (x0 ^^^ x1)) at_246 rfl F1065 (by decide) rfl ?_
      refine C.icmp_ne_f at_247 rfl rfl ?_
      refine C.iconst 1 at_250 rfl rfl ?_
      refine C.goto at_251 (by decide) rfl ?_
      exact C.retZ at_255 rfl (by decide) (by decide) ⟨rfl, trivial⟩
    · rw [qr]
      refine C.aload at_235 rfl rfl rfl ?_
      refine C.iload at_237 rfl rfl ?_
      refine C.callV (argsL := [(.int 4)]) (rest := []) 0 (fun zz => con_get l Z a0 hw n0 h1059 zz a932 a946 4 (x1 ^^^ x2) 8 ([.int x0, .int x1, .int x2, .int (x0 ^^^ x1), .int (x1 ^^^ x2), .int (x0 + x2), .int (x0 ^^^ (-1 : Int32)), .int (-x1)]) F1062 F1070 F1071 (by decide) (by decide) rfl) F1066 at_239 rfl (tw hw 20 rfl) (tw hw 21 rfl) (tw hw 22 rfl) (tw hw 23 rfl) (tw hw 4 rfl) (tw hw 24 rfl) (by decide) pd_5 rfl rfl rfl (Nat.le_of_eq rfl) (by decide) (by decide) (by decide) (by decide) (fun v1088 h1089 r1090 => ?_)
      obtain ⟨rfl, rfl⟩ := r1090
      refine C.aload at_242 rfl rfl rfl ?_
      refine C.iload at_244 rfl rfl ?_
      refine C.iaload (.int (x1 ^^^ x2)) at_246 rfl F1065 (by decide) rfl ?_
      refine C.icmp_ne_f at_247 rfl rfl ?_
      refine C.iconst 1 at_250 rfl rfl ?_
      refine C.goto at_251 (by decide) rfl ?_
      exact C.retZ at_255 rfl (by decide) (by decide) ⟨rfl, trivial⟩
    · rw [qr]
      refine C.aload at_235 rfl rfl rfl ?_
      refine C.iload at_237 rfl rfl ?_
      refine C.callV (argsL := [(.int 5)]) (rest := []) 0 (fun zz => con_get l Z a0 hw n0 h1059 zz a932 a946 5 (x0 + x2) 8 ([.int x0, .int x1, .int x2, .int (x0 ^^^ x1), .int (x1 ^^^ x2), .int (x0 + x2), .int (x0 ^^^ (-1 : Int32)), .int (-x1)]) F1062 F1070 F1071 (by decide) (by decide) rfl) F1066 at_239 rfl (tw hw 20 rfl) (tw hw 21 rfl) (tw hw 22 rfl) (tw hw 23 rfl) (tw hw 4 rfl) (tw hw 24 rfl) (by decide) pd_5 rfl rfl rfl (Nat.le_of_eq rfl) (by decide) (by decide) (by decide) (by decide) (fun v1092 h1093 r1094 => ?_)
      obtain ⟨rfl, rfl⟩ := r1094
      refine C.aload at_242 rfl rfl rfl ?_
      refine C.iload at_244 rfl rfl ?_
      refine C.iaload (.int (x0 + x2)) at_246 rfl F1065 (by decide) rfl ?_
      refine C.icmp_ne_f at_247 rfl rfl ?_
      refine C.iconst 1 at_250 rfl rfl ?_
      refine C.goto at_251 (by decide) rfl ?_
      exact C.retZ at_255 rfl (by decide) (by decide) ⟨rfl, trivial⟩
    · rw [qr]
      refine C.aload at_235 rfl rfl rfl ?_
      refine C.iload at_237 rfl rfl ?_
      refine C.callV (argsL := [(.int 6)]) (rest := []) 0 (fun zz => con_get l Z a0 hw n0 h1059 zz a932 a946 6 (x0 ^^^ (-1 : Int32)) 8 ([.int x0, .int x1, .int x2, .int (x0 ^^^ x1), .int (x1 ^^^ x2), .int (x0 + x2), .int (x0 ^^^ (-1 : Int32)), .int (-x1)]) F1062 F1070 F1071 (by decide) (by decide) rfl) F1066 at_239 rfl (tw hw 20 rfl) (tw hw 21 rfl) (tw hw 22 rfl) (tw hw 23 rfl) (tw hw 4 rfl) (tw hw 24 rfl) (by decide) pd_5 rfl rfl rfl (Nat.le_of_eq rfl) (by decide) (by decide) (by decide) (by decide) (fun v1096 h1097 r1098 => ?_)
      obtain ⟨rfl, rfl⟩ := r1098
      refine C.aload at_242 rfl rfl rfl ?_
      refine C.iload at_244 rfl rfl ?_
      refine C.iaload (.int (x0 ^^^ (-1 : Int32))) at_246 rfl F1065 (by decide) rfl ?_
      refine C.icmp_ne_f at_247 rfl rfl ?_
      refine C.iconst 1 at_250 rfl rfl ?_
      refine C.goto at_251 (by decide) rfl ?_
      exact C.retZ at_255 rfl (by decide) (by decide) ⟨rfl, trivial⟩
    · rw [qr]
      refine C.aload at_235 rfl rfl rfl ?_
      refine C.iload at_237 rfl rfl ?_
      refine C.callV (argsL := [(.int 7)]) (rest := []) 0 (fun zz => con_get l Z a0 hw n0 h1059 zz a932 a946 7 (-x1) 8 ([.int x0, .int x1, .int x2, .int (x0 ^^^ x1), .int (x1 ^^^ x2), .int (x0 + x2), .int (x0 ^^^ (-1 : Int32)), .int (-x1)]) F1062 F1070 F1071 (by decide) (by decide) rfl) F1066 at_239 rfl (tw hw 20 rfl) (tw hw 21 rfl) (tw hw 22 rfl) (tw hw 23 rfl) (tw hw 4 rfl) (tw hw 24 rfl) (by decide) pd_5 rfl rfl rfl (Nat.le_of_eq rfl) (by decide) (by decide) (by decide) (by decide) (fun v1100 h1101 r1102 => ?_)
      obtain ⟨rfl, rfl⟩ := r1102
      refine C.aload at_242 rfl rfl rfl ?_
      refine C.iload at_244 rfl rfl ?_
      refine C.iaload (.int (-x1)) at_246 rfl F1065 (by decide) rfl ?_
      refine C.icmp_ne_f at_247 rfl rfl ?_
      refine C.iconst 1 at_250 rfl rfl ?_
      refine C.goto at_251 (by decide) rfl ?_
      exact C.retZ at_255 rfl (by decide) (by decide) ⟨rfl, trivial⟩
  · rw [qc]
    show Go p l e room_1 s m #[(.int x0), (.int x1), (.int x2), (.int x3), (.int x4)] below meth c n0 (FinQ s n0 (Qcon0 Z n0 h0 x0 x1 x2 x3 x4) room_1.cells room_1.slots) h228 1 9 76 #[.val (.int x0), .val (.int x1), .val (.int x2), .val (.int x3), .val (.int x4), .val (.ref a189), .val (.int 9), .unset, .unset] []
    refine C.iload at_76 rfl rfl ?_
    refine C.ldcI at_78 rfl (tw hw 1 rfl) ?_
    refine C.iand at_80 rfl ?_
    refine C.iload at_81 rfl rfl ?_
    refine C.irem at_83 rfl (by decide) ?_
    refine C.istore (Ls' := #[.val (.int x0), .val (.int x1), .val (.int x2), .val (.int x3), .val (.int x4), .val (.ref a189), .val (.int 9), .val (.int ((x4 &&& 2147483647) % 9)), .unset]) at_84 rfl rfl ?_
    refine C.new at_86 rfl (tw hw 2 rfl) (tw hw 3 rfl) (tw hw 4 rfl) (by decide) (by decide) (fun a1104 h1105 z1109 g1110 X1107 E1106 D1108 => ?_)
    have ne1111 : a189 ≠ a1104 := by rw [z1109]; exact Nat.ne_of_lt F231.lt
    have F1112 : Av Z h1105 a189 .int ([.int x0, .int x1, .int x2, .int (x0 ^^^ x1), .int (x1 ^^^ x2), .int (x0 + x2), .int (x0 ^^^ (-1 : Int32)), .int (-x1), .int (x2 - x0)]) := F231.ext X1107
    have F1113 : Fld Z h1105 a1104 "com/example/leaseledger/leaseledger/journal/IntColumn" "values" "[I" (.null) := D1108 (Or.inl (tw hw 12 rfl)) (ty := (.array .int)) (by decide)
    have F1114 : Fld Z h1105 a1104 "com/example/leaseledger/leaseledger/journal/IntColumn" "size" "I" (.int 0) := D1108 (Or.inl (tw hw 19 rfl)) (ty := .int) (by decide)
    refine C.dup at_89 rfl rfl ?_
    refine C.callN (argsL := []) (rest := [(.ref a1104)]) 1 (fun zz => con_ini l Z a0 hw n0 h1105 zz a1104 E1106 F1113 F1114 g1110) at_90 rfl rfl (tw hw 5 rfl) (tw hw 6 rfl) (tw hw 4 rfl) (tw hw 7 rfl) (by decide) pd_3 rfl rfl rfl (Nat.le_of_eq rfl) (by decide) (by decide) (by decide) (by decide) (fun v1115 h1116 r1117 => ?_)
    obtain ⟨a1118, rfl, K1119, g1123, gz1124, F1120, F1121, F1122⟩ := r1117
    have ne1125 : a189 ≠ a1118 := Nat.ne_of_lt (Nat.lt_of_lt_of_le F1112.lt gz1124)
    have ne1126 : a1104 ≠ a1118 := Nat.ne_of_lt (Nat.lt_of_lt_of_le E1106.lt gz1124)
    have F1127 : Av Z h1116 a189 .int ([.int x0, .int x1, .int x2, .int (x0 ^^^ x1), .int (x1 ^^^ x2), .int (x0 + x2), .int (x0 ^^^ (-1 : Int32)), .int (-x1), .int (x2 - x0)]) := F1112.keep K1119 (ninS ne1111 nin0)
    have F1128 : Exa Z h1116 a1104 "com/example/leaseledger/leaseledger/journal/IntColumn" := E1106.keep K1119
    have F1131 : Av Z h1116 a1118 .int ([.int 0, .int 0, .int 0, .int 0, .int 0, .int 0, .int 0, .int 0]) := F1122
    refine C.astore (Ls' := #[.val (.int x0), .val (.int x1), .val (.int x2), .val (.int x3), .val (.int x4), .val (.ref a189), .val (.int 9), .val (.int ((x4 &&& 2147483647) % 9)), .val (.ref a1104)]) at_93 rfl rfl rfl ?_
    refine C.iload at_95 rfl rfl ?_
    refine C.if_le_f at_97 rfl (by decide) ?_
    refine C.aload at_100 rfl rfl rfl ?_
    refine C.aload at_102 rfl rfl rfl ?_
    refine C.iconst 0 at_104 rfl rfl ?_
    refine C.iaload (.int x0) at_105 rfl F1127 (by decide) rfl ?_
    refine C.callV (argsL := [(.int x0)]) (rest := []) 0 (fun zz => con_add l Z a0 hw n0 h1116 zz a1104 a1118 x0 0 ([.int 0, .int 0, .int 0, .int 0, .int 0, .int 0, .int 0, .int 0]) F1128 F1120 F1121 F1131 g1110 g1123 ne1126 (by decide) (Nat.le_of_ble_eq_true rfl) (Nat.le_of_ble_eq_true rfl)) F1128 at_106 rfl (tw hw 13 rfl) (tw hw 14 rfl) (tw hw 15 rfl) (tw hw 16 rfl) (tw hw 4 rfl) (tw hw 17 rfl) (by decide) pd_4 rfl rfl rfl (Nat.le_of_eq rfl) (by decide) (by decide) (by decide) (by decide) (fun v1132 h1133 r1134 => ?_)
    obtain ⟨rfl, K1135, F1136, F1137, F1138⟩ := r1134
    have F1139 : Av Z h1133 a189 .int ([.int x0, .int x1, .int x2, .int (x0 ^^^ x1), .int (x1 ^^^ x2), .int (x0 + x2), .int (x0 ^^^ (-1 : Int32)), .int (-x1), .int (x2 - x0)]) := F1127.keep K1135 (ninS ne1111 (ninS ne1125 nin0))
    have F1140 : Exa Z h1133 a1104 "com/example/leaseledger/leaseledger/journal/IntColumn" := F1128.keep K1135
    have F1144 : Fld Z h1133 a1104 "com/example/leaseledger/leaseledger/journal/IntColumn" "size" "I" (.int 1) := F1137
    have F1145 : Av Z h1133 a1118 .int ([.int x0, .int 0, .int 0, .int 0, .int 0, .int 0, .int 0, .int 0]) := F1138
    refine C.iload at_109 rfl rfl ?_
    refine C.iconst 1 at_111 rfl rfl ?_
    refine C.icmp_le_f at_112 rfl (by decide) ?_
    refine C.aload at_115 rfl rfl rfl ?_
    refine C.aload at_117 rfl rfl rfl ?_
    refine C.iconst 1 at_119 rfl rfl ?_
    refine C.iaload (.int x1) at_120 rfl F1139 (by decide) rfl ?_
    refine C.callV (argsL := [(.int x1)]) (rest := []) 0 (fun zz => con_add l Z a0 hw n0 h1133 zz a1104 a1118 x1 1 ([.int x0, .int 0, .int 0, .int 0, .int 0, .int 0, .int 0, .int 0]) F1140 F1136 F1144 F1145 g1110 g1123 ne1126 (by decide) (Nat.le_of_ble_eq_true rfl) (Nat.le_of_ble_eq_true rfl)) F1140 at_121 rfl (tw hw 13 rfl) (tw hw 14 rfl) (tw hw 15 rfl) (tw hw 16 rfl) (tw hw 4 rfl) (tw hw 17 rfl) (by decide) pd_4 rfl rfl rfl (Nat.le_of_eq rfl) (by decide) (by decide) (by decide) (by decide) (fun v1146 h1147 r1148 => ?_)
    obtain ⟨rfl, K1149, F1150, F1151, F1152⟩ := r1148
    have F1153 : Av Z h1147 a189 .int ([.int x0, .int x1, .int x2, .int (x0 ^^^ x1), .int (x1 ^^^ x2), .int (x0 + x2), .int (x0 ^^^ (-1 : Int32)), .int (-x1), .int (x2 - x0)]) := F1139.keep K1149 (ninS ne1111 (ninS ne1125 nin0))
    have F1154 : Exa Z h1147 a1104 "com/example/leaseledger/leaseledger/journal/IntColumn" := F1140.keep K1149
    have F1158 : Fld Z h1147 a1104 "com/example/leaseledger/leaseledger/journal/IntColumn" "size" "I" (.int 2) := F1151
    have F1159 : Av Z h1147 a1118 .int ([.int x0, .int x1, .int 0, .int 0, .int 0, .int 0, .int 0, .int 0]) := F1152
    refine C.iload at_124 rfl rfl ?_
    refine C.iconst 2 at_126 rfl rfl ?_
    refine C.icmp_le_f at_127 rfl (by decide) ?_
    refine C.aload at_130 rfl rfl rfl ?_
    refine C.aload at_132 rfl rfl rfl ?_
    refine C.iconst 2 at_134 rfl rfl ?_
    refine C.iaload (.int x2) at_135 rfl F1153 (by decide) rfl ?_
    refine C.callV (argsL := [(.int x2)]) (rest := []) 0 (fun zz => con_add l Z a0 hw n0 h1147 zz a1104 a1118 x2 2 ([.int x0, .int x1, .int 0, .int 0, .int 0, .int 0, .int 0, .int 0]) F1154 F1150 F1158 F1159 g1110 g1123 ne1126 (by decide) (Nat.le_of_ble_eq_true rfl) (Nat.le_of_ble_eq_true rfl)) F1154 at_136 rfl (tw hw 13 rfl) (tw hw 14 rfl) (tw hw 15 rfl) (tw hw 16 rfl) (tw hw 4 rfl) (tw hw 17 rfl) (by decide) pd_4 rfl rfl rfl (Nat.le_of_eq rfl) (by decide) (by decide) (by decide) (by decide) (fun v1160 h1161 r1162 => ?_)
    obtain ⟨rfl, K1163, F1164, F1165, F1166⟩ := r1162
    have F1167 : Av Z h1161 a189 .int ([.int x0, .int x1, .int x2, .int (x0 ^^^ x1), .int (x1 ^^^ x2), .int (x0 + x2), .int (x0 ^^^ (-1 : Int32)), .int (-x1), .int (x2 - x0)]) := F1153.keep K1163 (ninS ne1111 (ninS ne1125 nin0))
    have F1168 : Exa Z h1161 a1104 "com/example/leaseledger/leaseledger/journal/IntColumn" := F1154.keep K1163
    have F1172 : Fld Z h1161 a1104 "com/example/leaseledger/leaseledger/journal/IntColumn" "size" "I" (.int 3) := F1165
    have F1173 : Av Z h1161 a1118 .int ([.int x0, .int x1, .int x2, .int 0, .int 0, .int 0, .int 0, .int 0]) := F1166
    refine C.iload at_139 rfl rfl ?_
    refine C.iconst 3 at_141 rfl rfl ?_
    refine C.icmp_le_f at_142 rfl (by decide) ?_
    refine C.aload at_145 rfl rfl rfl ?_
    refine C.aload at_147 rfl rfl rfl ?_
    refine C.iconst 3 at_149 rfl rfl ?_
    refine C.iaload (.int (x0 ^^^ x1)) at_150 rfl F1167 (by decide) rfl ?_
    refine C.callV (argsL := [(.int (x0 ^^^ x1))]) (rest := []) 0 (fun zz => con_add l Z a0 hw n0 h1161 zz a1104 a1118 (x0 ^^^ x1) 3 ([.int x0, .int x1, .int x2, .int 0, .int 0, .int 0, .int 0, .int 0]) F1168 F1164 F1172 F1173 g1110 g1123 ne1126 (by decide) (Nat.le_of_ble_eq_true rfl) (Nat.le_of_ble_eq_true rfl)) F1168 at_151 rfl (tw hw 13 rfl) (tw hw 14 rfl) (tw hw 15 rfl) (tw hw 16 rfl) (tw hw 4 rfl) (tw hw 17 rfl) (by decide) pd_4 rfl rfl rfl (Nat.le_of_eq rfl) (by decide) (by decide) (by decide) (by decide) (fun v1174 h1175 r1176 => ?_)
    obtain ⟨rfl, K1177, F1178, F1179, F1180⟩ := r1176
    have F1181 : Av Z h1175 a189 .int ([.int x0, .int x1, .int x2, .int (x0 ^^^ x1), .int (x1 ^^^ x2), .int (x0 + x2), .int (x0 ^^^ (-1 : Int32)), .int (-x1), .int (x2 - x0)]) := F1167.keep K1177 (ninS ne1111 (ninS ne1125 nin0))
    have F1182 : Exa Z h1175 a1104 "com/example/leaseledger/leaseledger/journal/IntColumn" := F1168.keep K1177
    have F1186 : Fld Z h1175 a1104 "com/example/leaseledger/leaseledger/journal/IntColumn" "size" "I" (.int 4) := F1179
    have F1187 : Av Z h1175 a1118 .int ([.int x0, .int x1, .int x2, .int (x0 ^^^ x1), .int 0, .int 0, .int 0, .int 0]) := F1180
    refine C.iload at_154 rfl rfl ?_
    refine C.iconst 4 at_156 rfl rfl ?_
    refine C.icmp_le_f at_157 rfl (by decide) ?_
    refine C.aload at_160 rfl rfl rfl ?_
    refine C.aload at_162 rfl rfl rfl ?_
    refine C.iconst 4 at_164 rfl rfl ?_
    refine C.iaload (.int (x1 ^^^ x2)) at_165 rfl F1181 (by decide) rfl ?_
    refine C.callV (argsL := [(.int (x1 ^^^ x2))]) (rest := []) 0 (fun zz => con_add l Z a0 hw n0 h1175 zz a1104 a1118 (x1 ^^^ x2) 4 ([.int x0, .int x1, .int x2, .int (x0 ^^^ x1), .int 0, .int 0, .int 0, .int 0]) F1182 F1178 F1186 F1187 g1110 g1123 ne1126 (by decide) (Nat.le_of_ble_eq_true rfl) (Nat.le_of_ble_eq_true rfl)) F1182 at_166 rfl (tw hw 13 rfl) (tw hw 14 rfl) (tw hw 15 rfl) (tw hw 16 rfl) (tw hw 4 rfl) (tw hw 17 rfl) (by decide) pd_4 rfl rfl rfl (Nat.le_of_eq rfl) (by decide) (by decide) (by decide) (by decide) (fun v1188 h1189 r1190 => ?_)
    obtain ⟨rfl, K1191, F1192, F1193, F1194⟩ := r1190
    have F1195 : Av Z h1189 a189 .int ([.int x0, .int x1, .int x2, .int (x0 ^^^ x1), .int (x1 ^^^ x2), .int (x0 + x2), .int (x0 ^^^ (-1 : Int32)), .int (-x1), .int (x2 - x0)]) := F1181.keep K1191 (ninS ne1111 (ninS ne1125 nin0))
    have F1196 : Exa Z h1189 a1104 "com/example/leaseledger/leaseledger/journal/IntColumn" := F1182.keep K1191
    have F1200 : Fld Z h1189 a1104 "com/example/leaseledger/leaseledger/journal/IntColumn" "size" "I" (.int 5) := F1193
    have F1201 : Av Z h1189 a1118 .int ([.int x0, .int x1, .int x2, .int (x0 ^^^ x1), .int (x1 ^^^ x2), .int 0, .int 0, .int 0]) := F1194
    refine C.iload at_169 rfl rfl ?_
    refine C.iconst 5 at_171 rfl rfl ?_
    refine C.icmp_le_f at_172 rfl (by decide) ?_
    refine C.aload at_175 rfl rfl rfl ?_
    refine C.aload at_177 rfl rfl rfl ?_
    refine C.iconst 5 at_179 rfl rfl ?_
    refine C.iaload (.int (x0 + x2)) at_180 rfl F1195 (by decide) rfl ?_
    refine C.callV (argsL := [(.int (x0 + x2))]) (rest := []) 0 (fun zz => con_add l Z a0 hw n0 h1189 zz a1104 a1118 (x0 + x2) 5 ([.int x0, .int x1, .int x2, .int (x0 ^^^ x1), .int (x1 ^^^ x2), .int 0, .int 0, .int 0]) F1196 F1192 F1200 F1201 g1110 g1123 ne1126 (by decide) (Nat.le_of_ble_eq_true rfl) (Nat.le_of_ble_eq_true rfl)) F1196 at_181 rfl (tw hw 13 rfl) (tw hw 14 rfl) (tw hw 15 rfl) (tw hw 16 rfl) (tw hw 4 rfl) (tw hw 17 rfl) (by decide) pd_4 rfl rfl rfl (Nat.le_of_eq rfl) (by decide) (by decide) (by decide) (by decide) (fun v1202 h1203 r1204 => ?_)
    obtain ⟨rfl, K1205, F1206, F1207, F1208⟩ := r1204
    have F1209 : Av Z h1203 a189 .int ([.int x0, .int x1, .int x2, .int (x0 ^^^ x1), .int (x1 ^^^ x2), .int (x0 + x2), .int (x0 ^^^ (-1 : Int32)), .int (-x1), .int (x2 - x0)]) := F1195.keep K1205 (ninS ne1111 (ninS ne1125 nin0))
    have F1210 : Exa Z h1203 a1104 "com/example/leaseledger/leaseledger/journal/IntColumn" := F1196.keep K1205
    have F1214 : Fld Z h1203 a1104 "com/example/leaseledger/leaseledger/journal/IntColumn" "size" "I" (.int 6) := F1207
    have F1215 : Av Z h1203 a1118 .int ([.int x0, .int x1, .int x2, .int (x0 ^^^ x1), .int (x1 ^^^ x2), .int (x0 + x2), .int 0, .int 0]) := F1208
    refine C.iload at_184 rfl rfl ?_
    refine C.bipush 6 at_186 rfl rfl ?_
    refine C.icmp_le_f at_188 rfl (by decide) ?_
    refine C.aload at_191 rfl rfl rfl ?_
    refine C.aload at_193 rfl rfl rfl ?_
    refine C.bipush 6 at_195 rfl rfl ?_
    refine C.iaload (.int (x0 ^^^ (-1 : Int32))) at_197 rfl F1209 (by decide) rfl ?_
    refine C.callV (argsL := [(.int (x0 ^^^ (-1 : Int32)))]) (rest := []) 0 (fun zz => con_add l Z a0 hw n0 h1203 zz a1104 a1118 (x0 ^^^ (-1 : Int32)) 6 ([.int x0, .int x1, .int x2, .int (x0 ^^^ x1), .int (x1 ^^^ x2), .int (x0 + x2), .int 0, .int 0]) F1210 F1206 F1214 F1215 g1110 g1123 ne1126 (by decide) (Nat.le_of_ble_eq_true rfl) (Nat.le_of_ble_eq_true rfl)) F1210 at_198 rfl (tw hw 13 rfl) (tw hw 14 rfl) (tw hw 15 rfl) (tw hw 16 rfl) (tw hw 4 rfl) (tw hw 17 rfl) (by decide) pd_4 rfl rfl rfl (Nat.le_of_eq rfl) (by decide) (by decide) (by decide) (by decide) (fun v1216 h1217 r1218 => ?_)
    obtain ⟨rfl, K1219, F1220, F1221, F1222⟩ := r1218
    have F1223 : Av Z h1217 a189 .int ([.int x0, .int x1, .int x2, .int (x0 ^^^ x1), .int (x1 ^^^ x2), .int (x0 + x2), .int (x0 ^^^ (-1 : Int32)), .int (-x1), .int (x2 - x0)]) := F1209.keep K1219 (ninS ne1111 (ninS ne1125 nin0))
    have F1224 : Exa Z h1217 a1104 "com/example/leaseledger/leaseledger/journal/IntColumn" := F1210.keep K1219
    have F1228 : Fld Z h1217 a1104 "com/example/leaseledger/leaseledger/journal/IntColumn" "size" "I" (.int 7) := F1221
    have F1229 : Av Z h1217 a1118 .int ([.int x0, .int x1, .int x2, .int (x0 ^^^ x1), .int (x1 ^^^ x2), .int (x0 + x2), .int (x0 ^^^ (-1 : Int32)), .int 0]) := F1222
    refine C.iload at_201 rfl rfl ?_
    refine C.bipush 7 at_203 rfl rfl ?_
    refine C.icmp_le_f at_205 rfl (by decide) ?_
    refine C.aload at_208 rfl rfl rfl ?_
    refine C.aload at_210 rfl rfl rfl ?_
    refine C.bipush 7 at_212 rfl rfl ?_
    refine C.iaload (.int (-x1)) at_214 rfl F1223 (by decide) rfl ?_
    refine C.callV (argsL := [(.int (-x1))]) (rest := []) 0 (fun zz => con_add l Z a0 hw n0 h1217 zz a1104 a1118 (-x1) 7 ([.int x0, .int x1, .int x2, .int (x0 ^^^ x1), .int (x1 ^^^ x2), .int (x0 + x2), .int (x0 ^^^ (-1 : Int32)), .int 0]) F1224 F1220 F1228 F1229 g1110 g1123 ne1126 (by decide) (Nat.le_of_ble_eq_true rfl) (Nat.le_of_ble_eq_true rfl)) F1224 at_215 rfl (tw hw 13 rfl) (tw hw 14 rfl) (tw hw 15 rfl) (tw hw 16 rfl) (tw hw 4 rfl) (tw hw 17 rfl) (by decide) pd_4 rfl rfl rfl (Nat.le_of_eq rfl) (by decide) (by decide) (by decide) (by decide) (fun v1230 h1231 r1232 => ?_)
    obtain ⟨rfl, K1233, F1234, F1235, F1236⟩ := r1232
    have F1237 : Av Z h1231 a189 .int ([.int x0, .int x1, .int x2, .int (x0 ^^^ x1), .int (x1 ^^^ x2), .int (x0 + x2), .int (x0 ^^^ (-1 : Int32)), .int (-x1), .int (x2 - x0)]) := F1223.keep K1233 (ninS ne1111 (ninS ne1125 nin0))
    have F1238 : Exa Z h1231 a1104 "com/example/leaseledger/leaseledger/journal/IntColumn" := F1224.keep K1233
    have F1242 : Fld Z h1231 a1104 "com/example/leaseledger/leaseledger/journal/IntColumn" "size" "I" (.int 8) := F1235
    have F1243 : Av Z h1231 a1118 .int ([.int x0, .int x1, .int x2, .int (x0 ^^^ x1), .int (x1 ^^^ x2), .int (x0 + x2), .int (x0 ^^^ (-1 : Int32)), .int (-x1)]) := F1236
    refine C.iload at_218 rfl rfl ?_
    refine C.bipush 8 at_220 rfl rfl ?_
    refine C.icmp_le_f at_222 rfl (by decide) ?_
    refine C.aload at_225 rfl rfl rfl ?_
    refine C.aload at_227 rfl rfl rfl ?_
    refine C.bipush 8 at_229 rfl rfl ?_
    refine C.iaload (.int (x2 - x0)) at_231 rfl F1237 (by decide) rfl ?_
    refine C.callV (argsL := [(.int (x2 - x0))]) (rest := []) 0 (fun zz => con_ag l Z a0 hw n0 h1231 zz a1104 a1118 (x2 - x0) ([.int x0, .int x1, .int x2, .int (x0 ^^^ x1), .int (x1 ^^^ x2), .int (x0 + x2), .int (x0 ^^^ (-1 : Int32)), .int (-x1)]) F1238 F1234 F1242 F1243 g1110 g1123 ne1126 rfl) F1238 at_232 rfl (tw hw 13 rfl) (tw hw 14 rfl) (tw hw 15 rfl) (tw hw 16 rfl) (tw hw 4 rfl) (tw hw 17 rfl) (by decide) pd_4 rfl rfl rfl (Nat.le_of_eq rfl) (by decide) (by decide) (by decide) (by decide) (fun v1244 h1245 r1246 => ?_)
    obtain ⟨a1247, rfl, K1248, g1252, gz1253, F1249, F1250, F1251⟩ := r1246
    have ne1254 : a189 ≠ a1247 := Nat.ne_of_lt (Nat.lt_of_lt_of_le F1237.lt gz1253)
    have ne1255 : a1104 ≠ a1247 := Nat.ne_of_lt (Nat.lt_of_lt_of_le F1238.lt gz1253)
    have ne1256 : a1118 ≠ a1247 := Nat.ne_of_lt (Nat.lt_of_lt_of_le F1243.lt gz1253)
    have F1257 : Av Z h1245 a189 .int ([.int x0, .int x1, .int x2, .int (x0 ^^^ x1), .int (x1 ^^^ x2), .int (x0 + x2), .int (x0 ^^^ (-1 : Int32)), .int (-x1), .int (x2 - x0)]) := F1237.keep K1248 (ninS ne1111 nin0)
    have F1258 : Exa Z h1245 a1104 "com/example/leaseledger/leaseledger/journal/IntColumn" := F1238.keep K1248
    have F1261 : Av Z h1245 a1118 .int ([.int x0, .int x1, .int x2, .int (x0 ^^^ x1), .int (x1 ^^^ x2), .int (x0 + x2), .int (x0 ^^^ (-1 : Int32)), .int (-x1)]) := F1243.keep K1248 (ninS (Ne.symm ne1126) nin0)
    have F1262 : Av Z h1245 a1247 .int ([.int x0, .int x1, .int x2, .int (x0 ^^^ x1), .int (x1 ^^^ x2), .int (x0 + x2), .int (x0 ^^^ (-1 : Int32)), .int (-x1), .int (x2 - x0), .int 0, .int 0, .int 0, .int 0, .int 0, .int 0, .int 0]) := F1251
    rcases own_mod9 x4 with qr | qr | qr | qr | qr | qr | qr | qr | qr
    · rw [qr]
      refine C.aload at_235 rfl rfl rfl ?_
      refine C.iload at_237 rfl rfl ?_
      refine C.callV (argsL := [(.int 0)]) (rest := []) 0 (fun zz => con_get l Z a0 hw n0 h1245 zz a1104 a1247 0 x0 9 ([.int x0, .int x1, .int x2, .int (x0 ^^^ x1), .int (x1 ^^^ x2), .int (x0 + x2), .int (x0 ^^^ (-1 : Int32)), .int (-x1), .int (x2 - x0), .int 0, .int 0, .int 0, .int 0, .int 0, .int 0, .int 0]) F1249 F1250 F1262 (by decide) (by decide) rfl) F1258 at_239 rfl (tw hw 20 rfl) (tw hw 21 rfl) (tw hw 22 rfl) (tw hw 23 rfl) (tw hw 4 rfl) (tw hw 24 rfl) (by decide) pd_5 rfl rfl rfl (Nat.le_of_eq rfl) (by decide) (by decide) (by decide) (by decide) (fun v1263 h1264 r1265 => ?_)
      obtain ⟨rfl, rfl⟩ := r1265
      refine C.aload at_242 rfl rfl rfl ?_
      refine C.iload at_244 rfl rfl ?_
      refine C.iaload (.int x0) at_246 rfl F1257 (by decide) rfl ?_
      refine C.icmp_ne_f at_247 rfl rfl ?_
      refine C.iconst 1 at_250 rfl rfl ?_
      refine C.goto at_251 (by decide) rfl ?_
      exact C.retZ at_255 rfl (by decide) (by decide) ⟨rfl, trivial⟩
    · rw [qr]
      refine C.aload at_235 rfl rfl rfl ?_
      refine C.iload at_237 rfl rfl ?_
      refine C.callV (argsL := [(.int 1)]) (rest := []) 0 (fun zz => con_get l Z a0 hw n0 h1245 zz a1104 a1247 1 x1 9 ([.int x0, .int x1, .int x2, .int (x0 ^^^ x1), .int (x1 ^^^ x2), .int (x0 + x2), .int (x0 ^^^ (-1 : Int32)), .int (-x1), .int (x2 - x0), .int 0, .int 0, .int 0, .int 0, .int 0, .int 0, .int 0]) F1249 F1250 F1262 (by decide) (by decide) rfl) F1258 at_239 rfl (tw hw 20 rfl) (tw hw 21 rfl) (tw hw 22 rfl) (tw hw 23 rfl) (tw hw 4 rfl) (tw hw 24 rfl) (by decide) pd_5 rfl rfl rfl (Nat.le_of_eq rfl) (by decide) (by decide) (by decide) (by decide) (fun v1267 h1268 r1269 => ?_)
      obtain ⟨rfl, rfl⟩ := r1269
      refine C.aload at_242 rfl rfl rfl ?_
      refine C.iload at_244 rfl rfl ?_
      refine C.iaload (.int x1) at_246 rfl F1257 (by decide) rfl ?_
      refine C.icmp_ne_f at_247 rfl rfl ?_
      refine C.iconst 1 at_250 rfl rfl ?_
      refine C.goto at_251 (by decide) rfl ?_
      exact C.retZ at_255 rfl (by decide) (by decide) ⟨rfl, trivial⟩
    · rw [qr]
      refine C.aload at_235 rfl rfl rfl ?_
      refine C.iload at_237 rfl rfl ?_
      refine C.callV (argsL := [(.int 2)]) (rest := []) 0 (fun zz => con_get l Z a0 hw n0 h1245 zz a1104 a1247 2 x2 9 ([.int x0, .int x1, .int x2, .int (x0 ^^^ x1), .int (x1 ^^^ x2), .int (x0 + x2), .int (x0 ^^^ (-1 : Int32)), .int (-x1), .int (x2 - x0), .int 0, .int 0, .int 0, .int 0, .int 0, .int 0, .int 0]) F1249 F1250 F1262 (by decide) (by decide) rfl) F1258 at_239 rfl (tw hw 20 rfl) (tw hw 21 rfl) (tw hw 22 rfl) (tw hw 23 rfl) (tw hw 4 rfl) (tw hw 24 rfl) (by decide) pd_5 rfl rfl rfl (Nat.le_of_eq rfl) (by decide) (by decide) (by decide) (by decide) (fun v1271 h1272 r1273 => ?_)
      obtain ⟨rfl, rfl⟩ := r1273
      refine C.aload at_242 rfl rfl rfl ?_
      refine C.iload at_244 rfl rfl ?_
      refine C.iaload (.int x2) at_246 rfl F1257 (by decide) rfl ?_
      refine C.icmp_ne_f at_247 rfl rfl ?_
      refine C.iconst 1 at_250 rfl rfl ?_
      refine C.goto at_251 (by decide) rfl ?_
      exact C.retZ at_255 rfl (by decide) (by decide) ⟨rfl, trivial⟩
    · rw [qr]
      refine C.aload at_235 rfl rfl rfl ?_
      refine C.iload at_237 rfl rfl ?_
      refine C.callV (argsL := [(.int 3)]) (rest := []) 0 (fun zz => con_get l Z a0 hw n0 h1245 zz a1104 a1247 3 (x0 ^^^ x1) 9 ([.int x0, .int x1, .int x2, .int (x0 ^^^ x1), .int (x1 ^^^ x2), .int (x0 + x2), .int (x0 ^^^ (-1 : Int32)), .int (-x1), .int (x2 - x0), .int 0, .int 0, .int 0, .int 0, .int 0, .int 0, .int 0]) F1249 F1250 F1262 (by decide) (by decide) rfl) F1258 at_239 rfl (tw hw 20 rfl) (tw hw 21 rfl) (tw hw 22 rfl) (tw hw 23 rfl) (tw hw 4 rfl) (tw hw 24 rfl) (by decide) pd_5 rfl rfl rfl (Nat.le_of_eq rfl) (by decide) (by decide) (by decide) (by decide) (fun v1275 h1276 r1277 => ?_)
      obtain ⟨rfl, rfl⟩ := r1277
      refine C.aload at_242 rfl rfl rfl ?_
      refine C.iload at_244 rfl rfl ?_
      refine C.iaload (.int (x0 ^^^ x1)) at_246 rfl F1257 (by decide) rfl ?_
      refine C.icmp_ne_f at_247 rfl rfl ?_
      refine C.iconst 1 at_250 rfl rfl ?_
      refine C.goto at_251 (by decide) rfl ?_
      exact C.retZ at_255 rfl (by decide) (by decide) ⟨rfl, trivial⟩
    · rw [qr]
      refine C.aload at_235 rfl rfl rfl ?_
      refine C.iload at_237 rfl rfl ?_
      refine C.callV (argsL := [(.int 4)]) (rest := []) 0 (fun zz => con_get l Z a0 hw n0 h1245 zz a1104 a1247 4 (x1 ^^^ x2) 9 ([.int x0, .int x1, .int x2, .int (x0 ^^^ x1), .int (x1 ^^^ x2), .int (x0 + x2), .int (x0 ^^^ (-1 : Int32)), .int (-x1), .int (x2 - x0), .int 0, .int 0, .int 0, .int 0, .int 0, .int 0, .int 0]) F1249 F1250 F1262 (by decide) (by decide) rfl) F1258 at_239 rfl (tw hw 20 rfl) (tw hw 21 rfl) (tw hw 22 rfl) (tw hw 23 rfl) (tw hw 4 rfl) (tw hw 24 rfl) (by decide) pd_5 rfl rfl rfl (Nat.le_of_eq rfl) (by decide) (by decide) (by decide) (by decide) (fun v1279 h1280 r1281 => ?_)
      obtain ⟨rfl, rfl⟩ := r1281
      refine C.aload at_242 rfl rfl rfl ?_
      refine C.iload at_244 rfl rfl ?_
      refine C.iaload (.int (x1 ^^^ x2)) at_246 rfl F1257 (by decide) rfl ?_
      refine C.icmp_ne_f at_247 rfl rfl ?_
      refine C.iconst 1 at_250 rfl rfl ?_
      refine C.goto at_251 (by decide) rfl ?_
      exact C.retZ at_255 rfl (by decide) (by decide) ⟨rfl, trivial⟩
    · rw [qr]
      refine C.aload at_235 rfl rfl rfl ?_
      refine C.iload at_237 rfl rfl ?_
      refine C.callV (argsL := [(.int 5)]) (rest := []) 0 (fun zz => con_get l Z a0 hw n0 h1245 zz a1104 a1247 5 (x0 + x2) 9 ([.int x0, .int x1, .int x2, .int (x0 ^^^ x1), .int (x1 ^^^ x2), .int (x0 + x2), .int (x0 ^^^ (-1 : Int32)), .int (-x1), .int (x2 - x0), .int 0, .int 0, .int 0, .int 0, .int 0, .int 0, .int 0]) F1249 F1250 F1262 (by decide) (by decide) rfl) F1258 at_239 rfl (tw hw 20 rfl) (tw hw 21 rfl) (tw hw 22 rfl) (tw hw 23 rfl) (tw hw 4 rfl) (tw hw 24 rfl) (by decide) pd_5 rfl rfl rfl (Nat.le_of_eq rfl) (by decide) (by decide) (by decide) (by decide) (fun v1283 h1284 r1285 => ?_)
      obtain ⟨rfl, rfl⟩ := r1285
      refine C.aload at_242 rfl rfl rfl ?_
      refine C.iload at_244 rfl rfl ?_
      refine C.iaload (.int (x0 + x2)) at_246 rfl F1257 (by decide) rfl ?_
      refine C.icmp_ne_f at_247 rfl rfl ?_
      refine C.iconst 1 at_250 rfl rfl ?_
      refine C.goto at_251 (by decide) rfl ?_
      exact C.retZ at_255 rfl (by decide) (by decide) ⟨rfl, trivial⟩
    · rw [qr]
      refine C.aload at_235 rfl rfl rfl ?_
      refine C.iload at_237 rfl rfl ?_
      refine C.callV (argsL := [(.int 6)]) (rest := []) 0 (fun zz => con_get l Z a0 hw n0 h1245 zz a1104 a1247 6 (x0 ^^^ (-1 : Int32)) 9 ([.int x0, .int x1, .int x2, .int (x0 ^^^ x1), .int (x1 ^^^ x2), .int (x0 + x2), .int (x0 ^^^ (-1 : Int32)), .int (-x1), .int (x2 - x0), .int 0, .int 0, .int 0, .int 0, .int 0, .int 0, .int 0]) F1249 F1250 F1262 (by decide) (by decide) rfl) F1258 at_239 rfl (tw hw 20 rfl) (tw hw 21 rfl) (tw hw 22 rfl) (tw hw 23 rfl) (tw hw 4 rfl) (tw hw 24 rfl) (by decide) pd_5 rfl rfl rfl (Nat.le_of_eq rfl) (by decide) (by decide) (by decide) (by decide) (fun v1287 h1288 r1289 => ?_)
      obtain ⟨rfl, rfl⟩ := r1289
      refine C.aload at_242 rfl rfl rfl ?_
      refine C.iload at_244 rfl rfl ?_
      refine C.iaload (.int (x0 ^^^ (-1 : Int32))) at_246 rfl F1257 (by decide) rfl ?_
      refine C.icmp_ne_f at_247 rfl rfl ?_
      refine C.iconst 1 at_250 rfl rfl ?_
      refine C.goto at_251 (by decide) rfl ?_
      exact C.retZ at_255 rfl (by decide) (by decide) ⟨rfl, trivial⟩
    · rw [qr]
      refine C.aload at_235 rfl rfl rfl ?_
      refine C.iload at_237 rfl rfl ?_
      refine C.callV (argsL := [(.int 7)]) (rest := []) 0 (fun zz => con_get l Z a0 hw n0 h1245 zz a1104 a1247 7 (-x1) 9 ([.int x0, .int x1, .int x2, .int (x0 ^^^ x1), .int (x1 ^^^ x2), .int (x0 + x2), .int (x0 ^^^ (-1 : Int32)), .int (-x1), .int (x2 - x0), .int 0, .int 0, .int 0, .int 0, .int 0, .int 0, .int 0]) F1249 F1250 F1262 (by decide) (by decide) rfl) F1258 at_239 rfl (tw hw 20 rfl) (tw hw 21 rfl) (tw hw 22 rfl) (tw hw 23 rfl) (tw hw 4 rfl) (tw hw 24 rfl) (by decide) pd_5 rfl rfl rfl (Nat.le_of_eq rfl) (by decide) (by decide) (by decide) (by decide) (fun v1291 h1292 r1293 => ?_)
      obtain ⟨rfl, rfl⟩ := r1293
      refine C.aload at_242 rfl rfl rfl ?_
      refine C.iload at_244 rfl rfl ?_
      refine C.iaload (.int (-x1)) at_246 rfl F1257 (by decide) rfl ?_
      refine C.icmp_ne_f at_247 rfl rfl ?_
      refine C.iconst 1 at_250 rfl rfl ?_
      refine C.goto at_251 (by decide) rfl ?_
      exact C.retZ at_255 rfl (by decide) (by decide) ⟨rfl, trivial⟩
    · rw [qr]
      refine C.aload at_235 rfl rfl rfl ?_
      refine C.iload at_237 rfl rfl ?_
      refine C.callV (argsL := [(.int 8)]) (rest := []) 0 (fun zz => con_get l Z a0 hw n0 h1245 zz a1104 a1247 8 (x2 - x0) 9 ([.int x0, .int x1, .int x2, .int (x0 ^^^ x1), .int (x1 ^^^ x2), .int (x0 + x2), .int (x0 ^^^ (-1 : Int32)), .int (-x1), .int (x2 - x0), .int 0, .int 0, .int 0, .int 0, .int 0, .int 0, .int 0]) F1249 F1250 F1262 (by decide) (by decide) rfl) F1258 at_239 rfl (tw hw 20 rfl) (tw hw 21 rfl) (tw hw 22 rfl) (tw hw 23 rfl) (tw hw 4 rfl) (tw hw 24 rfl) (by decide) pd_5 rfl rfl rfl (Nat.le_of_eq rfl) (by decide) (by decide) (by decide) (by decide) (fun v1295 h1296 r1297 => ?_)
      obtain ⟨rfl, rfl⟩ := r1297
      refine C.aload at_242 rfl rfl rfl ?_
      refine C.iload at_244 rfl rfl ?_
      refine C.iaload (.int (x2 - x0)) at_246 rfl F1257 (by decide) rfl ?_
      refine C.icmp_ne_f at_247 rfl rfl ?_
      refine C.iconst 1 at_250 rfl rfl ?_
      refine C.goto at_251 (by decide) rfl ?_
      exact C.retZ at_255 rfl (by decide) (by decide) ⟨rfl, trivial⟩
set_option maxRecDepth 65536 in
set_option maxHeartbeats 40000000 in
theorem comes_1 {Post : Tables → Env → Array Value → State → Outcome → State → Prop} (hpost : ∀ tb e args s v u, (limb_1_1.after args s (.returned v) u = true ∧ limb_1_2.after args s (.returned v) u = true ∧ True) → FrameEnd s (.returned v) u (Jvm.fieldLocs frame_1_writes args s ++ Jvm.arrayLocs frame_1_arrays args s ++ Jvm.staticLocs frame_1_statics s) 16 192 → Post tb e args s (.returned v) u) :
    ArmFor flags0 classFile x code maxLocals ret World_1 tables_1 room_1 Calls_1 rest_1 Pre_1 Post := by
  intro l hfl _ _ p e ha hc hk s m args below hf hA hF happ hP
  obtain ⟨hcalls, hrest, hpre⟩ := hP
  obtain ⟨-, -, -, hnamed, -, -, -, hat⟩ := (Spec.applies_iff hf).mp happ
  obtain ⟨hg, hn⟩ := and_e (Cond.before_iff.mp (show (Jvm.Cond.and given_1 narrow_1).before args s = true from hpre))
  obtain ⟨h1, h2⟩ := and_e hg
  obtain ⟨w0, w1, w2, w3, w4, rfl⟩ : ∃ w0 w1 w2 w3 w4 : Value, args = #[w0, w1, w2, w3, w4] := by
    have hs : args.size = 5 := by simpa [Cond.value, given_1] using h1
    obtain ⟨L⟩ := args
    match L, hs with
    | [w0, w1, w2, w3, w4], _ => exact ⟨w0, w1, w2, w3, w4, rfl⟩
  have hw := fun d (hd : d ∈ tables_1) => atoms_spec (ws := Jvm.Cond.code x code maxLocals ret :: tables_1) hat d (List.mem_cons_of_mem _ hd)
  obtain ⟨u0, t0⟩ := and_e h2
  obtain ⟨i0, e0⟩ := is_v u0
  obtain rfl : w0 = (.int i0) := Option.some.inj e0
  obtain ⟨u1, t1⟩ := and_e t0
  obtain ⟨i1, e1⟩ := is_v u1
  obtain rfl : w1 = (.int i1) := Option.some.inj e1
  obtain ⟨u2, t2⟩ := and_e t1
  obtain ⟨i2, e2⟩ := is_v u2
  obtain rfl : w2 = (.int i2) := Option.some.inj e2
  obtain ⟨u3, t3⟩ := and_e t2
  obtain ⟨i3, e3⟩ := is_v u3
  obtain rfl : w3 = (.int i3) := Option.some.inj e3
  obtain ⟨i4, e4⟩ := is_v t3
  obtain rfl : w4 = (.int i4) := Option.some.inj e4
  obtain ⟨n, o, h1, h2, h3, _, L, rfl, ⟨⟨rfl, -⟩, N⟩, hq⟩ := con0 l s _ hw s.heap.size s.heap (Nat.le_refl _) i0 i1 i2 i3 i4 p e ha hc hk s m _ below hf ((Spec.applies_iff_loose hf).mp happ).1 ⟨rfl, State.Warmed39.refl s, rfl⟩ trivial
  refine ⟨n, _, h1, h2, h3, hpost _ _ _ _ _ _ ⟨Cond.after_iff.mpr rfl, Cond.after_iff.mpr (eq_i res_at (Term.int_eval (1)) rfl), trivial⟩ ⟨hq.1, hq.2.1, (hq.2.2.sift fun y hy => Or.inr (N y hy)).mono (by decide) (by decide)⟩⟩
theorem main_1_1 : Claimed_1_1 := comes_1 fun _ _ _ _ _ _ h hF => ⟨h.1, hF⟩
theorem main_1_2 : Claimed_1_2 := comes_1 fun _ _ _ _ _ _ h hF => ⟨h.2.1, hF⟩
end Jvm.Pilot.@@N@@
namespace Jvm.Pilot.@@N@@
open Jvm Jvm.ClassFile Sem Op Lib Jvm.Free Jvm.Stand Jvm.Pilot.@@N@@.Jvm.D
/-! MADE BY PROGRAM (witnessworld.py) out of the Statement's table words and the real class files: 14 classes; the members and pool entries that the words name. The judged class is class 1, her method 1. -/
namespace start1
open Jvm.ClassFile
def u (s : String) : CpInfo := .utf8 (stringToUtf16 s)
/-- a pool by its gaps: so many unusable entries, then the entry; so many at the end -/
def gap : Nat → List CpInfo → List CpInfo
  | 0, r => r
  | n + 1, r => .unusable :: gap n r
def poolList (es : List (Nat × CpInfo)) (last : Nat) : List CpInfo := es.foldr (fun e r => gap e.1 (e.2 :: r)) (gap last [])
def pool (es : List (Nat × CpInfo)) (last : Nat) : Array CpInfo := ⟨poolList es last⟩
def fileOf (pool : Array CpInfo) (this : Nat) (attrs : Array Attribute := #[]) (ms : Array MethodInfo := #[]) (fl : Nat := 33) (sup : Nat := 0) (ifs : Array Nat := #[]) (fds : Array FieldInfo := #[]) : ClassFile where
  minorVersion := 0
  majorVersion := 65
  constantPool := pool
  accessFlags := fl
  thisClass := this
  superClass := sup
  interfaces := ifs
  fields := fds
  methods := ms
  attributes := attrs
def plain (name : String) (sup : Option ClassId) : Class where
  name := name
  kind := .ordinary
  loader := none
  accessFlags := 33
  super := sup
  interfaces := #[]
  cf := none
  fields := #[]
  methods := #[]
  instanceTypes := #[]
  staticTypes := #[]
  resolved := #[]
  callSites := []
  init := .initialized
  statics := none
  mirror := none

def pool0 : Array CpInfo := pool [(5, u "<init>"), (0, u "()V"), (1, .class_ 10), (1, u "java/lang/Object")] 113

def k0c0 : Code := { maxStack := 0, maxLocals := 1, code := object_method_1_code, exceptionTable := #[], attributes := #[] }
def k0m0 : Method := { name := "<init>", desc := "()V", sig := { parameters := [], returnType := none }, accessFlags := 1, code := some k0c0 }
/-- java/lang/Object -/
def k0 : Class := { plain "java/lang/Object" none with
  accessFlags := 33
  interfaces := #[]
  cf := some (fileOf pool0 8 #[] #[{ accessFlags := 1, nameIndex := 5, descriptorIndex := 6, attributes := #[] }] 33 0 #[] #[])
  fields := #[]
  methods := #[k0m0]
  instanceTypes := #[]
  staticTypes := #[]
  resolved := Array.replicate 124 none
  statics := none }

def pool1 : Array CpInfo := pool [(2, .class_ 4), (0, .nameAndType 5 6), (0, u "java/lang/Object"), (0, u "<init>"), (0, u "()V"), (0, .integer 2147483647), (0, .class_ 9), (0, u "com/example/leaseledger/leaseledger/journal/IntColumn"), (0, .methodref 8 3), (0, .methodref 8 12), (0, .nameAndType 13 14), (0, u "add"), (0, u "(I)V"), (0, .methodref 8 16), (0, .nameAndType 17 18), (0, u "get"), (0, u "(I)I"), (0, .class_ 20), (0, u "com/example/leaseledger/leaseledger/journal/IntColumnGetPinLaw"), (2, u "law"), (0, u "(IIIII)Z")] 5

def k1m0 : Method := { name := "<init>", desc := "()V", sig := { parameters := [], returnType := none }, accessFlags := 1, code := none }
def k1c1 : Code := { maxStack := 4, maxLocals := 9, code := code, exceptionTable := #[], attributes := #[] }
def k1m1 : Method := { name := "law", desc := "(IIIII)Z", sig := { parameters := [.int, .int, .int, .int, .int], returnType := some .boolean }, accessFlags := 9, code := some k1c1 }
/-- com/example/leaseledger/leaseledger/journal/IntColumnGetPinLaw -/
def k1 : Class := { plain "com/example/leaseledger/leaseledger/journal/IntColumnGetPinLaw" (some 0) with
  accessFlags := 49
  interfaces := #[]
  cf := some (fileOf pool1 19 #[] #[{ accessFlags := 1, nameIndex := 5, descriptorIndex := 6, attributes := #[] }, { accessFlags := 9, nameIndex := 23, descriptorIndex := 24, attributes := #[] }] 49 2 #[] #[])
  fields := #[]
  methods := #[k1m0, k1m1]
  instanceTypes := #[]
  staticTypes := #[]
  resolved := Array.replicate 30 none
  statics := none }

def pool2 : Array CpInfo := pool [(1, .methodref 2 3), (0, .class_ 4), (0, .nameAndType 5 6), (0, u "java/lang/Object"), (0, u "<init>"), (0, u "()V"), (0, .class_ 8), (0, u "com/example/leaseledger/leaseledger/journal/IntColumn"), (0, .fieldref 7 10), (0, .nameAndType 11 12), (0, u "values"), (0, u "[I"), (0, .fieldref 7 14), (0, .nameAndType 15 16), (0, u "size"), (0, u "I"), (0, .methodref 18 19), (0, .class_ 20), (0, .nameAndType 21 22), (0, u "java/util/Arrays"), (0, u "copyOf"), (0, u "([II)[I"), (0, .methodref 24 25), (0, .class_ 26), (0, .nameAndType 27 28), (0, u "java/util/Objects"), (0, u "checkIndex"), (0, u "(II)I"), (0, u "NO_ROW"), (2, u "FIRST_CAPACITY"), (4, u "add"), (0, u "(I)V"), (1, u "get"), (0, u "(I)I")] 4

def k2c0 : Code := { maxStack := 2, maxLocals := 1, code := prog_18_method_1_code, exceptionTable := #[], attributes := #[] }
def k2m0 : Method := { name := "<init>", desc := "()V", sig := { parameters := [], returnType := none }, accessFlags := 0, code := some k2c0 }
def k2c1 : Code := { maxStack := 5, maxLocals := 2, code := prog_18_method_3_code, exceptionTable := #[], attributes := #[] }
def k2m1 : Method := { name := "add", desc := "(I)V", sig := { parameters := [.int], returnType := none }, accessFlags := 0, code := some k2c1 }
def k2c2 : Code := { maxStack := 3, maxLocals := 2, code := prog_18_method_4_code, exceptionTable := #[], attributes := #[] }
def k2m2 : Method := { name := "get", desc := "(I)I", sig := { parameters := [.int], returnType := some .int }, accessFlags := 0, code := some k2c2 }
/-- com/example/leaseledger/leaseledger/journal/IntColumn -/
def k2 : Class := { plain "com/example/leaseledger/leaseledger/journal/IntColumn" (some 0) with
  accessFlags := 48
  interfaces := #[]
  cf := some (fileOf pool2 7 #[] #[{ accessFlags := 0, nameIndex := 5, descriptorIndex := 6, attributes := #[] }, { accessFlags := 0, nameIndex := 37, descriptorIndex := 38, attributes := #[] }, { accessFlags := 0, nameIndex := 40, descriptorIndex := 41, attributes := #[] }] 48 2 #[] #[{ accessFlags := 24, nameIndex := 29, descriptorIndex := 16, attributes := #[] }, { accessFlags := 26, nameIndex := 32, descriptorIndex := 16, attributes := #[] }, { accessFlags := 2, nameIndex := 11, descriptorIndex := 12, attributes := #[] }, { accessFlags := 2, nameIndex := 15, descriptorIndex := 16, attributes := #[] }])
  fields := #[{ name := "NO_ROW", type := .int, accessFlags := 24, slot := 0, constantValue := 0 }, { name := "FIRST_CAPACITY", type := .int, accessFlags := 26, slot := 1, constantValue := 0 }, { name := "values", type := (.array .int), accessFlags := 2, slot := 0, constantValue := 0 }, { name := "size", type := .int, accessFlags := 2, slot := 1, constantValue := 0 }]
  methods := #[k2m0, k2m1, k2m2]
  instanceTypes := #[(.array .int), .int]
  staticTypes := #[.int, .int]
  resolved := Array.replicate 46 none
  statics := none }

def pool3 : Array CpInfo := pool [(2, .class_ 4), (1, u "java/lang/Object"), (0, u "<init>"), (0, u "()V"), (35, .class_ 44), (1, u "java/util/Objects"), (60, .methodref 106 107), (0, .class_ 108), (0, .nameAndType 109 110), (0, u "jdk/internal/util/Preconditions"), (0, u "checkIndex"), (0, u "(IILjava/util/function/BiFunction;)I"), (60, u "(II)I")] 12

def k3m0 : Method := { name := "<init>", desc := "()V", sig := { parameters := [], returnType := none }, accessFlags := 2, code := none }
def k3c1 : Code := { maxStack := 3, maxLocals := 2, code := jdk_31_method_17_code, exceptionTable := #[], attributes := #[] }
def k3m1 : Method := { name := "checkIndex", desc := "(II)I", sig := { parameters := [.int, .int], returnType := some .int }, accessFlags := 9, code := some k3c1 }
/-- java/util/Objects -/
def k3 : Class := { plain "java/util/Objects" (some 0) with
  accessFlags := 49
  interfaces := #[]
  cf := some (fileOf pool3 42 #[] #[{ accessFlags := 2, nameIndex := 5, descriptorIndex := 6, attributes := #[] }, { accessFlags := 9, nameIndex := 109, descriptorIndex := 171, attributes := #[] }] 49 2 #[] #[])
  fields := #[]
  methods := #[k3m0, k3m1]
  instanceTypes := #[]
  staticTypes := #[]
  resolved := Array.replicate 184 none
  statics := none }

def pool4 : Array CpInfo := pool [(2, .class_ 4), (1, u "java/lang/Object"), (0, u "<init>"), (0, u "()V"), (17, .class_ 26), (1, u "jdk/internal/util/Preconditions"), (6, u "checkIndex"), (21, .class_ 56), (0, u "jdk/internal/util/Preconditions$4"), (57, .class_ 115), (0, u "jdk/internal/util/Preconditions$1"), (7, u "SIOOBE_FORMATTER"), (0, u "Ljava/util/function/BiFunction;"), (0, .class_ 126), (0, u "jdk/internal/util/Preconditions$2"), (3, u "AIOOBE_FORMATTER"), (0, .class_ 132), (0, u "jdk/internal/util/Preconditions$3"), (3, u "IOOBE_FORMATTER"), (41, u "(IILjava/util/function/BiFunction;)I")] 15

def k4m0 : Method := { name := "<init>", desc := "()V", sig := { parameters := [], returnType := none }, accessFlags := 1, code := none }
def k4c1 : Code := { maxStack := 3, maxLocals := 3, code := jdk_41_method_11_code, exceptionTable := #[], attributes := #[] }
def k4m1 : Method := { name := "checkIndex", desc := "(IILjava/util/function/BiFunction;)I", sig := { parameters := [.int, .int, (.object "java/util/function/BiFunction")], returnType := some .int }, accessFlags := 9, code := some k4c1 }
/-- jdk/internal/util/Preconditions -/
def k4 : Class := { plain "jdk/internal/util/Preconditions" (some 0) with
  accessFlags := 33
  interfaces := #[]
  cf := some (fileOf pool4 24 #[.nestMembers #[55, 131, 125, 114]] #[{ accessFlags := 1, nameIndex := 5, descriptorIndex := 6, attributes := #[] }, { accessFlags := 9, nameIndex := 33, descriptorIndex := 178, attributes := #[] }] 33 2 #[] #[{ accessFlags := 25, nameIndex := 123, descriptorIndex := 124, attributes := #[] }, { accessFlags := 25, nameIndex := 130, descriptorIndex := 124, attributes := #[] }, { accessFlags := 25, nameIndex := 136, descriptorIndex := 124, attributes := #[] }])
  fields := #[{ name := "SIOOBE_FORMATTER", type := (.object "java/util/function/BiFunction"), accessFlags := 25, slot := 0, constantValue := 0 }, { name := "AIOOBE_FORMATTER", type := (.object "java/util/function/BiFunction"), accessFlags := 25, slot := 1, constantValue := 0 }, { name := "IOOBE_FORMATTER", type := (.object "java/util/function/BiFunction"), accessFlags := 25, slot := 2, constantValue := 0 }]
  methods := #[k4m0, k4m1]
  instanceTypes := #[]
  staticTypes := #[(.object "java/util/function/BiFunction"), (.object "java/util/function/BiFunction"), (.object "java/util/function/BiFunction")]
  resolved := Array.replicate 194 none
  statics := none }

def pool5 : Array CpInfo := pool [(2, .class_ 4), (1, u "java/lang/Object"), (0, u "<init>"), (0, u "()V"), (7, .class_ 16), (1, u "java/util/Arrays"), (57, .class_ 76), (1, u "java/util/Arrays$NaturalOrder"), (36, .class_ 115), (1, u "java/util/Arrays$LegacyMergeSort"), (1, u "Z"), (32, .methodref 151 152), (0, .class_ 153), (0, .nameAndType 154 155), (0, u "java/lang/System"), (0, u "arraycopy"), (0, u "(Ljava/lang/Object;ILjava/lang/Object;II)V"), (146, u "copyOf"), (1, .methodref 305 306), (0, .class_ 307), (0, .nameAndType 308 309), (0, u "java/lang/Math"), (0, u "min"), (0, u "(II)I"), (65, .class_ 376), (0, u "java/util/Arrays$ArrayList"), (68, u "$assertionsDisabled"), (269, u "MIN_ARRAY_SORT_GRAN"), (0, u "I"), (2, u "INSERTIONSORT_THRESHOLD"), (151, u "([II)[I"), (103, .class_ 976), (0, u "java/util/Arrays$ArrayItr")] 52

def k5m0 : Method := { name := "<init>", desc := "()V", sig := { parameters := [], returnType := none }, accessFlags := 2, code := none }
def k5c1 : Code := { maxStack := 6, maxLocals := 3, code := jdk_65_method_123_code, exceptionTable := #[], attributes := #[] }
def k5m1 : Method := { name := "copyOf", desc := "([II)[I", sig := { parameters := [(.array .int), .int], returnType := some (.array .int) }, accessFlags := 9, code := some k5c1 }
/-- java/util/Arrays -/
def k5 : Class := { plain "java/util/Arrays" (some 0) with
  accessFlags := 49
  interfaces := #[]
  cf := some (fileOf pool5 14 #[.nestMembers #[975, 375, 113, 74]] #[{ accessFlags := 2, nameIndex := 5, descriptorIndex := 6, attributes := #[] }, { accessFlags := 9, nameIndex := 302, descriptorIndex := 871, attributes := #[] }] 49 2 #[] #[{ accessFlags := 26, nameIndex := 715, descriptorIndex := 716, attributes := #[] }, { accessFlags := 26, nameIndex := 719, descriptorIndex := 716, attributes := #[] }, { accessFlags := 4120, nameIndex := 445, descriptorIndex := 117, attributes := #[] }])
  fields := #[{ name := "MIN_ARRAY_SORT_GRAN", type := .int, accessFlags := 26, slot := 0, constantValue := 0 }, { name := "INSERTIONSORT_THRESHOLD", type := .int, accessFlags := 26, slot := 1, constantValue := 0 }, { name := "$assertionsDisabled", type := .boolean, accessFlags := 4120, slot := 2, constantValue := 0 }]
  methods := #[k5m0, k5m1]
  instanceTypes := #[]
  staticTypes := #[.int, .int, .boolean]
  resolved := Array.replicate 1029 none
  statics := none }

def pool6 : Array CpInfo := pool [(1, .class_ 2), (0, u "java/lang/Math"), (1, .class_ 6), (1, u "java/lang/Object"), (0, u "<init>"), (0, u "()V"), (89, .class_ 100), (1, u "java/lang/Math$RandomNumberGeneratorHolder"), (71, u "negativeZeroFloatBits"), (0, u "J"), (2, u "negativeZeroDoubleBits"), (24, u "min"), (43, u "$assertionsDisabled"), (0, u "Z"), (88, u "(II)I"), (2, u "twoToTheDoubleScaleDown"), (0, u "D"), (4, u "twoToTheDoubleScaleUp"), (9, u "E"), (3, u "PI"), (2, u "TAU"), (2, u "DEGREES_TO_RADIANS"), (0, u "RADIANS_TO_DEGREES")] 94

def k6m0 : Method := { name := "<init>", desc := "()V", sig := { parameters := [], returnType := none }, accessFlags := 2, code := none }
def k6c1 : Code := { maxStack := 2, maxLocals := 2, code := jdk_29_method_69_code, exceptionTable := #[], attributes := #[] }
def k6m1 : Method := { name := "min", desc := "(II)I", sig := { parameters := [.int, .int], returnType := some .int }, accessFlags := 9, code := some k6c1 }
/-- java/lang/Math -/
def k6 : Class := { plain "java/lang/Math" (some 0) with
  accessFlags := 49
  interfaces := #[]
  cf := some (fileOf pool6 1 #[.nestMembers #[98]] #[{ accessFlags := 2, nameIndex := 7, descriptorIndex := 8, attributes := #[] }, { accessFlags := 9, nameIndex := 201, descriptorIndex := 335, attributes := #[] }] 49 4 #[] #[{ accessFlags := 25, nameIndex := 354, descriptorIndex := 339, attributes := #[] }, { accessFlags := 25, nameIndex := 358, descriptorIndex := 339, attributes := #[] }, { accessFlags := 25, nameIndex := 361, descriptorIndex := 339, attributes := #[] }, { accessFlags := 26, nameIndex := 364, descriptorIndex := 339, attributes := #[] }, { accessFlags := 26, nameIndex := 365, descriptorIndex := 339, attributes := #[] }, { accessFlags := 26, nameIndex := 172, descriptorIndex := 173, attributes := #[] }, { accessFlags := 26, nameIndex := 176, descriptorIndex := 173, attributes := #[] }, { accessFlags := 8, nameIndex := 344, descriptorIndex := 339, attributes := #[] }, { accessFlags := 8, nameIndex := 338, descriptorIndex := 339, attributes := #[] }, { accessFlags := 4120, nameIndex := 245, descriptorIndex := 246, attributes := #[] }])
  fields := #[{ name := "E", type := .double, accessFlags := 25, slot := 0, constantValue := 0 }, { name := "PI", type := .double, accessFlags := 25, slot := 1, constantValue := 0 }, { name := "TAU", type := .double, accessFlags := 25, slot := 2, constantValue := 0 }, { name := "DEGREES_TO_RADIANS", type := .double, accessFlags := 26, slot := 3, constantValue := 0 }, { name := "RADIANS_TO_DEGREES", type := .double, accessFlags := 26, slot := 4, constantValue := 0 }, { name := "negativeZeroFloatBits", type := .long, accessFlags := 26, slot := 5, constantValue := 0 }, { name := "negativeZeroDoubleBits", type := .long, accessFlags := 26, slot := 6, constantValue := 0 }, { name := "twoToTheDoubleScaleUp", type := .double, accessFlags := 8, slot := 7, constantValue := 0 }, { name := "twoToTheDoubleScaleDown", type := .double, accessFlags := 8, slot := 8, constantValue := 0 }, { name := "$assertionsDisabled", type := .boolean, accessFlags := 4120, slot := 9, constantValue := 0 }]
  methods := #[k6m0, k6m1]
  instanceTypes := #[]
  staticTypes := #[.double, .double, .double, .double, .double, .long, .long, .double, .double, .boolean]
  resolved := Array.replicate 460 none
  statics := none }

def pool7 : Array CpInfo := pool [(2, .class_ 4), (1, u "java/lang/Object"), (0, u "<init>"), (0, u "()V"), (1, .class_ 10), (1, u "java/lang/System"), (0, u "allowSecurityManager"), (0, u "I"), (16, u "cons"), (0, u "Ljava/io/Console;"), (77, .class_ 110), (1, u "java/lang/System$CallersHolder"), (43, u "initialErrStream"), (0, u "Ljava/io/PrintStream;"), (19, u "security"), (0, u "Ljava/lang/SecurityManager;"), (31, .class_ 209), (0, u "java/lang/System$1"), (7, u "props"), (0, u "Ljava/util/Properties;"), (2, u "lineSeparator"), (0, u "Ljava/lang/String;"), (96, .class_ 321), (1, u "java/lang/System$LoggerFinder"), (5, .class_ 328), (0, u "java/lang/System$Logger"), (67, u "err"), (2, u "out"), (91, u "notSupportedJnuEncoding"), (15, u "in"), (17, u "initialIn"), (0, u "Ljava/io/InputStream;"), (35, u "bootLayer"), (0, u "Ljava/lang/ModuleLayer;"), (99, .class_ 664), (0, u "java/lang/System$2"), (9, u "NEVER"), (2, u "MAYBE"), (49, u "arraycopy"), (0, u "(Ljava/lang/Object;ILjava/lang/Object;II)V"), (72, .class_ 802), (0, u "java/lang/System$Logger$Level")] 31

def k7m0 : Method := { name := "<init>", desc := "()V", sig := { parameters := [], returnType := none }, accessFlags := 2, code := none }
def k7m1 : Method := { name := "arraycopy", desc := "(Ljava/lang/Object;ILjava/lang/Object;II)V", sig := { parameters := [(.object "java/lang/Object"), .int, (.object "java/lang/Object"), .int, .int], returnType := none }, accessFlags := 265, code := none }
/-- java/lang/System -/
def k7 : Class := { plain "java/lang/System" (some 0) with
  accessFlags := 49
  interfaces := #[]
  cf := some (fileOf pool7 8 #[.nestMembers #[319, 327, 801, 108, 663, 208]] #[{ accessFlags := 2, nameIndex := 5, descriptorIndex := 6, attributes := #[] }, { accessFlags := 265, nameIndex := 727, descriptorIndex := 728, attributes := #[] }] 49 2 #[] #[{ accessFlags := 25, nameIndex := 507, descriptorIndex := 526, attributes := #[] }, { accessFlags := 25, nameIndex := 399, descriptorIndex := 155, attributes := #[] }, { accessFlags := 25, nameIndex := 396, descriptorIndex := 155, attributes := #[] }, { accessFlags := 10, nameIndex := 525, descriptorIndex := 526, attributes := #[] }, { accessFlags := 26, nameIndex := 674, descriptorIndex := 12, attributes := #[] }, { accessFlags := 26, nameIndex := 677, descriptorIndex := 12, attributes := #[] }, { accessFlags := 10, nameIndex := 11, descriptorIndex := 12, attributes := #[] }, { accessFlags := 74, nameIndex := 175, descriptorIndex := 176, attributes := #[] }, { accessFlags := 10, nameIndex := 491, descriptorIndex := 222, attributes := #[] }, { accessFlags := 74, nameIndex := 29, descriptorIndex := 30, attributes := #[] }, { accessFlags := 74, nameIndex := 154, descriptorIndex := 155, attributes := #[] }, { accessFlags := 10, nameIndex := 217, descriptorIndex := 218, attributes := #[] }, { accessFlags := 10, nameIndex := 221, descriptorIndex := 222, attributes := #[] }, { accessFlags := 8, nameIndex := 562, descriptorIndex := 563, attributes := #[] }])
  fields := #[{ name := "in", type := (.object "java/io/InputStream"), accessFlags := 25, slot := 0, constantValue := 0 }, { name := "out", type := (.object "java/io/PrintStream"), accessFlags := 25, slot := 1, constantValue := 0 }, { name := "err", type := (.object "java/io/PrintStream"), accessFlags := 25, slot := 2, constantValue := 0 }, { name := "initialIn", type := (.object "java/io/InputStream"), accessFlags := 10, slot := 3, constantValue := 0 }, { name := "NEVER", type := .int, accessFlags := 26, slot := 4, constantValue := 0 }, { name := "MAYBE", type := .int, accessFlags := 26, slot := 5, constantValue := 0 }, { name := "allowSecurityManager", type := .int, accessFlags := 10, slot := 6, constantValue := 0 }, { name := "security", type := (.object "java/lang/SecurityManager"), accessFlags := 74, slot := 7, constantValue := 0 }, { name := "notSupportedJnuEncoding", type := (.object "java/lang/String"), accessFlags := 10, slot := 8, constantValue := 0 }, { name := "cons", type := (.object "java/io/Console"), accessFlags := 74, slot := 9, constantValue := 0 }, { name := "initialErrStream", type := (.object "java/io/PrintStream"), accessFlags := 74, slot := 10, constantValue := 0 }, { name := "props", type := (.object "java/util/Properties"), accessFlags := 10, slot := 11, constantValue := 0 }, { name := "lineSeparator", type := (.object "java/lang/String"), accessFlags := 10, slot := 12, constantValue := 0 }, { name := "bootLayer", type := (.object "java/lang/ModuleLayer"), accessFlags := 8, slot := 13, constantValue := 0 }]
  methods := #[k7m0, k7m1]
  instanceTypes := #[]
  staticTypes := #[(.object "java/io/InputStream"), (.object "java/io/PrintStream"), (.object "java/io/PrintStream"), (.object "java/io/InputStream"), .int, .int, .int, (.object "java/lang/SecurityManager"), (.object "java/lang/String"), (.object "java/io/Console"), (.object "java/io/PrintStream"), (.object "java/util/Properties"), (.object "java/lang/String"), (.object "java/lang/ModuleLayer")]
  resolved := Array.replicate 834 none
  statics := none }

def pool8 : Array CpInfo := pool [(1, u "java/lang/Cloneable"), (0, .class_ 1), (0, u "java/lang/Object"), (0, .class_ 3)] 3

/-- java/lang/Cloneable -/
def k8 : Class := { plain "java/lang/Cloneable" (some 0) with
  accessFlags := 1537
  interfaces := #[]
  cf := some (fileOf pool8 2 #[] #[] 1537 4 #[] #[])
  fields := #[]
  methods := #[]
  instanceTypes := #[]
  staticTypes := #[]
  resolved := Array.replicate 8 none
  statics := none }

def pool9 : Array CpInfo := pool [(1, u "java/io/Serializable"), (0, .class_ 1), (0, u "java/lang/Object"), (0, .class_ 3)] 3

/-- java/io/Serializable -/
def k9 : Class := { plain "java/io/Serializable" (some 0) with
  accessFlags := 1537
  interfaces := #[]
  cf := some (fileOf pool9 2 #[] #[] 1537 4 #[] #[])
  fields := #[]
  methods := #[]
  instanceTypes := #[]
  staticTypes := #[]
  resolved := Array.replicate 8 none
  statics := none }

/-- the primitive byte -/
def k10 : Class := { plain "byte" none with kind := .primitive 'B', accessFlags := 0x411 }
/-- [B -/
def k11 : Class := { plain "[B" (some 0) with kind := .array 10 .byte, interfaces := #[8, 9], accessFlags := 1041 }

/-- the primitive int -/
def k12 : Class := { plain "int" none with kind := .primitive 'I', accessFlags := 0x411 }
/-- [I -/
def k13 : Class := { plain "[I" (some 0) with kind := .array 12 .int, interfaces := #[8, 9], accessFlags := 1041 }

def heap : Heap := #[]
def classes : Array Class := #[k0, k1, k2, k3, k4, k5, k6, k7, k8, k9, k10, k11, k12, k13]
def interned : List (Array UInt16 × Addr) := []
def slotsUsed : Nat := 0
def theMethod : MethodId := ⟨1, 1⟩
def args0 : Array Value := #[.int 0, .int 1, .int 2, .int 3, .int 4]
def aboutOver (below : List Frame) : State where
  vm := { classes := classes, interned := interned.toArray }
  heap := heap
  slotsUsed := slotsUsed
  threads := #[{ frames := .invoking theMethod args0 :: below }]
def below0 : List Frame := [.native { method := ⟨0, 0⟩, args := #[] }]
def about1 : State := aboutOver below0
def p0 : Program := .bare "" "" ""
def e0 : Env := launch0.env 0 0 0
theorem w_frames : about1.frames = Frame.invoking theMethod args0 :: below0 := rfl
set_option maxRecDepth 65536 in
theorem w_args : argsFit about1.vm theMethod args0 = true := by decide +kernel
set_option maxRecDepth 65536 in
theorem w_heap : heapFits about1 = true := by decide +kernel
set_option maxRecDepth 65536 in
theorem w_runnable : about1.curStatus? = some .runnable := by decide +kernel
set_option maxRecDepth 65536 in
theorem w_alone : about1.alone = true := by decide +kernel
set_option maxRecDepth 65536 in
theorem w_named : about1.methodNamed? x = some theMethod := by decide +kernel
set_option maxRecDepth 65536 in
theorem w_hears : about1.hears theMethod below0 = true := by decide +kernel
set_option maxRecDepth 65536 in
theorem w_ripe : about1.ripe theMethod args0 below0 = true := by decide +kernel
theorem w_running : about1.status = .running := rfl
set_option maxRecDepth 65536 in
theorem w_room : about1.hasRoom e0.platform room_1 = true :=
  launch0.hasRoom_least _ room_1 (by decide +kernel) (by decide +kernel) (by decide +kernel) (by decide +kernel) (by decide +kernel) (by decide +kernel)
theorem allAtoms_all (ts : List Jvm.Cond) (a : Array Jvm.Value) (st : Jvm.State) : (allAtoms ts).before a st = ts.all (fun c => c.before a st) := by
  induction ts with
  | nil => rfl
  | cons c t ih =>
    show (Jvm.Cond.and c (allAtoms t)).before a st = _
    rw [Jvm.Cond.before_and, ih, List.all_cons]
def words1 : List Jvm.Cond := Jvm.Cond.code x code maxLocals ret :: tables_1
/-- a 'code' word, met by the world's own term for the bytes: nothing is compared byte by byte -/
theorem code_word {y : MethodName} {bytes : ByteArray} {mx : Nat} {rt : Option FieldType} {a : Array Value} {s : State} {m : MethodId} {meth : Method} {c : Code} (h1 : s.methodNamed? y = some m) (h2 : s.vm.method? m = some meth) (h3 : meth.code = some c) (h4 : c.code = bytes)
    (h5 : (c.maxLocals == mx && c.exceptionTable.isEmpty && decide (c.maxStack ≤ mostOperands) && decide (meth.sig.returnType = rt) && !meth.locks && decide (parseMethodDescriptor y.desc = some meth.sig)) = true) : (Jvm.Cond.code y bytes mx rt).before a s = true := by
  simp only [Bool.and_eq_true, beq_iff_eq, Bool.not_eq_true', decide_eq_true_eq] at h5
  obtain ⟨⟨⟨⟨⟨g1, g2⟩, g3⟩, g4⟩, g5⟩, g6⟩ := h5
  simp [Cond.before, Cond.holds, Cond.value, h1, h2, h3, h4, g1, g2, g3, g4, g5, g6]
def isCode : Jvm.Cond → Bool
  | .code _ _ _ _ => true
  | _ => false
theorem all_split {L : List Jvm.Cond} {P : Jvm.Cond → Bool} (h1 : L.all (fun c => isCode c || P c) = true) (h2 : ∀ c ∈ L.filter isCode, P c = true) : L.all P = true := by
  refine List.all_eq_true.mpr fun c hc => ?_
  have h := List.all_eq_true.mp h1 c hc
  rcases Bool.eq_false_or_eq_true (isCode c) with hi | hi
  · exact h2 c (List.mem_filter.mpr ⟨hc, hi⟩)
  · simpa [hi] using h
set_option maxRecDepth 65536 in
theorem w_c0 : (Jvm.Cond.code x code maxLocals ret).before args0 about1 = true := code_word (m := ⟨1, 1⟩) (meth := k1m1) (c := k1c1) (by decide +kernel) rfl rfl rfl (by decide +kernel)
set_option maxRecDepth 65536 in
theorem w_c1 : (Jvm.Cond.code ({ cls := "com/example/leaseledger/leaseledger/journal/IntColumn", name := "<init>", desc := "()V" } : Jvm.MethodName) prog_18_method_1_code (1 : Nat) (Option.none : Option Jvm.ClassFile.FieldType)).before args0 about1 = true := code_word (m := ⟨2, 0⟩) (meth := k2m0) (c := k2c0) (by decide +kernel) rfl rfl rfl (by decide +kernel)
set_option maxRecDepth 65536 in
theorem w_c2 : (Jvm.Cond.code ({ cls := "java/lang/Object", name := "<init>", desc := "()V" } : Jvm.MethodName) object_method_1_code (1 : Nat) (Option.none : Option Jvm.ClassFile.FieldType)).before args0 about1 = true := code_word (m := ⟨0, 0⟩) (meth := k0m0) (c := k0c0) (by decide +kernel) rfl rfl rfl (by decide +kernel)
set_option maxRecDepth 65536 in
theorem w_c3 : (Jvm.Cond.code ({ cls := "com/example/leaseledger/leaseledger/journal/IntColumn", name := "add", desc := "(I)V" } : Jvm.MethodName) prog_18_method_3_code (2 : Nat) (Option.none : Option Jvm.ClassFile.FieldType)).before args0 about1 = true := code_word (m := ⟨2, 1⟩) (meth := k2m1) (c := k2c1) (by decide +kernel) rfl rfl rfl (by decide +kernel)
set_option maxRecDepth 65536 in
theorem w_c4 : (Jvm.Cond.code ({ cls := "com/example/leaseledger/leaseledger/journal/IntColumn", name := "get", desc := "(I)I" } : Jvm.MethodName) prog_18_method_4_code (2 : Nat) (Option.some Jvm.ClassFile.FieldType.int)).before args0 about1 = true := code_word (m := ⟨2, 2⟩) (meth := k2m2) (c := k2c2) (by decide +kernel) rfl rfl rfl (by decide +kernel)
set_option maxRecDepth 65536 in
theorem w_c5 : (Jvm.Cond.code ({ cls := "java/util/Objects", name := "checkIndex", desc := "(II)I" } : Jvm.MethodName) jdk_31_method_17_code (2 : Nat) (Option.some Jvm.ClassFile.FieldType.int)).before args0 about1 = true := code_word (m := ⟨3, 1⟩) (meth := k3m1) (c := k3c1) (by decide +kernel) rfl rfl rfl (by decide +kernel)
set_option maxRecDepth 65536 in
theorem w_c6 : (Jvm.Cond.code ({ cls := "jdk/internal/util/Preconditions", name := "checkIndex", desc := "(IILjava/util/function/BiFunction;)I" } : Jvm.MethodName) jdk_41_method_11_code (3 : Nat) (Option.some Jvm.ClassFile.FieldType.int)).before args0 about1 = true := code_word (m := ⟨4, 1⟩) (meth := k4m1) (c := k4c1) (by decide +kernel) rfl rfl rfl (by decide +kernel)
set_option maxRecDepth 65536 in
theorem w_c7 : (Jvm.Cond.code ({ cls := "java/util/Arrays", name := "copyOf", desc := "([II)[I" } : Jvm.MethodName) jdk_65_method_123_code (3 : Nat) (Option.some (Jvm.ClassFile.FieldType.array Jvm.ClassFile.FieldType.int))).before args0 about1 = true := code_word (m := ⟨5, 1⟩) (meth := k5m1) (c := k5c1) (by decide +kernel) rfl rfl rfl (by decide +kernel)
set_option maxRecDepth 65536 in
theorem w_c8 : (Jvm.Cond.code ({ cls := "java/lang/Math", name := "min", desc := "(II)I" } : Jvm.MethodName) jdk_29_method_69_code (2 : Nat) (Option.some Jvm.ClassFile.FieldType.int)).before args0 about1 = true := code_word (m := ⟨6, 1⟩) (meth := k6m1) (c := k6c1) (by decide +kernel) rfl rfl rfl (by decide +kernel)
def codes1 : List Jvm.Cond := [Jvm.Cond.code x code maxLocals ret, Jvm.Cond.code ({ cls := "com/example/leaseledger/leaseledger/journal/IntColumn", name := "<init>", desc := "()V" } : Jvm.MethodName) prog_18_method_1_code (1 : Nat) (Option.none : Option Jvm.ClassFile.FieldType), Jvm.Cond.code ({ cls := "java/lang/Object", name := "<init>", desc := "()V" } : Jvm.MethodName) object_method_1_code (1 : Nat) (Option.none : Option Jvm.ClassFile.FieldType), Jvm.Cond.code ({ cls := "com/example/leaseledger/leaseledger/journal/IntColumn", name := "add", desc := "(I)V" } : Jvm.MethodName) prog_18_method_3_code (2 : Nat) (Option.none : Option Jvm.ClassFile.FieldType), Jvm.Cond.code ({ cls := "com/example/leaseledger/leaseledger/journal/IntColumn", name := "get", desc := "(I)I" } : Jvm.MethodName) prog_18_method_4_code (2 : Nat) (Option.some Jvm.ClassFile.FieldType.int), Jvm.Cond.code ({ cls := "java/util/Objects", name := "checkIndex", desc := "(II)I" } : Jvm.MethodName) jdk_31_method_17_code (2 : Nat) (Option.some Jvm.ClassFile.FieldType.int), Jvm.Cond.code ({ cls := "jdk/internal/util/Preconditions", name := "checkIndex", desc := "(IILjava/util/function/BiFunction;)I" } : Jvm.MethodName) jdk_41_method_11_code (3 : Nat) (Option.some Jvm.ClassFile.FieldType.int), Jvm.Cond.code ({ cls := "java/util/Arrays", name := "copyOf", desc := "([II)[I" } : Jvm.MethodName) jdk_65_method_123_code (3 : Nat) (Option.some (Jvm.ClassFile.FieldType.array Jvm.ClassFile.FieldType.int)), Jvm.Cond.code ({ cls := "java/lang/Math", name := "min", desc := "(II)I" } : Jvm.MethodName) jdk_29_method_69_code (2 : Nat) (Option.some Jvm.ClassFile.FieldType.int)]
set_option maxRecDepth 65536 in
theorem codes_eq : words1.filter isCode = codes1 := rfl
theorem w_codes : ∀ c ∈ words1.filter isCode, c.before args0 about1 = true := by
  rw [codes_eq]
  intro c hc
  simp only [codes1, List.mem_cons, List.not_mem_nil, or_false] at hc
  rcases hc with rfl | rfl | rfl | rfl | rfl | rfl | rfl | rfl | rfl
  · exact w_c0
  · exact w_c1
  · exact w_c2
  · exact w_c3
  · exact w_c4
  · exact w_c5
  · exact w_c6
  · exact w_c7
  · exact w_c8
set_option maxRecDepth 65536 in
theorem w_t1 : (words1.take 24).all (fun c => isCode c || c.before args0 about1) = true := by decide +kernel
set_option maxRecDepth 65536 in
theorem w_t2 : (words1.drop 24).all (fun c => isCode c || c.before args0 about1) = true := by decide +kernel
theorem w_tables : (allAtoms (Jvm.Cond.code x code maxLocals ret :: tables_1)).before args0 about1 = true := by
  rw [allAtoms_all]
  show words1.all (fun c => c.before args0 about1) = true
  refine all_split ?_ w_codes
  rw [← List.take_append_drop 24 words1, List.all_append, w_t1, w_t2]
  rfl
set_option maxRecDepth 65536 in
theorem w_case : (Jvm.Cond.and given_1 narrow_1).before args0 about1 = true := by decide +kernel
theorem w_applies : (headSpec (Jvm.Cond.code x code maxLocals ret :: tables_1) room_1).applies x e0.platform about1 = true :=
  (Spec.applies_iff w_frames).mpr ⟨w_running, w_runnable, w_alone, w_named, w_hears, w_ripe, w_room, w_tables⟩
theorem atStart : AtStart classFile x code maxLocals ret World_1 tables_1 room_1 Calls_1 rest_1 Pre_1 launch0 p0 e0 about1 theMethod args0 below0 :=
  ⟨lists_1, trivial, launch0.admits_env _ _ _, launch0.least_env, fairChoices_fair.cas, fairChoices_fair.clock, w_frames, w_args, w_heap, w_applies, trivial, trivial, w_case⟩
end start1
theorem witness_1 : WitnessClaimed_1 := ⟨start1.p0, start1.e0, start1.about1, start1.theMethod, start1.args0, start1.below0, start1.atStart⟩
end Jvm.Pilot.@@N@@
