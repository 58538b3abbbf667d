import JvmDerived
import JvmDerived.Pilot.@@N@@Statement
import JvmDerived.Pilot.@@N@@Code
set_option linter.unusedVariables false
set_option linter.unusedSimpArgs false
@@BLOCK:NumsL.lean.txt@@
namespace Jvm.Pilot.@@N@@
open Jvm Jvm.ClassFile Sem Op Lib Jvm.Free Jvm.Stand Jvm.LawKit Jvm.RoadKit Bundle Jvm.Pilot.@@N@@.Jvm.D
/-! ## own kit: one body's walk as a goal on the heap, the frame and the room alone -/
/-- what stays the same through one body's walk -/
def Cx (p : Program) (s : State) (m : MethodId) (meth : Method) (c : Code) (Z : State) (n0 : Nat) (own : String) (bc : ByteArray) (maxL : Nat) (ret : Option FieldType) (nm : String) : Prop :=
  p.tables.exec = Jvm.exec ∧ Z.Warmed39 s.vm ∧ s.vm.findClass own = some m.cls ∧ c.code = bc ∧ c.maxLocals = maxL ∧ meth.sig.returnType = ret ∧ meth.name = nm ∧ meth.locks = false ∧ n0 ≤ s.heap.size
/-- from every state with this heap at which the body stands: the run goes on from this frame to the end that F says -/
def Go (p : Program) (l : Launch) (e : Env) (R : Room) (s : State) (m : MethodId) (args : Array Value) (below : List Frame) (meth : Method) (c : Code) (n0 : Nat) (F : State → Outcome → Prop) (h : Heap) (k n pc : Nat) (Ls : Array Slot) (st : List Value) : Prop :=
  ∀ (T : State) (locs : List Loc), Stand p l e R s m args below meth c T locs k n → T.heap = h → Fr n0 locs →
    ∃ s₂ o, Steps p.tables e below (T.setTop (mkF m pc Ls st)) s₂ ∧ s₂.status = .running ∧ Ended s₂ below o ∧ F s₂ o
/-- the end of a body: it returned what Q says, wrote new cells alone -/
def FinQ (s : State) (n0 : Nat) (Q : Option Value → Heap → Prop) (ck cs : Nat) : State → Outcome → Prop := fun s₂ o => ∃ v L, o = .returned v ∧ (Q v s₂.heap ∧ Fr n0 L) ∧ FrameEnd s o s₂ L ck cs
/-- a body's contract at the heap h0 -/
def Con (l : Launch) (Z : State) (n0 : Nat) (ws : List Jvm.Cond) (y : MethodName) (bc : ByteArray) (maxL : Nat) (ret : Option FieldType) (R : Room) (as : Array Value) (h0 : Heap) (Q : Option Value → Heap → Prop) : Prop :=
  MetFree l y (head1 (Jvm.Cond.code y bc maxL ret :: ws) R) (fun a U => a = as ∧ Z.Warmed39 U.vm ∧ U.heap = h0) (fun _ _ _ _ _ => True) (fun _ U o U' => ∃ v L, o = .returned v ∧ (Q v U'.heap ∧ Fr n0 L) ∧ FrameEnd U o U' L R.cells R.slots)
/-- an array: its class, its values -/
def Av (Z : State) (h : Heap) (a : Addr) (ty : FieldType) (vs : List Value) : Prop := ∃ c : Cell, Arr Z h a c ty ∧ c.slots.toList = vs ∧ ∀ v ∈ vs, fits ty v = true
section Own
variable {p : Program} {l : Launch} {e : Env} {R : Room} {s : State} {m : MethodId} {args : Array Value} {below : List Frame} {meth : Method} {c : Code} {n0 : Nat} {F : State → Outcome → Prop} {h : Heap} {k n pc pc' : Nat} {Ls : Array Slot} {st : List Value} {Z : State} {own : String} {bc : ByteArray} {maxL : Nat} {ret : Option FieldType} {nm : String} {a0 : Array Value}
theorem tw {ws : List Jvm.Cond} (hw : ∀ d ∈ ws, d.before a0 Z = true) (i : Nat) {d : Jvm.Cond} (q : ws[i]? = some d) : d.before a0 Z = true := hw _ (List.mem_of_getElem? q)
theorem Av.lt {a : Addr} {ty : FieldType} {vs : List Value} (A : Av Z h a ty vs) : a < h.size := by obtain ⟨c, A, -⟩ := A; exact A.lt
theorem Av.ext {a : Addr} {ty : FieldType} {vs : List Value} {h' : Heap} (A : Av Z h a ty vs) (E : Ext h h') : Av Z h' a ty vs := by obtain ⟨c, A, q⟩ := A; exact ⟨c, A.ext E, q⟩
theorem Av.other {a b : Addr} {ty : FieldType} {vs : List Value} {h' : Heap} {sl : Nat} {v : Value} (A : Av Z h b ty vs) (W : Wr h h' a sl v) (q : b ≠ a) : Av Z h' b ty vs := by obtain ⟨c, A, r⟩ := A; exact ⟨c, A.other W q, r⟩
theorem Av.keep {a : Addr} {ty : FieldType} {vs : List Value} {h' : Heap} {ws : List Addr} (A : Av Z h a ty vs) (K : Keep h h' ws) (q : a ∉ ws) : Av Z h' a ty vs := by obtain ⟨c, A, r⟩ := A; exact ⟨c, ⟨K.2.1 a c A.1 q, A.2⟩, r⟩
theorem Av.same {a : Addr} {ty : FieldType} {vs : List Value} {h' : Heap} {j : Nat} {v : Value} (A : Av Z h a ty vs) (W : Wr h h' a j v) (hf : fits ty v = true) : Av Z h' a ty (vs.set j v) := by
  obtain ⟨c, A, rfl, r⟩ := A
  refine ⟨_, A.same W, by simp [Cell.setSlot], fun w hw => ?_⟩
  rcases List.mem_or_eq_of_mem_set hw with q | rfl
  · exact r w q
  · exact hf
theorem Av.fit {a : Addr} {ty : FieldType} {vs : List Value} {i : Nat} {v : Value} (A : Av Z h a ty vs) (q : vs[i]? = some v) : fits ty v = true := by obtain ⟨c, A, -, r⟩ := A; exact r v (List.mem_of_getElem? q)
theorem Av.new {a : Addr} {kc : ClassId} {ty : FieldType} {z : Int32} (A : Arr Z h a (newA kc ty z) ty) : Av Z h a ty (List.replicate z.toNatClampNeg (defaultValue ty)) :=
  ⟨_, A, by simp [newA], fun v hv => by rw [List.eq_of_mem_replicate hv]; cases ty <;> rfl⟩
theorem own_in {j : Int32} {cl : Cell} {v : Value} (hj : ¬ j < 0) (hv : cl.slots[j.toNatClampNeg]? = some v) : ¬ (j < 0 ∨ cl.slots.size ≤ j.toNatClampNeg) := fun q => q.elim hj fun q => absurd (Array.getElem?_eq_some_iff.mp hv).1 (Nat.not_lt.mpr q)
theorem own_in2 {j : Int32} {cl : Cell} (hj : ¬ j < 0) (hl : j.toNatClampNeg < cl.slots.size) : ¬ (j < 0 ∨ cl.slots.size ≤ j.toNatClampNeg) := fun q => q.elim hj fun q => absurd hl (Nat.not_lt.mpr q)
theorem Go.pl {Ls' : Array Slot} {st' : List Value} (q : ∀ (T : State) (locs : List Loc), Stand p l e R s m args below meth c T locs k n → T.heap = h → ∀ t, Steps p.tables e below (T.setTop (mkF m pc' Ls' st')) t → Steps p.tables e below (T.setTop (mkF m pc Ls st)) t) (hr : Go p l e R s m args below meth c n0 F h k n pc' Ls' st') : Go p l e R s m args below meth c n0 F h k n pc Ls st := fun T locs X eT N => by
  obtain ⟨s₂, o, h1, h2⟩ := hr T locs X eT N
  exact ⟨s₂, o, q T locs X eT _ h1, h2⟩
theorem Go.more {k' n' : Nat} (hr : Go p l e R s m args below meth c n0 F h k' n' pc Ls st) (h1 : k ≤ k') (h2 : n ≤ n') : Go p l e R s m args below meth c n0 F h k n pc Ls st := fun T locs X eT N => hr T locs (X.more h1 h2) eT N
theorem Cx.size (C : Cx p s m meth c Z n0 own bc maxL ret nm) {T : State} {locs : List Loc} (X : Stand p l e R s m args below meth c T locs k n) : n0 ≤ T.heap.size := Nat.le_trans C.2.2.2.2.2.2.2.2 X.same.2.1
theorem Cx.iloadN (C : Cx p s m meth c Z n0 own bc maxL ret nm) {j : Fin 4} {v : Int32} (hd : decode bc pc = .ok (.iload_n j, 1)) (hp : pc + 1 = pc') (hl : Ls[j.val]? = some (.val (.int v))) (hr : Go p l e R s m args below meth c n0 F h k n pc' Ls (.int v :: st)) : Go p l e R s m args below meth c n0 F h k n pc Ls (st) := by
  subst hp; exact Go.pl (fun T locs X eT t q => XS.iloadN X.here C.1 rfl (hb C.2.2.2.1 hd) hl q) hr
theorem Cx.iload (C : Cx p s m meth c Z n0 own bc maxL ret nm) {j : Nat} {v : Int32} (hd : decode bc pc = .ok (.iload j, 2)) (hp : pc + 2 = pc') (hl : Ls[j]? = some (.val (.int v))) (hr : Go p l e R s m args below meth c n0 F h k n pc' Ls (.int v :: st)) : Go p l e R s m args below meth c n0 F h k n pc Ls (st) := by
  subst hp; exact Go.pl (fun T locs X eT t q => XS.iload X.here C.1 rfl (hb C.2.2.2.1 hd) hl q) hr
theorem Cx.lloadN (C : Cx p s m meth c Z n0 own bc maxL ret nm) {j : Fin 4} {v : Int64} (hd : decode bc pc = .ok (.lload_n j, 1)) (hp : pc + 1 = pc') (hl : Ls[j.val]? = some (.val (.long v))) (hr : Go p l e R s m args below meth c n0 F h k n pc' Ls (.long v :: st)) : Go p l e R s m args below meth c n0 F h k n pc Ls (st) := by
  subst hp; exact Go.pl (fun T locs X eT t q => XT.lloadN X.here C.1 rfl (hb C.2.2.2.1 hd) hl q) hr
theorem Cx.lload (C : Cx p s m meth c Z n0 own bc maxL ret nm) {j : Nat} {v : Int64} (hd : decode bc pc = .ok (.lload j, 2)) (hp : pc + 2 = pc') (hl : Ls[j]? = some (.val (.long v))) (hr : Go p l e R s m args below meth c n0 F h k n pc' Ls (.long v :: st)) : Go p l e R s m args below meth c n0 F h k n pc Ls (st) := by
  subst hp; exact Go.pl (fun T locs X eT t q => XT.lload X.here C.1 rfl (hb C.2.2.2.1 hd) hl q) hr
theorem Cx.aloadN (C : Cx p s m meth c Z n0 own bc maxL ret nm) {j : Fin 4} {v : Value} (hd : decode bc pc = .ok (.aload_n j, 1)) (hp : pc + 1 = pc') (hl : Ls[j.val]? = some (.val v)) (hv : v.isRef = true) (hr : Go p l e R s m args below meth c n0 F h k n pc' Ls (v :: st)) : Go p l e R s m args below meth c n0 F h k n pc Ls (st) := by
  subst hp; exact Go.pl (fun T locs X eT t q => XS.aloadN X.here C.1 rfl (hb C.2.2.2.1 hd) hl hv q) hr
theorem Cx.aload (C : Cx p s m meth c Z n0 own bc maxL ret nm) {j : Nat} {v : Value} (hd : decode bc pc = .ok (.aload j, 2)) (hp : pc + 2 = pc') (hl : Ls[j]? = some (.val v)) (hv : v.isRef = true) (hr : Go p l e R s m args below meth c n0 F h k n pc' Ls (v :: st)) : Go p l e R s m args below meth c n0 F h k n pc Ls (st) := by
  subst hp; exact Go.pl (fun T locs X eT t q => XS.aload X.here C.1 rfl (hb C.2.2.2.1 hd) hl hv q) hr
theorem Cx.istoreN (C : Cx p s m meth c Z n0 own bc maxL ret nm) {j : Fin 4} {v : Int32} {Ls' : Array Slot} (hd : decode bc pc = .ok (.istore_n j, 1)) (hp : pc + 1 = pc') (hl : storeLocals Ls j.val (.int v) = some Ls') (hr : Go p l e R s m args below meth c n0 F h k n pc' Ls' (st)) : Go p l e R s m args below meth c n0 F h k n pc Ls (.int v :: st) := by
  subst hp; exact Go.pl (fun T locs X eT t q => XS.istoreN X.here C.1 rfl (hb C.2.2.2.1 hd) rfl hl q) hr
theorem Cx.istore (C : Cx p s m meth c Z n0 own bc maxL ret nm) {j : Nat} {v : Int32} {Ls' : Array Slot} (hd : decode bc pc = .ok (.istore j, 2)) (hp : pc + 2 = pc') (hl : storeLocals Ls j (.int v) = some Ls') (hr : Go p l e R s m args below meth c n0 F h k n pc' Ls' (st)) : Go p l e R s m args below meth c n0 F h k n pc Ls (.int v :: st) := by
  subst hp; exact Go.pl (fun T locs X eT t q => XS.istore X.here C.1 rfl (hb C.2.2.2.1 hd) rfl hl q) hr
theorem Cx.lstoreN (C : Cx p s m meth c Z n0 own bc maxL ret nm) {j : Fin 4} {v : Int64} {Ls' : Array Slot} (hd : decode bc pc = .ok (.lstore_n j, 1)) (hp : pc + 1 = pc') (hl : storeLocals Ls j.val (.long v) = some Ls') (hr : Go p l e R s m args below meth c n0 F h k n pc' Ls' (st)) : Go p l e R s m args below meth c n0 F h k n pc Ls (.long v :: st) := by
  subst hp; exact Go.pl (fun T locs X eT t q => XT.lstoreN X.here C.1 rfl (hb C.2.2.2.1 hd) rfl hl q) hr
theorem Cx.lstore (C : Cx p s m meth c Z n0 own bc maxL ret nm) {j : Nat} {v : Int64} {Ls' : Array Slot} (hd : decode bc pc = .ok (.lstore j, 2)) (hp : pc + 2 = pc') (hl : storeLocals Ls j (.long v) = some Ls') (hr : Go p l e R s m args below meth c n0 F h k n pc' Ls' (st)) : Go p l e R s m args below meth c n0 F h k n pc Ls (.long v :: st) := by
  subst hp; exact Go.pl (fun T locs X eT t q => XT.lstore X.here C.1 rfl (hb C.2.2.2.1 hd) rfl hl q) hr
theorem Cx.astoreN (C : Cx p s m meth c Z n0 own bc maxL ret nm) {j : Fin 4} {v : Value} {Ls' : Array Slot} (hd : decode bc pc = .ok (.astore_n j, 1)) (hp : pc + 1 = pc') (hv : v.isRef = true) (hl : storeLocals Ls j.val v = some Ls') (hr : Go p l e R s m args below meth c n0 F h k n pc' Ls' (st)) : Go p l e R s m args below meth c n0 F h k n pc Ls (v :: st) := by
  subst hp; exact Go.pl (fun T locs X eT t q => XS.astoreN X.here C.1 rfl (hb C.2.2.2.1 hd) rfl hv hl q) hr
theorem Cx.astore (C : Cx p s m meth c Z n0 own bc maxL ret nm) {j : Nat} {v : Value} {Ls' : Array Slot} (hd : decode bc pc = .ok (.astore j, 2)) (hp : pc + 2 = pc') (hv : v.isRef = true) (hl : storeLocals Ls j v = some Ls') (hr : Go p l e R s m args below meth c n0 F h k n pc' Ls' (st)) : Go p l e R s m args below meth c n0 F h k n pc Ls (v :: st) := by
  subst hp; exact Go.pl (fun T locs X eT t q => XS.astore X.here C.1 rfl (hb C.2.2.2.1 hd) rfl hv hl q) hr
theorem Cx.iconst (C : Cx p s m meth c Z n0 own bc maxL ret nm) {i : Int} (v : Int32) (hd : decode bc pc = .ok (.iconst i, 1)) (hp : pc + 1 = pc') (hv : Int32.ofInt i = v) (hr : Go p l e R s m args below meth c n0 F h k n pc' Ls (.int v :: st)) : Go p l e R s m args below meth c n0 F h k n pc Ls st := by
  subst hp hv; exact Go.pl (fun T locs X eT t q => XS.iconst X.here C.1 rfl (hb C.2.2.2.1 hd) q) hr
theorem Cx.bipush (C : Cx p s m meth c Z n0 own bc maxL ret nm) {i : Int} (v : Int32) (hd : decode bc pc = .ok (.bipush i, 2)) (hp : pc + 2 = pc') (hv : (Int8.ofInt i).toInt32 = v) (hr : Go p l e R s m args below meth c n0 F h k n pc' Ls (.int v :: st)) : Go p l e R s m args below meth c n0 F h k n pc Ls st := by
  subst hp hv; exact Go.pl (fun T locs X eT t q => XS.bipush X.here C.1 rfl (hb C.2.2.2.1 hd) q) hr
theorem Cx.sipush (C : Cx p s m meth c Z n0 own bc maxL ret nm) {i : Int} (v : Int32) (hd : decode bc pc = .ok (.sipush i, 3)) (hp : pc + 3 = pc') (hv : (Int16.ofInt i).toInt32 = v) (hr : Go p l e R s m args below meth c n0 F h k n pc' Ls (.int v :: st)) : Go p l e R s m args below meth c n0 F h k n pc Ls st := by
  subst hp hv; exact Go.pl (fun T locs X eT t q => XS.sipush X.here C.1 rfl (hb C.2.2.2.1 hd) q) hr
theorem Cx.lconst (C : Cx p s m meth c Z n0 own bc maxL ret nm) {i : Fin 2} (v : Int64) (hd : decode bc pc = .ok (.lconst i, 1)) (hp : pc + 1 = pc') (hv : Int64.ofNat i = v) (hr : Go p l e R s m args below meth c n0 F h k n pc' Ls (.long v :: st)) : Go p l e R s m args below meth c n0 F h k n pc Ls st := by
  subst hp hv; exact Go.pl (fun T locs X eT t q => XT.lconst X.here C.1 rfl (hb C.2.2.2.1 hd) q) hr
theorem Cx.aconst_null (C : Cx p s m meth c Z n0 own bc maxL ret nm)  (hd : decode bc pc = .ok (.aconst_null, 1)) (hp : pc + 1 = pc')  (hr : Go p l e R s m args below meth c n0 F h k n pc' Ls (.null :: st)) : Go p l e R s m args below meth c n0 F h k n pc Ls (st) := by
  subst hp; exact Go.pl (fun T locs X eT t q => XS.aconstNull X.here C.1 rfl (hb C.2.2.2.1 hd)  q) hr
theorem Cx.iadd (C : Cx p s m meth c Z n0 own bc maxL ret nm) {x y : Int32} (hd : decode bc pc = .ok (.iadd, 1)) (hp : pc + 1 = pc')  (hr : Go p l e R s m args below meth c n0 F h k n pc' Ls (.int (x + y) :: st)) : Go p l e R s m args below meth c n0 F h k n pc Ls (.int y :: .int x :: st) := by
  subst hp; exact Go.pl (fun T locs X eT t q => XS.iadd X.here C.1 rfl (hb C.2.2.2.1 hd) rfl q) hr
theorem Cx.isub (C : Cx p s m meth c Z n0 own bc maxL ret nm) {x y : Int32} (hd : decode bc pc = .ok (.isub, 1)) (hp : pc + 1 = pc')  (hr : Go p l e R s m args below meth c n0 F h k n pc' Ls (.int (x - y) :: st)) : Go p l e R s m args below meth c n0 F h k n pc Ls (.int y :: .int x :: st) := by
  subst hp; exact Go.pl (fun T locs X eT t q => XS.isub X.here C.1 rfl (hb C.2.2.2.1 hd) rfl q) hr
theorem Cx.imul (C : Cx p s m meth c Z n0 own bc maxL ret nm) {x y : Int32} (hd : decode bc pc = .ok (.imul, 1)) (hp : pc + 1 = pc')  (hr : Go p l e R s m args below meth c n0 F h k n pc' Ls (.int (x * y) :: st)) : Go p l e R s m args below meth c n0 F h k n pc Ls (.int y :: .int x :: st) := by
  subst hp; exact Go.pl (fun T locs X eT t q => XS.imul X.here C.1 rfl (hb C.2.2.2.1 hd) rfl q) hr
theorem Cx.iand (C : Cx p s m meth c Z n0 own bc maxL ret nm) {x y : Int32} (hd : decode bc pc = .ok (.iand, 1)) (hp : pc + 1 = pc')  (hr : Go p l e R s m args below meth c n0 F h k n pc' Ls (.int (x &&& y) :: st)) : Go p l e R s m args below meth c n0 F h k n pc Ls (.int y :: .int x :: st) := by
  subst hp; exact Go.pl (fun T locs X eT t q => XS.iand X.here C.1 rfl (hb C.2.2.2.1 hd) rfl q) hr
theorem Cx.ixor (C : Cx p s m meth c Z n0 own bc maxL ret nm) {x y : Int32} (hd : decode bc pc = .ok (.ixor, 1)) (hp : pc + 1 = pc')  (hr : Go p l e R s m args below meth c n0 F h k n pc' Ls (.int (x ^^^ y) :: st)) : Go p l e R s m args below meth c n0 F h k n pc Ls (.int y :: .int x :: st) := by
  subst hp; exact Go.pl (fun T locs X eT t q => XT.ixor X.here C.1 rfl (hb C.2.2.2.1 hd) rfl q) hr
theorem Cx.ior (C : Cx p s m meth c Z n0 own bc maxL ret nm) {x y : Int32} (hd : decode bc pc = .ok (.ior, 1)) (hp : pc + 1 = pc')  (hr : Go p l e R s m args below meth c n0 F h k n pc' Ls (.int (x ||| y) :: st)) : Go p l e R s m args below meth c n0 F h k n pc Ls (.int y :: .int x :: st) := by
  subst hp; exact Go.pl (fun T locs X eT t q => XT.ior X.here C.1 rfl (hb C.2.2.2.1 hd) rfl q) hr
theorem Cx.ishl (C : Cx p s m meth c Z n0 own bc maxL ret nm) {x y : Int32} (hd : decode bc pc = .ok (.ishl, 1)) (hp : pc + 1 = pc')  (hr : Go p l e R s m args below meth c n0 F h k n pc' Ls (.int (x <<< (y &&& 31)) :: st)) : Go p l e R s m args below meth c n0 F h k n pc Ls (.int y :: .int x :: st) := by
  subst hp; exact Go.pl (fun T locs X eT t q => XT.ishl X.here C.1 rfl (hb C.2.2.2.1 hd) rfl q) hr
theorem Cx.ishr (C : Cx p s m meth c Z n0 own bc maxL ret nm) {x y : Int32} (hd : decode bc pc = .ok (.ishr, 1)) (hp : pc + 1 = pc')  (hr : Go p l e R s m args below meth c n0 F h k n pc' Ls (.int (x >>> (y &&& 31)) :: st)) : Go p l e R s m args below meth c n0 F h k n pc Ls (.int y :: .int x :: st) := by
  subst hp; exact Go.pl (fun T locs X eT t q => XT.ishr X.here C.1 rfl (hb C.2.2.2.1 hd) rfl q) hr
theorem Cx.iushr (C : Cx p s m meth c Z n0 own bc maxL ret nm) {x y : Int32} (hd : decode bc pc = .ok (.iushr, 1)) (hp : pc + 1 = pc')  (hr : Go p l e R s m args below meth c n0 F h k n pc' Ls (.int (XT.ushr x y) :: st)) : Go p l e R s m args below meth c n0 F h k n pc Ls (.int y :: .int x :: st) := by
  subst hp; exact Go.pl (fun T locs X eT t q => XT.iushr X.here C.1 rfl (hb C.2.2.2.1 hd) rfl q) hr
theorem Cx.idiv (C : Cx p s m meth c Z n0 own bc maxL ret nm) {x y : Int32} (hd : decode bc pc = .ok (.idiv, 1)) (hp : pc + 1 = pc') (hy : y ≠ 0) (hr : Go p l e R s m args below meth c n0 F h k n pc' Ls (.int (x / y) :: st)) : Go p l e R s m args below meth c n0 F h k n pc Ls (.int y :: .int x :: st) := by
  subst hp; exact Go.pl (fun T locs X eT t q => XS.idiv X.here C.1 rfl (hb C.2.2.2.1 hd) rfl hy q) hr
theorem Cx.irem (C : Cx p s m meth c Z n0 own bc maxL ret nm) {x y : Int32} (hd : decode bc pc = .ok (.irem, 1)) (hp : pc + 1 = pc') (hy : y ≠ 0) (hr : Go p l e R s m args below meth c n0 F h k n pc' Ls (.int (x % y) :: st)) : Go p l e R s m args below meth c n0 F h k n pc Ls (.int y :: .int x :: st) := by
  subst hp; exact Go.pl (fun T locs X eT t q => iremM X C.1 rfl (hb C.2.2.2.1 hd) rfl hy q) hr
theorem Cx.ineg (C : Cx p s m meth c Z n0 own bc maxL ret nm) {x : Int32} (hd : decode bc pc = .ok (.ineg, 1)) (hp : pc + 1 = pc')  (hr : Go p l e R s m args below meth c n0 F h k n pc' Ls (.int (-x) :: st)) : Go p l e R s m args below meth c n0 F h k n pc Ls (.int x :: st) := by
  subst hp; exact Go.pl (fun T locs X eT t q => XS.ineg X.here C.1 rfl (hb C.2.2.2.1 hd) rfl q) hr
theorem Cx.ladd (C : Cx p s m meth c Z n0 own bc maxL ret nm) {x y : Int64} (hd : decode bc pc = .ok (.ladd, 1)) (hp : pc + 1 = pc')  (hr : Go p l e R s m args below meth c n0 F h k n pc' Ls (.long (x + y) :: st)) : Go p l e R s m args below meth c n0 F h k n pc Ls (.long y :: .long x :: st) := by
  subst hp; exact Go.pl (fun T locs X eT t q => XT.ladd X.here C.1 rfl (hb C.2.2.2.1 hd) rfl q) hr
theorem Cx.lsub (C : Cx p s m meth c Z n0 own bc maxL ret nm) {x y : Int64} (hd : decode bc pc = .ok (.lsub, 1)) (hp : pc + 1 = pc')  (hr : Go p l e R s m args below meth c n0 F h k n pc' Ls (.long (x - y) :: st)) : Go p l e R s m args below meth c n0 F h k n pc Ls (.long y :: .long x :: st) := by
  subst hp; exact Go.pl (fun T locs X eT t q => XT.lsub X.here C.1 rfl (hb C.2.2.2.1 hd) rfl q) hr
theorem Cx.lmul (C : Cx p s m meth c Z n0 own bc maxL ret nm) {x y : Int64} (hd : decode bc pc = .ok (.lmul, 1)) (hp : pc + 1 = pc')  (hr : Go p l e R s m args below meth c n0 F h k n pc' Ls (.long (x * y) :: st)) : Go p l e R s m args below meth c n0 F h k n pc Ls (.long y :: .long x :: st) := by
  subst hp; exact Go.pl (fun T locs X eT t q => XT.lmul X.here C.1 rfl (hb C.2.2.2.1 hd) rfl q) hr
theorem Cx.land (C : Cx p s m meth c Z n0 own bc maxL ret nm) {x y : Int64} (hd : decode bc pc = .ok (.land, 1)) (hp : pc + 1 = pc')  (hr : Go p l e R s m args below meth c n0 F h k n pc' Ls (.long (x &&& y) :: st)) : Go p l e R s m args below meth c n0 F h k n pc Ls (.long y :: .long x :: st) := by
  subst hp; exact Go.pl (fun T locs X eT t q => XT.land X.here C.1 rfl (hb C.2.2.2.1 hd) rfl q) hr
theorem Cx.lor (C : Cx p s m meth c Z n0 own bc maxL ret nm) {x y : Int64} (hd : decode bc pc = .ok (.lor, 1)) (hp : pc + 1 = pc')  (hr : Go p l e R s m args below meth c n0 F h k n pc' Ls (.long (x ||| y) :: st)) : Go p l e R s m args below meth c n0 F h k n pc Ls (.long y :: .long x :: st) := by
  subst hp; exact Go.pl (fun T locs X eT t q => XT.lor X.here C.1 rfl (hb C.2.2.2.1 hd) rfl q) hr
theorem Cx.lxor (C : Cx p s m meth c Z n0 own bc maxL ret nm) {x y : Int64} (hd : decode bc pc = .ok (.lxor, 1)) (hp : pc + 1 = pc')  (hr : Go p l e R s m args below meth c n0 F h k n pc' Ls (.long (x ^^^ y) :: st)) : Go p l e R s m args below meth c n0 F h k n pc Ls (.long y :: .long x :: st) := by
  subst hp; exact Go.pl (fun T locs X eT t q => XT.lxor X.here C.1 rfl (hb C.2.2.2.1 hd) rfl q) hr
theorem Cx.ldiv (C : Cx p s m meth c Z n0 own bc maxL ret nm) {x y : Int64} (hd : decode bc pc = .ok (.ldiv, 1)) (hp : pc + 1 = pc') (hy : y ≠ 0) (hr : Go p l e R s m args below meth c n0 F h k n pc' Ls (.long (x / y) :: st)) : Go p l e R s m args below meth c n0 F h k n pc Ls (.long y :: .long x :: st) := by
  subst hp; exact Go.pl (fun T locs X eT t q => XT.ldiv X.here C.1 rfl (hb C.2.2.2.1 hd) rfl hy q) hr
theorem Cx.lrem (C : Cx p s m meth c Z n0 own bc maxL ret nm) {x y : Int64} (hd : decode bc pc = .ok (.lrem, 1)) (hp : pc + 1 = pc') (hy : y ≠ 0) (hr : Go p l e R s m args below meth c n0 F h k n pc' Ls (.long (x - (x / y) * y) :: st)) : Go p l e R s m args below meth c n0 F h k n pc Ls (.long y :: .long x :: st) := by
  subst hp; exact Go.pl (fun T locs X eT t q => XT.lrem X.here C.1 rfl (hb C.2.2.2.1 hd) rfl hy q) hr
theorem Cx.lshl (C : Cx p s m meth c Z n0 own bc maxL ret nm) {x : Int64} {y : Int32} (hd : decode bc pc = .ok (.lshl, 1)) (hp : pc + 1 = pc')  (hr : Go p l e R s m args below meth c n0 F h k n pc' Ls (.long (x <<< (y.toInt64 &&& 63)) :: st)) : Go p l e R s m args below meth c n0 F h k n pc Ls (.int y :: .long x :: st) := by
  subst hp; exact Go.pl (fun T locs X eT t q => XT.lshl X.here C.1 rfl (hb C.2.2.2.1 hd) rfl q) hr
theorem Cx.lshr (C : Cx p s m meth c Z n0 own bc maxL ret nm) {x : Int64} {y : Int32} (hd : decode bc pc = .ok (.lshr, 1)) (hp : pc + 1 = pc')  (hr : Go p l e R s m args below meth c n0 F h k n pc' Ls (.long (x >>> (y.toInt64 &&& 63)) :: st)) : Go p l e R s m args below meth c n0 F h k n pc Ls (.int y :: .long x :: st) := by
  subst hp; exact Go.pl (fun T locs X eT t q => XT.lshr X.here C.1 rfl (hb C.2.2.2.1 hd) rfl q) hr
theorem Cx.lushr (C : Cx p s m meth c Z n0 own bc maxL ret nm) {x : Int64} {y : Int32} (hd : decode bc pc = .ok (.lushr, 1)) (hp : pc + 1 = pc')  (hr : Go p l e R s m args below meth c n0 F h k n pc' Ls (.long (XT.ushrL x y) :: st)) : Go p l e R s m args below meth c n0 F h k n pc Ls (.int y :: .long x :: st) := by
  subst hp; exact Go.pl (fun T locs X eT t q => XT.lushr X.here C.1 rfl (hb C.2.2.2.1 hd) rfl q) hr
theorem Cx.lneg (C : Cx p s m meth c Z n0 own bc maxL ret nm) {x : Int64} (hd : decode bc pc = .ok (.lneg, 1)) (hp : pc + 1 = pc')  (hr : Go p l e R s m args below meth c n0 F h k n pc' Ls (.long (-x) :: st)) : Go p l e R s m args below meth c n0 F h k n pc Ls (.long x :: st) := by
  subst hp; exact Go.pl (fun T locs X eT t q => XT.lneg X.here C.1 rfl (hb C.2.2.2.1 hd) rfl q) hr
theorem Cx.i2l (C : Cx p s m meth c Z n0 own bc maxL ret nm) {x : Int32} (hd : decode bc pc = .ok (.i2l, 1)) (hp : pc + 1 = pc')  (hr : Go p l e R s m args below meth c n0 F h k n pc' Ls (.long x.toInt64 :: st)) : Go p l e R s m args below meth c n0 F h k n pc Ls (.int x :: st) := by
  subst hp; exact Go.pl (fun T locs X eT t q => XT.i2l X.here C.1 rfl (hb C.2.2.2.1 hd) rfl q) hr
theorem Cx.l2i (C : Cx p s m meth c Z n0 own bc maxL ret nm) {x : Int64} (hd : decode bc pc = .ok (.l2i, 1)) (hp : pc + 1 = pc')  (hr : Go p l e R s m args below meth c n0 F h k n pc' Ls (.int x.toInt32 :: st)) : Go p l e R s m args below meth c n0 F h k n pc Ls (.long x :: st) := by
  subst hp; exact Go.pl (fun T locs X eT t q => XT.l2i X.here C.1 rfl (hb C.2.2.2.1 hd) rfl q) hr
theorem Cx.i2b (C : Cx p s m meth c Z n0 own bc maxL ret nm) {x : Int32} (hd : decode bc pc = .ok (.i2b, 1)) (hp : pc + 1 = pc')  (hr : Go p l e R s m args below meth c n0 F h k n pc' Ls (.int x.toInt8.toInt32 :: st)) : Go p l e R s m args below meth c n0 F h k n pc Ls (.int x :: st) := by
  subst hp; exact Go.pl (fun T locs X eT t q => XT.i2b X.here C.1 rfl (hb C.2.2.2.1 hd) rfl q) hr
theorem Cx.i2c (C : Cx p s m meth c Z n0 own bc maxL ret nm) {x : Int32} (hd : decode bc pc = .ok (.i2c, 1)) (hp : pc + 1 = pc')  (hr : Go p l e R s m args below meth c n0 F h k n pc' Ls (.int x.toUInt32.toUInt16.toUInt32.toInt32 :: st)) : Go p l e R s m args below meth c n0 F h k n pc Ls (.int x :: st) := by
  subst hp; exact Go.pl (fun T locs X eT t q => XT.i2c X.here C.1 rfl (hb C.2.2.2.1 hd) rfl q) hr
theorem Cx.lcmp (C : Cx p s m meth c Z n0 own bc maxL ret nm) {x y : Int64} (hd : decode bc pc = .ok (.lcmp, 1)) (hp : pc + 1 = pc')  (hr : Go p l e R s m args below meth c n0 F h k n pc' Ls (.int (XT.cmpL x y) :: st)) : Go p l e R s m args below meth c n0 F h k n pc Ls (.long y :: .long x :: st) := by
  subst hp; exact Go.pl (fun T locs X eT t q => XT.lcmp X.here C.1 rfl (hb C.2.2.2.1 hd) rfl q) hr
theorem Cx.iinc (C : Cx p s m meth c Z n0 own bc maxL ret nm) {j : Nat} {i : Int} {x : Int32} {Ls' : Array Slot} (v : Int32) (hd : decode bc pc = .ok (.iinc j i, 3)) (hp : pc + 3 = pc') (hv : Int32.ofInt i = v) (hl : Ls[j]? = some (.val (.int x))) (hl' : storeLocals Ls j (.int (x + v)) = some Ls') (hr : Go p l e R s m args below meth c n0 F h k n pc' Ls' st) : Go p l e R s m args below meth c n0 F h k n pc Ls st := by
  subst hp hv; exact Go.pl (fun T locs X eT t q => XS.iinc X.here C.1 rfl (hb C.2.2.2.1 hd) hl hl' q) hr
theorem Cx.dup (C : Cx p s m meth c Z n0 own bc maxL ret nm) {x : Value} (hd : decode bc pc = .ok (.dup, 1)) (hp : pc + 1 = pc') (hc : x.category = 1) (hr : Go p l e R s m args below meth c n0 F h k n pc' Ls (x :: x :: st)) : Go p l e R s m args below meth c n0 F h k n pc Ls (x :: st) := by
  subst hp; exact Go.pl (fun T locs X eT t q => XS.dup X.here C.1 rfl (hb C.2.2.2.1 hd) rfl hc q) hr
theorem Cx.pop (C : Cx p s m meth c Z n0 own bc maxL ret nm) {x : Value} (hd : decode bc pc = .ok (.pop, 1)) (hp : pc + 1 = pc') (hc : x.category = 1) (hr : Go p l e R s m args below meth c n0 F h k n pc' Ls (st)) : Go p l e R s m args below meth c n0 F h k n pc Ls (x :: st) := by
  subst hp; exact Go.pl (fun T locs X eT t q => XT.pop X.here C.1 rfl (hb C.2.2.2.1 hd) rfl hc q) hr
theorem Cx.dupX1 (C : Cx p s m meth c Z n0 own bc maxL ret nm) {x y : Value} (hd : decode bc pc = .ok (.dup_x1, 1)) (hp : pc + 1 = pc') (hc : x.category = 1) (hc' : y.category = 1) (hr : Go p l e R s m args below meth c n0 F h k n pc' Ls (x :: y :: x :: st)) : Go p l e R s m args below meth c n0 F h k n pc Ls (x :: y :: st) := by
  subst hp; exact Go.pl (fun T locs X eT t q => XT.dupX1 X.here C.1 rfl (hb C.2.2.2.1 hd) rfl hc hc' q) hr
theorem Cx.dup2 (C : Cx p s m meth c Z n0 own bc maxL ret nm) {x y : Value} (hd : decode bc pc = .ok (.dup2, 1)) (hp : pc + 1 = pc') (hc : x.category = 1) (hc' : y.category = 1) (hr : Go p l e R s m args below meth c n0 F h k n pc' Ls (x :: y :: x :: y :: st)) : Go p l e R s m args below meth c n0 F h k n pc Ls (x :: y :: st) := by
  subst hp; exact Go.pl (fun T locs X eT t q => XT.dup2 X.here C.1 rfl (hb C.2.2.2.1 hd) rfl hc hc' q) hr
theorem Cx.dup2L (C : Cx p s m meth c Z n0 own bc maxL ret nm) {x : Int64} (hd : decode bc pc = .ok (.dup2, 1)) (hp : pc + 1 = pc')  (hr : Go p l e R s m args below meth c n0 F h k n pc' Ls (.long x :: .long x :: st)) : Go p l e R s m args below meth c n0 F h k n pc Ls (.long x :: st) := by
  subst hp; exact Go.pl (fun T locs X eT t q => XT.dup2L X.here C.1 rfl (hb C.2.2.2.1 hd) rfl q) hr
theorem Cx.goto (C : Cx p s m meth c Z n0 own bc maxL ret nm) {o : Int} (hd : decode bc pc = .ok (.goto o, 3)) (ho : 0 ≤ (pc : Int) + o) (hp : ((pc : Int) + o).toNat = pc') (hr : Go p l e R s m args below meth c n0 F h k n pc' Ls st) : Go p l e R s m args below meth c n0 F h k n pc Ls st := by
  exact Go.pl (fun T locs X eT t q => XS.goto X.here C.1 rfl rfl (hb C.2.2.2.1 hd) ho hp q) hr
theorem Cx.if_eq_t (C : Cx p s m meth c Z n0 own bc maxL ret nm) {x : Int32} {o : Int} (hd : decode bc pc = .ok (.ifCond .eq o, 3)) (ho : 0 ≤ (pc : Int) + o) (hp : ((pc : Int) + o).toNat = pc') (hq : x = 0) (hr : Go p l e R s m args below meth c n0 F h k n pc' Ls st) : Go p l e R s m args below meth c n0 F h k n pc Ls (.int x :: st) :=
  Go.pl (fun T locs X eT t q => XS.ifYes X.here C.1 rfl rfl (hb C.2.2.2.1 hd) rfl (XT.i0_eq_t hq) ho hp q) hr
theorem Cx.if_eq_f (C : Cx p s m meth c Z n0 own bc maxL ret nm) {x : Int32} {o : Int} (hd : decode bc pc = .ok (.ifCond .eq o, 3)) (hp : pc + 3 = pc') (hq : ¬ x = 0) (hr : Go p l e R s m args below meth c n0 F h k n pc' Ls st) : Go p l e R s m args below meth c n0 F h k n pc Ls (.int x :: st) := by
  subst hp; exact Go.pl (fun T locs X eT t q => XS.ifNo X.here C.1 rfl (hb C.2.2.2.1 hd) rfl (XT.i0_eq_f hq) q) hr
theorem Cx.if_eq (C : Cx p s m meth c Z n0 own bc maxL ret nm) {x : Int32} {o : Int} {pc'' : Nat} (hd : decode bc pc = .ok (.ifCond .eq o, 3)) (ho : 0 ≤ (pc : Int) + o) (hp : ((pc : Int) + o).toNat = pc') (hp' : pc + 3 = pc'') (hy : x = 0 → Go p l e R s m args below meth c n0 F h k n pc' Ls st) (hn : ¬ x = 0 → Go p l e R s m args below meth c n0 F h k n pc'' Ls st) : Go p l e R s m args below meth c n0 F h k n pc Ls (.int x :: st) := by
  by_cases q : x = 0
  · exact C.if_eq_t hd ho hp q (hy q)
  · exact C.if_eq_f hd hp' q (hn q)
theorem Cx.icmp_eq_t (C : Cx p s m meth c Z n0 own bc maxL ret nm) {x y : Int32} {o : Int} (hd : decode bc pc = .ok (.if_icmp .eq o, 3)) (ho : 0 ≤ (pc : Int) + o) (hp : ((pc : Int) + o).toNat = pc') (hq : x = y) (hr : Go p l e R s m args below meth c n0 F h k n pc' Ls st) : Go p l e R s m args below meth c n0 F h k n pc Ls (.int y :: .int x :: st) :=
  Go.pl (fun T locs X eT t q => XS.icmpYes X.here C.1 rfl rfl (hb C.2.2.2.1 hd) rfl (XT.ii_eq_t hq) ho hp q) hr
theorem Cx.icmp_eq_f (C : Cx p s m meth c Z n0 own bc maxL ret nm) {x y : Int32} {o : Int} (hd : decode bc pc = .ok (.if_icmp .eq o, 3)) (hp : pc + 3 = pc') (hq : ¬ x = y) (hr : Go p l e R s m args below meth c n0 F h k n pc' Ls st) : Go p l e R s m args below meth c n0 F h k n pc Ls (.int y :: .int x :: st) := by
  subst hp; exact Go.pl (fun T locs X eT t q => XS.icmpNo X.here C.1 rfl (hb C.2.2.2.1 hd) rfl (XT.ii_eq_f hq) q) hr
theorem Cx.icmp_eq (C : Cx p s m meth c Z n0 own bc maxL ret nm) {x y : Int32} {o : Int} {pc'' : Nat} (hd : decode bc pc = .ok (.if_icmp .eq o, 3)) (ho : 0 ≤ (pc : Int) + o) (hp : ((pc : Int) + o).toNat = pc') (hp' : pc + 3 = pc'') (hy : x = y → Go p l e R s m args below meth c n0 F h k n pc' Ls st) (hn : ¬ x = y → Go p l e R s m args below meth c n0 F h k n pc'' Ls st) : Go p l e R s m args below meth c n0 F h k n pc Ls (.int y :: .int x :: st) := by
  by_cases q : x = y
  · exact C.icmp_eq_t hd ho hp q (hy q)
  · exact C.icmp_eq_f hd hp' q (hn q)
theorem Cx.lif_eq_t (C : Cx p s m meth c Z n0 own bc maxL ret nm) {x y : Int64} {o : Int} (hd : decode bc pc = .ok (.ifCond .eq o, 3)) (ho : 0 ≤ (pc : Int) + o) (hp : ((pc : Int) + o).toNat = pc') (hq : x = y) (hr : Go p l e R s m args below meth c n0 F h k n pc' Ls st) : Go p l e R s m args below meth c n0 F h k n pc Ls (.int (XT.cmpL x y) :: st) :=
  Go.pl (fun T locs X eT t q => XS.ifYes X.here C.1 rfl rfl (hb C.2.2.2.1 hd) rfl (XT.ll_eq_t hq) ho hp q) hr
theorem Cx.lif_eq_f (C : Cx p s m meth c Z n0 own bc maxL ret nm) {x y : Int64} {o : Int} (hd : decode bc pc = .ok (.ifCond .eq o, 3)) (hp : pc + 3 = pc') (hq : ¬ x = y) (hr : Go p l e R s m args below meth c n0 F h k n pc' Ls st) : Go p l e R s m args below meth c n0 F h k n pc Ls (.int (XT.cmpL x y) :: st) := by
  subst hp; exact Go.pl (fun T locs X eT t q => XS.ifNo X.here C.1 rfl (hb C.2.2.2.1 hd) rfl (XT.ll_eq_f hq) q) hr
theorem Cx.lif_eq (C : Cx p s m meth c Z n0 own bc maxL ret nm) {x y : Int64} {o : Int} {pc'' : Nat} (hd : decode bc pc = .ok (.ifCond .eq o, 3)) (ho : 0 ≤ (pc : Int) + o) (hp : ((pc : Int) + o).toNat = pc') (hp' : pc + 3 = pc'') (hy : x = y → Go p l e R s m args below meth c n0 F h k n pc' Ls st) (hn : ¬ x = y → Go p l e R s m args below meth c n0 F h k n pc'' Ls st) : Go p l e R s m args below meth c n0 F h k n pc Ls (.int (XT.cmpL x y) :: st) := by
  by_cases q : x = y
  · exact C.lif_eq_t hd ho hp q (hy q)
  · exact C.lif_eq_f hd hp' q (hn q)
theorem Cx.if_ne_t (C : Cx p s m meth c Z n0 own bc maxL ret nm) {x : Int32} {o : Int} (hd : decode bc pc = .ok (.ifCond .ne o, 3)) (ho : 0 ≤ (pc : Int) + o) (hp : ((pc : Int) + o).toNat = pc') (hq : ¬ x = 0) (hr : Go p l e R s m args below meth c n0 F h k n pc' Ls st) : Go p l e R s m args below meth c n0 F h k n pc Ls (.int x :: st) :=
  Go.pl (fun T locs X eT t q => XS.ifYes X.here C.1 rfl rfl (hb C.2.2.2.1 hd) rfl (XT.i0_ne_t hq) ho hp q) hr
theorem Cx.if_ne_f (C : Cx p s m meth c Z n0 own bc maxL ret nm) {x : Int32} {o : Int} (hd : decode bc pc = .ok (.ifCond .ne o, 3)) (hp : pc + 3 = pc') (hq : x = 0) (hr : Go p l e R s m args below meth c n0 F h k n pc' Ls st) : Go p l e R s m args below meth c n0 F h k n pc Ls (.int x :: st) := by
  subst hp; exact Go.pl (fun T locs X eT t q => XS.ifNo X.here C.1 rfl (hb C.2.2.2.1 hd) rfl (XT.i0_ne_f hq) q) hr
theorem Cx.if_ne (C : Cx p s m meth c Z n0 own bc maxL ret nm) {x : Int32} {o : Int} {pc'' : Nat} (hd : decode bc pc = .ok (.ifCond .ne o, 3)) (ho : 0 ≤ (pc : Int) + o) (hp : ((pc : Int) + o).toNat = pc') (hp' : pc + 3 = pc'') (hy : ¬ x = 0 → Go p l e R s m args below meth c n0 F h k n pc' Ls st) (hn : x = 0 → Go p l e R s m args below meth c n0 F h k n pc'' Ls st) : Go p l e R s m args below meth c n0 F h k n pc Ls (.int x :: st) := by
  by_cases q : x = 0
  · exact C.if_ne_f hd hp' q (hn q)
  · exact C.if_ne_t hd ho hp q (hy q)
theorem Cx.icmp_ne_t (C : Cx p s m meth c Z n0 own bc maxL ret nm) {x y : Int32} {o : Int} (hd : decode bc pc = .ok (.if_icmp .ne o, 3)) (ho : 0 ≤ (pc : Int) + o) (hp : ((pc : Int) + o).toNat = pc') (hq : ¬ x = y) (hr : Go p l e R s m args below meth c n0 F h k n pc' Ls st) : Go p l e R s m args below meth c n0 F h k n pc Ls (.int y :: .int x :: st) :=
  Go.pl (fun T locs X eT t q => XS.icmpYes X.here C.1 rfl rfl (hb C.2.2.2.1 hd) rfl (XT.ii_ne_t hq) ho hp q) hr
theorem Cx.icmp_ne_f (C : Cx p s m meth c Z n0 own bc maxL ret nm) {x y : Int32} {o : Int} (hd : decode bc pc = .ok (.if_icmp .ne o, 3)) (hp : pc + 3 = pc') (hq : x = y) (hr : Go p l e R s m args below meth c n0 F h k n pc' Ls st) : Go p l e R s m args below meth c n0 F h k n pc Ls (.int y :: .int x :: st) := by
  subst hp; exact Go.pl (fun T locs X eT t q => XS.icmpNo X.here C.1 rfl (hb C.2.2.2.1 hd) rfl (XT.ii_ne_f hq) q) hr
theorem Cx.icmp_ne (C : Cx p s m meth c Z n0 own bc maxL ret nm) {x y : Int32} {o : Int} {pc'' : Nat} (hd : decode bc pc = .ok (.if_icmp .ne o, 3)) (ho : 0 ≤ (pc : Int) + o) (hp : ((pc : Int) + o).toNat = pc') (hp' : pc + 3 = pc'') (hy : ¬ x = y → Go p l e R s m args below meth c n0 F h k n pc' Ls st) (hn : x = y → Go p l e R s m args below meth c n0 F h k n pc'' Ls st) : Go p l e R s m args below meth c n0 F h k n pc Ls (.int y :: .int x :: st) := by
  by_cases q : x = y
  · exact C.icmp_ne_f hd hp' q (hn q)
  · exact C.icmp_ne_t hd ho hp q (hy q)
theorem Cx.lif_ne_t (C : Cx p s m meth c Z n0 own bc maxL ret nm) {x y : Int64} {o : Int} (hd : decode bc pc = .ok (.ifCond .ne o, 3)) (ho : 0 ≤ (pc : Int) + o) (hp : ((pc : Int) + o).toNat = pc') (hq : ¬ x = y) (hr : Go p l e R s m args below meth c n0 F h k n pc' Ls st) : Go p l e R s m args below meth c n0 F h k n pc Ls (.int (XT.cmpL x y) :: st) :=
  Go.pl (fun T locs X eT t q => XS.ifYes X.here C.1 rfl rfl (hb C.2.2.2.1 hd) rfl (XT.ll_ne_t hq) ho hp q) hr
theorem Cx.lif_ne_f (C : Cx p s m meth c Z n0 own bc maxL ret nm) {x y : Int64} {o : Int} (hd : decode bc pc = .ok (.ifCond .ne o, 3)) (hp : pc + 3 = pc') (hq : x = y) (hr : Go p l e R s m args below meth c n0 F h k n pc' Ls st) : Go p l e R s m args below meth c n0 F h k n pc Ls (.int (XT.cmpL x y) :: st) := by
  subst hp; exact Go.pl (fun T locs X eT t q => XS.ifNo X.here C.1 rfl (hb C.2.2.2.1 hd) rfl (XT.ll_ne_f hq) q) hr
theorem Cx.lif_ne (C : Cx p s m meth c Z n0 own bc maxL ret nm) {x y : Int64} {o : Int} {pc'' : Nat} (hd : decode bc pc = .ok (.ifCond .ne o, 3)) (ho : 0 ≤ (pc : Int) + o) (hp : ((pc : Int) + o).toNat = pc') (hp' : pc + 3 = pc'') (hy : ¬ x = y → Go p l e R s m args below meth c n0 F h k n pc' Ls st) (hn : x = y → Go p l e R s m args below meth c n0 F h k n pc'' Ls st) : Go p l e R s m args below meth c n0 F h k n pc Ls (.int (XT.cmpL x y) :: st) := by
  by_cases q : x = y
  · exact C.lif_ne_f hd hp' q (hn q)
  · exact C.lif_ne_t hd ho hp q (hy q)
theorem Cx.if_lt_t (C : Cx p s m meth c Z n0 own bc maxL ret nm) {x : Int32} {o : Int} (hd : decode bc pc = .ok (.ifCond .lt o, 3)) (ho : 0 ≤ (pc : Int) + o) (hp : ((pc : Int) + o).toNat = pc') (hq : x < 0) (hr : Go p l e R s m args below meth c n0 F h k n pc' Ls st) : Go p l e R s m args below meth c n0 F h k n pc Ls (.int x :: st) :=
  Go.pl (fun T locs X eT t q => XS.ifYes X.here C.1 rfl rfl (hb C.2.2.2.1 hd) rfl (XT.i0_lt_t hq) ho hp q) hr
theorem Cx.if_lt_f (C : Cx p s m meth c Z n0 own bc maxL ret nm) {x : Int32} {o : Int} (hd : decode bc pc = .ok (.ifCond .lt o, 3)) (hp : pc + 3 = pc') (hq : ¬ x < 0) (hr : Go p l e R s m args below meth c n0 F h k n pc' Ls st) : Go p l e R s m args below meth c n0 F h k n pc Ls (.int x :: st) := by
  subst hp; exact Go.pl (fun T locs X eT t q => XS.ifNo X.here C.1 rfl (hb C.2.2.2.1 hd) rfl (XT.i0_lt_f hq) q) hr
theorem Cx.if_lt (C : Cx p s m meth c Z n0 own bc maxL ret nm) {x : Int32} {o : Int} {pc'' : Nat} (hd : decode bc pc = .ok (.ifCond .lt o, 3)) (ho : 0 ≤ (pc : Int) + o) (hp : ((pc : Int) + o).toNat = pc') (hp' : pc + 3 = pc'') (hy : x < 0 → Go p l e R s m args below meth c n0 F h k n pc' Ls st) (hn : ¬ x < 0 → Go p l e R s m args below meth c n0 F h k n pc'' Ls st) : Go p l e R s m args below meth c n0 F h k n pc Ls (.int x :: st) := by
  by_cases q : x < 0
  · exact C.if_lt_t hd ho hp q (hy q)
  · exact C.if_lt_f hd hp' q (hn q)
theorem Cx.icmp_lt_t (C : Cx p s m meth c Z n0 own bc maxL ret nm) {x y : Int32} {o : Int} (hd : decode bc pc = .ok (.if_icmp .lt o, 3)) (ho : 0 ≤ (pc : Int) + o) (hp : ((pc : Int) + o).toNat = pc') (hq : x < y) (hr : Go p l e R s m args below meth c n0 F h k n pc' Ls st) : Go p l e R s m args below meth c n0 F h k n pc Ls (.int y :: .int x :: st) :=
  Go.pl (fun T locs X eT t q => XS.icmpYes X.here C.1 rfl rfl (hb C.2.2.2.1 hd) rfl (XT.ii_lt_t hq) ho hp q) hr
theorem Cx.icmp_lt_f (C : Cx p s m meth c Z n0 own bc maxL ret nm) {x y : Int32} {o : Int} (hd : decode bc pc = .ok (.if_icmp .lt o, 3)) (hp : pc + 3 = pc') (hq : ¬ x < y) (hr : Go p l e R s m args below meth c n0 F h k n pc' Ls st) : Go p l e R s m args below meth c n0 F h k n pc Ls (.int y :: .int x :: st) := by
  subst hp; exact Go.pl (fun T locs X eT t q => XS.icmpNo X.here C.1 rfl (hb C.2.2.2.1 hd) rfl (XT.ii_lt_f hq) q) hr
theorem Cx.icmp_lt (C : Cx p s m meth c Z n0 own bc maxL ret nm) {x y : Int32} {o : Int} {pc'' : Nat} (hd : decode bc pc = .ok (.if_icmp .lt o, 3)) (ho : 0 ≤ (pc : Int) + o) (hp : ((pc : Int) + o).toNat = pc') (hp' : pc + 3 = pc'') (hy : x < y → Go p l e R s m args below meth c n0 F h k n pc' Ls st) (hn : ¬ x < y → Go p l e R s m args below meth c n0 F h k n pc'' Ls st) : Go p l e R s m args below meth c n0 F h k n pc Ls (.int y :: .int x :: st) := by
  by_cases q : x < y
  · exact C.icmp_lt_t hd ho hp q (hy q)
  · exact C.icmp_lt_f hd hp' q (hn q)
theorem Cx.lif_lt_t (C : Cx p s m meth c Z n0 own bc maxL ret nm) {x y : Int64} {o : Int} (hd : decode bc pc = .ok (.ifCond .lt o, 3)) (ho : 0 ≤ (pc : Int) + o) (hp : ((pc : Int) + o).toNat = pc') (hq : x < y) (hr : Go p l e R s m args below meth c n0 F h k n pc' Ls st) : Go p l e R s m args below meth c n0 F h k n pc Ls (.int (XT.cmpL x y) :: st) :=
  Go.pl (fun T locs X eT t q => XS.ifYes X.here C.1 rfl rfl (hb C.2.2.2.1 hd) rfl (XT.ll_lt_t hq) ho hp q) hr
theorem Cx.lif_lt_f (C : Cx p s m meth c Z n0 own bc maxL ret nm) {x y : Int64} {o : Int} (hd : decode bc pc = .ok (.ifCond .lt o, 3)) (hp : pc + 3 = pc') (hq : ¬ x < y) (hr : Go p l e R s m args below meth c n0 F h k n pc' Ls st) : Go p l e R s m args below meth c n0 F h k n pc Ls (.int (XT.cmpL x y) :: st) := by
  subst hp; exact Go.pl (fun T locs X eT t q => XS.ifNo X.here C.1 rfl (hb C.2.2.2.1 hd) rfl (XT.ll_lt_f hq) q) hr
theorem Cx.lif_lt (C : Cx p s m meth c Z n0 own bc maxL ret nm) {x y : Int64} {o : Int} {pc'' : Nat} (hd : decode bc pc = .ok (.ifCond .lt o, 3)) (ho : 0 ≤ (pc : Int) + o) (hp : ((pc : Int) + o).toNat = pc') (hp' : pc + 3 = pc'') (hy : x < y → Go p l e R s m args below meth c n0 F h k n pc' Ls st) (hn : ¬ x < y → Go p l e R s m args below meth c n0 F h k n pc'' Ls st) : Go p l e R s m args below meth c n0 F h k n pc Ls (.int (XT.cmpL x y) :: st) := by
  by_cases q : x < y
  · exact C.lif_lt_t hd ho hp q (hy q)
  · exact C.lif_lt_f hd hp' q (hn q)
theorem Cx.if_ge_t (C : Cx p s m meth c Z n0 own bc maxL ret nm) {x : Int32} {o : Int} (hd : decode bc pc = .ok (.ifCond .ge o, 3)) (ho : 0 ≤ (pc : Int) + o) (hp : ((pc : Int) + o).toNat = pc') (hq : ¬ x < 0) (hr : Go p l e R s m args below meth c n0 F h k n pc' Ls st) : Go p l e R s m args below meth c n0 F h k n pc Ls (.int x :: st) :=
  Go.pl (fun T locs X eT t q => XS.ifYes X.here C.1 rfl rfl (hb C.2.2.2.1 hd) rfl (XT.i0_ge_t hq) ho hp q) hr
theorem Cx.if_ge_f (C : Cx p s m meth c Z n0 own bc maxL ret nm) {x : Int32} {o : Int} (hd : decode bc pc = .ok (.ifCond .ge o, 3)) (hp : pc + 3 = pc') (hq : x < 0) (hr : Go p l e R s m args below meth c n0 F h k n pc' Ls st) : Go p l e R s m args below meth c n0 F h k n pc Ls (.int x :: st) := by
  subst hp; exact Go.pl (fun T locs X eT t q => XS.ifNo X.here C.1 rfl (hb C.2.2.2.1 hd) rfl (XT.i0_ge_f hq) q) hr
theorem Cx.if_ge (C : Cx p s m meth c Z n0 own bc maxL ret nm) {x : Int32} {o : Int} {pc'' : Nat} (hd : decode bc pc = .ok (.ifCond .ge o, 3)) (ho : 0 ≤ (pc : Int) + o) (hp : ((pc : Int) + o).toNat = pc') (hp' : pc + 3 = pc'') (hy : ¬ x < 0 → Go p l e R s m args below meth c n0 F h k n pc' Ls st) (hn : x < 0 → Go p l e R s m args below meth c n0 F h k n pc'' Ls st) : Go p l e R s m args below meth c n0 F h k n pc Ls (.int x :: st) := by
  by_cases q : x < 0
  · exact C.if_ge_f hd hp' q (hn q)
  · exact C.if_ge_t hd ho hp q (hy q)
theorem Cx.icmp_ge_t (C : Cx p s m meth c Z n0 own bc maxL ret nm) {x y : Int32} {o : Int} (hd : decode bc pc = .ok (.if_icmp .ge o, 3)) (ho : 0 ≤ (pc : Int) + o) (hp : ((pc : Int) + o).toNat = pc') (hq : ¬ x < y) (hr : Go p l e R s m args below meth c n0 F h k n pc' Ls st) : Go p l e R s m args below meth c n0 F h k n pc Ls (.int y :: .int x :: st) :=
  Go.pl (fun T locs X eT t q => XS.icmpYes X.here C.1 rfl rfl (hb C.2.2.2.1 hd) rfl (XT.ii_ge_t hq) ho hp q) hr
theorem Cx.icmp_ge_f (C : Cx p s m meth c Z n0 own bc maxL ret nm) {x y : Int32} {o : Int} (hd : decode bc pc = .ok (.if_icmp .ge o, 3)) (hp : pc + 3 = pc') (hq : x < y) (hr : Go p l e R s m args below meth c n0 F h k n pc' Ls st) : Go p l e R s m args below meth c n0 F h k n pc Ls (.int y :: .int x :: st) := by
  subst hp; exact Go.pl (fun T locs X eT t q => XS.icmpNo X.here C.1 rfl (hb C.2.2.2.1 hd) rfl (XT.ii_ge_f hq) q) hr
theorem Cx.icmp_ge (C : Cx p s m meth c Z n0 own bc maxL ret nm) {x y : Int32} {o : Int} {pc'' : Nat} (hd : decode bc pc = .ok (.if_icmp .ge o, 3)) (ho : 0 ≤ (pc : Int) + o) (hp : ((pc : Int) + o).toNat = pc') (hp' : pc + 3 = pc'') (hy : ¬ x < y → Go p l e R s m args below meth c n0 F h k n pc' Ls st) (hn : x < y → Go p l e R s m args below meth c n0 F h k n pc'' Ls st) : Go p l e R s m args below meth c n0 F h k n pc Ls (.int y :: .int x :: st) := by
  by_cases q : x < y
  · exact C.icmp_ge_f hd hp' q (hn q)
  · exact C.icmp_ge_t hd ho hp q (hy q)
theorem Cx.lif_ge_t (C : Cx p s m meth c Z n0 own bc maxL ret nm) {x y : Int64} {o : Int} (hd : decode bc pc = .ok (.ifCond .ge o, 3)) (ho : 0 ≤ (pc : Int) + o) (hp : ((pc : Int) + o).toNat = pc') (hq : ¬ x < y) (hr : Go p l e R s m args below meth c n0 F h k n pc' Ls st) : Go p l e R s m args below meth c n0 F h k n pc Ls (.int (XT.cmpL x y) :: st) :=
  Go.pl (fun T locs X eT t q => XS.ifYes X.here C.1 rfl rfl (hb C.2.2.2.1 hd) rfl (XT.ll_ge_t hq) ho hp q) hr
theorem Cx.lif_ge_f (C : Cx p s m meth c Z n0 own bc maxL ret nm) {x y : Int64} {o : Int} (hd : decode bc pc = .ok (.ifCond .ge o, 3)) (hp : pc + 3 = pc') (hq : x < y) (hr : Go p l e R s m args below meth c n0 F h k n pc' Ls st) : Go p l e R s m args below meth c n0 F h k n pc Ls (.int (XT.cmpL x y) :: st) := by
  subst hp; exact Go.pl (fun T locs X eT t q => XS.ifNo X.here C.1 rfl (hb C.2.2.2.1 hd) rfl (XT.ll_ge_f hq) q) hr
theorem Cx.lif_ge (C : Cx p s m meth c Z n0 own bc maxL ret nm) {x y : Int64} {o : Int} {pc'' : Nat} (hd : decode bc pc = .ok (.ifCond .ge o, 3)) (ho : 0 ≤ (pc : Int) + o) (hp : ((pc : Int) + o).toNat = pc') (hp' : pc + 3 = pc'') (hy : ¬ x < y → Go p l e R s m args below meth c n0 F h k n pc' Ls st) (hn : x < y → Go p l e R s m args below meth c n0 F h k n pc'' Ls st) : Go p l e R s m args below meth c n0 F h k n pc Ls (.int (XT.cmpL x y) :: st) := by
  by_cases q : x < y
  · exact C.lif_ge_f hd hp' q (hn q)
  · exact C.lif_ge_t hd ho hp q (hy q)
theorem Cx.if_gt_t (C : Cx p s m meth c Z n0 own bc maxL ret nm) {x : Int32} {o : Int} (hd : decode bc pc = .ok (.ifCond .gt o, 3)) (ho : 0 ≤ (pc : Int) + o) (hp : ((pc : Int) + o).toNat = pc') (hq : 0 < x) (hr : Go p l e R s m args below meth c n0 F h k n pc' Ls st) : Go p l e R s m args below meth c n0 F h k n pc Ls (.int x :: st) :=
  Go.pl (fun T locs X eT t q => XS.ifYes X.here C.1 rfl rfl (hb C.2.2.2.1 hd) rfl (XT.i0_gt_t hq) ho hp q) hr
theorem Cx.if_gt_f (C : Cx p s m meth c Z n0 own bc maxL ret nm) {x : Int32} {o : Int} (hd : decode bc pc = .ok (.ifCond .gt o, 3)) (hp : pc + 3 = pc') (hq : ¬ 0 < x) (hr : Go p l e R s m args below meth c n0 F h k n pc' Ls st) : Go p l e R s m args below meth c n0 F h k n pc Ls (.int x :: st) := by
  subst hp; exact Go.pl (fun T locs X eT t q => XS.ifNo X.here C.1 rfl (hb C.2.2.2.1 hd) rfl (XT.i0_gt_f hq) q) hr
theorem Cx.if_gt (C : Cx p s m meth c Z n0 own bc maxL ret nm) {x : Int32} {o : Int} {pc'' : Nat} (hd : decode bc pc = .ok (.ifCond .gt o, 3)) (ho : 0 ≤ (pc : Int) + o) (hp : ((pc : Int) + o).toNat = pc') (hp' : pc + 3 = pc'') (hy : 0 < x → Go p l e R s m args below meth c n0 F h k n pc' Ls st) (hn : ¬ 0 < x → Go p l e R s m args below meth c n0 F h k n pc'' Ls st) : Go p l e R s m args below meth c n0 F h k n pc Ls (.int x :: st) := by
  by_cases q : 0 < x
  · exact C.if_gt_t hd ho hp q (hy q)
  · exact C.if_gt_f hd hp' q (hn q)
theorem Cx.icmp_gt_t (C : Cx p s m meth c Z n0 own bc maxL ret nm) {x y : Int32} {o : Int} (hd : decode bc pc = .ok (.if_icmp .gt o, 3)) (ho : 0 ≤ (pc : Int) + o) (hp : ((pc : Int) + o).toNat = pc') (hq : y < x) (hr : Go p l e R s m args below meth c n0 F h k n pc' Ls st) : Go p l e R s m args below meth c n0 F h k n pc Ls (.int y :: .int x :: st) :=
  Go.pl (fun T locs X eT t q => XS.icmpYes X.here C.1 rfl rfl (hb C.2.2.2.1 hd) rfl (XT.ii_gt_t hq) ho hp q) hr
theorem Cx.icmp_gt_f (C : Cx p s m meth c Z n0 own bc maxL ret nm) {x y : Int32} {o : Int} (hd : decode bc pc = .ok (.if_icmp .gt o, 3)) (hp : pc + 3 = pc') (hq : ¬ y < x) (hr : Go p l e R s m args below meth c n0 F h k n pc' Ls st) : Go p l e R s m args below meth c n0 F h k n pc Ls (.int y :: .int x :: st) := by
  subst hp; exact Go.pl (fun T locs X eT t q => XS.icmpNo X.here C.1 rfl (hb C.2.2.2.1 hd) rfl (XT.ii_gt_f hq) q) hr
theorem Cx.icmp_gt (C : Cx p s m meth c Z n0 own bc maxL ret nm) {x y : Int32} {o : Int} {pc'' : Nat} (hd : decode bc pc = .ok (.if_icmp .gt o, 3)) (ho : 0 ≤ (pc : Int) + o) (hp : ((pc : Int) + o).toNat = pc') (hp' : pc + 3 = pc'') (hy : y < x → Go p l e R s m args below meth c n0 F h k n pc' Ls st) (hn : ¬ y < x → Go p l e R s m args below meth c n0 F h k n pc'' Ls st) : Go p l e R s m args below meth c n0 F h k n pc Ls (.int y :: .int x :: st) := by
  by_cases q : y < x
  · exact C.icmp_gt_t hd ho hp q (hy q)
  · exact C.icmp_gt_f hd hp' q (hn q)
theorem Cx.lif_gt_t (C : Cx p s m meth c Z n0 own bc maxL ret nm) {x y : Int64} {o : Int} (hd : decode bc pc = .ok (.ifCond .gt o, 3)) (ho : 0 ≤ (pc : Int) + o) (hp : ((pc : Int) + o).toNat = pc') (hq : y < x) (hr : Go p l e R s m args below meth c n0 F h k n pc' Ls st) : Go p l e R s m args below meth c n0 F h k n pc Ls (.int (XT.cmpL x y) :: st) :=
  Go.pl (fun T locs X eT t q => XS.ifYes X.here C.1 rfl rfl (hb C.2.2.2.1 hd) rfl (XT.ll_gt_t hq) ho hp q) hr
theorem Cx.lif_gt_f (C : Cx p s m meth c Z n0 own bc maxL ret nm) {x y : Int64} {o : Int} (hd : decode bc pc = .ok (.ifCond .gt o, 3)) (hp : pc + 3 = pc') (hq : ¬ y < x) (hr : Go p l e R s m args below meth c n0 F h k n pc' Ls st) : Go p l e R s m args below meth c n0 F h k n pc Ls (.int (XT.cmpL x y) :: st) := by
  subst hp; exact Go.pl (fun T locs X eT t q => XS.ifNo X.here C.1 rfl (hb C.2.2.2.1 hd) rfl (XT.ll_gt_f hq) q) hr
theorem Cx.lif_gt (C : Cx p s m meth c Z n0 own bc maxL ret nm) {x y : Int64} {o : Int} {pc'' : Nat} (hd : decode bc pc = .ok (.ifCond .gt o, 3)) (ho : 0 ≤ (pc : Int) + o) (hp : ((pc : Int) + o).toNat = pc') (hp' : pc + 3 = pc'') (hy : y < x → Go p l e R s m args below meth c n0 F h k n pc' Ls st) (hn : ¬ y < x → Go p l e R s m args below meth c n0 F h k n pc'' Ls st) : Go p l e R s m args below meth c n0 F h k n pc Ls (.int (XT.cmpL x y) :: st) := by
  by_cases q : y < x
  · exact C.lif_gt_t hd ho hp q (hy q)
  · exact C.lif_gt_f hd hp' q (hn q)
theorem Cx.if_le_t (C : Cx p s m meth c Z n0 own bc maxL ret nm) {x : Int32} {o : Int} (hd : decode bc pc = .ok (.ifCond .le o, 3)) (ho : 0 ≤ (pc : Int) + o) (hp : ((pc : Int) + o).toNat = pc') (hq : ¬ 0 < x) (hr : Go p l e R s m args below meth c n0 F h k n pc' Ls st) : Go p l e R s m args below meth c n0 F h k n pc Ls (.int x :: st) :=
  Go.pl (fun T locs X eT t q => XS.ifYes X.here C.1 rfl rfl (hb C.2.2.2.1 hd) rfl (XT.i0_le_t hq) ho hp q) hr
theorem Cx.if_le_f (C : Cx p s m meth c Z n0 own bc maxL ret nm) {x : Int32} {o : Int} (hd : decode bc pc = .ok (.ifCond .le o, 3)) (hp : pc + 3 = pc') (hq : 0 < x) (hr : Go p l e R s m args below meth c n0 F h k n pc' Ls st) : Go p l e R s m args below meth c n0 F h k n pc Ls (.int x :: st) := by
  subst hp; exact Go.pl (fun T locs X eT t q => XS.ifNo X.here C.1 rfl (hb C.2.2.2.1 hd) rfl (XT.i0_le_f hq) q) hr
theorem Cx.if_le (C : Cx p s m meth c Z n0 own bc maxL ret nm) {x : Int32} {o : Int} {pc'' : Nat} (hd : decode bc pc = .ok (.ifCond .le o, 3)) (ho : 0 ≤ (pc : Int) + o) (hp : ((pc : Int) + o).toNat = pc') (hp' : pc + 3 = pc'') (hy : ¬ 0 < x → Go p l e R s m args below meth c n0 F h k n pc' Ls st) (hn : 0 < x → Go p l e R s m args below meth c n0 F h k n pc'' Ls st) : Go p l e R s m args below meth c n0 F h k n pc Ls (.int x :: st) := by
  by_cases q : 0 < x
  · exact C.if_le_f hd hp' q (hn q)
  · exact C.if_le_t hd ho hp q (hy q)
theorem Cx.icmp_le_t (C : Cx p s m meth c Z n0 own bc maxL ret nm) {x y : Int32} {o : Int} (hd : decode bc pc = .ok (.if_icmp .le o, 3)) (ho : 0 ≤ (pc : Int) + o) (hp : ((pc : Int) + o).toNat = pc') (hq : ¬ y < x) (hr : Go p l e R s m args below meth c n0 F h k n pc' Ls st) : Go p l e R s m args below meth c n0 F h k n pc Ls (.int y :: .int x :: st) :=
  Go.pl (fun T locs X eT t q => XS.icmpYes X.here C.1 rfl rfl (hb C.2.2.2.1 hd) rfl (XT.ii_le_t hq) ho hp q) hr
theorem Cx.icmp_le_f (C : Cx p s m meth c Z n0 own bc maxL ret nm) {x y : Int32} {o : Int} (hd : decode bc pc = .ok (.if_icmp .le o, 3)) (hp : pc + 3 = pc') (hq : y < x) (hr : Go p l e R s m args below meth c n0 F h k n pc' Ls st) : Go p l e R s m args below meth c n0 F h k n pc Ls (.int y :: .int x :: st) := by
  subst hp; exact Go.pl (fun T locs X eT t q => XS.icmpNo X.here C.1 rfl (hb C.2.2.2.1 hd) rfl (XT.ii_le_f hq) q) hr
theorem Cx.icmp_le (C : Cx p s m meth c Z n0 own bc maxL ret nm) {x y : Int32} {o : Int} {pc'' : Nat} (hd : decode bc pc = .ok (.if_icmp .le o, 3)) (ho : 0 ≤ (pc : Int) + o) (hp : ((pc : Int) + o).toNat = pc') (hp' : pc + 3 = pc'') (hy : ¬ y < x → Go p l e R s m args below meth c n0 F h k n pc' Ls st) (hn : y < x → Go p l e R s m args below meth c n0 F h k n pc'' Ls st) : Go p l e R s m args below meth c n0 F h k n pc Ls (.int y :: .int x :: st) := by
  by_cases q : y < x
  · exact C.icmp_le_f hd hp' q (hn q)
  · exact C.icmp_le_t hd ho hp q (hy q)
theorem Cx.lif_le_t (C : Cx p s m meth c Z n0 own bc maxL ret nm) {x y : Int64} {o : Int} (hd : decode bc pc = .ok (.ifCond .le o, 3)) (ho : 0 ≤ (pc : Int) + o) (hp : ((pc : Int) + o).toNat = pc') (hq : ¬ y < x) (hr : Go p l e R s m args below meth c n0 F h k n pc' Ls st) : Go p l e R s m args below meth c n0 F h k n pc Ls (.int (XT.cmpL x y) :: st) :=
  Go.pl (fun T locs X eT t q => XS.ifYes X.here C.1 rfl rfl (hb C.2.2.2.1 hd) rfl (XT.ll_le_t hq) ho hp q) hr
theorem Cx.lif_le_f (C : Cx p s m meth c Z n0 own bc maxL ret nm) {x y : Int64} {o : Int} (hd : decode bc pc = .ok (.ifCond .le o, 3)) (hp : pc + 3 = pc') (hq : y < x) (hr : Go p l e R s m args below meth c n0 F h k n pc' Ls st) : Go p l e R s m args below meth c n0 F h k n pc Ls (.int (XT.cmpL x y) :: st) := by
  subst hp; exact Go.pl (fun T locs X eT t q => XS.ifNo X.here C.1 rfl (hb C.2.2.2.1 hd) rfl (XT.ll_le_f hq) q) hr
theorem Cx.lif_le (C : Cx p s m meth c Z n0 own bc maxL ret nm) {x y : Int64} {o : Int} {pc'' : Nat} (hd : decode bc pc = .ok (.ifCond .le o, 3)) (ho : 0 ≤ (pc : Int) + o) (hp : ((pc : Int) + o).toNat = pc') (hp' : pc + 3 = pc'') (hy : ¬ y < x → Go p l e R s m args below meth c n0 F h k n pc' Ls st) (hn : y < x → Go p l e R s m args below meth c n0 F h k n pc'' Ls st) : Go p l e R s m args below meth c n0 F h k n pc Ls (.int (XT.cmpL x y) :: st) := by
  by_cases q : y < x
  · exact C.lif_le_f hd hp' q (hn q)
  · exact C.lif_le_t hd ho hp q (hy q)
theorem Cx.ifnull_ref (C : Cx p s m meth c Z n0 own bc maxL ret nm) {o : Int} {b : Addr} (hd : decode bc pc = .ok (.ifnull o, 3)) (hp : pc + 3 = pc')  (hr : Go p l e R s m args below meth c n0 F h k n pc' Ls (st)) : Go p l e R s m args below meth c n0 F h k n pc Ls (.ref b :: st) := by
  subst hp; exact Go.pl (fun T locs X eT t q => XS.ifnullNo X.here C.1 rfl (hb C.2.2.2.1 hd) rfl q) hr
theorem Cx.ifnonnull_null (C : Cx p s m meth c Z n0 own bc maxL ret nm) {o : Int} (hd : decode bc pc = .ok (.ifnonnull o, 3)) (hp : pc + 3 = pc')  (hr : Go p l e R s m args below meth c n0 F h k n pc' Ls (st)) : Go p l e R s m args below meth c n0 F h k n pc Ls (.null :: st) := by
  subst hp; exact Go.pl (fun T locs X eT t q => XT.ifnonnullNo X.here C.1 rfl (hb C.2.2.2.1 hd) rfl q) hr
theorem Cx.ifnull_null (C : Cx p s m meth c Z n0 own bc maxL ret nm) {b : Addr} {o : Int} (hd : decode bc pc = .ok (.ifnull o, 3)) (ho : 0 ≤ (pc : Int) + o) (hp : ((pc : Int) + o).toNat = pc') (hr : Go p l e R s m args below meth c n0 F h k n pc' Ls st) : Go p l e R s m args below meth c n0 F h k n pc Ls (.null :: st) := by
  exact Go.pl (fun T locs X eT t q => XS.ifnullYes X.here C.1 rfl rfl (hb C.2.2.2.1 hd) rfl ho hp q) hr
theorem Cx.ifnonnull_ref (C : Cx p s m meth c Z n0 own bc maxL ret nm) {b : Addr} {o : Int} (hd : decode bc pc = .ok (.ifnonnull o, 3)) (ho : 0 ≤ (pc : Int) + o) (hp : ((pc : Int) + o).toNat = pc') (hr : Go p l e R s m args below meth c n0 F h k n pc' Ls st) : Go p l e R s m args below meth c n0 F h k n pc Ls (.ref b :: st) := by
  exact Go.pl (fun T locs X eT t q => XT.ifnonnullYes X.here C.1 rfl rfl (hb C.2.2.2.1 hd) rfl ho hp q) hr
theorem Cx.ldcI (C : Cx p s m meth c Z n0 own bc maxL ret nm) {j : Nat} {v : Int32} (hd : decode bc pc = .ok (.ldc j, 2)) (hp : pc + 2 = pc') (w : (Jvm.Cond.constant own j v).before a0 Z = true) (hr : Go p l e R s m args below meth c n0 F h k n pc' Ls (.int v :: st)) : Go p l e R s m args below meth c n0 F h k n pc Ls st := by
  subst hp; exact Go.pl (fun T locs X eT t q => X.ldcI C.1 C.2.2.1 (mv C.2.1 w) rfl (hb C.2.2.2.1 hd) q) hr
theorem Cx.ldcWI (C : Cx p s m meth c Z n0 own bc maxL ret nm) {j : Nat} {v : Int32} (hd : decode bc pc = .ok (.ldc_w j, 3)) (hp : pc + 3 = pc') (w : (Jvm.Cond.constant own j v).before a0 Z = true) (hr : Go p l e R s m args below meth c n0 F h k n pc' Ls (.int v :: st)) : Go p l e R s m args below meth c n0 F h k n pc Ls st := by
  subst hp; exact Go.pl (fun T locs X eT t q => X.ldcWI C.1 C.2.2.1 (mv C.2.1 w) rfl (hb C.2.2.2.1 hd) q) hr
theorem Cx.ldc2J (C : Cx p s m meth c Z n0 own bc maxL ret nm) {j : Nat} {v : Int64} (hd : decode bc pc = .ok (.ldc2_w j, 3)) (hp : pc + 3 = pc') (w : (Jvm.Cond.constantLong own j v).before a0 Z = true) (hr : Go p l e R s m args below meth c n0 F h k n pc' Ls (.long v :: st)) : Go p l e R s m args below meth c n0 F h k n pc Ls st := by
  subst hp; exact Go.pl (fun T locs X eT t q => X.ldc2J C.1 C.2.2.1 (mv C.2.1 w) rfl (hb C.2.2.2.1 hd) q) hr
theorem Cx.alen (C : Cx p s m meth c Z n0 own bc maxL ret nm) {a : Addr} {ty : FieldType} {vs : List Value} (hd : decode bc pc = .ok (.arraylength, 1)) (hp : pc + 1 = pc') (A : Av Z h a ty vs) (hr : Go p l e R s m args below meth c n0 F h k n pc' Ls (.int vs.length.toInt32 :: st)) : Go p l e R s m args below meth c n0 F h k n pc Ls (.ref a :: st) := by
  obtain ⟨cl, A, rfl, -⟩ := A; subst hp; refine Go.pl (fun T locs X eT t q => X.arraylength C.1 (cell := cl) (by rw [eT]; exact A.1) (State.isArrayOf_alike C.2.1.alike A.2.1) (g := mkF m pc Ls (.ref a :: st)) rfl rfl (hb C.2.2.2.1 hd) t q) (by simpa using hr)
theorem Cx.iaload (C : Cx p s m meth c Z n0 own bc maxL ret nm) {a : Addr} {vs : List Value} {j : Int32} (v : Value) (hd : decode bc pc = .ok (.iaload, 1)) (hp : pc + 1 = pc') (A : Av Z h a .int vs) (hj : ¬ j < 0) (hv : vs[j.toNatClampNeg]? = some v) (hr : Go p l e R s m args below meth c n0 F h k n pc' Ls (v :: st)) : Go p l e R s m args below meth c n0 F h k n pc Ls (.int j :: .ref a :: st) := by
  obtain ⟨cl, A, rfl, -⟩ := A; subst hp; rw [Array.getElem?_toList] at hv; exact Go.pl (fun T locs X eT t q => X.iaload C.1 (by rw [eT]; exact A.1) (State.isArrayOf_alike C.2.1.alike A.2.1) A.2.2 (own_in hj hv) hv (g := mkF m pc Ls (.int j :: .ref a :: st)) rfl rfl (hb C.2.2.2.1 hd) t q) hr
theorem Cx.laload (C : Cx p s m meth c Z n0 own bc maxL ret nm) {a : Addr} {vs : List Value} {j : Int32} (v : Value) (hd : decode bc pc = .ok (.laload, 1)) (hp : pc + 1 = pc') (A : Av Z h a .long vs) (hj : ¬ j < 0) (hv : vs[j.toNatClampNeg]? = some v) (hr : Go p l e R s m args below meth c n0 F h k n pc' Ls (v :: st)) : Go p l e R s m args below meth c n0 F h k n pc Ls (.int j :: .ref a :: st) := by
  obtain ⟨cl, A, rfl, -⟩ := A; subst hp; rw [Array.getElem?_toList] at hv; exact Go.pl (fun T locs X eT t q => X.laload C.1 (by rw [eT]; exact A.1) (State.isArrayOf_alike C.2.1.alike A.2.1) A.2.2 (own_in hj hv) hv (g := mkF m pc Ls (.int j :: .ref a :: st)) rfl rfl (hb C.2.2.2.1 hd) t q) hr
theorem Cx.caload (C : Cx p s m meth c Z n0 own bc maxL ret nm) {a : Addr} {vs : List Value} {j : Int32} (v : Value) (hd : decode bc pc = .ok (.caload, 1)) (hp : pc + 1 = pc') (A : Av Z h a .char vs) (hj : ¬ j < 0) (hv : vs[j.toNatClampNeg]? = some v) (hr : Go p l e R s m args below meth c n0 F h k n pc' Ls (v :: st)) : Go p l e R s m args below meth c n0 F h k n pc Ls (.int j :: .ref a :: st) := by
  obtain ⟨cl, A, rfl, -⟩ := A; subst hp; rw [Array.getElem?_toList] at hv; exact Go.pl (fun T locs X eT t q => X.caload C.1 (by rw [eT]; exact A.1) (State.isArrayOf_alike C.2.1.alike A.2.1) A.2.2 (own_in hj hv) hv (g := mkF m pc Ls (.int j :: .ref a :: st)) rfl rfl (hb C.2.2.2.1 hd) t q) hr
theorem Cx.baload (C : Cx p s m meth c Z n0 own bc maxL ret nm) {a : Addr} {vs : List Value} {j : Int32} (v : Value) (hd : decode bc pc = .ok (.baload, 1)) (hp : pc + 1 = pc') (A : Av Z h a .byte vs) (hj : ¬ j < 0) (hv : vs[j.toNatClampNeg]? = some v) (hr : Go p l e R s m args below meth c n0 F h k n pc' Ls (v :: st)) : Go p l e R s m args below meth c n0 F h k n pc Ls (.int j :: .ref a :: st) := by
  obtain ⟨cl, A, rfl, -⟩ := A; subst hp; rw [Array.getElem?_toList] at hv; exact Go.pl (fun T locs X eT t q => X.baloadBytes C.1 (by rw [eT]; exact A.1) (State.isArrayOf_alike C.2.1.alike A.2.1) A.2.2 (own_in hj hv) hv (g := mkF m pc Ls (.int j :: .ref a :: st)) rfl rfl (hb C.2.2.2.1 hd) t q) hr
theorem Cx.zaload (C : Cx p s m meth c Z n0 own bc maxL ret nm) {a : Addr} {vs : List Value} {j : Int32} (v : Value) (hd : decode bc pc = .ok (.baload, 1)) (hp : pc + 1 = pc') (A : Av Z h a .boolean vs) (hj : ¬ j < 0) (hv : vs[j.toNatClampNeg]? = some v) (hr : Go p l e R s m args below meth c n0 F h k n pc' Ls (v :: st)) : Go p l e R s m args below meth c n0 F h k n pc Ls (.int j :: .ref a :: st) := by
  obtain ⟨cl, A, rfl, -⟩ := A; subst hp; rw [Array.getElem?_toList] at hv; exact Go.pl (fun T locs X eT t q => X.baloadBooleans C.1 (by rw [eT]; exact A.1) (State.isArrayOf_alike C.2.1.alike A.2.1) A.2.2 (own_in hj hv) hv (g := mkF m pc Ls (.int j :: .ref a :: st)) rfl rfl (hb C.2.2.2.1 hd) t q) hr
theorem Cx.iastore (C : Cx p s m meth c Z n0 own bc maxL ret nm) {a : Addr} {vs : List Value} {j : Int32} {x : Int32} (hd : decode bc pc = .ok (.iastore, 1)) (hp : pc + 1 = pc') (A : Av Z h a .int vs) (ha : n0 ≤ a) (hj : ¬ j < 0) (hl : j.toNatClampNeg < vs.length) (hr : ∀ h', Wr h h' a j.toNatClampNeg (.int x) → Av Z h' a .int (vs.set j.toNatClampNeg (.int x)) → Go p l e R s m args below meth c n0 F h' k n pc' Ls st) : Go p l e R s m args below meth c n0 F h k n pc Ls (.int x :: .int j :: .ref a :: st) := by
  intro T locs X eT N; have A0 := A; obtain ⟨cl, A, rfl, -⟩ := A; subst hp; rw [Array.length_toList] at hl
  obtain ⟨T', h', X', e', W, stp⟩ := stI X C.1 C.2.1 eT A (own_in2 hj hl) (g := mkF m pc Ls (.int x :: .int j :: .ref a :: st)) rfl rfl (hb C.2.2.2.1 hd)
  obtain ⟨s₂, o, q1, q2⟩ := hr h' W (A0.same W rfl) T' _ X' e' (Fr.snoc X' N ha)
  exact ⟨s₂, o, stp _ q1, q2⟩
theorem Cx.lastore (C : Cx p s m meth c Z n0 own bc maxL ret nm) {a : Addr} {vs : List Value} {j : Int32} {x : Int64} (hd : decode bc pc = .ok (.lastore, 1)) (hp : pc + 1 = pc') (A : Av Z h a .long vs) (ha : n0 ≤ a) (hj : ¬ j < 0) (hl : j.toNatClampNeg < vs.length) (hr : ∀ h', Wr h h' a j.toNatClampNeg (.long x) → Av Z h' a .long (vs.set j.toNatClampNeg (.long x)) → Go p l e R s m args below meth c n0 F h' k n pc' Ls st) : Go p l e R s m args below meth c n0 F h k n pc Ls (.long x :: .int j :: .ref a :: st) := by
  intro T locs X eT N; have A0 := A; obtain ⟨cl, A, rfl, -⟩ := A; subst hp; rw [Array.length_toList] at hl
  obtain ⟨T', h', X', e', W, stp⟩ := stJ X C.1 C.2.1 eT A (own_in2 hj hl) (g := mkF m pc Ls (.long x :: .int j :: .ref a :: st)) rfl rfl (hb C.2.2.2.1 hd)
  obtain ⟨s₂, o, q1, q2⟩ := hr h' W (A0.same W rfl) T' _ X' e' (Fr.snoc X' N ha)
  exact ⟨s₂, o, stp _ q1, q2⟩
theorem Cx.castore (C : Cx p s m meth c Z n0 own bc maxL ret nm) {a : Addr} {vs : List Value} {j : Int32} {x : Int32} (hd : decode bc pc = .ok (.castore, 1)) (hp : pc + 1 = pc') (A : Av Z h a .char vs) (ha : n0 ≤ a) (hj : ¬ j < 0) (hl : j.toNatClampNeg < vs.length) (hr : ∀ h', Wr h h' a j.toNatClampNeg (.int (nar .char x)) → Av Z h' a .char (vs.set j.toNatClampNeg (.int (nar .char x))) → Go p l e R s m args below meth c n0 F h' k n pc' Ls st) : Go p l e R s m args below meth c n0 F h k n pc Ls (.int x :: .int j :: .ref a :: st) := by
  intro T locs X eT N; have A0 := A; obtain ⟨cl, A, rfl, -⟩ := A; subst hp; rw [Array.length_toList] at hl
  obtain ⟨T', h', X', e', W, stp⟩ := stC X C.1 C.2.1 eT A (own_in2 hj hl) (g := mkF m pc Ls (.int x :: .int j :: .ref a :: st)) rfl rfl (hb C.2.2.2.1 hd)
  obtain ⟨s₂, o, q1, q2⟩ := hr h' W (A0.same W (fits_nar_char x)) T' _ X' e' (Fr.snoc X' N ha)
  exact ⟨s₂, o, stp _ q1, q2⟩
theorem Cx.bastore (C : Cx p s m meth c Z n0 own bc maxL ret nm) {a : Addr} {vs : List Value} {j : Int32} {x : Int32} (hd : decode bc pc = .ok (.bastore, 1)) (hp : pc + 1 = pc') (A : Av Z h a .byte vs) (ha : n0 ≤ a) (hj : ¬ j < 0) (hl : j.toNatClampNeg < vs.length) (hr : ∀ h', Wr h h' a j.toNatClampNeg (.int (nar .byte x)) → Av Z h' a .byte (vs.set j.toNatClampNeg (.int (nar .byte x))) → Go p l e R s m args below meth c n0 F h' k n pc' Ls st) : Go p l e R s m args below meth c n0 F h k n pc Ls (.int x :: .int j :: .ref a :: st) := by
  intro T locs X eT N; have A0 := A; obtain ⟨cl, A, rfl, -⟩ := A; subst hp; rw [Array.length_toList] at hl
  obtain ⟨T', h', X', e', W, stp⟩ := stB X C.1 C.2.1 eT A (own_in2 hj hl) (g := mkF m pc Ls (.int x :: .int j :: .ref a :: st)) rfl rfl (hb C.2.2.2.1 hd)
  obtain ⟨s₂, o, q1, q2⟩ := hr h' W (A0.same W (fits_nar_byte x)) T' _ X' e' (Fr.snoc X' N ha)
  exact ⟨s₂, o, stp _ q1, q2⟩
theorem Cx.zastore (C : Cx p s m meth c Z n0 own bc maxL ret nm) {a : Addr} {vs : List Value} {j : Int32} {x : Int32} (hd : decode bc pc = .ok (.bastore, 1)) (hp : pc + 1 = pc') (A : Av Z h a .boolean vs) (ha : n0 ≤ a) (hj : ¬ j < 0) (hl : j.toNatClampNeg < vs.length) (hr : ∀ h', Wr h h' a j.toNatClampNeg (.int (nar .boolean x)) → Av Z h' a .boolean (vs.set j.toNatClampNeg (.int (nar .boolean x))) → Go p l e R s m args below meth c n0 F h' k n pc' Ls st) : Go p l e R s m args below meth c n0 F h k n pc Ls (.int x :: .int j :: .ref a :: st) := by
  intro T locs X eT N; have A0 := A; obtain ⟨cl, A, rfl, -⟩ := A; subst hp; rw [Array.length_toList] at hl
  obtain ⟨T', h', X', e', W, stp⟩ := stZ X C.1 C.2.1 eT A (own_in2 hj hl) (g := mkF m pc Ls (.int x :: .int j :: .ref a :: st)) rfl rfl (hb C.2.2.2.1 hd)
  obtain ⟨s₂, o, q1, q2⟩ := hr h' W (A0.same W (fits_nar_bool x)) T' _ X' e' (Fr.snoc X' N ha)
  exact ⟨s₂, o, stp _ q1, q2⟩
theorem Cx.new (C : Cx p s m meth c Z n0 own bc maxL ret nm) {cls : String} {j nn : Nat} (hd : decode bc pc = .ok (.new j, 3)) (hp : pc + 3 = pc') (w1 : (Jvm.Cond.classLink own j cls).before a0 Z = true) (w2 : (Jvm.Cond.instantiable cls nn).before a0 Z = true) (w3 : (Jvm.Cond.initialized cls).before a0 Z = true) (hk : k + 1 ≤ R.cells) (hn : n + nn ≤ R.slots)
    (hr : ∀ (a : Addr) (h' : Heap), a = h.size → n0 ≤ a → Ext h h' → Exa Z h' a cls → (∀ {O f d : String} {ty : FieldType}, Laid Z a0 cls O f d → parseFieldDescriptor d = some ty → Fld Z h' a O f d (defaultValue ty)) → Go p l e R s m args below meth c n0 F h' (k + 1) (n + nn) pc' Ls (.ref a :: st)) : Go p l e R s m args below meth c n0 F h k n pc Ls st := by
  intro T locs X eT N
  subst hp
  obtain ⟨T', h', X', e', E', A', D', -, stp⟩ := newO X C.1 C.2.1 C.2.2.1 w1 w2 w3 eT (g := mkF m pc Ls st) rfl (hb C.2.2.2.1 hd) hk hn
  obtain ⟨s₂, o, q1, q2⟩ := hr h.size h' rfl (by rw [← eT]; exact C.size X) E' A' D' T' _ X' e' N
  exact ⟨s₂, o, stp _ q1, q2⟩
theorem Cx.newarr (C : Cx p s m meth c Z n0 own bc maxL ret nm) {aty : ArrayType} {ty : FieldType} {z : Int32} (cap : Nat) (hd : decode bc pc = .ok (.newarray aty, 2)) (hp : pc + 2 = pc') (hty : newarray.typeOf aty = ty) (w : (Jvm.Cond.arrayClass ty).before a0 Z = true) (hz : ¬ z < 0) (hcap : z.toNatClampNeg ≤ cap) (hb8 : cap * 8 ≤ 536870912) (hk : k + 1 ≤ R.cells) (hn : n + cap ≤ R.slots)
    (hr : ∀ (a : Addr) (h' : Heap), a = h.size → n0 ≤ a → Ext h h' → Av Z h' a ty (List.replicate z.toNatClampNeg (defaultValue ty)) → Go p l e R s m args below meth c n0 F h' (k + 1) (n + cap) pc' Ls (.ref a :: st)) : Go p l e R s m args below meth c n0 F h k n pc Ls (.int z :: st) := by
  intro T locs X eT N
  subst hp hty
  obtain ⟨T', h', cA, X', e', E', A', stp⟩ := newP X C.1 C.2.1 w eT (g := mkF m pc Ls (.int z :: st)) rfl (hb C.2.2.2.1 hd) rfl hz hcap hb8 hk hn
  obtain ⟨s₂, o, q1, q2⟩ := hr h.size h' rfl (by rw [← eT]; exact C.size X) E' (Av.new A') T' _ X' e' N
  exact ⟨s₂, o, stp _ q1, q2⟩
theorem Cx.initO (C : Cx p s m meth c Z n0 own bc maxL ret nm) {j : Nat} {a : Addr} (W : Nat) (hd : decode bc pc = .ok (.invokespecial j, 3)) (hp : pc + 3 = pc') (w1 : (Jvm.Cond.methodLink own j Lib.objectInit).before a0 Z = true) (w2 : (Jvm.Cond.instanceMethod Lib.objectInit).before a0 Z = true) (w3 : (Jvm.Cond.code Lib.objectInit ⟨#[0xb1]⟩ 1 none).before a0 Z = true) (hsz : Ls.size = maxL) (hf : 1 ≤ R.frames) (hW : (st.map fun v => v.category).sum ≤ W) (hl : W + 12 ≤ R.locals)
    (hr : Go p l e R s m args below meth c n0 F h k n pc' Ls st) : Go p l e R s m args below meth c n0 F h k n pc Ls (.ref a :: st) := by
  intro T locs X eT N
  subst hp
  obtain ⟨T', X', e', stp⟩ := RoadKit.initO X C.1 C.2.1 C.2.2.1 w1 w2 w3 eT (g := mkF m pc Ls (.ref a :: st)) rfl (hsz.trans C.2.2.2.2.1.symm) rfl (hb C.2.2.2.1 hd) hf (W := W) (by show 2 * 0 + _ ≤ W; omega) hl
  obtain ⟨s₂, o, q1, q2⟩ := hr T' _ X' e' N
  exact ⟨s₂, o, stp _ q1, q2⟩
theorem Cx.getF (C : Cx p s m meth c Z n0 own bc maxL ret nm) {O f d : String} {j : Nat} {a : Addr} {v : Value} (hd : decode bc pc = .ok (.getfield j, 3)) (hp : pc + 3 = pc') (w : (Jvm.Cond.fieldLink own j O f d).before a0 Z = true) (F' : Fld Z h a O f d v)
    (hr : Go p l e R s m args below meth c n0 F h k n pc' Ls (v :: st)) : Go p l e R s m args below meth c n0 F h k n pc Ls (.ref a :: st) := by
  intro T locs X eT N
  subst hp
  obtain ⟨T', X', e', stp⟩ := RoadKit.getF X C.1 C.2.1 C.2.2.1 (host := "") (Or.inl w) Via.refl eT F' (g := mkF m pc Ls (.ref a :: st)) rfl rfl (hb C.2.2.2.1 hd)
  obtain ⟨s₂, o, q1, q2⟩ := hr T' _ X' e' N
  exact ⟨s₂, o, stp _ q1, q2⟩
theorem Cx.putF (C : Cx p s m meth c Z n0 own bc maxL ret nm) {O f d cls : String} {j kk : Nat} {ty : FieldType} {a : Addr} {v old : Value} (hd : decode bc pc = .ok (.putfield j, 3)) (hp : pc + 3 = pc') (w : (Jvm.Cond.fieldLink own j O f d).before a0 Z = true) (F' : Fld Z h a O f d old) (E : Exa Z h a cls)
    (L : (Jvm.Cond.lays cls O f d).before a0 Z = true ∨ ((Jvm.Cond.laysFinal cls O f d).before a0 Z = true ∧ own = O ∧ nm = "<init>")) (wi : (Jvm.Cond.instantiable cls kk).before a0 Z = true) (hty : parseFieldDescriptor d = some ty) (hnr : narrow ty v = v) (hf : fits ty v = true) (ha : n0 ≤ a)
    (hr : ∀ h', Wr h h' a (Jvm.RoadKit.slotOf Z O f d) v → Fld Z h' a O f d v → Go p l e R s m args below meth c n0 F h' k n pc' Ls st) : Go p l e R s m args below meth c n0 F h k n pc Ls (v :: .ref a :: st) := by
  intro T locs X eT N
  subst hp
  obtain ⟨T', h', X', e', W, stp⟩ := RoadKit.putF X C.1 C.2.1 C.2.2.1 (host := "") (Or.inl w) Via.refl eT F' E (L.imp id fun q => ⟨q.1, q.2.1, C.2.2.2.2.2.2.1.trans q.2.2⟩) wi hty hnr hf (g := mkF m pc Ls (v :: .ref a :: st)) rfl rfl (hb C.2.2.2.1 hd)
  obtain ⟨s₂, o, q1, q2⟩ := hr h' W (F'.same W) T' _ X' e' (Fr.snoc X' N ha)
  exact ⟨s₂, o, stp _ q1, q2⟩
/-! the end of a body -/
theorem Cx.ret0 {Q : Option Value → Heap → Prop} {ck cs : Nat} (C : Cx p s m meth c Z n0 own bc maxL none nm) (hd : decode bc pc = .ok (.return_, 1)) (hk : k ≤ ck) (hn : n ≤ cs) (hq : Q none h) : Go p l e R s m args below meth c n0 (FinQ s n0 Q ck cs) h k n pc Ls [] := by
  intro T locs X eT N
  have hlk := C.2.2.2.2.2.2.2.1
  obtain ⟨fs, hr, hrun, hended, hW, hsame⟩ := X.leave (v := none) (fun _ => rfl) hlk
  exact ⟨_, _, X.returnOut C.1 C.2.2.2.2.2.1 (hb C.2.2.2.1 hd) hr, hrun, hended, _, _, rfl, ⟨by show Q none T.heap; rw [eT]; exact hq, N⟩, ⟨_, rfl⟩, hW, hsame.mono hk hn⟩
theorem Cx.retW {Q : Option Value → Heap → Prop} {ck cs : Nat} {t : FieldType} {w : Value} {i : Instr} (C : Cx p s m meth c Z n0 own bc maxL (some t) nm) (hd : decode bc pc = .ok (i, 1)) (hnr : narrow t w = w)
    (hi : (i = .ireturn ∧ (t = .int ∨ t = .boolean ∨ t = .byte ∨ t = .char ∨ t = .short) ∧ ∃ z, w = .int z) ∨ (i = .lreturn ∧ t = .long ∧ ∃ z, w = .long z) ∨ (i = .dreturn ∧ t = .double ∧ ∃ z, w = .double z) ∨ (i = .freturn ∧ t = .float ∧ ∃ z, w = .float z) ∨ (i = .areturn ∧ t.isReference = true ∧ w.isRef = true))
    (hk : k ≤ ck) (hn : n ≤ cs) (hq : Q (some w) h) : Go p l e R s m args below meth c n0 (FinQ s n0 Q ck cs) h k n pc Ls (w :: st) := by
  intro T locs X eT N
  have hlk := C.2.2.2.2.2.2.2.1
  have hrt := C.2.2.2.2.2.1
  obtain ⟨fs, hr, hrun, hended, hW, hsame⟩ := X.leave (v := some w) (fun q => by rw [hrt] at q; cases q) hlk
  exact ⟨_, _, retOut X C.1 hrt hnr hi (hb C.2.2.2.1 hd) hr, hrun, hended, _, _, rfl, ⟨by show Q (some w) T.heap; rw [eT]; exact hq, N⟩, ⟨_, rfl⟩, hW, hsame.mono hk hn⟩
theorem Cx.retI {Q : Option Value → Heap → Prop} {ck cs : Nat} {z : Int32} (C : Cx p s m meth c Z n0 own bc maxL (some .int) nm) (hd : decode bc pc = .ok (.ireturn, 1)) (hk : k ≤ ck) (hn : n ≤ cs) (hq : Q (some (.int z)) h) : Go p l e R s m args below meth c n0 (FinQ s n0 Q ck cs) h k n pc Ls (.int z :: st) :=
  C.retW hd rfl (Or.inl ⟨rfl, Or.inl rfl, z, rfl⟩) hk hn hq
theorem Cx.retZ {Q : Option Value → Heap → Prop} {ck cs : Nat} {z : Int32} (C : Cx p s m meth c Z n0 own bc maxL (some .boolean) nm) (hd : decode bc pc = .ok (.ireturn, 1)) (hz : narrow .boolean (.int z) = .int z) (hk : k ≤ ck) (hn : n ≤ cs) (hq : Q (some (.int z)) h) : Go p l e R s m args below meth c n0 (FinQ s n0 Q ck cs) h k n pc Ls (.int z :: st) :=
  C.retW hd hz (Or.inl ⟨rfl, Or.inr (Or.inl rfl), z, rfl⟩) hk hn hq
theorem Cx.retC {Q : Option Value → Heap → Prop} {ck cs : Nat} {z : Int32} (C : Cx p s m meth c Z n0 own bc maxL (some .char) nm) (hd : decode bc pc = .ok (.ireturn, 1)) (hz : narrow .char (.int z) = .int z) (hk : k ≤ ck) (hn : n ≤ cs) (hq : Q (some (.int z)) h) : Go p l e R s m args below meth c n0 (FinQ s n0 Q ck cs) h k n pc Ls (.int z :: st) :=
  C.retW hd hz (Or.inl ⟨rfl, Or.inr (Or.inr (Or.inr (Or.inl rfl))), z, rfl⟩) hk hn hq
theorem Cx.retJ {Q : Option Value → Heap → Prop} {ck cs : Nat} {z : Int64} (C : Cx p s m meth c Z n0 own bc maxL (some .long) nm) (hd : decode bc pc = .ok (.lreturn, 1)) (hk : k ≤ ck) (hn : n ≤ cs) (hq : Q (some (.long z)) h) : Go p l e R s m args below meth c n0 (FinQ s n0 Q ck cs) h k n pc Ls (.long z :: st) :=
  C.retW hd rfl (Or.inr (Or.inl ⟨rfl, rfl, z, rfl⟩)) hk hn hq
theorem Cx.retA {Q : Option Value → Heap → Prop} {ck cs : Nat} {t : FieldType} {a : Addr} (C : Cx p s m meth c Z n0 own bc maxL (some t) nm) (hd : decode bc pc = .ok (.areturn, 1)) (ht : t.isReference = true) (hnr : narrow t (.ref a) = .ref a) (hk : k ≤ ck) (hn : n ≤ cs) (hq : Q (some (.ref a)) h) : Go p l e R s m args below meth c n0 (FinQ s n0 Q ck cs) h k n pc Ls (.ref a :: st) :=
  C.retW hd hnr (Or.inr (Or.inr (Or.inr (Or.inr ⟨rfl, ht, rfl⟩)))) hk hn hq
/-! a body's contract out of its walk -/
theorem Con.of {ws : List Jvm.Cond} {y : MethodName} {as : Array Value} {h0 : Heap} {Q : Option Value → Heap → Prop} (hn : plainFor y = true) (ef : ∀ m, entryFrame m as maxL = mkF m 0 Ls []) (hn0 : n0 ≤ h0.size)
    (body : ∀ p e s m below meth c, Cx p s m meth c Z n0 y.cls bc maxL ret y.name → Go p l e R s m as below meth c n0 (FinQ s n0 Q R.cells R.slots) h0 0 0 0 Ls []) : Con l Z n0 ws y bc maxL ret R as h0 Q := by
  refine MetFree.of_bodySF hn hisR ?_
  intro p e s m args below meth c s₁ Bd hml0 hP hK
  obtain ⟨rfl, hZ, hh⟩ := hP
  have e0 : s₁.heap = h0 := by rw [← hh, Bd.state]; rfl
  have X0 : Stand p l e R s m args below meth c s₁ [] 0 0 := Stand.of_body Bd
  obtain ⟨s₂, o, q1, q2, q3, q4⟩ := body p e s m below meth c ⟨Bd.exec, hZ, findClass_of_methodNamed Bd.named, Bd.bytes, hml0, Bd.returns, (name_of_methodNamed Bd.named Bd.method).1, Bd.notSynchronized, by rw [hh]; exact hn0⟩ s₁ [] X0 e0 (Fr.nil n0)
  exact ⟨s₂, o, castTop (ef m) q1, q2, q3, q4⟩
theorem Con.imp {ws : List Jvm.Cond} {y : MethodName} {as : Array Value} {h0 : Heap} {Q Q' : Option Value → Heap → Prop} (H : Con l Z n0 ws y bc maxL ret R as h0 Q) (q : ∀ v h, Q v h → Q' v h) : Con l Z n0 ws y bc maxL ret R as h0 Q' := by
  intro p e ha hc hk s m args below hf happ hP hK
  obtain ⟨n, o, h1, h2, h3, v, L, r1, ⟨r2, r3⟩, r4⟩ := H p e ha hc hk s m args below hf happ hP hK
  exact ⟨n, o, h1, h2, h3, v, L, r1, ⟨q _ _ r2, r3⟩, r4⟩
/-! calls by contract -/
theorem Cx.callS (C : Cx p s m meth c Z n0 own bc maxL ret nm) {y : MethodName} {bc' : ByteArray} {maxL' j : Nat} {ret' : Option FieldType} {R' : Room} {argsL rest : List Value} {Q : Option Value → Heap → Prop} (W : Nat) (hC : n0 ≤ h.size → Con l Z n0 [] y bc' maxL' ret' R' argsL.toArray h Q) (hd : decode bc pc = .ok (.invokestatic j, 3)) (hp : pc + 3 = pc')
    (w1 : (Jvm.Cond.methodLink own j y).before a0 Z = true) (w2 : (Jvm.Cond.static y).before a0 Z = true) (w3 : (Jvm.Cond.initialized y.cls).before a0 Z = true) (w4 : (Jvm.Cond.code y bc' maxL' ret').before a0 Z = true) (hy : y.cls ≠ "java/lang/invoke/MethodHandle" ∧ y.cls ≠ "java/lang/invoke/VarHandle") {ps : List FieldType} {r : Option FieldType} (hpd : parseMethodDescriptor y.desc = some ⟨ps, r⟩) (hlen : argsL.length = ps.length)
    (hst : st = argsL.reverse ++ rest) (hsz : Ls.size = maxL) (hW : (rest.map fun v => v.category).sum ≤ W) (hf : R'.frames + 1 ≤ R.frames) (hl : W + (maxL' + 11) + R'.locals ≤ R.locals) (hk : k + R'.cells ≤ R.cells) (hn : n + R'.slots ≤ R.slots)
    (hr : ∀ v h', Q v h' → Go p l e R s m args below meth c n0 F h' (k + R'.cells) (n + R'.slots) pc' Ls (v.toList ++ rest)) : Go p l e R s m args below meth c n0 F h k n pc Ls st := by
  intro T locs X eT N
  subst hp hst
  obtain ⟨v, _, ⟨T', L', k', n'⟩, -, X', ⟨Lc, hQ, l1, y1, z1⟩, stp⟩ := Jvm.LawKit.callS X C.1 (y := y) C.2.2.1 (mvT C.2.1 w1) (mvT C.2.1 w2) (mvT C.2.1 w3) (mvT C.2.1 w4) hy (backOf (Z := Z) (h := h) (bytes := bc') (maxL := maxL') (ret := ret') (rm := R') (as' := argsL.toArray) (Q := fun v h' L => Q v h' ∧ Fr n0 L) (W := W) (hC (by rw [← eT]; exact C.size X)) C.2.1 w4 w3 hf hl) (g := mkF m pc Ls (argsL.reverse ++ rest)) rfl (hsz.trans C.2.2.2.2.1.symm) (argsL := argsL) (rest := rest) (lenOf hpd hlen) rfl (by show 2 * 0 + _ ≤ W; omega) (hb C.2.2.2.1 hd) (fun _ _ => ⟨rfl, eT, hk, hn⟩)
  dsimp only [Pt.U, Pt.locs, Pt.cells, Pt.slots] at X' l1 y1 z1 stp hQ
  subst l1 y1 z1
  obtain ⟨s₂, o, q1, q2⟩ := hr v T'.heap hQ.1 T' _ X' rfl (Fr.app N hQ.2)
  exact ⟨s₂, o, stp _ q1, q2⟩
theorem Cx.callN (C : Cx p s m meth c Z n0 own bc maxL ret nm) {y : MethodName} {bc' : ByteArray} {maxL' j : Nat} {R' : Room} {a : Addr} {argsL rest : List Value} {Q : Option Value → Heap → Prop} (W : Nat) (hC : n0 ≤ h.size → Con l Z n0 [] y bc' maxL' none R' (.ref a :: argsL).toArray h Q) (hd : decode bc pc = .ok (.invokespecial j, 3)) (hp : pc + 3 = pc') (hy1 : y.name = "<init>")
    (w1 : (Jvm.Cond.methodLink own j y).before a0 Z = true) (w2 : (Jvm.Cond.instanceMethod y).before a0 Z = true) (w3 : (Jvm.Cond.initialized y.cls).before a0 Z = true) (w4 : (Jvm.Cond.code y bc' maxL' none).before a0 Z = true) (hy : y.cls ≠ "java/lang/invoke/MethodHandle" ∧ y.cls ≠ "java/lang/invoke/VarHandle") {ps : List FieldType} {r : Option FieldType} (hpd : parseMethodDescriptor y.desc = some ⟨ps, r⟩) (hlen : argsL.length = ps.length)
    (hst : st = argsL.reverse ++ .ref a :: rest) (hsz : Ls.size = maxL) (hW : (rest.map fun v => v.category).sum ≤ W) (hf : R'.frames + 1 ≤ R.frames) (hl : W + (maxL' + 11) + R'.locals ≤ R.locals) (hk : k + R'.cells ≤ R.cells) (hn : n + R'.slots ≤ R.slots)
    (hr : ∀ v h', Q v h' → Go p l e R s m args below meth c n0 F h' (k + R'.cells) (n + R'.slots) pc' Ls (v.toList ++ rest)) : Go p l e R s m args below meth c n0 F h k n pc Ls st := by
  intro T locs X eT N
  subst hp hst
  obtain ⟨v, _, ⟨T', L', k', n'⟩, -, X', ⟨Lc, hQ, l1, y1, z1⟩, stp⟩ := X.specialBack C.1 (y := y) hy1 C.2.2.1 (mvT C.2.1 w1) (mvT C.2.1 w2) (mvT C.2.1 w4) hy (backOf (Z := Z) (h := h) (bytes := bc') (maxL := maxL') (ret := none) (rm := R') (as' := (Value.ref a :: argsL).toArray) (Q := fun v h' L => Q v h' ∧ Fr n0 L) (W := W) (hC (by rw [← eT]; exact C.size X)) C.2.1 w4 w3 hf hl) (g := mkF m pc Ls (argsL.reverse ++ .ref a :: rest)) rfl (hsz.trans C.2.2.2.2.1.symm) (Steps.refl _) (a := a) (argsL := argsL) (rest := rest) (lenOf hpd hlen) rfl (by show 2 * 0 + _ ≤ W; omega) (hb C.2.2.2.1 hd) (fun _ _ => ⟨rfl, eT, hk, hn⟩)
  dsimp only [Pt.U, Pt.locs, Pt.cells, Pt.slots] at X' l1 y1 z1 stp hQ
  subst l1 y1 z1
  obtain ⟨s₂, o, q1, q2⟩ := hr v T'.heap hQ.1 T' _ X' rfl (Fr.app N hQ.2)
  exact ⟨s₂, o, stp.trans q1, q2⟩
theorem Cx.callV (C : Cx p s m meth c Z n0 own bc maxL ret nm) {y : MethodName} {cls : String} {bc' : ByteArray} {maxL' j : Nat} {ret' : Option FieldType} {R' : Room} {a : Addr} {argsL rest : List Value} {Q : Option Value → Heap → Prop} (W : Nat) (hC : n0 ≤ h.size → Con l Z n0 [] y bc' maxL' ret' R' (.ref a :: argsL).toArray h Q) (E : Exa Z h a cls) (hd : decode bc pc = .ok (.invokevirtual j, 3)) (hp : pc + 3 = pc')
    (w1 : (Jvm.Cond.methodLink own j y).before a0 Z = true) (w2 : (Jvm.Cond.declares y).before a0 Z = true) (w3 : (Jvm.Cond.instanceMethod y).before a0 Z = true) (w4 : (Jvm.Cond.selects cls y y).before a0 Z = true) (w5 : (Jvm.Cond.initialized y.cls).before a0 Z = true) (w6 : (Jvm.Cond.code y bc' maxL' ret').before a0 Z = true) (hy : y.cls ≠ "java/lang/invoke/MethodHandle" ∧ y.cls ≠ "java/lang/invoke/VarHandle") {ps : List FieldType} {r : Option FieldType} (hpd : parseMethodDescriptor y.desc = some ⟨ps, r⟩) (hlen : argsL.length = ps.length)
    (hst : st = argsL.reverse ++ .ref a :: rest) (hsz : Ls.size = maxL) (hW : (rest.map fun v => v.category).sum ≤ W) (hf : R'.frames + 1 ≤ R.frames) (hl : W + (maxL' + 11) + R'.locals ≤ R.locals) (hk : k + R'.cells ≤ R.cells) (hn : n + R'.slots ≤ R.slots)
    (hr : ∀ v h', Q v h' → Go p l e R s m args below meth c n0 F h' (k + R'.cells) (n + R'.slots) pc' Ls (v.toList ++ rest)) : Go p l e R s m args below meth c n0 F h k n pc Ls st := by
  intro T locs X eT N
  subst hp hst
  obtain ⟨cq, kq, qa, qb, qc⟩ := isOf (T := T) C.2.1 eT E
  obtain ⟨v, _, ⟨T', L', k', n'⟩, -, X', ⟨Lc, hQ, l1, y1, z1⟩, stp⟩ := X.virtualBack C.1 (y := y) (z := y) C.2.2.1 (mvT C.2.1 w1) (mvT C.2.1 w2) (notFace_of_selects (args := #[]) (mvT C.2.1 w4)) (mvT C.2.1 w4) (mvT C.2.1 w3) hy (backOf (Z := Z) (h := h) (bytes := bc') (maxL := maxL') (ret := ret') (rm := R') (as' := (Value.ref a :: argsL).toArray) (Q := fun v h' L => Q v h' ∧ Fr n0 L) (W := W) (hC (by rw [← eT]; exact C.size X)) C.2.1 w6 w5 hf hl) qa qc (g := mkF m pc Ls (argsL.reverse ++ .ref a :: rest)) rfl (hsz.trans C.2.2.2.2.1.symm) (Steps.refl _) (argsL := argsL) (rest := rest) (lenOf hpd hlen) rfl (by show 2 * 0 + _ ≤ W; omega) (hb C.2.2.2.1 hd) (fun _ _ => ⟨rfl, eT, hk, hn⟩)
  dsimp only [Pt.U, Pt.locs, Pt.cells, Pt.slots] at X' l1 y1 z1 stp hQ
  subst l1 y1 z1
  obtain ⟨s₂, o, q1, q2⟩ := hr v T'.heap hQ.1 T' _ X' rfl (Fr.app N hQ.2)
  exact ⟨s₂, o, stp.trans q1, q2⟩
end Own
theorem own_or_l {a b : Int64} (q : ¬ a = 0) : ¬ a ||| b = 0 := fun e => q (by
  have f := congrArg Int64.toBitVec e
  rw [Int64.toBitVec_or] at f
  exact Int64.toBitVec_inj.1 (BitVec.or_eq_zero_iff.mp f).1)
theorem own_or_r {a b : Int64} (q : ¬ b = 0) : ¬ a ||| b = 0 := fun e => q (by
  have f := congrArg Int64.toBitVec e
  rw [Int64.toBitVec_or] at f
  exact Int64.toBitVec_inj.1 (BitVec.or_eq_zero_iff.mp f).2)
section OwnArr
variable {p : Program} {l : Launch} {e : Env} {R : Room} {s : State} {m : MethodId} {args : Array Value} {below : List Frame} {meth : Method} {c : Code} {n0 : Nat} {F : State → Outcome → Prop} {h : Heap} {k n pc pc' : Nat} {Ls : Array Slot} {st : List Value} {Z : State} {own : String} {bc : ByteArray} {maxL : Nat} {ret : Option FieldType} {nm : String} {a0 : Array Value}
theorem own_clamp {j : Nat} (q : j < 2 ^ 31) : j.toInt32.toNatClampNeg = j ∧ ¬ j.toInt32 < 0 := by
  have e := len_toInt q
  constructor
  · simp only [Int32.toNatClampNeg, e]; omega
  · rw [Int32.lt_iff_toInt_lt, e]; simp only [Int32.reduceToInt]; omega
theorem Av.arv {a : Addr} {ty : FieldType} {vs : List Value} (A : Av Z h a ty vs) (q : vs.length < 2 ^ 31) (dv : Value) : ∃ kc, Arv Z h a kc ty vs.length.toInt32 vs dv := by
  obtain ⟨cl, A, rfl, r⟩ := A
  obtain ⟨e1, e2⟩ := own_clamp q
  rw [Array.length_toList] at q e1 e2 ⊢
  refine ⟨cl.cls, cl, A, rfl, e1.symm, e2, fun i hi => ?_, fun i hi => ?_⟩
  · simp [List.getD_eq_getElem?_getD, hi]
  · have : cl.slots.toList.getD i dv = cl.slots[i] := by simp [List.getD_eq_getElem?_getD, hi]
    rw [this]; exact r _ (by simp)
theorem Arv.av {a : Addr} {kc : ClassId} {ty : FieldType} {z : Int32} {vs : List Value} {dv : Value} (A : Arv Z h a kc ty z vs dv) (q : z.toNatClampNeg = vs.length) : Av Z h a ty vs := by
  obtain ⟨cl, A, -, S, -, H, G⟩ := A
  have e : cl.slots.toList = vs := by
    apply List.ext_getElem?
    intro i
    by_cases hi : i < cl.slots.size
    · have := H i hi
      rw [Array.getElem?_toList, this]
      have h2 : i < vs.length := by omega
      simp [List.getD_eq_getElem?_getD, h2]
    · rw [List.getElem?_eq_none (by simpa using hi), List.getElem?_eq_none (by omega)]
  refine ⟨cl, A, e, fun v hv => ?_⟩
  obtain ⟨i, hi, rfl⟩ := List.getElem_of_mem hv
  have := G i (by omega)
  simpa [List.getD_eq_getElem?_getD, hi] using this
theorem own_range (vs : List Value) (sp nn : Nat) (q : sp + nn ≤ vs.length) (d : Value) : (List.range nn).map (fun i => vs.getD (sp + i) d) = (vs.drop sp).take nn := by
  apply List.ext_getElem?
  intro i
  by_cases hi : i < nn
  · simp [hi, List.getElem?_take, List.getD_eq_getElem?_getD, show sp + i < vs.length by omega]
  · rw [List.getElem?_eq_none (by simpa using hi), List.getElem?_eq_none (by simp; omega)]
theorem Cx.acopy (C : Cx p s m meth c Z n0 own bc maxL ret nm) {j : Nat} {a b : Addr} {ty : FieldType} {sp dp nn : Int32} {vs vd : List Value} (W : Nat) (hd : decode bc pc = .ok (.invokestatic j, 3)) (hp : pc + 3 = pc') (w1 : (Jvm.Cond.methodLink own j Jvm.Stand.acN).before a0 Z = true) (w2 : (Jvm.Cond.native Jvm.Stand.acN).before a0 Z = true) (w3 : (Jvm.Cond.static Jvm.Stand.acN).before a0 Z = true) (w4 : (Jvm.Cond.initialized "java/lang/System").before a0 Z = true)
    (A : Av Z h a ty vs) (B : Av Z h b ty vd) (hty : refKind ty = false) (l1 : vs.length < 2 ^ 31) (l2 : vd.length < 2 ^ 31) (h1 : ¬ sp < 0) (h2 : ¬ dp < 0) (h3 : ¬ nn < 0) (h4 : sp.toNatClampNeg + nn.toNatClampNeg ≤ vs.length) (h5 : dp.toNatClampNeg + nn.toNatClampNeg ≤ vd.length) (ge : n0 ≤ b) (hsz : Ls.size = maxL) (hf : 1 ≤ R.frames) (hW : (st.map fun v => v.category).sum ≤ W) (hlo : W + (nativeFrameWords "java/lang/System" "arraycopy" 5 + 11) ≤ R.locals)
    (hr : ∀ h', Keep h h' [b] → Av Z h' b ty (vd.take dp.toNatClampNeg ++ (vs.drop sp.toNatClampNeg).take nn.toNatClampNeg ++ vd.drop (dp.toNatClampNeg + nn.toNatClampNeg)) → Go p l e R s m args below meth c n0 F h' k n pc' Ls st) : Go p l e R s m args below meth c n0 F h k n pc Ls (.int nn :: .int dp :: .ref b :: .int sp :: .ref a :: st) := by
  intro T locs X eT N
  subst hp
  obtain ⟨ka, A'⟩ := A.arv l1 (.int 0)
  obtain ⟨kb, B'⟩ := B.arv l2 (.int 0)
  have c1 := (own_clamp l1).1
  have c2 := (own_clamp l2).1
  obtain ⟨T', h', L', X', e', N', K', V', stp⟩ := cpA X C.1 C.2.1 C.2.2.1 w1 w2 w3 w4 eT A' B' (Or.inl ⟨rfl, hty⟩) h1 h2 h3 (by rw [c1]; exact h4) (by rw [c2]; exact h5) rfl h5 N ge (g := mkF m pc Ls (.int nn :: .int dp :: .ref b :: .int sp :: .ref a :: st)) rfl (hsz.trans C.2.2.2.2.1.symm) rfl (hb C.2.2.2.1 hd) hf (W := W) (by show 2 * 0 + _ ≤ W; omega) hlo
  rw [own_range vs _ _ h4] at V'
  have V2 := Arv.av V' (by rw [c2]; simp; omega)
  obtain ⟨s₂, o, q1, q2⟩ := hr h' K' V2 T' _ X' e' N'
  exact ⟨s₂, o, stp _ q1, q2⟩
end OwnArr
section OwnCalls
variable {p : Program} {l : Launch} {e : Env} {R : Room} {s : State} {m : MethodId} {args : Array Value} {below : List Frame} {meth : Method} {c : Code} {n0 : Nat} {F : State → Outcome → Prop} {h : Heap} {k n pc pc' : Nat} {Ls : Array Slot} {st : List Value} {Z : State} {own : String} {bc : ByteArray} {maxL : Nat} {ret : Option FieldType} {nm : String} {a0 : Array Value}
theorem Cx.callNN (C : Cx p s m meth c Z n0 own bc maxL ret nm) {y : MethodName} {host : String} {bc' : ByteArray} {maxL' j : Nat} {R' : Room} {a : Addr} {argsL rest : List Value} {Q : Option Value → Heap → Prop} (W : Nat) (hC : n0 ≤ h.size → Con l Z n0 [] y bc' maxL' none R' (.ref a :: argsL).toArray h Q) (hd : decode bc pc = .ok (.invokespecial j, 3)) (hp : pc + 3 = pc') (hy1 : y.name = "<init>")
    (w1 : (Jvm.Cond.methodLinkNest own j y host).before a0 Z = true) (w2 : (Jvm.Cond.instanceMethod y).before a0 Z = true) (w3 : (Jvm.Cond.initialized y.cls).before a0 Z = true) (w4 : (Jvm.Cond.code y bc' maxL' none).before a0 Z = true) (hy : y.cls ≠ "java/lang/invoke/MethodHandle" ∧ y.cls ≠ "java/lang/invoke/VarHandle") {ps : List FieldType} {r : Option FieldType} (hpd : parseMethodDescriptor y.desc = some ⟨ps, r⟩) (hlen : argsL.length = ps.length)
    (hst : st = argsL.reverse ++ .ref a :: rest) (hsz : Ls.size = maxL) (hW : (rest.map fun v => v.category).sum ≤ W) (hf : R'.frames + 1 ≤ R.frames) (hl : W + (maxL' + 11) + R'.locals ≤ R.locals) (hk : k + R'.cells ≤ R.cells) (hn : n + R'.slots ≤ R.slots)
    (hr : ∀ v h', Q v h' → Go p l e R s m args below meth c n0 F h' (k + R'.cells) (n + R'.slots) pc' Ls (v.toList ++ rest)) : Go p l e R s m args below meth c n0 F h k n pc Ls st := by
  intro T locs X eT N
  subst hp hst
  obtain ⟨v, _, ⟨T', L', k', n'⟩, -, X', ⟨Lc, hQ, l1, y1, z1⟩, stp⟩ := X.specialBackNest C.1 (y := y) hy1 C.2.2.1 (Cond.methodLinkNest_wide C.2.1 w1 :) (mvT C.2.1 w2) (mvT C.2.1 w4) hy (backOf (Z := Z) (h := h) (bytes := bc') (maxL := maxL') (ret := none) (rm := R') (as' := (Value.ref a :: argsL).toArray) (Q := fun v h' L => Q v h' ∧ Fr n0 L) (W := W) (hC (by rw [← eT]; exact C.size X)) C.2.1 w4 w3 hf hl) (g := mkF m pc Ls (argsL.reverse ++ .ref a :: rest)) rfl (hsz.trans C.2.2.2.2.1.symm) (Steps.refl _) (a := a) (argsL := argsL) (rest := rest) (lenOf hpd hlen) rfl (by show 2 * 0 + _ ≤ W; omega) (hb C.2.2.2.1 hd) (fun _ _ => ⟨rfl, eT, hk, hn⟩)
  dsimp only [Pt.U, Pt.locs, Pt.cells, Pt.slots] at X' l1 y1 z1 stp hQ
  subst l1 y1 z1
  obtain ⟨s₂, o, q1, q2⟩ := hr v T'.heap hQ.1 T' _ X' rfl (Fr.app N hQ.2)
  exact ⟨s₂, o, stp.trans q1, q2⟩
end OwnCalls
section OwnPriv
variable {p : Program} {l : Launch} {e : Env} {R : Room} {s : State} {m : MethodId} {args : Array Value} {below : List Frame} {meth : Method} {c : Code} {n0 : Nat} {F : State → Outcome → Prop} {h : Heap} {k n pc pc' : Nat} {Ls : Array Slot} {st : List Value} {Z : State} {own : String} {bc : ByteArray} {maxL : Nat} {ret : Option FieldType} {nm : String} {a0 : Array Value}
theorem Cx.callP (C : Cx p s m meth c Z n0 own bc maxL ret nm) {y : MethodName} {cls : String} {bc' : ByteArray} {maxL' j : Nat} {ret' : Option FieldType} {R' : Room} {a : Addr} {argsL rest : List Value} {Q : Option Value → Heap → Prop} (W : Nat) (hC : n0 ≤ h.size → Con l Z n0 [] y bc' maxL' ret' R' (.ref a :: argsL).toArray h Q) (E : Exa Z h a cls) (hd : decode bc pc = .ok (.invokevirtual j, 3)) (hp : pc + 3 = pc')
    (w1 : (Jvm.Cond.methodLink own j y).before a0 Z = true) (w2 : (Jvm.Cond.privateMethod y).before a0 Z = true) (w3 : (Jvm.Cond.instanceMethod y).before a0 Z = true) (w4 : (Jvm.Cond.selects y.cls y y).before a0 Z = true) (w5 : (Jvm.Cond.initialized y.cls).before a0 Z = true) (w6 : (Jvm.Cond.code y bc' maxL' ret').before a0 Z = true) (hy : y.cls ≠ "java/lang/invoke/MethodHandle" ∧ y.cls ≠ "java/lang/invoke/VarHandle") {ps : List FieldType} {r : Option FieldType} (hpd : parseMethodDescriptor y.desc = some ⟨ps, r⟩) (hlen : argsL.length = ps.length)
    (hst : st = argsL.reverse ++ .ref a :: rest) (hsz : Ls.size = maxL) (hW : (rest.map fun v => v.category).sum ≤ W) (hf : R'.frames + 1 ≤ R.frames) (hl : W + (maxL' + 11) + R'.locals ≤ R.locals) (hk : k + R'.cells ≤ R.cells) (hn : n + R'.slots ≤ R.slots)
    (hr : ∀ v h', Q v h' → Go p l e R s m args below meth c n0 F h' (k + R'.cells) (n + R'.slots) pc' Ls (v.toList ++ rest)) : Go p l e R s m args below meth c n0 F h k n pc Ls st := by
  intro T locs X eT N
  subst hp hst
  obtain ⟨cell, hc1, hc2⟩ := E.cell
  obtain ⟨v, _, ⟨T', L', k', n'⟩, -, X', ⟨Lc, hQ, l1, y1, z1⟩, stp⟩ := X.privateBack C.1 (y := y) C.2.2.1 (mvT C.2.1 w1) (mvT C.2.1 w3) (mvT C.2.1 w4) (Cond.privateMethod_at (args := #[]) (mvP C.2.1 w2)) (mvT C.2.1 w6) hy (backOf (Z := Z) (h := h) (bytes := bc') (maxL := maxL') (ret := ret') (rm := R') (as' := (Value.ref a :: argsL).toArray) (Q := fun v h' L => Q v h' ∧ Fr n0 L) (W := W) (hC (by rw [← eT]; exact C.size X)) C.2.1 w6 w5 hf hl) (g := mkF m pc Ls (argsL.reverse ++ .ref a :: rest)) rfl (hsz.trans C.2.2.2.2.1.symm) (Steps.refl _) (by rw [eT]; exact hc1) hc2 (argsL := argsL) (rest := rest) (lenOf hpd hlen) rfl (by show 2 * 0 + _ ≤ W; omega) (hb C.2.2.2.1 hd) (fun _ _ => ⟨rfl, eT, hk, hn⟩)
  dsimp only [Pt.U, Pt.locs, Pt.cells, Pt.slots] at X' l1 y1 z1 stp hQ
  subst l1 y1 z1
  obtain ⟨s₂, o, q1, q2⟩ := hr v T'.heap hQ.1 T' _ X' rfl (Fr.app N hQ.2)
  exact ⟨s₂, o, stp.trans q1, q2⟩
end OwnPriv
theorem own_mod6 (x : Int32) : (x &&& 2147483647) % 6 = 0 ∨ (x &&& 2147483647) % 6 = 1 ∨ (x &&& 2147483647) % 6 = 2 ∨ (x &&& 2147483647) % 6 = 3 ∨ (x &&& 2147483647) % 6 = 4 ∨ (x &&& 2147483647) % 6 = 5 := by
  have e : (x &&& 2147483647).toInt = x.toInt % 2 ^ 31 := Jvm.Kit.i32_mask x 2147483647 (k := 31) (by decide) (by decide)
  have f : ((x &&& 2147483647) % 6).toInt = (x &&& 2147483647).toInt % 6 := Jvm.Kit.i32_rem_nonneg (by omega)
  simp only [← Int32.toInt_inj, Int32.reduceToInt]; omega
theorem own_nelen {z : Int32} {vs : List Value} (hn : ¬ z < 0) (hl : z.toNatClampNeg < vs.length) (h31 : vs.length < 2 ^ 31) : ¬ z = vs.length.toInt32 := fun q => by
  rw [q, (own_clamp h31).1] at hl; exact Nat.lt_irrefl _ hl
theorem d1_0 : decode prog_7_method_1_code 0 = .ok (.aload_n 0, 1) := by decide +kernel
theorem d1_1 : decode prog_7_method_1_code 1 = .ok (.invokespecial 1, 3) := by decide +kernel
theorem d1_4 : decode prog_7_method_1_code 4 = .ok (.aload_n 0, 1) := by decide +kernel
theorem d1_5 : decode prog_7_method_1_code 5 = .ok (.bipush 16, 2) := by decide +kernel
theorem d1_7 : decode prog_7_method_1_code 7 = .ok (.newarray .int, 2) := by decide +kernel
theorem d1_9 : decode prog_7_method_1_code 9 = .ok (.putfield 7, 3) := by decide +kernel
theorem d1_12 : decode prog_7_method_1_code 12 = .ok (.return_, 1) := by decide +kernel
theorem pf_0 : plainFor (⟨"com/example/pathfold/pathfold/chi/IntList", "<init>", "()V"⟩ : MethodName) = true := by first | exact plainFor_of_name (by first | (simp [plainName, overriddenIn]; done) | decide +kernel) | decide +kernel
def Qcon_ini (Z : State) (n0 : Nat) (h0 : Heap) (a : Addr) (v : Option Value) (h' : Heap) : Prop := ∃ (b : Addr), (v = none) ∧ (Keep h0 h' [a]) ∧ (n0 ≤ b) ∧ (h0.size ≤ b) ∧ (Fld Z h' a "com/example/pathfold/pathfold/chi/IntList" "items" "[I" (.ref b)) ∧ (Fld Z h' a "com/example/pathfold/pathfold/chi/IntList" "size" "I" (.int 0)) ∧ (Av Z h' b .int ([.int 0, .int 0, .int 0, .int 0, .int 0, .int 0, .int 0, .int 0, .int 0, .int 0, .int 0, .int 0, .int 0, .int 0, .int 0, .int 0]))
theorem ef_con_ini (m : MethodId) (a : Addr) : entryFrame m #[(.ref a)] 1 = mkF m 0 #[.val (.ref a)] [] := by first | (simp [entryFrame, mkF, argsToLocals, Value.category]; done) | rfl
set_option maxRecDepth 65536 in
set_option maxHeartbeats 40000000 in
theorem con_ini (l : Launch) (Z : State) (a0 : Array Value) (hw : ∀ d ∈ tables_1, d.before a0 Z = true) (n0 : Nat) (h0 : Heap) (hn0 : n0 ≤ h0.size) (a : Addr) (P0 : Exa Z h0 a "com/example/pathfold/pathfold/chi/IntList") (P1 : Fld Z h0 a "com/example/pathfold/pathfold/chi/IntList" "items" "[I" (.null)) (P2 : Fld Z h0 a "com/example/pathfold/pathfold/chi/IntList" "size" "I" (.int 0)) (g_a : n0 ≤ a) :
    Con l Z n0 [] (⟨"com/example/pathfold/pathfold/chi/IntList", "<init>", "()V"⟩ : MethodName) prog_7_method_1_code 1 none ({ frames := 1, cells := 1, slots := 16, locals := 12 } : Room) #[(.ref a)] h0 (Qcon_ini Z n0 h0 a) := by
  refine Con.of pf_0 (fun m => ef_con_ini m a) hn0 ?_
  intro p e s m below meth c C
  refine C.aloadN d1_0 rfl rfl rfl ?_
  refine C.initO 0 d1_1 rfl (tw hw 8 rfl) (tw hw 9 rfl) (tw hw 10 rfl) rfl (by decide) (Nat.le_of_eq rfl) (by decide) ?_
  refine C.aloadN d1_4 rfl rfl rfl ?_
  refine C.bipush 16 d1_5 rfl rfl ?_
  refine C.newarr 16 d1_7 rfl rfl (tw hw 1 rfl) (by decide) (by decide) (by decide) (by decide) (by decide) (fun a19 h20 z23 g24 X21 F22 => ?_)
  have gz25 : h0.size ≤ a19 := by rw [z23]; exact (Keep.refl h0 [a]).1
  have ne26 : a ≠ a19 := by rw [z23]; exact Nat.ne_of_lt P0.lt
  have F27 : Exa Z h20 a "com/example/pathfold/pathfold/chi/IntList" := Exa.ext X21 P0
  have F28 : Fld Z h20 a "com/example/pathfold/pathfold/chi/IntList" "items" "[I" (.null) := Fld.ext X21 P1
  have F29 : Fld Z h20 a "com/example/pathfold/pathfold/chi/IntList" "size" "I" (.int 0) := Fld.ext X21 P2
  have F30 : Av Z h20 a19 .int ([.int 0, .int 0, .int 0, .int 0, .int 0, .int 0, .int 0, .int 0, .int 0, .int 0, .int 0, .int 0, .int 0, .int 0, .int 0, .int 0]) := F22
  refine C.putF d1_9 rfl (tw hw 11 rfl) F28 F27 (Or.inl (tw hw 12 rfl)) (tw hw 3 rfl) (ty := (.array .int)) (by decide) rfl rfl g_a (fun h31 W32 F33 => ?_)
  have F34 : Exa Z h31 a "com/example/pathfold/pathfold/chi/IntList" := Exa.wr W32 F27
  have F35 : Fld Z h31 a "com/example/pathfold/pathfold/chi/IntList" "size" "I" (.int 0) := Fld.other W32 F29 (Or.inr (slot_ne (C := "com/example/pathfold/pathfold/chi/IntList") (t := .int) (t' := (.array .int)) (Or.inl (tw hw 19 rfl)) (Or.inl (tw hw 12 rfl)) (by decide) (by decide) (by decide)))
  have F36 : Av Z h31 a19 .int ([.int 0, .int 0, .int 0, .int 0, .int 0, .int 0, .int 0, .int 0, .int 0, .int 0, .int 0, .int 0, .int 0, .int 0, .int 0, .int 0]) := F30.other W32 (Ne.symm ne26)
  exact C.ret0 d1_12 (by decide) (by decide) ⟨a19, rfl, (((Keep.refl h0 [a]).ext X21).wr W32 (Or.inl (List.mem_of_getElem? (i := 0) rfl))), g24, gz25, F33, F35, F36⟩
theorem d3_0 : decode prog_7_method_2_code 0 = .ok (.aload_n 0, 1) := by decide +kernel
theorem d3_1 : decode prog_7_method_2_code 1 = .ok (.getfield 13, 3) := by decide +kernel
theorem d3_4 : decode prog_7_method_2_code 4 = .ok (.aload_n 0, 1) := by decide +kernel
theorem d3_5 : decode prog_7_method_2_code 5 = .ok (.getfield 7, 3) := by decide +kernel
theorem d3_8 : decode prog_7_method_2_code 8 = .ok (.arraylength, 1) := by decide +kernel
theorem d3_9 : decode prog_7_method_2_code 9 = .ok (.if_icmp .ne 27, 3) := by decide +kernel
theorem d3_12 : decode prog_7_method_2_code 12 = .ok (.aload_n 0, 1) := by decide +kernel
theorem d3_13 : decode prog_7_method_2_code 13 = .ok (.aload_n 0, 1) := by decide +kernel
theorem d3_14 : decode prog_7_method_2_code 14 = .ok (.getfield 7, 3) := by decide +kernel
theorem d3_17 : decode prog_7_method_2_code 17 = .ok (.aload_n 0, 1) := by decide +kernel
theorem d3_18 : decode prog_7_method_2_code 18 = .ok (.getfield 13, 3) := by decide +kernel
theorem d3_21 : decode prog_7_method_2_code 21 = .ok (.aload_n 0, 1) := by decide +kernel
theorem d3_22 : decode prog_7_method_2_code 22 = .ok (.getfield 13, 3) := by decide +kernel
theorem d3_25 : decode prog_7_method_2_code 25 = .ok (.iconst 1, 1) := by decide +kernel
theorem d3_26 : decode prog_7_method_2_code 26 = .ok (.ishr, 1) := by decide +kernel
theorem d3_27 : decode prog_7_method_2_code 27 = .ok (.invokestatic 17, 3) := by decide +kernel
theorem d3_30 : decode prog_7_method_2_code 30 = .ok (.invokestatic 23, 3) := by decide +kernel
theorem d3_33 : decode prog_7_method_2_code 33 = .ok (.putfield 7, 3) := by decide +kernel
theorem d3_36 : decode prog_7_method_2_code 36 = .ok (.aload_n 0, 1) := by decide +kernel
theorem d3_37 : decode prog_7_method_2_code 37 = .ok (.getfield 7, 3) := by decide +kernel
theorem d3_40 : decode prog_7_method_2_code 40 = .ok (.aload_n 0, 1) := by decide +kernel
theorem d3_41 : decode prog_7_method_2_code 41 = .ok (.dup, 1) := by decide +kernel
theorem d3_42 : decode prog_7_method_2_code 42 = .ok (.getfield 13, 3) := by decide +kernel
theorem d3_45 : decode prog_7_method_2_code 45 = .ok (.dup_x1, 1) := by decide +kernel
theorem d3_46 : decode prog_7_method_2_code 46 = .ok (.iconst 1, 1) := by decide +kernel
theorem d3_47 : decode prog_7_method_2_code 47 = .ok (.iadd, 1) := by decide +kernel
theorem d3_48 : decode prog_7_method_2_code 48 = .ok (.putfield 13, 3) := by decide +kernel
theorem d3_51 : decode prog_7_method_2_code 51 = .ok (.iload_n 1, 1) := by decide +kernel
theorem d3_52 : decode prog_7_method_2_code 52 = .ok (.iastore, 1) := by decide +kernel
theorem d3_53 : decode prog_7_method_2_code 53 = .ok (.return_, 1) := by decide +kernel
theorem pf_1 : plainFor (⟨"com/example/pathfold/pathfold/chi/IntList", "add", "(I)V"⟩ : MethodName) = true := by first | exact plainFor_of_name (by first | (simp [plainName, overriddenIn]; done) | decide +kernel) | decide +kernel
def Qcon_add (Z : State) (n0 : Nat) (h0 : Heap) (a : Addr) (b : Addr) (w : Int32) (n : Int32) (vs : List Value) (v : Option Value) (h' : Heap) : Prop := (v = none) ∧ (Keep h0 h' [a, b]) ∧ (Fld Z h' a "com/example/pathfold/pathfold/chi/IntList" "items" "[I" (.ref b)) ∧ (Fld Z h' a "com/example/pathfold/pathfold/chi/IntList" "size" "I" (.int (n + 1))) ∧ (Av Z h' b .int (vs.set (Int32.toNatClampNeg n) (.int w)))
theorem ef_con_add (m : MethodId) (a : Addr) (w : Int32) : entryFrame m #[(.ref a), (.int w)] 2 = mkF m 0 #[.val (.ref a), .val (.int w)] [] := by first | (simp [entryFrame, mkF, argsToLocals, Value.category]; done) | rfl
set_option maxRecDepth 65536 in
set_option maxHeartbeats 40000000 in
theorem con_add (l : Launch) (Z : State) (a0 : Array Value) (hw : ∀ d ∈ tables_1, d.before a0 Z = true) (n0 : Nat) (h0 : Heap) (hn0 : n0 ≤ h0.size) (a : Addr) (b : Addr) (w : Int32) (n : Int32) (vs : List Value) (P0 : Exa Z h0 a "com/example/pathfold/pathfold/chi/IntList") (P1 : Fld Z h0 a "com/example/pathfold/pathfold/chi/IntList" "items" "[I" (.ref b)) (P2 : Fld Z h0 a "com/example/pathfold/pathfold/chi/IntList" "size" "I" (.int n)) (P3 : Av Z h0 b .int vs) (g_a : n0 ≤ a) (g_b : n0 ≤ b) (ne_a_b : a ≠ b) (hn : ¬ n < 0) (hl : n.toNatClampNeg < vs.length) (h31 : vs.length < 2 ^ 31) :
    Con l Z n0 [] (⟨"com/example/pathfold/pathfold/chi/IntList", "add", "(I)V"⟩ : MethodName) prog_7_method_2_code 2 none ({ frames := 0, cells := 0, slots := 0, locals := 0 } : Room) #[(.ref a), (.int w)] h0 (Qcon_add Z n0 h0 a b w n vs) := by
  refine Con.of pf_1 (fun m => ef_con_add m a w) hn0 ?_
  intro p e s m below meth c C
  refine C.aloadN d3_0 rfl rfl rfl ?_
  refine C.getF d3_1 rfl (tw hw 18 rfl) P2 ?_
  refine C.aloadN d3_4 rfl rfl rfl ?_
  refine C.getF d3_5 rfl (tw hw 11 rfl) P1 ?_
  refine C.alen d3_8 rfl P3 ?_
  refine C.icmp_ne_t d3_9 (by decide) rfl (own_nelen hn hl h31) ?_
  refine C.aloadN d3_36 rfl rfl rfl ?_
  refine C.getF d3_37 rfl (tw hw 11 rfl) P1 ?_
  refine C.aloadN d3_40 rfl rfl rfl ?_
  refine C.dup d3_41 rfl rfl ?_
  refine C.getF d3_42 rfl (tw hw 18 rfl) P2 ?_
  refine C.dupX1 d3_45 rfl rfl rfl ?_
  refine C.iconst 1 d3_46 rfl rfl ?_
  refine C.iadd d3_47 rfl ?_
  refine C.putF d3_48 rfl (tw hw 18 rfl) P2 P0 (Or.inl (tw hw 19 rfl)) (tw hw 3 rfl) (ty := .int) (by decide) rfl rfl g_a (fun h49 W50 F51 => ?_)
  have F52 : Exa Z h49 a "com/example/pathfold/pathfold/chi/IntList" := Exa.wr W50 P0
  have F53 : Fld Z h49 a "com/example/pathfold/pathfold/chi/IntList" "items" "[I" (.ref b) := Fld.other W50 P1 (Or.inr (slot_ne (C := "com/example/pathfold/pathfold/chi/IntList") (t := (.array .int)) (t' := .int) (Or.inl (tw hw 12 rfl)) (Or.inl (tw hw 19 rfl)) (by decide) (by decide) (by decide)))
  have F54 : Av Z h49 b .int vs := P3.other W50 (Ne.symm ne_a_b)
  refine C.iloadN d3_51 rfl rfl ?_
  refine C.iastore d3_52 rfl F54 g_b hn hl (fun h55 W56 F57 => ?_)
  have F58 : Exa Z h55 a "com/example/pathfold/pathfold/chi/IntList" := Exa.wr W56 F52
  have F59 : Fld Z h55 a "com/example/pathfold/pathfold/chi/IntList" "items" "[I" (.ref b) := Fld.other W56 F53 (Or.inl ne_a_b)
  have F60 : Fld Z h55 a "com/example/pathfold/pathfold/chi/IntList" "size" "I" (.int (n + 1)) := Fld.other W56 F51 (Or.inl ne_a_b)
  exact C.ret0 d3_53 (by decide) (by decide) ⟨rfl, (((Keep.refl h0 [a, b]).wr W50 (Or.inl (List.mem_of_getElem? (i := 0) rfl))).wr W56 (Or.inl (List.mem_of_getElem? (i := 1) rfl))), F59, F60, F57⟩
def own_minI (x y : Int32) : Int32 := if y < x then y else x
theorem own_minN (x y : Int32) (hx : ¬ x < 0) (hy : ¬ y < 0) : ¬ own_minI x y < 0 ∧ (own_minI x y).toNatClampNeg = min x.toNatClampNeg y.toNatClampNeg := by
  simp only [own_minI]
  split <;> simp only [Int32.lt_iff_toInt_lt, Int32.toNatClampNeg, Int32.reduceToInt] at * <;> omega
theorem d6_0 : decode jdk_29_method_69_code 0 = .ok (.iload_n 0, 1) := by decide +kernel
theorem d6_1 : decode jdk_29_method_69_code 1 = .ok (.iload_n 1, 1) := by decide +kernel
theorem d6_2 : decode jdk_29_method_69_code 2 = .ok (.if_icmp .gt 7, 3) := by decide +kernel
theorem d6_5 : decode jdk_29_method_69_code 5 = .ok (.iload_n 0, 1) := by decide +kernel
theorem d6_6 : decode jdk_29_method_69_code 6 = .ok (.goto 4, 3) := by decide +kernel
theorem d6_9 : decode jdk_29_method_69_code 9 = .ok (.iload_n 1, 1) := by decide +kernel
theorem d6_10 : decode jdk_29_method_69_code 10 = .ok (.ireturn, 1) := by decide +kernel
theorem pf_2 : plainFor (⟨"java/lang/Math", "min", "(II)I"⟩ : MethodName) = true := by first | exact plainFor_of_name (by first | (simp [plainName, overriddenIn]; done) | decide +kernel) | decide +kernel
def Qcon_min (Z : State) (n0 : Nat) (h0 : Heap) (u1 : Int32) (u2 : Int32) (v : Option Value) (h' : Heap) : Prop := (v = some (.int (own_minI u1 u2))) ∧ (h0 = h')
theorem ef_con_min (m : MethodId) (u1 : Int32) (u2 : Int32) : entryFrame m #[(.int u1), (.int u2)] 2 = mkF m 0 #[.val (.int u1), .val (.int u2)] [] := by first | (simp [entryFrame, mkF, argsToLocals, Value.category]; done) | rfl
set_option maxRecDepth 65536 in
set_option maxHeartbeats 40000000 in
theorem con_min (l : Launch) (Z : State) (a0 : Array Value) (hw : ∀ d ∈ tables_1, d.before a0 Z = true) (n0 : Nat) (h0 : Heap) (hn0 : n0 ≤ h0.size) (u1 : Int32) (u2 : Int32) :
    Con l Z n0 [] (⟨"java/lang/Math", "min", "(II)I"⟩ : MethodName) jdk_29_method_69_code 2 (some .int) ({ frames := 0, cells := 0, slots := 0, locals := 0 } : Room) #[(.int u1), (.int u2)] h0 (Qcon_min Z n0 h0 u1 u2) := by
  refine Con.of pf_2 (fun m => ef_con_min m u1 u2) hn0 ?_
  intro p e s m below meth c C
  refine C.iloadN d6_0 rfl rfl ?_
  refine C.iloadN d6_1 rfl rfl ?_
  refine C.icmp_gt d6_2 (by decide) rfl rfl (fun q2 => ?_) (fun q2 => ?_)
  · refine C.iloadN d6_9 rfl rfl ?_
    exact C.retI d6_10 (by decide) (by decide) ⟨(by simp [own_minI, q2]), rfl⟩
  · refine C.iloadN d6_5 rfl rfl ?_
    refine C.goto d6_6 (by decide) rfl ?_
    exact C.retI d6_10 (by decide) (by decide) ⟨(by simp [own_minI, q2]), rfl⟩
def own_copy (vs : List Value) (j : Nat) : List Value := vs.take j ++ List.replicate (j - vs.length) (.int 0)
theorem own_cp (vs : List Value) (z : Int32) (hz : ¬ z < 0) (h31 : vs.length < 2 ^ 31) : ((List.replicate z.toNatClampNeg (Value.int 0)).take (0 : Int32).toNatClampNeg ++ (vs.drop (0 : Int32).toNatClampNeg).take (own_minI vs.length.toInt32 z).toNatClampNeg ++ (List.replicate z.toNatClampNeg (Value.int 0)).drop ((0 : Int32).toNatClampNeg + (own_minI vs.length.toInt32 z).toNatClampNeg)) = own_copy vs z.toNatClampNeg := by
  obtain ⟨c1, c2⟩ := own_clamp h31
  rw [(own_minN _ z c2 hz).2, c1, show (0 : Int32).toNatClampNeg = 0 from rfl]
  simp only [List.take_zero, List.drop_zero, List.nil_append, Nat.zero_add, own_copy, List.drop_replicate]
  have e : vs.take (min vs.length z.toNatClampNeg) = vs.take z.toNatClampNeg := by
    rcases Nat.le_total vs.length z.toNatClampNeg with q | q
    · rw [Nat.min_eq_left q, List.take_length, List.take_of_length_le q]
    · rw [Nat.min_eq_right q]
  rw [e]; congr 2; omega
theorem d5_0 : decode jdk_65_method_123_code 0 = .ok (.iload_n 1, 1) := by decide +kernel
theorem d5_1 : decode jdk_65_method_123_code 1 = .ok (.aload_n 0, 1) := by decide +kernel
theorem d5_2 : decode jdk_65_method_123_code 2 = .ok (.arraylength, 1) := by decide +kernel
theorem d5_3 : decode jdk_65_method_123_code 3 = .ok (.if_icmp .ne 11, 3) := by decide +kernel
theorem d5_6 : decode jdk_65_method_123_code 6 = .ok (.aload_n 0, 1) := by decide +kernel
theorem d5_7 : decode jdk_65_method_123_code 7 = .ok (.invokevirtual 316, 3) := by decide +kernel
theorem d5_10 : decode jdk_65_method_123_code 10 = .ok (.checkcast 317, 3) := by decide +kernel
theorem d5_13 : decode jdk_65_method_123_code 13 = .ok (.areturn, 1) := by decide +kernel
theorem d5_14 : decode jdk_65_method_123_code 14 = .ok (.iload_n 1, 1) := by decide +kernel
theorem d5_15 : decode jdk_65_method_123_code 15 = .ok (.newarray .int, 2) := by decide +kernel
theorem d5_17 : decode jdk_65_method_123_code 17 = .ok (.astore_n 2, 1) := by decide +kernel
theorem d5_18 : decode jdk_65_method_123_code 18 = .ok (.aload_n 0, 1) := by decide +kernel
theorem d5_19 : decode jdk_65_method_123_code 19 = .ok (.iconst 0, 1) := by decide +kernel
theorem d5_20 : decode jdk_65_method_123_code 20 = .ok (.aload_n 2, 1) := by decide +kernel
theorem d5_21 : decode jdk_65_method_123_code 21 = .ok (.iconst 0, 1) := by decide +kernel
theorem d5_22 : decode jdk_65_method_123_code 22 = .ok (.aload_n 0, 1) := by decide +kernel
theorem d5_23 : decode jdk_65_method_123_code 23 = .ok (.arraylength, 1) := by decide +kernel
theorem d5_24 : decode jdk_65_method_123_code 24 = .ok (.iload_n 1, 1) := by decide +kernel
theorem d5_25 : decode jdk_65_method_123_code 25 = .ok (.invokestatic 304, 3) := by decide +kernel
theorem d5_28 : decode jdk_65_method_123_code 28 = .ok (.invokestatic 150, 3) := by decide +kernel
theorem d5_31 : decode jdk_65_method_123_code 31 = .ok (.aload_n 2, 1) := by decide +kernel
theorem d5_32 : decode jdk_65_method_123_code 32 = .ok (.areturn, 1) := by decide +kernel
theorem pf_3 : plainFor (⟨"java/util/Arrays", "copyOf", "([II)[I"⟩ : MethodName) = true := by first | exact plainFor_of_name (by first | (simp [plainName, overriddenIn]; done) | decide +kernel) | decide +kernel
theorem pd_0 : parseMethodDescriptor "(II)I" = some ⟨[.int, .int], some .int⟩ := by decide +kernel
def Qcon_copy (Z : State) (n0 : Nat) (h0 : Heap) (b : Addr) (z : Int32) (vs : List Value) (v : Option Value) (h' : Heap) : Prop := ∃ (r : Addr), (v = some (.ref r)) ∧ (Keep h0 h' []) ∧ (n0 ≤ r) ∧ (h0.size ≤ r) ∧ (Av Z h' r .int (own_copy vs (Int32.toNatClampNeg z)))
theorem ef_con_copy (m : MethodId) (b : Addr) (z : Int32) : entryFrame m #[(.ref b), (.int z)] 3 = mkF m 0 #[.val (.ref b), .val (.int z), .unset] [] := by first | (simp [entryFrame, mkF, argsToLocals, Value.category]; done) | rfl
set_option maxRecDepth 65536 in
set_option maxHeartbeats 40000000 in
theorem con_copy (l : Launch) (Z : State) (a0 : Array Value) (hw : ∀ d ∈ tables_1, d.before a0 Z = true) (n0 : Nat) (h0 : Heap) (hn0 : n0 ≤ h0.size) (b : Addr) (z : Int32) (vs : List Value) (P0 : Av Z h0 b .int vs) (hz : ¬ z < 0) (hc : z.toNatClampNeg ≤ 5) (hne : ¬ z = vs.length.toInt32) (h31 : vs.length < 2 ^ 31) :
    Con l Z n0 [] (⟨"java/util/Arrays", "copyOf", "([II)[I"⟩ : MethodName) jdk_65_method_123_code 3 (some (.array .int)) ({ frames := 1, cells := 1, slots := 5, locals := 18 } : Room) #[(.ref b), (.int z)] h0 (Qcon_copy Z n0 h0 b z vs) := by
  refine Con.of pf_3 (fun m => ef_con_copy m b z) hn0 ?_
  intro p e s m below meth c C
  refine C.iloadN d5_0 rfl rfl ?_
  refine C.aloadN d5_1 rfl rfl rfl ?_
  refine C.alen d5_2 rfl P0 ?_
  refine C.icmp_ne_t d5_3 (by decide) rfl hne ?_
  refine C.iloadN d5_14 rfl rfl ?_
  refine C.newarr 5 d5_15 rfl rfl (tw hw 1 rfl) hz hc (by decide) (by decide) (by decide) (fun a81 h82 z85 g86 X83 F84 => ?_)
  have gz87 : h0.size ≤ a81 := by rw [z85]; exact (Keep.refl h0 []).1
  have ne88 : b ≠ a81 := by rw [z85]; exact Nat.ne_of_lt P0.lt
  have F89 : Av Z h82 b .int vs := P0.ext X83
  have F90 : Av Z h82 a81 .int (List.replicate (Int32.toNatClampNeg z) (.int 0)) := F84
  refine C.astoreN (Ls' := #[.val (.ref b), .val (.int z), .val (.ref a81)]) d5_17 rfl rfl rfl ?_
  refine C.aloadN d5_18 rfl rfl rfl ?_
  refine C.iconst 0 d5_19 rfl rfl ?_
  refine C.aloadN d5_20 rfl rfl rfl ?_
  refine C.iconst 0 d5_21 rfl rfl ?_
  refine C.aloadN d5_22 rfl rfl rfl ?_
  refine C.alen d5_23 rfl F89 ?_
  refine C.iloadN d5_24 rfl rfl ?_
  refine C.callS (argsL := [(.int vs.length.toInt32), (.int z)]) (rest := [(.int 0), (.ref a81), (.int 0), (.ref b)]) 4 (fun zz => con_min l Z a0 hw n0 h82 zz vs.length.toInt32 z ) d5_25 rfl (tw hw 29 rfl) (tw hw 30 rfl) (tw hw 31 rfl) (tw hw 32 rfl) (by decide) pd_0 rfl rfl rfl (Nat.le_of_eq rfl) (by decide) (by decide) (by decide) (by decide) (fun v91 h92 r93 => ?_)
  obtain ⟨rfl, rfl⟩ := r93
  refine C.acopy 0 d5_28 rfl (tw hw 33 rfl) (tw hw 36 rfl) (tw hw 34 rfl) (tw hw 35 rfl) F89 F90 rfl h31 (by rw [List.length_replicate]; exact (back32 hz).2) (by decide) (by decide) (own_minN _ z (own_clamp h31).2 hz).1 (by rw [(own_minN _ z (own_clamp h31).2 hz).2, (own_clamp h31).1]; show 0 + _ ≤ _; omega) (by rw [(own_minN _ z (own_clamp h31).2 hz).2, (own_clamp h31).1, List.length_replicate]; show 0 + _ ≤ _; omega) g86 rfl (by decide) (Nat.le_of_eq rfl) (by decide) (fun h95 K96 F97 => ?_)
  have F98 : Av Z h95 b .int vs := F89.keep K96 (ninS ne88 nin0)
  have F100 : Av Z h95 a81 .int (own_copy vs (Int32.toNatClampNeg z)) := (by have q := F97; rw [own_cp vs z hz h31] at q; exact q)
  refine C.aloadN d5_31 rfl rfl rfl ?_
  exact C.retA d5_32 rfl rfl (by decide) (by decide) ⟨a81, rfl, (((Keep.refl h0 []).ext X83).trans K96 (allS (Or.inr gz87) all0)), g86, gz87, F100⟩
theorem d4_0 : decode prog_7_method_5_code 0 = .ok (.aload_n 0, 1) := by decide +kernel
theorem d4_1 : decode prog_7_method_5_code 1 = .ok (.getfield 7, 3) := by decide +kernel
theorem d4_4 : decode prog_7_method_5_code 4 = .ok (.aload_n 0, 1) := by decide +kernel
theorem d4_5 : decode prog_7_method_5_code 5 = .ok (.getfield 13, 3) := by decide +kernel
theorem d4_8 : decode prog_7_method_5_code 8 = .ok (.invokestatic 23, 3) := by decide +kernel
theorem d4_11 : decode prog_7_method_5_code 11 = .ok (.areturn, 1) := by decide +kernel
theorem pf_4 : plainFor (⟨"com/example/pathfold/pathfold/chi/IntList", "toArray", "()[I"⟩ : MethodName) = true := by first | exact plainFor_of_name (by first | (simp [plainName, overriddenIn]; done) | decide +kernel) | decide +kernel
theorem pd_1 : parseMethodDescriptor "([II)[I" = some ⟨[(.array .int), .int], some (.array .int)⟩ := by decide +kernel
def Qcon_ta (Z : State) (n0 : Nat) (h0 : Heap) (a : Addr) (b : Addr) (n : Int32) (vs : List Value) (v : Option Value) (h' : Heap) : Prop := ∃ (r : Addr), (v = some (.ref r)) ∧ (Keep h0 h' []) ∧ (n0 ≤ r) ∧ (h0.size ≤ r) ∧ (Av Z h' r .int (own_copy vs (Int32.toNatClampNeg n)))
theorem ef_con_ta (m : MethodId) (a : Addr) : entryFrame m #[(.ref a)] 1 = mkF m 0 #[.val (.ref a)] [] := by first | (simp [entryFrame, mkF, argsToLocals, Value.category]; done) | rfl
set_option maxRecDepth 65536 in
set_option maxHeartbeats 40000000 in
theorem con_ta (l : Launch) (Z : State) (a0 : Array Value) (hw : ∀ d ∈ tables_1, d.before a0 Z = true) (n0 : Nat) (h0 : Heap) (hn0 : n0 ≤ h0.size) (a : Addr) (b : Addr) (n : Int32) (vs : List Value) (P0 : Fld Z h0 a "com/example/pathfold/pathfold/chi/IntList" "items" "[I" (.ref b)) (P1 : Fld Z h0 a "com/example/pathfold/pathfold/chi/IntList" "size" "I" (.int n)) (P2 : Av Z h0 b .int vs) (hz : ¬ n < 0) (hc : n.toNatClampNeg ≤ 5) (hne : ¬ n = vs.length.toInt32) (h31 : vs.length < 2 ^ 31) :
    Con l Z n0 [] (⟨"com/example/pathfold/pathfold/chi/IntList", "toArray", "()[I"⟩ : MethodName) prog_7_method_5_code 1 (some (.array .int)) ({ frames := 2, cells := 1, slots := 5, locals := 32 } : Room) #[(.ref a)] h0 (Qcon_ta Z n0 h0 a b n vs) := by
  refine Con.of pf_4 (fun m => ef_con_ta m a) hn0 ?_
  intro p e s m below meth c C
  refine C.aloadN d4_0 rfl rfl rfl ?_
  refine C.getF d4_1 rfl (tw hw 11 rfl) P0 ?_
  refine C.aloadN d4_4 rfl rfl rfl ?_
  refine C.getF d4_5 rfl (tw hw 18 rfl) P1 ?_
  refine C.callS (argsL := [(.ref b), (.int n)]) (rest := []) 0 (fun zz => con_copy l Z a0 hw n0 h0 zz b n vs P2 hz hc hne h31) d4_8 rfl (tw hw 25 rfl) (tw hw 26 rfl) (tw hw 27 rfl) (tw hw 28 rfl) (by decide) pd_1 rfl rfl rfl (Nat.le_of_eq rfl) (by decide) (by decide) (by decide) (by decide) (fun v114 h115 r116 => ?_)
  obtain ⟨a117, rfl, K118, g120, gz121, F119⟩ := r116
  have gz122 : h0.size ≤ a117 := Nat.le_trans (Keep.refl h0 []).1 gz121
  have ne123 : a ≠ a117 := Nat.ne_of_lt (Nat.lt_of_lt_of_le P0.lt gz121)
  have F124 : Fld Z h115 a "com/example/pathfold/pathfold/chi/IntList" "items" "[I" (.ref b) := P0.keep K118 nin0
  have F125 : Fld Z h115 a "com/example/pathfold/pathfold/chi/IntList" "size" "I" (.int n) := P1.keep K118 nin0
  have F126 : Av Z h115 b .int vs := P2.keep K118 nin0
  exact C.retA d4_11 rfl rfl (by decide) (by decide) ⟨a117, rfl, ((Keep.refl h0 []).trans K118 all0), g120, gz122, F119⟩
theorem d7_0 : decode method_3_code 0 = .ok (.iload_n 2, 1) := by decide +kernel
theorem d7_1 : decode method_3_code 1 = .ok (.ifCond .le 14, 3) := by decide +kernel
theorem d7_4 : decode method_3_code 4 = .ok (.aload_n 0, 1) := by decide +kernel
theorem d7_5 : decode method_3_code 5 = .ok (.iconst 0, 1) := by decide +kernel
theorem d7_6 : decode method_3_code 6 = .ok (.iaload, 1) := by decide +kernel
theorem d7_7 : decode method_3_code 7 = .ok (.aload_n 1, 1) := by decide +kernel
theorem d7_8 : decode method_3_code 8 = .ok (.iconst 0, 1) := by decide +kernel
theorem d7_9 : decode method_3_code 9 = .ok (.iaload, 1) := by decide +kernel
theorem d7_10 : decode method_3_code 10 = .ok (.if_icmp .eq 5, 3) := by decide +kernel
theorem d7_13 : decode method_3_code 13 = .ok (.iconst 0, 1) := by decide +kernel
theorem d7_14 : decode method_3_code 14 = .ok (.ireturn, 1) := by decide +kernel
theorem d7_15 : decode method_3_code 15 = .ok (.iload_n 2, 1) := by decide +kernel
theorem d7_16 : decode method_3_code 16 = .ok (.iconst 1, 1) := by decide +kernel
theorem d7_17 : decode method_3_code 17 = .ok (.if_icmp .le 14, 3) := by decide +kernel
theorem d7_20 : decode method_3_code 20 = .ok (.aload_n 0, 1) := by decide +kernel
theorem d7_21 : decode method_3_code 21 = .ok (.iconst 1, 1) := by decide +kernel
theorem d7_22 : decode method_3_code 22 = .ok (.iaload, 1) := by decide +kernel
theorem d7_23 : decode method_3_code 23 = .ok (.aload_n 1, 1) := by decide +kernel
theorem d7_24 : decode method_3_code 24 = .ok (.iconst 1, 1) := by decide +kernel
theorem d7_25 : decode method_3_code 25 = .ok (.iaload, 1) := by decide +kernel
theorem d7_26 : decode method_3_code 26 = .ok (.if_icmp .eq 5, 3) := by decide +kernel
theorem d7_29 : decode method_3_code 29 = .ok (.iconst 0, 1) := by decide +kernel
theorem d7_30 : decode method_3_code 30 = .ok (.ireturn, 1) := by decide +kernel
theorem d7_31 : decode method_3_code 31 = .ok (.iload_n 2, 1) := by decide +kernel
theorem d7_32 : decode method_3_code 32 = .ok (.iconst 2, 1) := by decide +kernel
theorem d7_33 : decode method_3_code 33 = .ok (.if_icmp .le 14, 3) := by decide +kernel
theorem d7_36 : decode method_3_code 36 = .ok (.aload_n 0, 1) := by decide +kernel
theorem d7_37 : decode method_3_code 37 = .ok (.iconst 2, 1) := by decide +kernel
theorem d7_38 : decode method_3_code 38 = .ok (.iaload, 1) := by decide +kernel
theorem d7_39 : decode method_3_code 39 = .ok (.aload_n 1, 1) := by decide +kernel
theorem d7_40 : decode method_3_code 40 = .ok (.iconst 2, 1) := by decide +kernel
theorem d7_41 : decode method_3_code 41 = .ok (.iaload, 1) := by decide +kernel
theorem d7_42 : decode method_3_code 42 = .ok (.if_icmp .eq 5, 3) := by decide +kernel
theorem d7_45 : decode method_3_code 45 = .ok (.iconst 0, 1) := by decide +kernel
theorem d7_46 : decode method_3_code 46 = .ok (.ireturn, 1) := by decide +kernel
theorem d7_47 : decode method_3_code 47 = .ok (.iload_n 2, 1) := by decide +kernel
theorem d7_48 : decode method_3_code 48 = .ok (.iconst 3, 1) := by decide +kernel
theorem d7_49 : decode method_3_code 49 = .ok (.if_icmp .le 14, 3) := by decide +kernel
theorem d7_52 : decode method_3_code 52 = .ok (.aload_n 0, 1) := by decide +kernel
theorem d7_53 : decode method_3_code 53 = .ok (.iconst 3, 1) := by decide +kernel
theorem d7_54 : decode method_3_code 54 = .ok (.iaload, 1) := by decide +kernel
theorem d7_55 : decode method_3_code 55 = .ok (.aload_n 1, 1) := by decide +kernel
theorem d7_56 : decode method_3_code 56 = .ok (.iconst 3, 1) := by decide +kernel
theorem d7_57 : decode method_3_code 57 = .ok (.iaload, 1) := by decide +kernel
theorem d7_58 : decode method_3_code 58 = .ok (.if_icmp .eq 5, 3) := by decide +kernel
theorem d7_61 : decode method_3_code 61 = .ok (.iconst 0, 1) := by decide +kernel
theorem d7_62 : decode method_3_code 62 = .ok (.ireturn, 1) := by decide +kernel
theorem d7_63 : decode method_3_code 63 = .ok (.iload_n 2, 1) := by decide +kernel
theorem d7_64 : decode method_3_code 64 = .ok (.iconst 4, 1) := by decide +kernel
theorem d7_65 : decode method_3_code 65 = .ok (.if_icmp .le 14, 3) := by decide +kernel
theorem d7_68 : decode method_3_code 68 = .ok (.aload_n 0, 1) := by decide +kernel
theorem d7_69 : decode method_3_code 69 = .ok (.iconst 4, 1) := by decide +kernel
theorem d7_70 : decode method_3_code 70 = .ok (.iaload, 1) := by decide +kernel
theorem d7_71 : decode method_3_code 71 = .ok (.aload_n 1, 1) := by decide +kernel
theorem d7_72 : decode method_3_code 72 = .ok (.iconst 4, 1) := by decide +kernel
theorem d7_73 : decode method_3_code 73 = .ok (.iaload, 1) := by decide +kernel
theorem d7_74 : decode method_3_code 74 = .ok (.if_icmp .eq 5, 3) := by decide +kernel
theorem d7_77 : decode method_3_code 77 = .ok (.iconst 0, 1) := by decide +kernel
theorem d7_78 : decode method_3_code 78 = .ok (.ireturn, 1) := by decide +kernel
theorem d7_79 : decode method_3_code 79 = .ok (.iconst 1, 1) := by decide +kernel
theorem d7_80 : decode method_3_code 80 = .ok (.ireturn, 1) := by decide +kernel
theorem pf_5 : plainFor (⟨"com/example/pathfold/pathfold/chi/IntListToArrayPinLaw", "matches", "([I[II)Z"⟩ : MethodName) = true := by first | exact plainFor_of_name (by first | (simp [plainName, overriddenIn]; done) | decide +kernel) | decide +kernel
def Qcon_m0 (Z : State) (n0 : Nat) (h0 : Heap) (ra : Addr) (ta : Addr) (y0 : Int32) (y1 : Int32) (y2 : Int32) (y3 : Int32) (y4 : Int32) (v : Option Value) (h' : Heap) : Prop := (v = some (.int 1)) ∧ (h0 = h')
theorem ef_con_m0 (m : MethodId) (ra : Addr) (ta : Addr) : entryFrame m #[(.ref ra), (.ref ta), (.int 0)] 3 = mkF m 0 #[.val (.ref ra), .val (.ref ta), .val (.int 0)] [] := by first | (simp [entryFrame, mkF, argsToLocals, Value.category]; done) | rfl
set_option maxRecDepth 65536 in
set_option maxHeartbeats 40000000 in
theorem con_m0 (l : Launch) (Z : State) (a0 : Array Value) (hw : ∀ d ∈ tables_1, d.before a0 Z = true) (n0 : Nat) (h0 : Heap) (hn0 : n0 ≤ h0.size) (ra : Addr) (ta : Addr) (y0 : Int32) (y1 : Int32) (y2 : Int32) (y3 : Int32) (y4 : Int32) (P0 : Av Z h0 ra .int ([])) (P1 : Av Z h0 ta .int ([.int y0, .int y1, .int y2, .int y3, .int y4])) :
    Con l Z n0 [] (⟨"com/example/pathfold/pathfold/chi/IntListToArrayPinLaw", "matches", "([I[II)Z"⟩ : MethodName) method_3_code 3 (some .boolean) ({ frames := 0, cells := 0, slots := 0, locals := 0 } : Room) #[(.ref ra), (.ref ta), (.int 0)] h0 (Qcon_m0 Z n0 h0 ra ta y0 y1 y2 y3 y4) := by
  refine Con.of pf_5 (fun m => ef_con_m0 m ra ta) hn0 ?_
  intro p e s m below meth c C
  refine C.iloadN d7_0 rfl rfl ?_
  refine C.if_le_t d7_1 (by decide) rfl (by decide) ?_
  refine C.iloadN d7_15 rfl rfl ?_
  refine C.iconst 1 d7_16 rfl rfl ?_
  refine C.icmp_le_t d7_17 (by decide) rfl (by decide) ?_
  refine C.iloadN d7_31 rfl rfl ?_
  refine C.iconst 2 d7_32 rfl rfl ?_
  refine C.icmp_le_t d7_33 (by decide) rfl (by decide) ?_
  refine C.iloadN d7_47 rfl rfl ?_
  refine C.iconst 3 d7_48 rfl rfl ?_
  refine C.icmp_le_t d7_49 (by decide) rfl (by decide) ?_
  refine C.iloadN d7_63 rfl rfl ?_
  refine C.iconst 4 d7_64 rfl rfl ?_
  refine C.icmp_le_t d7_65 (by decide) rfl (by decide) ?_
  refine C.iconst 1 d7_79 rfl rfl ?_
  exact C.retZ d7_80 rfl (by decide) (by decide) ⟨rfl, rfl⟩
def Qcon_m1 (Z : State) (n0 : Nat) (h0 : Heap) (ra : Addr) (ta : Addr) (y0 : Int32) (y1 : Int32) (y2 : Int32) (y3 : Int32) (y4 : Int32) (v : Option Value) (h' : Heap) : Prop := (v = some (.int 1)) ∧ (h0 = h')
theorem ef_con_m1 (m : MethodId) (ra : Addr) (ta : Addr) : entryFrame m #[(.ref ra), (.ref ta), (.int 1)] 3 = mkF m 0 #[.val (.ref ra), .val (.ref ta), .val (.int 1)] [] := by first | (simp [entryFrame, mkF, argsToLocals, Value.category]; done) | rfl
set_option maxRecDepth 65536 in
set_option maxHeartbeats 40000000 in
theorem con_m1 (l : Launch) (Z : State) (a0 : Array Value) (hw : ∀ d ∈ tables_1, d.before a0 Z = true) (n0 : Nat) (h0 : Heap) (hn0 : n0 ≤ h0.size) (ra : Addr) (ta : Addr) (y0 : Int32) (y1 : Int32) (y2 : Int32) (y3 : Int32) (y4 : Int32) (P0 : Av Z h0 ra .int ([.int y0])) (P1 : Av Z h0 ta .int ([.int y0, .int y1, .int y2, .int y3, .int y4])) :
    Con l Z n0 [] (⟨"com/example/pathfold/pathfold/chi/IntListToArrayPinLaw", "matches", "([I[II)Z"⟩ : MethodName) method_3_code 3 (some .boolean) ({ frames := 0, cells := 0, slots := 0, locals := 0 } : Room) #[(.ref ra), (.ref ta), (.int 1)] h0 (Qcon_m1 Z n0 h0 ra ta y0 y1 y2 y3 y4) := by
  refine Con.of pf_5 (fun m => ef_con_m1 m ra ta) hn0 ?_
  intro p e s m below meth c C
  refine C.iloadN d7_0 rfl rfl ?_
  refine C.if_le_f d7_1 rfl (by decide) ?_
  refine C.aloadN d7_4 rfl rfl rfl ?_
  refine C.iconst 0 d7_5 rfl rfl ?_
  refine C.iaload (.int y0) d7_6 rfl P0 (by decide) rfl ?_
  refine C.aloadN d7_7 rfl rfl rfl ?_
  refine C.iconst 0 d7_8 rfl rfl ?_
  refine C.iaload (.int y0) d7_9 rfl P1 (by decide) rfl ?_
  refine C.icmp_eq_t d7_10 (by decide) rfl rfl ?_
  refine C.iloadN d7_15 rfl rfl ?_
  refine C.iconst 1 d7_16 rfl rfl ?_
  refine C.icmp_le_t d7_17 (by decide) rfl (by decide) ?_
  refine C.iloadN d7_31 rfl rfl ?_
  refine C.iconst 2 d7_32 rfl rfl ?_
  refine C.icmp_le_t d7_33 (by decide) rfl (by decide) ?_
  refine C.iloadN d7_47 rfl rfl ?_
  refine C.iconst 3 d7_48 rfl rfl ?_
  refine C.icmp_le_t d7_49 (by decide) rfl (by decide) ?_
  refine C.iloadN d7_63 rfl rfl ?_
  refine C.iconst 4 d7_64 rfl rfl ?_
  refine C.icmp_le_t d7_65 (by decide) rfl (by decide) ?_
  refine C.iconst 1 d7_79 rfl rfl ?_
  exact C.retZ d7_80 rfl (by decide) (by decide) ⟨rfl, rfl⟩
def Qcon_m2 (Z : State) (n0 : Nat) (h0 : Heap) (ra : Addr) (ta : Addr) (y0 : Int32) (y1 : Int32) (y2 : Int32) (y3 : Int32) (y4 : Int32) (v : Option Value) (h' : Heap) : Prop := (v = some (.int 1)) ∧ (h0 = h')
theorem ef_con_m2 (m : MethodId) (ra : Addr) (ta : Addr) : entryFrame m #[(.ref ra), (.ref ta), (.int 2)] 3 = mkF m 0 #[.val (.ref ra), .val (.ref ta), .val (.int 2)] [] := by first | (simp [entryFrame, mkF, argsToLocals, Value.category]; done) | rfl
set_option maxRecDepth 65536 in
set_option maxHeartbeats 40000000 in
theorem con_m2 (l : Launch) (Z : State) (a0 : Array Value) (hw : ∀ d ∈ tables_1, d.before a0 Z = true) (n0 : Nat) (h0 : Heap) (hn0 : n0 ≤ h0.size) (ra : Addr) (ta : Addr) (y0 : Int32) (y1 : Int32) (y2 : Int32) (y3 : Int32) (y4 : Int32) (P0 : Av Z h0 ra .int ([.int y0, .int y1])) (P1 : Av Z h0 ta .int ([.int y0, .int y1, .int y2, .int y3, .int y4])) :
    Con l Z n0 [] (⟨"com/example/pathfold/pathfold/chi/IntListToArrayPinLaw", "matches", "([I[II)Z"⟩ : MethodName) method_3_code 3 (some .boolean) ({ frames := 0, cells := 0, slots := 0, locals := 0 } : Room) #[(.ref ra), (.ref ta), (.int 2)] h0 (Qcon_m2 Z n0 h0 ra ta y0 y1 y2 y3 y4) := by
  refine Con.of pf_5 (fun m => ef_con_m2 m ra ta) hn0 ?_
  intro p e s m below meth c C
  refine C.iloadN d7_0 rfl rfl ?_
  refine C.if_le_f d7_1 rfl (by decide) ?_
  refine C.aloadN d7_4 rfl rfl rfl ?_
  refine C.iconst 0 d7_5 rfl rfl ?_
  refine C.iaload (.int y0) d7_6 rfl P0 (by decide) rfl ?_
  refine C.aloadN d7_7 rfl rfl rfl ?_
  refine C.iconst 0 d7_8 rfl rfl ?_
  refine C.iaload (.int y0) d7_9 rfl P1 (by decide) rfl ?_
  refine C.icmp_eq_t d7_10 (by decide) rfl rfl ?_
  refine C.iloadN d7_15 rfl rfl ?_
  refine C.iconst 1 d7_16 rfl rfl ?_
  refine C.icmp_le_f d7_17 rfl (by decide) ?_
  refine C.aloadN d7_20 rfl rfl rfl ?_
  refine C.iconst 1 d7_21 rfl rfl ?_
  refine C.iaload (.int y1) d7_22 rfl P0 (by decide) rfl ?_
  refine C.aloadN d7_23 rfl rfl rfl ?_
  refine C.iconst 1 d7_24 rfl rfl ?_
  refine C.iaload (.int y1) d7_25 rfl P1 (by decide) rfl ?_
  refine C.icmp_eq_t d7_26 (by decide) rfl rfl ?_
  refine C.iloadN d7_31 rfl rfl ?_
  refine C.iconst 2 d7_32 rfl rfl ?_
  refine C.icmp_le_t d7_33 (by decide) rfl (by decide) ?_
  refine C.iloadN d7_47 rfl rfl ?_
  refine C.iconst 3 d7_48 rfl rfl ?_
  refine C.icmp_le_t d7_49 (by decide) rfl (by decide) ?_
  refine C.iloadN d7_63 rfl rfl ?_
  refine C.iconst 4 d7_64 rfl rfl ?_
  refine C.icmp_le_t d7_65 (by decide) rfl (by decide) ?_
  refine C.iconst 1 d7_79 rfl rfl ?_
  exact C.retZ d7_80 rfl (by decide) (by decide) ⟨rfl, rfl⟩
def Qcon_m3 (Z : State) (n0 : Nat) (h0 : Heap) (ra : Addr) (ta : Addr) (y0 : Int32) (y1 : Int32) (y2 : Int32) (y3 : Int32) (y4 : Int32) (v : Option Value) (h' : Heap) : Prop := (v = some (.int 1)) ∧ (h0 = h')
theorem ef_con_m3 (m : MethodId) (ra : Addr) (ta : Addr) : entryFrame m #[(.ref ra), (.ref ta), (.int 3)] 3 = mkF m 0 #[.val (.ref ra), .val (.ref ta), .val (.int 3)] [] := by first | (simp [entryFrame, mkF, argsToLocals, Value.category]; done) | rfl
set_option maxRecDepth 65536 in
set_option maxHeartbeats 40000000 in
theorem con_m3 (l : Launch) (Z : State) (a0 : Array Value) (hw : ∀ d ∈ tables_1, d.before a0 Z = true) (n0 : Nat) (h0 : Heap) (hn0 : n0 ≤ h0.size) (ra : Addr) (ta : Addr) (y0 : Int32) (y1 : Int32) (y2 : Int32) (y3 : Int32) (y4 : Int32) (P0 : Av Z h0 ra .int ([.int y0, .int y1, .int y2])) (P1 : Av Z h0 ta .int ([.int y0, .int y1, .int y2, .int y3, .int y4])) :
    Con l Z n0 [] (⟨"com/example/pathfold/pathfold/chi/IntListToArrayPinLaw", "matches", "([I[II)Z"⟩ : MethodName) method_3_code 3 (some .boolean) ({ frames := 0, cells := 0, slots := 0, locals := 0 } : Room) #[(.ref ra), (.ref ta), (.int 3)] h0 (Qcon_m3 Z n0 h0 ra ta y0 y1 y2 y3 y4) := by
  refine Con.of pf_5 (fun m => ef_con_m3 m ra ta) hn0 ?_
  intro p e s m below meth c C
  refine C.iloadN d7_0 rfl rfl ?_
  refine C.if_le_f d7_1 rfl (by decide) ?_
  refine C.aloadN d7_4 rfl rfl rfl ?_
  refine C.iconst 0 d7_5 rfl rfl ?_
  refine C.iaload (.int y0) d7_6 rfl P0 (by decide) rfl ?_
  refine C.aloadN d7_7 rfl rfl rfl ?_
  refine C.iconst 0 d7_8 rfl rfl ?_
  refine C.iaload (.int y0) d7_9 rfl P1 (by decide) rfl ?_
  refine C.icmp_eq_t d7_10 (by decide) rfl rfl ?_
  refine C.iloadN d7_15 rfl rfl ?_
  refine C.iconst 1 d7_16 rfl rfl ?_
  refine C.icmp_le_f d7_17 rfl (by decide) ?_
  refine C.aloadN d7_20 rfl rfl rfl ?_
  refine C.iconst 1 d7_21 rfl rfl ?_
  refine C.iaload (.int y1) d7_22 rfl P0 (by decide) rfl ?_
  refine C.aloadN d7_23 rfl rfl rfl ?_
  refine C.iconst 1 d7_24 rfl rfl ?_
  refine C.iaload (.int y1) d7_25 rfl P1 (by decide) rfl ?_
  refine C.icmp_eq_t d7_26 (by decide) rfl rfl ?_
  refine C.iloadN d7_31 rfl rfl ?_
  refine C.iconst 2 d7_32 rfl rfl ?_
  refine C.icmp_le_f d7_33 rfl (by decide) ?_
  refine C.aloadN d7_36 rfl rfl rfl ?_
  refine C.iconst 2 d7_37 rfl rfl ?_
  refine C.iaload (.int y2) d7_38 rfl P0 (by decide) rfl ?_
  refine C.aloadN d7_39 rfl rfl rfl ?_
  refine C.iconst 2 d7_40 rfl rfl ?_
  refine C.iaload (.int y2) d7_41 rfl P1 (by decide) rfl ?_
  refine C.icmp_eq_t d7_42 (by decide) rfl rfl ?_
  refine C.iloadN d7_47 rfl rfl ?_
  refine C.iconst 3 d7_48 rfl rfl ?_
  refine C.icmp_le_t d7_49 (by decide) rfl (by decide) ?_
  refine C.iloadN d7_63 rfl rfl ?_
  refine C.iconst 4 d7_64 rfl rfl ?_
  refine C.icmp_le_t d7_65 (by decide) rfl (by decide) ?_
  refine C.iconst 1 d7_79 rfl rfl ?_
  exact C.retZ d7_80 rfl (by decide) (by decide) ⟨rfl, rfl⟩
def Qcon_m4 (Z : State) (n0 : Nat) (h0 : Heap) (ra : Addr) (ta : Addr) (y0 : Int32) (y1 : Int32) (y2 : Int32) (y3 : Int32) (y4 : Int32) (v : Option Value) (h' : Heap) : Prop := (v = some (.int 1)) ∧ (h0 = h')
theorem ef_con_m4 (m : MethodId) (ra : Addr) (ta : Addr) : entryFrame m #[(.ref ra), (.ref ta), (.int 4)] 3 = mkF m 0 #[.val (.ref ra), .val (.ref ta), .val (.int 4)] [] := by first | (simp [entryFrame, mkF, argsToLocals, Value.category]; done) | rfl
set_option maxRecDepth 65536 in
set_option maxHeartbeats 40000000 in
theorem con_m4 (l : Launch) (Z : State) (a0 : Array Value) (hw : ∀ d ∈ tables_1, d.before a0 Z = true) (n0 : Nat) (h0 : Heap) (hn0 : n0 ≤ h0.size) (ra : Addr) (ta : Addr) (y0 : Int32) (y1 : Int32) (y2 : Int32) (y3 : Int32) (y4 : Int32) (P0 : Av Z h0 ra .int ([.int y0, .int y1, .int y2, .int y3])) (P1 : Av Z h0 ta .int ([.int y0, .int y1, .int y2, .int y3, .int y4])) :
    Con l Z n0 [] (⟨"com/example/pathfold/pathfold/chi/IntListToArrayPinLaw", "matches", "([I[II)Z"⟩ : MethodName) method_3_code 3 (some .boolean) ({ frames := 0, cells := 0, slots := 0, locals := 0 } : Room) #[(.ref ra), (.ref ta), (.int 4)] h0 (Qcon_m4 Z n0 h0 ra ta y0 y1 y2 y3 y4) := by
  refine Con.of pf_5 (fun m => ef_con_m4 m ra ta) hn0 ?_
  intro p e s m below meth c C
  refine C.iloadN d7_0 rfl rfl ?_
  refine C.if_le_f d7_1 rfl (by decide) ?_
  refine C.aloadN d7_4 rfl rfl rfl ?_
  refine C.iconst 0 d7_5 rfl rfl ?_
  refine C.iaload (.int y0) d7_6 rfl P0 (by decide) rfl ?_
  refine C.aloadN d7_7 rfl rfl rfl ?_
  refine C.iconst 0 d7_8 rfl rfl ?_
  refine C.iaload (.int y0) d7_9 rfl P1 (by decide) rfl ?_
  refine C.icmp_eq_t d7_10 (by decide) rfl rfl ?_
  refine C.iloadN d7_15 rfl rfl ?_
  refine C.iconst 1 d7_16 rfl rfl ?_
  refine C.icmp_le_f d7_17 rfl (by decide) ?_
  refine C.aloadN d7_20 rfl rfl rfl ?_
  refine C.iconst 1 d7_21 rfl rfl ?_
  refine C.iaload (.int y1) d7_22 rfl P0 (by decide) rfl ?_
  refine C.aloadN d7_23 rfl rfl rfl ?_
  refine C.iconst 1 d7_24 rfl rfl ?_
  refine C.iaload (.int y1) d7_25 rfl P1 (by decide) rfl ?_
  refine C.icmp_eq_t d7_26 (by decide) rfl rfl ?_
  refine C.iloadN d7_31 rfl rfl ?_
  refine C.iconst 2 d7_32 rfl rfl ?_
  refine C.icmp_le_f d7_33 rfl (by decide) ?_
  refine C.aloadN d7_36 rfl rfl rfl ?_
  refine C.iconst 2 d7_37 rfl rfl ?_
  refine C.iaload (.int y2) d7_38 rfl P0 (by decide) rfl ?_
  refine C.aloadN d7_39 rfl rfl rfl ?_
  refine C.iconst 2 d7_40 rfl rfl ?_
  refine C.iaload (.int y2) d7_41 rfl P1 (by decide) rfl ?_
  refine C.icmp_eq_t d7_42 (by decide) rfl rfl ?_
  refine C.iloadN d7_47 rfl rfl ?_
  refine C.iconst 3 d7_48 rfl rfl ?_
  refine C.icmp_le_f d7_49 rfl (by decide) ?_
  refine C.aloadN d7_52 rfl rfl rfl ?_
  refine C.iconst 3 d7_53 rfl rfl ?_
  refine C.iaload (.int y3) d7_54 rfl P0 (by decide) rfl ?_
  refine C.aloadN d7_55 rfl rfl rfl ?_
  refine C.iconst 3 d7_56 rfl rfl ?_
  refine C.iaload (.int y3) d7_57 rfl P1 (by decide) rfl ?_
  refine C.icmp_eq_t d7_58 (by decide) rfl rfl ?_
  refine C.iloadN d7_63 rfl rfl ?_
  refine C.iconst 4 d7_64 rfl rfl ?_
  refine C.icmp_le_t d7_65 (by decide) rfl (by decide) ?_
  refine C.iconst 1 d7_79 rfl rfl ?_
  exact C.retZ d7_80 rfl (by decide) (by decide) ⟨rfl, rfl⟩
def Qcon_m5 (Z : State) (n0 : Nat) (h0 : Heap) (ra : Addr) (ta : Addr) (y0 : Int32) (y1 : Int32) (y2 : Int32) (y3 : Int32) (y4 : Int32) (v : Option Value) (h' : Heap) : Prop := (v = some (.int 1)) ∧ (h0 = h')
theorem ef_con_m5 (m : MethodId) (ra : Addr) (ta : Addr) : entryFrame m #[(.ref ra), (.ref ta), (.int 5)] 3 = mkF m 0 #[.val (.ref ra), .val (.ref ta), .val (.int 5)] [] := by first | (simp [entryFrame, mkF, argsToLocals, Value.category]; done) | rfl
set_option maxRecDepth 65536 in
set_option maxHeartbeats 40000000 in
theorem con_m5 (l : Launch) (Z : State) (a0 : Array Value) (hw : ∀ d ∈ tables_1, d.before a0 Z = true) (n0 : Nat) (h0 : Heap) (hn0 : n0 ≤ h0.size) (ra : Addr) (ta : Addr) (y0 : Int32) (y1 : Int32) (y2 : Int32) (y3 : Int32) (y4 : Int32) (P0 : Av Z h0 ra .int ([.int y0, .int y1, .int y2, .int y3, .int y4])) (P1 : Av Z h0 ta .int ([.int y0, .int y1, .int y2, .int y3, .int y4])) :
    Con l Z n0 [] (⟨"com/example/pathfold/pathfold/chi/IntListToArrayPinLaw", "matches", "([I[II)Z"⟩ : MethodName) method_3_code 3 (some .boolean) ({ frames := 0, cells := 0, slots := 0, locals := 0 } : Room) #[(.ref ra), (.ref ta), (.int 5)] h0 (Qcon_m5 Z n0 h0 ra ta y0 y1 y2 y3 y4) := by
  refine Con.of pf_5 (fun m => ef_con_m5 m ra ta) hn0 ?_
  intro p e s m below meth c C
  refine C.iloadN d7_0 rfl rfl ?_
  refine C.if_le_f d7_1 rfl (by decide) ?_
  refine C.aloadN d7_4 rfl rfl rfl ?_
  refine C.iconst 0 d7_5 rfl rfl ?_
  refine C.iaload (.int y0) d7_6 rfl P0 (by decide) rfl ?_
  refine C.aloadN d7_7 rfl rfl rfl ?_
  refine C.iconst 0 d7_8 rfl rfl ?_
  refine C.iaload (.int y0) d7_9 rfl P1 (by decide) rfl ?_
  refine C.icmp_eq_t d7_10 (by decide) rfl rfl ?_
  refine C.iloadN d7_15 rfl rfl ?_
  refine C.iconst 1 d7_16 rfl rfl ?_
  refine C.icmp_le_f d7_17 rfl (by decide) ?_
  refine C.aloadN d7_20 rfl rfl rfl ?_
  refine C.iconst 1 d7_21 rfl rfl ?_
  refine C.iaload (.int y1) d7_22 rfl P0 (by decide) rfl ?_
  refine C.aloadN d7_23 rfl rfl rfl ?_
  refine C.iconst 1 d7_24 rfl rfl ?_
  refine C.iaload (.int y1) d7_25 rfl P1 (by decide) rfl ?_
  refine C.icmp_eq_t d7_26 (by decide) rfl rfl ?_
  refine C.iloadN d7_31 rfl rfl ?_
  refine C.iconst 2 d7_32 rfl rfl ?_
  refine C.icmp_le_f d7_33 rfl (by decide) ?_
  refine C.aloadN d7_36 rfl rfl rfl ?_
  refine C.iconst 2 d7_37 rfl rfl ?_
  refine C.iaload (.int y2) d7_38 rfl P0 (by decide) rfl ?_
  refine C.aloadN d7_39 rfl rfl rfl ?_
  refine C.iconst 2 d7_40 rfl rfl ?_
  refine C.iaload (.int y2) d7_41 rfl P1 (by decide) rfl ?_
  refine C.icmp_eq_t d7_42 (by decide) rfl rfl ?_
  refine C.iloadN d7_47 rfl rfl ?_
  refine C.iconst 3 d7_48 rfl rfl ?_
  refine C.icmp_le_f d7_49 rfl (by decide) ?_
  refine C.aloadN d7_52 rfl rfl rfl ?_
  refine C.iconst 3 d7_53 rfl rfl ?_
  refine C.iaload (.int y3) d7_54 rfl P0 (by decide) rfl ?_
  refine C.aloadN d7_55 rfl rfl rfl ?_
  refine C.iconst 3 d7_56 rfl rfl ?_
  refine C.iaload (.int y3) d7_57 rfl P1 (by decide) rfl ?_
  refine C.icmp_eq_t d7_58 (by decide) rfl rfl ?_
  refine C.iloadN d7_63 rfl rfl ?_
  refine C.iconst 4 d7_64 rfl rfl ?_
  refine C.icmp_le_f d7_65 rfl (by decide) ?_
  refine C.aloadN d7_68 rfl rfl rfl ?_
  refine C.iconst 4 d7_69 rfl rfl ?_
  refine C.iaload (.int y4) d7_70 rfl P0 (by decide) rfl ?_
  refine C.aloadN d7_71 rfl rfl rfl ?_
  refine C.iconst 4 d7_72 rfl rfl ?_
  refine C.iaload (.int y4) d7_73 rfl P1 (by decide) rfl ?_
  refine C.icmp_eq_t d7_74 (by decide) rfl rfl ?_
  refine C.iconst 1 d7_79 rfl rfl ?_
  exact C.retZ d7_80 rfl (by decide) (by decide) ⟨rfl, rfl⟩
theorem pf_6 : plainFor x = true := by first | exact plainFor_of_name (by first | (simp [plainName, overriddenIn]; done) | decide +kernel) | decide +kernel
theorem pd_2 : parseMethodDescriptor "()V" = some ⟨[], none⟩ := by decide +kernel
theorem pd_3 : parseMethodDescriptor "()[I" = some ⟨[], some (.array .int)⟩ := by decide +kernel
theorem pd_4 : parseMethodDescriptor "([I[II)Z" = some ⟨[(.array .int), (.array .int), .int], some .boolean⟩ := by decide +kernel
theorem pd_5 : parseMethodDescriptor "(I)V" = some ⟨[.int], none⟩ := by decide +kernel
def Qcon0 (Z : State) (n0 : Nat) (h0 : Heap) (x0 : Int32) (x1 : Int32) (x2 : Int32) (x3 : Int32) (x4 : Int32) (x5 : Int32) (v : Option Value) (h' : Heap) : Prop := v = some (.int 1) ∧ True
theorem ef_con0 (m : MethodId) (x0 : Int32) (x1 : Int32) (x2 : Int32) (x3 : Int32) (x4 : Int32) (x5 : Int32) : entryFrame m #[(.int x0), (.int x1), (.int x2), (.int x3), (.int x4), (.int x5)] maxLocals = mkF m 0 #[.val (.int x0), .val (.int x1), .val (.int x2), .val (.int x3), .val (.int x4), .val (.int x5), .unset, .unset, .unset, .unset, .unset, .unset] [] := by first | (simp [entryFrame, mkF, argsToLocals, Value.category, maxLocals]; done) | rfl
set_option maxRecDepth 65536 in
set_option maxHeartbeats 40000000 in
theorem con0 (l : Launch) (Z : State) (a0 : Array Value) (hw : ∀ d ∈ tables_1, d.before a0 Z = true) (n0 : Nat) (h0 : Heap) (hn0 : n0 ≤ h0.size) (x0 : Int32) (x1 : Int32) (x2 : Int32) (x3 : Int32) (x4 : Int32) (x5 : Int32) :
    Con l Z n0 tables_1 x code maxLocals ret room_1 #[(.int x0), (.int x1), (.int x2), (.int x3), (.int x4), (.int x5)] h0 (Qcon0 Z n0 h0 x0 x1 x2 x3 x4 x5) := by
  refine Con.of pf_6 (fun m => ef_con0 m x0 x1 x2 x3 x4 x5) hn0 ?_
  intro p e s m below meth c C
  refine C.iload at_0 rfl rfl ?_
  refine C.ldcI at_2 rfl (tw hw 0 rfl) ?_
  refine C.iand at_4 rfl ?_
  refine C.bipush 6 at_5 rfl rfl ?_
  refine C.irem at_7 rfl (by decide) ?_
  refine C.istore (Ls' := #[.val (.int x0), .val (.int x1), .val (.int x2), .val (.int x3), .val (.int x4), .val (.int x5), .val (.int ((x5 &&& 2147483647) % 6)), .unset, .unset, .unset, .unset, .unset]) at_8 rfl rfl ?_
  rcases own_mod6 x5 with qc | qc | qc | qc | qc | qc
  · rw [qc]
    refine C.iconst 5 at_10 rfl rfl ?_
    refine C.newarr 5 at_11 rfl rfl (tw hw 1 rfl) (by decide) (by decide) (by decide) (by decide) (by decide) (fun a127 h128 z131 g132 X129 F130 => ?_)
    have F133 : Av Z h128 a127 .int ([.int 0, .int 0, .int 0, .int 0, .int 0]) := F130
    refine C.dup at_13 rfl rfl ?_
    refine C.iconst 0 at_14 rfl rfl ?_
    refine C.iloadN at_15 rfl rfl ?_
    refine C.iastore at_16 rfl F133 g132 (by decide) (Nat.le_of_ble_eq_true rfl) (fun h134 W135 F136 => ?_)
    have F137 : Av Z h134 a127 .int ([.int x0, .int 0, .int 0, .int 0, .int 0]) := F136
    refine C.dup at_17 rfl rfl ?_
    refine C.iconst 1 at_18 rfl rfl ?_
    refine C.iloadN at_19 rfl rfl ?_
    refine C.iastore at_20 rfl F137 g132 (by decide) (Nat.le_of_ble_eq_true rfl) (fun h138 W139 F140 => ?_)
    have F141 : Av Z h138 a127 .int ([.int x0, .int x1, .int 0, .int 0, .int 0]) := F140
    refine C.dup at_21 rfl rfl ?_
    refine C.iconst 2 at_22 rfl rfl ?_
    refine C.iloadN at_23 rfl rfl ?_
    refine C.iastore at_24 rfl F141 g132 (by decide) (Nat.le_of_ble_eq_true rfl) (fun h142 W143 F144 => ?_)
    have F145 : Av Z h142 a127 .int ([.int x0, .int x1, .int x2, .int 0, .int 0]) := F144
    refine C.dup at_25 rfl rfl ?_
    refine C.iconst 3 at_26 rfl rfl ?_
    refine C.iloadN at_27 rfl rfl ?_
    refine C.iastore at_28 rfl F145 g132 (by decide) (Nat.le_of_ble_eq_true rfl) (fun h146 W147 F148 => ?_)
    have F149 : Av Z h146 a127 .int ([.int x0, .int x1, .int x2, .int x3, .int 0]) := F148
    refine C.dup at_29 rfl rfl ?_
    refine C.iconst 4 at_30 rfl rfl ?_
    refine C.iload at_31 rfl rfl ?_
    refine C.iastore at_33 rfl F149 g132 (by decide) (Nat.le_of_ble_eq_true rfl) (fun h150 W151 F152 => ?_)
    have F153 : Av Z h150 a127 .int ([.int x0, .int x1, .int x2, .int x3, .int x4]) := F152
    refine C.astore (Ls' := #[.val (.int x0), .val (.int x1), .val (.int x2), .val (.int x3), .val (.int x4), .val (.int x5), .val (.int 0), .val (.ref a127), .unset, .unset, .unset, .unset]) at_34 rfl rfl rfl ?_
    refine C.new at_36 rfl (tw hw 2 rfl) (tw hw 3 rfl) (tw hw 4 rfl) (by decide) (by decide) (fun a154 h155 z159 g160 X157 E156 D158 => ?_)
    have ne161 : a127 ≠ a154 := by rw [z159]; exact Nat.ne_of_lt F153.lt
    have F162 : Av Z h155 a127 .int ([.int x0, .int x1, .int x2, .int x3, .int x4]) := F153.ext X157
    have F163 : Fld Z h155 a154 "com/example/pathfold/pathfold/chi/IntList" "items" "[I" (.null) := D158 (Or.inl (tw hw 12 rfl)) (ty := (.array .int)) (by decide)
    have F164 : Fld Z h155 a154 "com/example/pathfold/pathfold/chi/IntList" "size" "I" (.int 0) := D158 (Or.inl (tw hw 19 rfl)) (ty := .int) (by decide)
    refine C.dup at_39 rfl rfl ?_
    refine C.callN (argsL := []) (rest := [(.ref a154)]) 1 (fun zz => con_ini l Z a0 hw n0 h155 zz a154 E156 F163 F164 g160) at_40 rfl rfl (tw hw 5 rfl) (tw hw 6 rfl) (tw hw 4 rfl) (tw hw 7 rfl) (by decide) pd_2 rfl rfl rfl (Nat.le_of_eq rfl) (by decide) (by decide) (by decide) (by decide) (fun v165 h166 r167 => ?_)
    obtain ⟨a168, rfl, K169, g173, gz174, F170, F171, F172⟩ := r167
    have ne175 : a127 ≠ a168 := Nat.ne_of_lt (Nat.lt_of_lt_of_le F162.lt gz174)
    have ne176 : a154 ≠ a168 := Nat.ne_of_lt (Nat.lt_of_lt_of_le E156.lt gz174)
    have F177 : Av Z h166 a127 .int ([.int x0, .int x1, .int x2, .int x3, .int x4]) := F162.keep K169 (ninS ne161 nin0)
    have F178 : Exa Z h166 a154 "com/example/pathfold/pathfold/chi/IntList" := E156.keep K169
    have F181 : Av Z h166 a168 .int ([.int 0, .int 0, .int 0, .int 0, .int 0, .int 0, .int 0, .int 0, .int 0, .int 0, .int 0, .int 0, .int 0, .int 0, .int 0, .int 0]) := F172
    refine C.astore (Ls' := #[.val (.int x0), .val (.int x1), .val (.int x2), .val (.int x3), .val (.int x4), .val (.int x5), .val (.int 0), .val (.ref a127), .val (.ref a154), .unset, .unset, .unset]) at_43 rfl rfl rfl ?_
    refine C.iload at_45 rfl rfl ?_
    refine C.if_le_t at_47 (by decide) rfl (by decide) ?_
    refine C.iload at_56 rfl rfl ?_
    refine C.iconst 1 at_58 rfl rfl ?_
    refine C.icmp_le_t at_59 (by decide) rfl (by decide) ?_
    refine C.iload at_68 rfl rfl ?_
    refine C.iconst 2 at_70 rfl rfl ?_
    refine C.icmp_le_t at_71 (by decide) rfl (by decide) ?_
    refine C.iload at_80 rfl rfl ?_
    refine C.iconst 3 at_82 rfl rfl ?_
    refine C.icmp_le_t at_83 (by decide) rfl (by decide) ?_
    refine C.iload at_92 rfl rfl ?_
    refine C.iconst 4 at_94 rfl rfl ?_
    refine C.icmp_le_t at_95 (by decide) rfl (by decide) ?_
    refine C.aload at_105 rfl rfl rfl ?_
    refine C.callV (argsL := []) (rest := []) 0 (fun zz => con_ta l Z a0 hw n0 h166 zz a154 a168 0 ([.int 0, .int 0, .int 0, .int 0, .int 0, .int 0, .int 0, .int 0, .int 0, .int 0, .int 0, .int 0, .int 0, .int 0, .int 0, .int 0]) F170 F171 F181 (by decide) (by decide) (show ¬ (0 : Int32) = (16 : Nat).toInt32 by decide) (Nat.le_of_ble_eq_true rfl)) F178 at_107 rfl (tw hw 20 rfl) (tw hw 21 rfl) (tw hw 22 rfl) (tw hw 23 rfl) (tw hw 4 rfl) (tw hw 24 rfl) (by decide) pd_3 rfl rfl rfl (Nat.le_of_eq rfl) (by decide) (by decide) (by decide) (by decide) (fun v182 h183 r184 => ?_)
    obtain ⟨a185, rfl, K186, g188, gz189, F187⟩ := r184
    have ne190 : a127 ≠ a185 := Nat.ne_of_lt (Nat.lt_of_lt_of_le F177.lt gz189)
    have ne191 : a154 ≠ a185 := Nat.ne_of_lt (Nat.lt_of_lt_of_le F178.lt gz189)
    have ne192 : a168 ≠ a185 := Nat.ne_of_lt (Nat.lt_of_lt_of_le F181.lt gz189)
    have F193 : Av Z h183 a127 .int ([.int x0, .int x1, .int x2, .int x3, .int x4]) := F177.keep K186 nin0
    have F194 : Exa Z h183 a154 "com/example/pathfold/pathfold/chi/IntList" := F178.keep K186
    have F195 : Fld Z h183 a154 "com/example/pathfold/pathfold/chi/IntList" "items" "[I" (.ref a168) := F170.keep K186 nin0
    have F196 : Fld Z h183 a154 "com/example/pathfold/pathfold/chi/IntList" "size" "I" (.int 0) := F171.keep K186 nin0
    have F197 : Av Z h183 a168 .int ([.int 0, .int 0, .int 0, .int 0, .int 0, .int 0, .int 0, .int 0, .int 0, .int 0, .int 0, .int 0, .int 0, .int 0, .int 0, .int 0]) := F181.keep K186 nin0
    have F198 : Av Z h183 a185 .int ([]) := F187
    refine C.astore (Ls' := #[.val (.int x0), .val (.int x1), .val (.int x2), .val (.int x3), .val (.int x4), .val (.int x5), .val (.int 0), .val (.ref a127), .val (.ref a154), .val (.ref a185), .unset, .unset]) at_110 rfl rfl rfl ?_
    refine C.aload at_112 rfl rfl rfl ?_
    refine C.ifnull_ref at_114 rfl ?_
    refine C.aload at_117 rfl rfl rfl ?_
    refine C.alen at_119 rfl F198 ?_
    show Go p l e room_1 s m #[(.int x0), (.int x1), (.int x2), (.int x3), (.int x4), (.int x5)] below meth c n0 (FinQ s n0 (Qcon0 Z n0 h0 x0 x1 x2 x3 x4 x5) room_1.cells room_1.slots) h183 4 28 120 #[.val (.int x0), .val (.int x1), .val (.int x2), .val (.int x3), .val (.int x4), .val (.int x5), .val (.int 0), .val (.ref a127), .val (.ref a154), .val (.ref a185), .unset, .unset] [(.int 0)]
    refine C.iload at_120 rfl rfl ?_
    refine C.icmp_eq_t at_122 (by decide) rfl (by decide) ?_
    refine C.aload at_127 rfl rfl rfl ?_
    refine C.aload at_129 rfl rfl rfl ?_
    refine C.iload at_131 rfl rfl ?_
    refine C.callS (argsL := [(.ref a185), (.ref a127), (.int 0)]) (rest := []) 0 (fun zz => con_m0 l Z a0 hw n0 h183 zz a185 a127 x0 x1 x2 x3 x4 F198 F193) at_133 rfl (tw hw 37 rfl) (tw hw 38 rfl) (tw hw 39 rfl) (tw hw 40 rfl) (by decide) pd_4 rfl rfl rfl (Nat.le_of_eq rfl) (by decide) (by decide) (by decide) (by decide) (fun v199 h200 r201 => ?_)
    obtain ⟨rfl, rfl⟩ := r201
    refine C.istore (Ls' := #[.val (.int x0), .val (.int x1), .val (.int x2), .val (.int x3), .val (.int x4), .val (.int x5), .val (.int 0), .val (.ref a127), .val (.ref a154), .val (.ref a185), .val (.int 1), .unset]) at_136 rfl rfl ?_
    refine C.iload at_138 rfl rfl ?_
    refine C.if_le_t at_140 (by decide) rfl (by decide) ?_
    refine C.aload at_153 rfl rfl rfl ?_
    refine C.callV (argsL := []) (rest := []) 0 (fun zz => con_ta l Z a0 hw n0 h183 zz a154 a168 0 ([.int 0, .int 0, .int 0, .int 0, .int 0, .int 0, .int 0, .int 0, .int 0, .int 0, .int 0, .int 0, .int 0, .int 0, .int 0, .int 0]) F195 F196 F197 (by decide) (by decide) (show ¬ (0 : Int32) = (16 : Nat).toInt32 by decide) (Nat.le_of_ble_eq_true rfl)) F194 at_155 rfl (tw hw 20 rfl) (tw hw 21 rfl) (tw hw 22 rfl) (tw hw 23 rfl) (tw hw 4 rfl) (tw hw 24 rfl) (by decide) pd_3 rfl rfl rfl (Nat.le_of_eq rfl) (by decide) (by decide) (by decide) (by decide) (fun v203 h204 r205 => ?_)
    obtain ⟨a206, rfl, K207, g209, gz210, F208⟩ := r205
    have ne211 : a127 ≠ a206 := Nat.ne_of_lt (Nat.lt_of_lt_of_le F193.lt gz210)
    have ne212 : a154 ≠ a206 := Nat.ne_of_lt (Nat.lt_of_lt_of_le F194.lt gz210)
    have ne213 : a168 ≠ a206 := Nat.ne_of_lt (Nat.lt_of_lt_of_le F197.lt gz210)
    have ne214 : a185 ≠ a206 := Nat.ne_of_lt (Nat.lt_of_lt_of_le F198.lt gz210)
    have F215 : Av Z h204 a127 .int ([.int x0, .int x1, .int x2, .int x3, .int x4]) := F193.keep K207 nin0
    have F216 : Exa Z h204 a154 "com/example/pathfold/pathfold/chi/IntList" := F194.keep K207
    have F217 : Fld Z h204 a154 "com/example/pathfold/pathfold/chi/IntList" "items" "[I" (.ref a168) := F195.keep K207 nin0
    have F218 : Fld Z h204 a154 "com/example/pathfold/pathfold/chi/IntList" "size" "I" (.int 0) := F196.keep K207 nin0
    have F219 : Av Z h204 a168 .int ([.int 0, .int 0, .int 0, .int 0, .int 0, .int 0, .int 0, .int 0, .int 0, .int 0, .int 0, .int 0, .int 0, .int 0, .int 0, .int 0]) := F197.keep K207 nin0
    have F220 : Av Z h204 a185 .int ([]) := F198.keep K207 nin0
    have F221 : Av Z h204 a206 .int ([]) := F208
    refine C.astore (Ls' := #[.val (.int x0), .val (.int x1), .val (.int x2), .val (.int x3), .val (.int x4), .val (.int x5), .val (.int 0), .val (.ref a127), .val (.ref a154), .val (.ref a185), .val (.int 1), .val (.ref a206)]) at_158 rfl rfl rfl ?_
    refine C.aload at_160 rfl rfl rfl ?_
    refine C.ifnull_ref at_162 rfl ?_
    refine C.aload at_165 rfl rfl rfl ?_
    refine C.alen at_167 rfl F221 ?_
    show Go p l e room_1 s m #[(.int x0), (.int x1), (.int x2), (.int x3), (.int x4), (.int x5)] below meth c n0 (FinQ s n0 (Qcon0 Z n0 h0 x0 x1 x2 x3 x4 x5) room_1.cells room_1.slots) h204 5 33 168 #[.val (.int x0), .val (.int x1), .val (.int x2), .val (.int x3), .val (.int x4), .val (.int x5), .val (.int 0), .val (.ref a127), .val (.ref a154), .val (.ref a185), .val (.int 1), .val (.ref a206)] [(.int 0)]
    refine C.iload at_168 rfl rfl ?_
    refine C.icmp_eq_t at_170 (by decide) rfl (by decide) ?_
    refine C.iload at_175 rfl rfl ?_
    refine C.if_eq_f at_177 rfl (by decide) ?_
    refine C.aload at_180 rfl rfl rfl ?_
    refine C.aload at_182 rfl rfl rfl ?_
    refine C.iload at_184 rfl rfl ?_
    refine C.callS (argsL := [(.ref a206), (.ref a127), (.int 0)]) (rest := []) 0 (fun zz => con_m0 l Z a0 hw n0 h204 zz a206 a127 x0 x1 x2 x3 x4 F221 F215) at_186 rfl (tw hw 37 rfl) (tw hw 38 rfl) (tw hw 39 rfl) (tw hw 40 rfl) (by decide) pd_4 rfl rfl rfl (Nat.le_of_eq rfl) (by decide) (by decide) (by decide) (by decide) (fun v222 h223 r224 => ?_)
    obtain ⟨rfl, rfl⟩ := r224
    refine C.if_eq_f at_189 rfl (by decide) ?_
    refine C.iconst 1 at_192 rfl rfl ?_
    refine C.goto at_193 (by decide) rfl ?_
    exact C.retZ at_197 rfl (by decide) (by decide) ⟨rfl, trivial⟩
  · rw [qc]
    refine C.iconst 5 at_10 rfl rfl ?_
    refine C.newarr 5 at_11 rfl rfl (tw hw 1 rfl) (by decide) (by decide) (by decide) (by decide) (by decide) (fun a226 h227 z230 g231 X228 F229 => ?_)
    have F232 : Av Z h227 a226 .int ([.int 0, .int 0, .int 0, .int 0, .int 0]) := F229
    refine C.dup at_13 rfl rfl ?_
    refine C.iconst 0 at_14 rfl rfl ?_
    refine C.iloadN at_15 rfl rfl ?_
    refine C.iastore at_16 rfl F232 g231 (by decide) (Nat.le_of_ble_eq_true rfl) (fun h233 W234 F235 => ?_)
    have F236 : Av Z h233 a226 .int ([.int x0, .int 0, .int 0, .int 0, .int 0]) := F235
    refine C.dup at_17 rfl rfl ?_
    refine C.iconst 1 at_18 rfl rfl ?_
    refine C.iloadN at_19 rfl rfl ?_
    refine C.iastore at_20 rfl F236 g231 (by decide) (Nat.le_of_ble_eq_true rfl) (fun h237 W238 F239 => ?_)
    have F240 : Av Z h237 a226 .int ([.int x0, .int x1, .int 0, .int 0, .int 0]) := F239
    refine C.dup at_21 rfl rfl ?_
    refine C.iconst 2 at_22 rfl rfl ?_
    refine C.iloadN at_23 rfl rfl ?_
    refine C.iastore at_24 rfl F240 g231 (by decide) (Nat.le_of_ble_eq_true rfl) (fun h241 W242 F243 => ?_)
    have F244 : Av Z h241 a226 .int ([.int x0, .int x1, .int x2, .int 0, .int 0]) := F243
    refine C.dup at_25 rfl rfl ?_
    refine C.iconst 3 at_26 rfl rfl ?_
    refine C.iloadN at_27 rfl rfl ?_
    refine C.iastore at_28 rfl F244 g231 (by decide) (Nat.le_of_ble_eq_true rfl) (fun h245 W246 F247 => ?_)
    have F248 : Av Z h245 a226 .int ([.int x0, .int x1, .int x2, .int x3, .int 0]) := F247
    refine C.dup at_29 rfl rfl ?_
    refine C.iconst 4 at_30 rfl rfl ?_
    refine C.iload at_31 rfl rfl ?_
    refine C.iastore at_33 rfl F248 g231 (by decide) (Nat.le_of_ble_eq_true rfl) (fun h249 W250 F251 => ?_)
    have F252 : Av Z h249 a226 .int ([.int x0, .int x1, .int x2, .int x3, .int x4]) := F251
    refine C.astore (Ls' := #[.val (.int x0), .val (.int x1), .val (.int x2), .val (.int x3), .val (.int x4), .val (.int x5), .val (.int 1), .val (.ref a226), .unset, .unset, .unset, .unset]) at_34 rfl rfl rfl ?_
    refine C.new at_36 rfl (tw hw 2 rfl) (tw hw 3 rfl) (tw hw 4 rfl) (by decide) (by decide) (fun a253 h254 z258 g259 X256 E255 D257 => ?_)
    have ne260 : a226 ≠ a253 := by rw [z258]; exact Nat.ne_of_lt F252.lt
    have F261 : Av Z h254 a226 .int ([.int x0, .int x1, .int x2, .int x3, .int x4]) := F252.ext X256
    have F262 : Fld Z h254 a253 "com/example/pathfold/pathfold/chi/IntList" "items" "[I" (.null) := D257 (Or.inl (tw hw 12 rfl)) (ty := (.array .int)) (by decide)
    have F263 : Fld Z h254 a253 "com/example/pathfold/pathfold/chi/IntList" "size" "I" (.int 0) := D257 (Or.inl (tw hw 19 rfl)) (ty := .int) (by decide)
    refine C.dup at_39 rfl rfl ?_
    refine C.callN (argsL := []) (rest := [(.ref a253)]) 1 (fun zz => con_ini l Z a0 hw n0 h254 zz a253 E255 F262 F263 g259) at_40 rfl rfl (tw hw 5 rfl) (tw hw 6 rfl) (tw hw 4 rfl) (tw hw 7 rfl) (by decide) pd_2 rfl rfl rfl (Nat.le_of_eq rfl) (by decide) (by decide) (by decide) (by decide) (fun v264 h265 r266 => ?_)
    obtain ⟨a267, rfl, K268, g272, gz273, F269, F270, F271⟩ := r266
    have ne274 : a226 ≠ a267 := Nat.ne_of_lt (Nat.lt_of_lt_of_le F261.lt gz273)
    have ne275 : a253 ≠ a267 := Nat.ne_of_lt (Nat.lt_of_lt_of_le E255.lt gz273)
    have F276 : Av Z h265 a226 .int ([.int x0, .int x1, .int x2, .int x3, .int x4]) := F261.keep K268 (ninS ne260 nin0)
    have F277 : Exa Z h265 a253 "com/example/pathfold/pathfold/chi/IntList" := E255.keep K268
    have F280 : Av Z h265 a267 .int ([.int 0, .int 0, .int 0, .int 0, .int 0, .int 0, .int 0, .int 0, .int 0, .int 0, .int 0, .int 0, .int 0, .int 0, .int 0, .int 0]) := F271
    refine C.astore (Ls' := #[.val (.int x0), .val (.int x1), .val (.int x2), .val (.int x3), .val (.int x4), .val (.int x5), .val (.int 1), .val (.ref a226), .val (.ref a253), .unset, .unset, .unset]) at_43 rfl rfl rfl ?_
    refine C.iload at_45 rfl rfl ?_
    refine C.if_le_f at_47 rfl (by decide) ?_
    refine C.aload at_50 rfl rfl rfl ?_
    refine C.iloadN at_52 rfl rfl ?_
    refine C.callV (argsL := [(.int x0)]) (rest := []) 0 (fun zz => con_add l Z a0 hw n0 h265 zz a253 a267 x0 0 ([.int 0, .int 0, .int 0, .int 0, .int 0, .int 0, .int 0, .int 0, .int 0, .int 0, .int 0, .int 0, .int 0, .int 0, .int 0, .int 0]) F277 F269 F270 F280 g259 g272 ne275 (by decide) (Nat.le_of_ble_eq_true rfl) (Nat.le_of_ble_eq_true rfl)) F277 at_53 rfl (tw hw 13 rfl) (tw hw 14 rfl) (tw hw 15 rfl) (tw hw 16 rfl) (tw hw 4 rfl) (tw hw 17 rfl) (by decide) pd_5 rfl rfl rfl (Nat.le_of_eq rfl) (by decide) (by decide) (by decide) (by decide) (fun v281 h282 r283 => ?_)
    obtain ⟨rfl, K284, F285, F286, F287⟩ := r283
    have F288 : Av Z h282 a226 .int ([.int x0, .int x1, .int x2, .int x3, .int x4]) := F276.keep K284 (ninS ne260 (ninS ne274 nin0))
    have F289 : Exa Z h282 a253 "com/example/pathfold/pathfold/chi/IntList" := F277.keep K284
    have F293 : Fld Z h282 a253 "com/example/pathfold/pathfold/chi/IntList" "size" "I" (.int 1) := F286
    have F294 : Av Z h282 a267 .int ([.int x0, .int 0, .int 0, .int 0, .int 0, .int 0, .int 0, .int 0, .int 0, .int 0, .int 0, .int 0, .int 0, .int 0, .int 0, .int 0]) := F287
    refine C.iload at_56 rfl rfl ?_
    refine C.iconst 1 at_58 rfl rfl ?_
    refine C.icmp_le_t at_59 (by decide) rfl (by decide) ?_
    refine C.iload at_68 rfl rfl ?_
    refine C.iconst 2 at_70 rfl rfl ?_
    refine C.icmp_le_t at_71 (by decide) rfl (by decide) ?_
    refine C.iload at_80 rfl rfl ?_
    refine C.iconst 3 at_82 rfl rfl ?_
    refine C.icmp_le_t at_83 (by decide) rfl (by decide) ?_
    refine C.iload at_92 rfl rfl ?_
    refine C.iconst 4 at_94 rfl rfl ?_
    refine C.icmp_le_t at_95 (by decide) rfl (by decide) ?_
    refine C.aload at_105 rfl rfl rfl ?_
    refine C.callV (argsL := []) (rest := []) 0 (fun zz => con_ta l Z a0 hw n0 h282 zz a253 a267 1 ([.int x0, .int 0, .int 0, .int 0, .int 0, .int 0, .int 0, .int 0, .int 0, .int 0, .int 0, .int 0, .int 0, .int 0, .int 0, .int 0]) F285 F293 F294 (by decide) (by decide) (show ¬ (1 : Int32) = (16 : Nat).toInt32 by decide) (Nat.le_of_ble_eq_true rfl)) F289 at_107 rfl (tw hw 20 rfl) (tw hw 21 rfl) (tw hw 22 rfl) (tw hw 23 rfl) (tw hw 4 rfl) (tw hw 24 rfl) (by decide) pd_3 rfl rfl rfl (Nat.le_of_eq rfl) (by decide) (by decide) (by decide) (by decide) (fun v295 h296 r297 => ?_)
    obtain ⟨a298, rfl, K299, g301, gz302, F300⟩ := r297
    have ne303 : a226 ≠ a298 := Nat.ne_of_lt (Nat.lt_of_lt_of_le F288.lt gz302)
    have ne304 : a253 ≠ a298 := Nat.ne_of_lt (Nat.lt_of_lt_of_le F289.lt gz302)
    have ne305 : a267 ≠ a298 := Nat.ne_of_lt (Nat.lt_of_lt_of_le F294.lt gz302)
    have F306 : Av Z h296 a226 .int ([.int x0, .int x1, .int x2, .int x3, .int x4]) := F288.keep K299 nin0
    have F307 : Exa Z h296 a253 "com/example/pathfold/pathfold/chi/IntList" := F289.keep K299
    have F308 : Fld Z h296 a253 "com/example/pathfold/pathfold/chi/IntList" "items" "[I" (.ref a267) := F285.keep K299 nin0
    have F309 : Fld Z h296 a253 "com/example/pathfold/pathfold/chi/IntList" "size" "I" (.int 1) := F293.keep K299 nin0
    have F310 : Av Z h296 a267 .int ([.int x0, .int 0, .int 0, .int 0, .int 0, .int 0, .int 0, .int 0, .int 0, .int 0, .int 0, .int 0, .int 0, .int 0, .int 0, .int 0]) := F294.keep K299 nin0
    have F311 : Av Z h296 a298 .int ([.int x0]) := F300
    refine C.astore (Ls' := #[.val (.int x0), .val (.int x1), .val (.int x2), .val (.int x3), .val (.int x4), .val (.int x5), .val (.int 1), .val (.ref a226), .val (.ref a253), .val (.ref a298), .unset, .unset]) at_110 rfl rfl rfl ?_
    refine C.aload at_112 rfl rfl rfl ?_
    refine C.ifnull_ref at_114 rfl ?_
    refine C.aload at_117 rfl rfl rfl ?_
    refine C.alen at_119 rfl F311 ?_
    show Go p l e room_1 s m #[(.int x0), (.int x1), (.int x2), (.int x3), (.int x4), (.int x5)] below meth c n0 (FinQ s n0 (Qcon0 Z n0 h0 x0 x1 x2 x3 x4 x5) room_1.cells room_1.slots) h296 4 28 120 #[.val (.int x0), .val (.int x1), .val (.int x2), .val (.int x3), .val (.int x4), .val (.int x5), .val (.int 1), .val (.ref a226), .val (.ref a253), .val (.ref a298), .unset, .unset] [(.int 1)]
    refine C.iload at_120 rfl rfl ?_
    refine C.icmp_eq_t at_122 (by decide) rfl (by decide) ?_
    refine C.aload at_127 rfl rfl rfl ?_
    refine C.aload at_129 rfl rfl rfl ?_
    refine C.iload at_131 rfl rfl ?_
    refine C.callS (argsL := [(.ref a298), (.ref a226), (.int 1)]) (rest := []) 0 (fun zz => con_m1 l Z a0 hw n0 h296 zz a298 a226 x0 x1 x2 x3 x4 F311 F306) at_133 rfl (tw hw 37 rfl) (tw hw 38 rfl) (tw hw 39 rfl) (tw hw 40 rfl) (by decide) pd_4 rfl rfl rfl (Nat.le_of_eq rfl) (by decide) (by decide) (by decide) (by decide) (fun v312 h313 r314 => ?_)
    obtain ⟨rfl, rfl⟩ := r314
    refine C.istore (Ls' := #[.val (.int x0), .val (.int x1), .val (.int x2), .val (.int x3), .val (.int x4), .val (.int x5), .val (.int 1), .val (.ref a226), .val (.ref a253), .val (.ref a298), .val (.int 1), .unset]) at_136 rfl rfl ?_
    refine C.iload at_138 rfl rfl ?_
    refine C.if_le_f at_140 rfl (by decide) ?_
    refine C.aload at_143 rfl rfl rfl ?_
    refine C.iconst 0 at_145 rfl rfl ?_
    refine C.aload at_146 rfl rfl rfl ?_
    refine C.iconst 0 at_148 rfl rfl ?_
    refine C.iaload (.int x0) at_149 rfl F311 (by decide) rfl ?_
    refine C.iconst (-1) at_150 rfl rfl ?_
    refine C.ixor at_151 rfl ?_
    refine C.iastore at_152 rfl F311 g301 (by decide) (Nat.le_of_ble_eq_true rfl) (fun h316 W317 F318 => ?_)
    have F319 : Av Z h316 a226 .int ([.int x0, .int x1, .int x2, .int x3, .int x4]) := F306.other W317 ne303
    have F320 : Exa Z h316 a253 "com/example/pathfold/pathfold/chi/IntList" := Exa.wr W317 F307
    have F321 : Fld Z h316 a253 "com/example/pathfold/pathfold/chi/IntList" "items" "[I" (.ref a267) := Fld.other W317 F308 (Or.inl ne304)
    have F322 : Fld Z h316 a253 "com/example/pathfold/pathfold/chi/IntList" "size" "I" (.int 1) := Fld.other W317 F309 (Or.inl ne304)
    have F323 : Av Z h316 a267 .int ([.int x0, .int 0, .int 0, .int 0, .int 0, .int 0, .int 0, .int 0, .int 0, .int 0, .int 0, .int 0, .int 0, .int 0, .int 0, .int 0]) := F310.other W317 ne305
    have F324 : Av Z h316 a298 .int ([.int (x0 ^^^ (-1 : Int32))]) := F318
    refine C.aload at_153 rfl rfl rfl ?_
    refine C.callV (argsL := []) (rest := []) 0 (fun zz => con_ta l Z a0 hw n0 h316 zz a253 a267 1 ([.int x0, .int 0, .int 0, .int 0, .int 0, .int 0, .int 0, .int 0, .int 0, .int 0, .int 0, .int 0, .int 0, .int 0, .int 0, .int 0]) F321 F322 F323 (by decide) (by decide) (show ¬ (1 : Int32) = (16 : Nat).toInt32 by decide) (Nat.le_of_ble_eq_true rfl)) F320 at_155 rfl (tw hw 20 rfl) (tw hw 21 rfl) (tw hw 22 rfl) (tw hw 23 rfl) (tw hw 4 rfl) (tw hw 24 rfl) (by decide) pd_3 rfl rfl rfl (Nat.le_of_eq rfl) (by decide) (by decide) (by decide) (by decide) (fun v325 h326 r327 => ?_)
    obtain ⟨a328, rfl, K329, g331, gz332, F330⟩ := r327
    have ne333 : a226 ≠ a328 := Nat.ne_of_lt (Nat.lt_of_lt_of_le F319.lt gz332)
    have ne334 : a253 ≠ a328 := Nat.ne_of_lt (Nat.lt_of_lt_of_le F320.lt gz332)
    have ne335 : a267 ≠ a328 := Nat.ne_of_lt (Nat.lt_of_lt_of_le F323.lt gz332)
    have ne336 : a298 ≠ a328 := Nat.ne_of_lt (Nat.lt_of_lt_of_le F324.lt gz332)
    have F337 : Av Z h326 a226 .int ([.int x0, .int x1, .int x2, .int x3, .int x4]) := F319.keep K329 nin0
    have F338 : Exa Z h326 a253 "com/example/pathfold/pathfold/chi/IntList" := F320.keep K329
    have F339 : Fld Z h326 a253 "com/example/pathfold/pathfold/chi/IntList" "items" "[I" (.ref a267) := F321.keep K329 nin0
    have F340 : Fld Z h326 a253 "com/example/pathfold/pathfold/chi/IntList" "size" "I" (.int 1) := F322.keep K329 nin0
    have F341 : Av Z h326 a267 .int ([.int x0, .int 0, .int 0, .int 0, .int 0, .int 0, .int 0, .int 0, .int 0, .int 0, .int 0, .int 0, .int 0, .int 0, .int 0, .int 0]) := F323.keep K329 nin0
    have F342 : Av Z h326 a298 .int ([.int (x0 ^^^ (-1 : Int32))]) := F324.keep K329 nin0
    have F343 : Av Z h326 a328 .int ([.int x0]) := F330
    refine C.astore (Ls' := #[.val (.int x0), .val (.int x1), .val (.int x2), .val (.int x3), .val (.int x4), .val (.int x5), .val (.int 1), .val (.ref a226), .val (.ref a253), .val (.ref a298), .val (.int 1), .val (.ref a328)]) at_158 rfl rfl rfl ?_
    refine C.aload at_160 rfl rfl rfl ?_
    refine C.ifnull_ref at_162 rfl ?_
    refine C.aload at_165 rfl rfl rfl ?_
    refine C.alen at_167 rfl F343 ?_
    show Go p l e room_1 s m #[(.int x0), (.int x1), (.int x2), (.int x3), (.int x4), (.int x5)] below meth c n0 (FinQ s n0 (Qcon0 Z n0 h0 x0 x1 x2 x3 x4 x5) room_1.cells room_1.slots) h326 5 33 168 #[.val (.int x0), .val (.int x1), .val (.int x2), .val (.int x3), .val (.int x4), .val (.int x5), .val (.int 1), .val (.ref a226), .val (.ref a253), .val (.ref a298), .val (.int 1), .val (.ref a328)] [(.int 1)]
    refine C.iload at_168 rfl rfl ?_
    refine C.icmp_eq_t at_170 (by decide) rfl (by decide) ?_
    refine C.iload at_175 rfl rfl ?_
    refine C.if_eq_f at_177 rfl (by decide) ?_
    refine C.aload at_180 rfl rfl rfl ?_
    refine C.aload at_182 rfl rfl rfl ?_
    refine C.iload at_184 rfl rfl ?_
    refine C.callS (argsL := [(.ref a328), (.ref a226), (.int 1)]) (rest := []) 0 (fun zz => con_m1 l Z a0 hw n0 h326 zz a328 a226 x0 x1 x2 x3 x4 F343 F337) at_186 rfl (tw hw 37 rfl) (tw hw 38 rfl) (tw hw 39 rfl) (tw hw 40 rfl) (by decide) pd_4 rfl rfl rfl (Nat.le_of_eq rfl) (by decide) (by decide) (by decide) (by decide) (fun v344 h345 r346 => ?_)
    obtain ⟨rfl, rfl⟩ := r346
    refine C.if_eq_f at_189 rfl (by decide) ?_
    refine C.iconst 1 at_192 rfl rfl ?_
    refine C.goto at_193 (by decide) rfl ?_
    exact C.retZ at_197 rfl (by decide) (by decide) ⟨rfl, trivial⟩
  · rw [qc]
    refine C.iconst 5 at_10 rfl rfl ?_
    refine C.newarr 5 at_11 rfl rfl (tw hw 1 rfl) (by decide) (by decide) (by decide) (by decide) (by decide) (fun a348 h349 z352 g353 X350 F351 => ?_)
    have F354 : Av Z h349 a348 .int ([.int 0, .int 0, .int 0, .int 0, .int 0]) := F351
    refine C.dup at_13 rfl rfl ?_
    refine C.iconst 0 at_14 rfl rfl ?_
    refine C.iloadN at_15 rfl rfl ?_
    refine C.iastore at_16 rfl F354 g353 (by decide) (Nat.le_of_ble_eq_true rfl) (fun h355 W356 F357 => ?_)
    have F358 : Av Z h355 a348 .int ([.int x0, .int 0, .int 0, .int 0, .int 0]) := F357
    refine C.dup at_17 rfl rfl ?_
    refine C.iconst 1 at_18 rfl rfl ?_
    refine C.iloadN at_19 rfl rfl ?_
    refine C.iastore at_20 rfl F358 g353 (by decide) (Nat.le_of_ble_eq_true rfl) (fun h359 W360 F361 => ?_)
    have F362 : Av Z h359 a348 .int ([.int x0, .int x1, .int 0, .int 0, .int 0]) := F361
    refine C.dup at_21 rfl rfl ?_
    refine C.iconst 2 at_22 rfl rfl ?_
    refine C.iloadN at_23 rfl rfl ?_
    refine C.iastore at_24 rfl F362 g353 (by decide) (Nat.le_of_ble_eq_true rfl) (fun h363 W364 F365 => ?_)
    have F366 : Av Z h363 a348 .int ([.int x0, .int x1, .int x2, .int 0, .int 0]) := F365
    refine C.dup at_25 rfl rfl ?_
    refine C.iconst 3 at_26 rfl rfl ?_
    refine C.iloadN at_27 rfl rfl ?_
    refine C.iastore at_28 rfl F366 g353 (by decide) (Nat.le_of_ble_eq_true rfl) (fun h367 W368 F369 => ?_)
    have F370 : Av Z h367 a348 .int ([.int x0, .int x1, .int x2, .int x3, .int 0]) := F369
    refine C.dup at_29 rfl rfl ?_
    refine C.iconst 4 at_30 rfl rfl ?_
    refine C.iload at_31 rfl rfl ?_
    refine C.iastore at_33 rfl F370 g353 (by decide) (Nat.le_of_ble_eq_true rfl) (fun h371 W372 F373 => ?_)
    have F374 : Av Z h371 a348 .int ([.int x0, .int x1, .int x2, .int x3, .int x4]) := F373
    refine C.astore (Ls' := #[.val (.int x0), .val (.int x1), .val (.int x2), .val (.int x3), .val (.int x4), .val (.int x5), .val (.int 2), .val (.ref a348), .unset, .unset, .unset, .unset]) at_34 rfl rfl rfl ?_
    refine C.new at_36 rfl (tw hw 2 rfl) (tw hw 3 rfl) (tw hw 4 rfl) (by decide) (by decide) (fun a375 h376 z380 g381 X378 E377 D379 => ?_)
    have ne382 : a348 ≠ a375 := by rw [z380]; exact Nat.ne_of_lt F374.lt
    have F383 : Av Z h376 a348 .int ([.int x0, .int x1, .int x2, .int x3, .int x4]) := F374.ext X378
    have F384 : Fld Z h376 a375 "com/example/pathfold/pathfold/chi/IntList" "items" "[I" (.null) := D379 (Or.inl (tw hw 12 rfl)) (ty := (.array .int)) (by decide)
    have F385 : Fld Z h376 a375 "com/example/pathfold/pathfold/chi/IntList" "size" "I" (.int 0) := D379 (Or.inl (tw hw 19 rfl)) (ty := .int) (by decide)
    refine C.dup at_39 rfl rfl ?_
    refine C.callN (argsL := []) (rest := [(.ref a375)]) 1 (fun zz => con_ini l Z a0 hw n0 h376 zz a375 E377 F384 F385 g381) at_40 rfl rfl (tw hw 5 rfl) (tw hw 6 rfl) (tw hw 4 rfl) (tw hw 7 rfl) (by decide) pd_2 rfl rfl rfl (Nat.le_of_eq rfl) (by decide) (by decide) (by decide) (by decide) (fun v386 h387 r388 => ?_)
    obtain ⟨a389, rfl, K390, g394, gz395, F391, F392, F393⟩ := r388
    have ne396 : a348 ≠ a389 := Nat.ne_of_lt (Nat.lt_of_lt_of_le F383.lt gz395)
    have ne397 : a375 ≠ a389 := Nat.ne_of_lt (Nat.lt_of_lt_of_le E377.lt gz395)
    have F398 : Av Z h387 a348 .int ([.int x0, .int x1, .int x2, .int x3, .int x4]) := F383.keep K390 (ninS ne382 nin0)
    have F399 : Exa Z h387 a375 "com/example/pathfold/pathfold/chi/IntList" := E377.keep K390
    have F402 : Av Z h387 a389 .int ([.int 0, .int 0, .int 0, .int 0, .int 0, .int 0, .int 0, .int 0, .int 0, .int 0, .int 0, .int 0, .int 0, .int 0, .int 0, .int 0]) := F393
    refine C.astore (Ls' := #[.val (.int x0), .val (.int x1), .val (.int x2), .val (.int x3), .val (.int x4), .val (.int x5), .val (.int 2), .val (.ref a348), .val (.ref a375), .unset, .unset, .unset]) at_43 rfl rfl rfl ?_
    refine C.iload at_45 rfl rfl ?_
    refine C.if_le_f at_47 rfl (by decide) ?_
    refine C.aload at_50 rfl rfl rfl ?_
    refine C.iloadN at_52 rfl rfl ?_
    refine C.callV (argsL := [(.int x0)]) (rest := []) 0 (fun zz => con_add l Z a0 hw n0 h387 zz a375 a389 x0 0 ([.int 0, .int 0, .int 0, .int 0, .int 0, .int 0, .int 0, .int 0, .int 0, .int 0, .int 0, .int 0, .int 0, .int 0, .int 0, .int 0]) F399 F391 F392 F402 g381 g394 ne397 (by decide) (Nat.le_of_ble_eq_true rfl) (Nat.le_of_ble_eq_true rfl)) F399 at_53 rfl (tw hw 13 rfl) (tw hw 14 rfl) (tw hw 15 rfl) (tw hw 16 rfl) (tw hw 4 rfl) (tw hw 17 rfl) (by decide) pd_5 rfl rfl rfl (Nat.le_of_eq rfl) (by decide) (by decide) (by decide) (by decide) (fun v403 h404 r405 => ?_)
    obtain ⟨rfl, K406, F407, F408, F409⟩ := r405
    have F410 : Av Z h404 a348 .int ([.int x0, .int x1, .int x2, .int x3, .int x4]) := F398.keep K406 (ninS ne382 (ninS ne396 nin0))
    have F411 : Exa Z h404 a375 "com/example/pathfold/pathfold/chi/IntList" := F399.keep K406
    have F415 : Fld Z h404 a375 "com/example/pathfold/pathfold/chi/IntList" "size" "I" (.int 1) := F408
    have F416 : Av Z h404 a389 .int ([.int x0, .int 0, .int 0, .int 0, .int 0, .int 0, .int 0, .int 0, .int 0, .int 0, .int 0, .int 0, .int 0, .int 0, .int 0, .int 0]) := F409
    refine C.iload at_56 rfl rfl ?_
    refine C.iconst 1 at_58 rfl rfl ?_
    refine C.icmp_le_f at_59 rfl (by decide) ?_
    refine C.aload at_62 rfl rfl rfl ?_
    refine C.iloadN at_64 rfl rfl ?_
    refine C.callV (argsL := [(.int x1)]) (rest := []) 0 (fun zz => con_add l Z a0 hw n0 h404 zz a375 a389 x1 1 ([.int x0, .int 0, .int 0, .int 0, .int 0, .int 0, .int 0, .int 0, .int 0, .int 0, .int 0, .int 0, .int 0, .int 0, .int 0, .int 0]) F411 F407 F415 F416 g381 g394 ne397 (by decide) (Nat.le_of_ble_eq_true rfl) (Nat.le_of_ble_eq_true rfl)) F411 at_65 rfl (tw hw 13 rfl) (tw hw 14 rfl) (tw hw 15 rfl) (tw hw 16 rfl) (tw hw 4 rfl) (tw hw 17 rfl) (by decide) pd_5 rfl rfl rfl (Nat.le_of_eq rfl) (by decide) (by decide) (by decide) (by decide) (fun v417 h418 r419 => ?_)
    obtain ⟨rfl, K420, F421, F422, F423⟩ := r419
    have F424 : Av Z h418 a348 .int ([.int x0, .int x1, .int x2, .int x3, .int x4]) := F410.keep K420 (ninS ne382 (ninS ne396 nin0))
    have F425 : Exa Z h418 a375 "com/example/pathfold/pathfold/chi/IntList" := F411.keep K420
    have F429 : Fld Z h418 a375 "com/example/pathfold/pathfold/chi/IntList" "size" "I" (.int 2) := F422
    have F430 : Av Z h418 a389 .int ([.int x0, .int x1, .int 0, .int 0, .int 0, .int 0, .int 0, .int 0, .int 0, .int 0, .int 0, .int 0, .int 0, .int 0, .int 0, .int 0]) := F423
    refine C.iload at_68 rfl rfl ?_
    refine C.iconst 2 at_70 rfl rfl ?_
    refine C.icmp_le_t at_71 (by decide) rfl (by decide) ?_
    refine C.iload at_80 rfl rfl ?_
    refine C.iconst 3 at_82 rfl rfl ?_
    refine C.icmp_le_t at_83 (by decide) rfl (by decide) ?_
    refine C.iload at_92 rfl rfl ?_
    refine C.iconst 4 at_94 rfl rfl ?_
    refine C.icmp_le_t at_95 (by decide) rfl (by decide) ?_
    refine C.aload at_105 rfl rfl rfl ?_
    refine C.callV (argsL := []) (rest := []) 0 (fun zz => con_ta l Z a0 hw n0 h418 zz a375 a389 2 ([.int x0, .int x1, .int 0, .int 0, .int 0, .int 0, .int 0, .int 0, .int 0, .int 0, .int 0, .int 0, .int 0, .int 0, .int 0, .int 0]) F421 F429 F430 (by decide) (by decide) (show ¬ (2 : Int32) = (16 : Nat).toInt32 by decide) (Nat.le_of_ble_eq_true rfl)) F425 at_107 rfl (tw hw 20 rfl) (tw hw 21 rfl) (tw hw 22 rfl) (tw hw 23 rfl) (tw hw 4 rfl) (tw hw 24 rfl) (by decide) pd_3 rfl rfl rfl (Nat.le_of_eq rfl) (by decide) (by decide) (by decide) (by decide) (fun v431 h432 r433 => ?_)
    obtain ⟨a434, rfl, K435, g437, gz438, F436⟩ := r433
    have ne439 : a348 ≠ a434 := Nat.ne_of_lt (Nat.lt_of_lt_of_le F424.lt gz438)
    have ne440 : a375 ≠ a434 := Nat.ne_of_lt (Nat.lt_of_lt_of_le F425.lt gz438)
    have ne441 : a389 ≠ a434 := Nat.ne_of_lt (Nat.lt_of_lt_of_le F430.lt gz438)
    have F442 : Av Z h432 a348 .int ([.int x0, .int x1, .int x2, .int x3, .int x4]) := F424.keep K435 nin0
    have F443 : Exa Z h432 a375 "com/example/pathfold/pathfold/chi/IntList" := F425.keep K435
    have F444 : Fld Z h432 a375 "com/example/pathfold/pathfold/chi/IntList" "items" "[I" (.ref a389) := F421.keep K435 nin0
    have F445 : Fld Z h432 a375 "com/example/pathfold/pathfold/chi/IntList" "size" "I" (.int 2) := F429.keep K435 nin0
    have F446 : Av Z h432 a389 .int ([.int x0, .int x1, .int 0, .int 0, .int 0, .int 0, .int 0, .int 0, .int 0, .int 0, .int 0, .int 0, .int 0, .int 0, .int 0, .int 0]) := F430.keep K435 nin0
    have F447 : Av Z h432 a434 .int ([.int x0, .int x1]) := F436
    refine C.astore (Ls' := #[.val (.int x0), .val (.int x1), .val (.int x2), .val (.int x3), .val (.int x4), .val (.int x5), .val (.int 2), .val (.ref a348), .val (.ref a375), .val (.ref a434), .unset, .unset]) at_110 rfl rfl rfl ?_
    refine C.aload at_112 rfl rfl rfl ?_
    refine C.ifnull_ref at_114 rfl ?_
    refine C.aload at_117 rfl rfl rfl ?_
    refine C.alen at_119 rfl F447 ?_
    show Go p l e room_1 s m #[(.int x0), (.int x1), (.int x2), (.int x3), (.int x4), (.int x5)] below meth c n0 (FinQ s n0 (Qcon0 Z n0 h0 x0 x1 x2 x3 x4 x5) room_1.cells room_1.slots) h432 4 28 120 #[.val (.int x0), .val (.int x1), .val (.int x2), .val (.int x3), .val (.int x4), .val (.int x5), .val (.int 2), .val (.ref a348), .val (.ref a375), .val (.ref a434), .unset, .unset] [(.int 2)]
    refine C.iload at_120 rfl rfl ?_
    refine C.icmp_eq_t at_122 (by decide) rfl (by decide) ?_
    refine C.aload at_127 rfl rfl rfl ?_
    refine C.aload at_129 rfl rfl rfl ?_
    refine C.iload at_131 rfl rfl ?_
    refine C.callS (argsL := [(.ref a434), (.ref a348), (.int 2)]) (rest := []) 0 (fun zz => con_m2 l Z a0 hw n0 h432 zz a434 a348 x0 x1 x2 x3 x4 F447 F442) at_133 rfl (tw hw 37 rfl) (tw hw 38 rfl) (tw hw 39 rfl) (tw hw 40 rfl) (by decide) pd_4 rfl rfl rfl (Nat.le_of_eq rfl) (by decide) (by decide) (by decide) (by decide) (fun v448 h449 r450 => ?_)
    obtain ⟨rfl, rfl⟩ := r450
    refine C.istore (Ls' := #[.val (.int x0), .val (.int x1), .val (.int x2), .val (.int x3), .val (.int x4), .val (.int x5), .val (.int 2), .val (.ref a348), .val (.ref a375), .val (.ref a434), .val (.int 1), .unset]) at_136 rfl rfl ?_
    refine C.iload at_138 rfl rfl ?_
    refine C.if_le_f at_140 rfl (by decide) ?_
    refine C.aload at_143 rfl rfl rfl ?_
    refine C.iconst 0 at_145 rfl rfl ?_
    refine C.aload at_146 rfl rfl rfl ?_
    refine C.iconst 0 at_148 rfl rfl ?_
    refine C.iaload (.int x0) at_149 rfl F447 (by decide) rfl ?_
    refine C.iconst (-1) at_150 rfl rfl ?_
    refine C.ixor at_151 rfl ?_
    refine C.iastore at_152 rfl F447 g437 (by decide) (Nat.le_of_ble_eq_true rfl) (fun h452 W453 F454 => ?_)
    have F455 : Av Z h452 a348 .int ([.int x0, .int x1, .int x2, .int x3, .int x4]) := F442.other W453 ne439
    have F456 : Exa Z h452 a375 "com/example/pathfold/pathfold/chi/IntList" := Exa.wr W453 F443
    have F457 : Fld Z h452 a375 "com/example/pathfold/pathfold/chi/IntList" "items" "[I" (.ref a389) := Fld.other W453 F444 (Or.inl ne440)
    have F458 : Fld Z h452 a375 "com/example/pathfold/pathfold/chi/IntList" "size" "I" (.int 2) := Fld.other W453 F445 (Or.inl ne440)
    have F459 : Av Z h452 a389 .int ([.int x0, .int x1, .int 0, .int 0, .int 0, .int 0, .int 0, .int 0, .int 0, .int 0, .int 0, .int 0, .int 0, .int 0, .int 0, .int 0]) := F446.other W453 ne441
    have F460 : Av Z h452 a434 .int ([.int (x0 ^^^ (-1 : Int32)), .int x1]) := F454
    refine C.aload at_153 rfl rfl rfl ?_
    refine C.callV (argsL := []) (rest := []) 0 (fun zz => con_ta l Z a0 hw n0 h452 zz a375 a389 2 ([.int x0, .int x1, .int 0, .int 0, .int 0, .int 0, .int 0, .int 0, .int 0, .int 0, .int 0, .int 0, .int 0, .int 0, .int 0, .int 0]) F457 F458 F459 (by decide) (by decide) (show ¬ (2 : Int32) = (16 : Nat).toInt32 by decide) (Nat.le_of_ble_eq_true rfl)) F456 at_155 rfl (tw hw 20 rfl) (tw hw 21 rfl) (tw hw 22 rfl) (tw hw 23 rfl) (tw hw 4 rfl) (tw hw 24 rfl) (by decide) pd_3 rfl rfl rfl (Nat.le_of_eq rfl) (by decide) (by decide) (by decide) (by decide) (fun v461 h462 r463 => ?_)
    obtain ⟨a464, rfl, K465, g467, gz468, F466⟩ := r463
    have ne469 : a348 ≠ a464 := Nat.ne_of_lt (Nat.lt_of_lt_of_le F455.lt gz468)
    have ne470 : a375 ≠ a464 := Nat.ne_of_lt (Nat.lt_of_lt_of_le F456.lt gz468)
    have ne471 : a389 ≠ a464 := Nat.ne_of_lt (Nat.lt_of_lt_of_le F459.lt gz468)
    have ne472 : a434 ≠ a464 := Nat.ne_of_lt (Nat.lt_of_lt_of_le F460.lt gz468)
    have F473 : Av Z h462 a348 .int ([.int x0, .int x1, .int x2, .int x3, .int x4]) := F455.keep K465 nin0
    have F474 : Exa Z h462 a375 "com/example/pathfold/pathfold/chi/IntList" := F456.keep K465
    have F475 : Fld Z h462 a375 "com/example/pathfold/pathfold/chi/IntList" "items" "[I" (.ref a389) := F457.keep K465 nin0
    have F476 : Fld Z h462 a375 "com/example/pathfold/pathfold/chi/IntList" "size" "I" (.int 2) := F458.keep K465 nin0
    have F477 : Av Z h462 a389 .int ([.int x0, .int x1, .int 0, .int 0, .int 0, .int 0, .int 0, .int 0, .int 0, .int 0, .int 0, .int 0, .int 0, .int 0, .int 0, .int 0]) := F459.keep K465 nin0
    have F478 : Av Z h462 a434 .int ([.int (x0 ^^^ (-1 : Int32)), .int x1]) := F460.keep K465 nin0
    have F479 : Av Z h462 a464 .int ([.int x0, .int x1]) := F466
    refine C.astore (Ls' := #[.val (.int x0), .val (.int x1), .val (.int x2), .val (.int x3), .val (.int x4), .val (.int x5), .val (.int 2), .val (.ref a348), .val (.ref a375), .val (.ref a434), .val (.int 1), .val (.ref a464)]) at_158 rfl rfl rfl ?_
    refine C.aload at_160 rfl rfl rfl ?_
    refine C.ifnull_ref at_162 rfl ?_
    refine C.aload at_165 rfl rfl rfl ?_
    refine C.alen at_167 rfl F479 ?_
    show Go p l e room_1 s m #[(.int x0), (.int x1), (.int x2), (.int x3), (.int x4), (.int x5)] below meth c n0 (FinQ s n0 (Qcon0 Z n0 h0 x0 x1 x2 x3 x4 x5) room_1.cells room_1.slots) h462 5 33 168 #[.val (.int x0), .val (.int x1), .val (.int x2), .val (.int x3), .val (.int x4), .val (.int x5), .val (.int 2), .val (.ref a348), .val (.ref a375), .val (.ref a434), .val (.int 1), .val (.ref a464)] [(.int 2)]
    refine C.iload at_168 rfl rfl ?_
    refine C.icmp_eq_t at_170 (by decide) rfl (by decide) ?_
    refine C.iload at_175 rfl rfl ?_
    refine C.if_eq_f at_177 rfl (by decide) ?_
    refine C.aload at_180 rfl rfl rfl ?_
    refine C.aload at_182 rfl rfl rfl ?_
    refine C.iload at_184 rfl rfl ?_
    refine C.callS (argsL := [(.ref a464), (.ref a348), (.int 2)]) (rest := []) 0 (fun zz => con_m2 l Z a0 hw n0 h462 zz a464 a348 x0 x1 x2 x3 x4 F479 F473) at_186 rfl (tw hw 37 rfl) (tw hw 38 rfl) (tw hw 39 rfl) (tw hw 40 rfl) (by decide) pd_4 rfl rfl rfl (Nat.le_of_eq rfl) (by decide) (by decide) (by decide) (by decide) (fun v480 h481 r482 => ?_)
    obtain ⟨rfl, rfl⟩ := r482
    refine C.if_eq_f at_189 rfl (by decide) ?_
    refine C.iconst 1 at_192 rfl rfl ?_
    refine C.goto at_193 (by decide) rfl ?_
    exact C.retZ at_197 rfl (by decide) (by decide) ⟨rfl, trivial⟩
  · rw [qc]
    refine C.iconst 5 at_10 rfl rfl ?_
    refine C.newarr 5 at_11 rfl rfl (tw hw 1 rfl) (by decide) (by decide) (by decide) (by decide) (by decide) (fun a484 h485 z488 g489 X486 F487 => ?_)
    have F490 : Av Z h485 a484 .int ([.int 0, .int 0, .int 0, .int 0, .int 0]) := F487
    refine C.dup at_13 rfl rfl ?_
    refine C.iconst 0 at_14 rfl rfl ?_
    refine C.iloadN at_15 rfl rfl ?_
    refine C.iastore at_16 rfl F490 g489 (by decide) (Nat.le_of_ble_eq_true rfl) (fun h491 W492 F493 => ?_)
    have F494 : Av Z h491 a484 .int ([.int x0, .int 0, .int 0, .int 0, .int 0]) := F493
    refine C.dup at_17 rfl rfl ?_
    refine C.iconst 1 at_18 rfl rfl ?_
    refine C.iloadN at_19 rfl rfl ?_
    refine C.iastore at_20 rfl F494 g489 (by decide) (Nat.le_of_ble_eq_true rfl) (fun h495 W496 F497 => ?_)
    have F498 : Av Z h495 a484 .int ([.int x0, .int x1, .int 0, .int 0, .int 0]) := F497
    refine C.dup at_21 rfl rfl ?_
    refine C.iconst 2 at_22 rfl rfl ?_
    refine C.iloadN at_23 rfl rfl ?_
    refine C.iastore at_24 rfl F498 g489 (by decide) (Nat.le_of_ble_eq_true rfl) (fun h499 W500 F501 => ?_)
    have F502 : Av Z h499 a484 .int ([.int x0, .int x1, .int x2, .int 0, .int 0]) := F501
    refine C.dup at_25 rfl rfl ?_
    refine C.iconst 3 at_26 rfl rfl ?_
    refine C.iloadN at_27 rfl rfl ?_
    refine C.iastore at_28 rfl F502 g489 (by decide) (Nat.le_of_ble_eq_true rfl) (fun h503 W504 F505 => ?_)
    have F506 : Av Z h503 a484 .int ([.int x0, .int x1, .int x2, .int x3, .int 0]) := F505
    refine C.dup at_29 rfl rfl ?_
    refine C.iconst 4 at_30 rfl rfl ?_
    refine C.iload at_31 rfl rfl ?_
    refine C.iastore at_33 rfl F506 g489 (by decide) (Nat.le_of_ble_eq_true rfl) (fun h507 W508 F509 => ?_)
    have F510 : Av Z h507 a484 .int ([.int x0, .int x1, .int x2, .int x3, .int x4]) := F509
    refine C.astore (Ls' := #[.val (.int x0), .val (.int x1), .val (.int x2), .val (.int x3), .val (.int x4), .val (.int x5), .val (.int 3), .val (.ref a484), .unset, .unset, .unset, .unset]) at_34 rfl rfl rfl ?_
    refine C.new at_36 rfl (tw hw 2 rfl) (tw hw 3 rfl) (tw hw 4 rfl) (by decide) (by decide) (fun a511 h512 z516 g517 X514 E513 D515 => ?_)
    have ne518 : a484 ≠ a511 := by rw [z516]; exact Nat.ne_of_lt F510.lt
    have F519 : Av Z h512 a484 .int ([.int x0, .int x1, .int x2, .int x3, .int x4]) := F510.ext X514
    have F520 : Fld Z h512 a511 "com/example/pathfold/pathfold/chi/IntList" "items" "[I" (.null) := D515 (Or.inl (tw hw 12 rfl)) (ty := (.array .int)) (by decide)
    have F521 : Fld Z h512 a511 "com/example/pathfold/pathfold/chi/IntList" "size" "I" (.int 0) := D515 (Or.inl (tw hw 19 rfl)) (ty := .int) (by decide)
    refine C.dup at_39 rfl rfl ?_
    refine C.callN (argsL := []) (rest := [(.ref a511)]) 1 (fun zz => con_ini l Z a0 hw n0 h512 zz a511 E513 F520 F521 g517) at_40 rfl rfl (tw hw 5 rfl) (tw hw 6 rfl) (tw hw 4 rfl) (tw hw 7 rfl) (by decide) pd_2 rfl rfl rfl (Nat.le_of_eq rfl) (by decide) (by decide) (by decide) (by decide) (fun v522 h523 r524 => ?_)
    obtain ⟨a525, rfl, K526, g530, gz531, F527, F528, F529⟩ := r524
    have ne532 : a484 ≠ a525 := Nat.ne_of_lt (Nat.lt_of_lt_of_le F519.lt gz531)
    have ne533 : a511 ≠ a525 := Nat.ne_of_lt (Nat.lt_of_lt_of_le E513.lt gz531)
    have F534 : Av Z h523 a484 .int ([.int x0, .int x1, .int x2, .int x3, .int x4]) := F519.keep K526 (ninS ne518 nin0)
    have F535 : Exa Z h523 a511 "com/example/pathfold/pathfold/chi/IntList" := E513.keep K526
    have F538 : Av Z h523 a525 .int ([.int 0, .int 0, .int 0, .int 0, .int 0, .int 0, .int 0, .int 0, .int 0, .int 0, .int 0, .int 0, .int 0, .int 0, .int 0, .int 0]) := F529
    refine C.astore (Ls' := #[.val (.int x0), .val (.int x1), .val (.int x2), .val (.int x3), .val (.int x4), .val (.int x5), .val (.int 3), .val (.ref a484), .val (.ref a511), .unset, .unset, .unset]) at_43 rfl rfl rfl ?_
    refine C.iload at_45 rfl rfl ?_
    refine C.if_le_f at_47 rfl (by decide) ?_
    refine C.aload at_50 rfl rfl rfl ?_
    refine C.iloadN at_52 rfl rfl ?_
    refine C.callV (argsL := [(.int x0)]) (rest := []) 0 (fun zz => con_add l Z a0 hw n0 h523 zz a511 a525 x0 0 ([.int 0, .int 0, .int 0, .int 0, .int 0, .int 0, .int 0, .int 0, .int 0, .int 0, .int 0, .int 0, .int 0, .int 0, .int 0, .int 0]) F535 F527 F528 F538 g517 g530 ne533 (by decide) (Nat.le_of_ble_eq_true rfl) (Nat.le_of_ble_eq_true rfl)) F535 at_53 rfl (tw hw 13 rfl) (tw hw 14 rfl) (tw hw 15 rfl) (tw hw 16 rfl) (tw hw 4 rfl) (tw hw 17 rfl) (by decide) pd_5 rfl rfl rfl (Nat.le_of_eq rfl) (by decide) (by decide) (by decide) (by decide) (fun v539 h540 r541 => ?_)
    obtain ⟨rfl, K542, F543, F544, F545⟩ := r541
    have F546 : Av Z h540 a484 .int ([.int x0, .int x1, .int x2, .int x3, .int x4]) := F534.keep K542 (ninS ne518 (ninS ne532 nin0))
    have F547 : Exa Z h540 a511 "com/example/pathfold/pathfold/chi/IntList" := F535.keep K542
    have F551 : Fld Z h540 a511 "com/example/pathfold/pathfold/chi/IntList" "size" "I" (.int 1) := F544
    have F552 : Av Z h540 a525 .int ([.int x0, .int 0, .int 0, .int 0, .int 0, .int 0, .int 0, .int 0, .int 0, .int 0, .int 0, .int 0, .int 0, .int 0, .int 0, .int 0]) := F545
    refine C.iload at_56 rfl rfl ?_
    refine C.iconst 1 at_58 rfl rfl ?_
    refine C.icmp_le_f at_59 rfl (by decide) ?_
    refine C.aload at_62 rfl rfl rfl ?_
    refine C.iloadN at_64 rfl rfl ?_
    refine C.callV (argsL := [(.int x1)]) (rest := []) 0 (fun zz => con_add l Z a0 hw n0 h540 zz a511 a525 x1 1 ([.int x0, .int 0, .int 0, .int 0, .int 0, .int 0, .int 0, .int 0, .int 0, .int 0, .int 0, .int 0, .int 0, .int 0, .int 0, .int 0]) F547 F543 F551 F552 g517 g530 ne533 (by decide) (Nat.le_of_ble_eq_true rfl) (Nat.le_of_ble_eq_true rfl)) F547 at_65 rfl (tw hw 13 rfl) (tw hw 14 rfl) (tw hw 15 rfl) (tw hw 16 rfl) (tw hw 4 rfl) (tw hw 17 rfl) (by decide) pd_5 rfl rfl rfl (Nat.le_of_eq rfl) (by decide) (by decide) (by decide) (by decide) (fun v553 h554 r555 => ?_)
    obtain ⟨rfl, K556, F557, F558, F559⟩ := r555
    have F560 : Av Z h554 a484 .int ([.int x0, .int x1, .int x2, .int x3, .int x4]) := F546.keep K556 (ninS ne518 (ninS ne532 nin0))
    have F561 : Exa Z h554 a511 "com/example/pathfold/pathfold/chi/IntList" := F547.keep K556
    have F565 : Fld Z h554 a511 "com/example/pathfold/pathfold/chi/IntList" "size" "I" (.int 2) := F558
    have F566 : Av Z h554 a525 .int ([.int x0, .int x1, .int 0, .int 0, .int 0, .int 0, .int 0, .int 0, .int 0, .int 0, .int 0, .int 0, .int 0, .int 0, .int 0, .int 0]) := F559
    refine C.iload at_68 rfl rfl ?_
    refine C.iconst 2 at_70 rfl rfl ?_
    refine C.icmp_le_f at_71 rfl (by decide) ?_
    refine C.aload at_74 rfl rfl rfl ?_
    refine C.iloadN at_76 rfl rfl ?_
    refine C.callV (argsL := [(.int x2)]) (rest := []) 0 (fun zz => con_add l Z a0 hw n0 h554 zz a511 a525 x2 2 ([.int x0, .int x1, .int 0, .int 0, .int 0, .int 0, .int 0, .int 0, .int 0, .int 0, .int 0, .int 0, .int 0, .int 0, .int 0, .int 0]) F561 F557 F565 F566 g517 g530 ne533 (by decide) (Nat.le_of_ble_eq_true rfl) (Nat.le_of_ble_eq_true rfl)) F561 at_77 rfl (tw hw 13 rfl) (tw hw 14 rfl) (tw hw 15 rfl) (tw hw 16 rfl) (tw hw 4 rfl) (tw hw 17 rfl) (by decide) pd_5 rfl rfl rfl (Nat.le_of_eq rfl) (by decide) (by decide) (by decide) (by decide) (fun v567 h568 r569 => ?_)
    obtain ⟨rfl, K570, F571, F572, F573⟩ := r569
    have F574 : Av Z h568 a484 .int ([.int x0, .int x1, .int x2, .int x3, .int x4]) := F560.keep K570 (ninS ne518 (ninS ne532 nin0))
    have F575 : Exa Z h568 a511 "com/example/pathfold/pathfold/chi/IntList" := F561.keep K570
    have F579 : Fld Z h568 a511 "com/example/pathfold/pathfold/chi/IntList" "size" "I" (.int 3) := F572
    have F580 : Av Z h568 a525 .int ([.int x0, .int x1, .int x2, .int 0, .int 0, .int 0, .int 0, .int 0, .int 0, .int 0, .int 0, .int 0, .int 0, .int 0, .int 0, .int 0]) := F573
    refine C.iload at_80 rfl rfl ?_
    refine C.iconst 3 at_82 rfl rfl ?_
    refine C.icmp_le_t at_83 (by decide) rfl (by decide) ?_
    refine C.iload at_92 rfl rfl ?_
    refine C.iconst 4 at_94 rfl rfl ?_
    refine C.icmp_le_t at_95 (by decide) rfl (by decide) ?_
    refine C.aload at_105 rfl rfl rfl ?_
    refine C.callV (argsL := []) (rest := []) 0 (fun zz => con_ta l Z a0 hw n0 h568 zz a511 a525 3 ([.int x0, .int x1, .int x2, .int 0, .int 0, .int 0, .int 0, .int 0, .int 0, .int 0, .int 0, .int 0, .int 0, .int 0, .int 0, .int 0]) F571 F579 F580 (by decide) (by decide) (show ¬ (3 : Int32) = (16 : Nat).toInt32 by decide) (Nat.le_of_ble_eq_true rfl)) F575 at_107 rfl (tw hw 20 rfl) (tw hw 21 rfl) (tw hw 22 rfl) (tw hw 23 rfl) (tw hw 4 rfl) (tw hw 24 rfl) (by decide) pd_3 rfl rfl rfl (Nat.le_of_eq rfl) (by decide) (by decide) (by decide) (by decide) (fun v581 h582 r583 => ?_)
    obtain ⟨a584, rfl, K585, g587, gz588, F586⟩ := r583
    have ne589 : a484 ≠ a584 := Nat.ne_of_lt (Nat.lt_of_lt_of_le F574.lt gz588)
    have ne590 : a511 ≠ a584 := Nat.ne_of_lt (Nat.lt_of_lt_of_le F575.lt gz588)
    have ne591 : a525 ≠ a584 := Nat.ne_of_lt (Nat.lt_of_lt_of_le F580.lt gz588)
    have F592 : Av Z h582 a484 .int ([.int x0, .int x1, .int x2, .int x3, .int x4]) := F574.keep K585 nin0
    have F593 : Exa Z h582 a511 "com/example/pathfold/pathfold/chi/IntList" := F575.keep K585
    have F594 : Fld Z h582 a511 "com/example/pathfold/pathfold/chi/IntList" "items" "[I" (.ref a525) := F571.keep K585 nin0
    have F595 : Fld Z h582 a511 "com/example/pathfold/pathfold/chi/IntList" "size" "I" (.int 3) := F579.keep K585 nin0
    have F596 : Av Z h582 a525 .int ([.int x0, .int x1, .int x2, .int 0, .int 0, .int 0, .int 0, .int 0, .int 0, .int 0, .int 0, .int 0, .int 0, .int 0, .int 0, .int 0]) := F580.keep K585 nin0
    have F597 : Av Z h582 a584 .int ([.int x0, .int x1, .int x2]) := F586
    refine C.astore (Ls' := #[.val (.int x0), .val (.int x1), .val (.int x2), .val (.int x3), .val (.int x4), .val (.int x5), .val (.int 3), .val (.ref a484), .val (.ref a511), .val (.ref a584), .unset, .unset]) at_110 rfl rfl rfl ?_
    refine C.aload at_112 rfl rfl rfl ?_
    refine C.ifnull_ref at_114 rfl ?_
    refine C.aload at_117 rfl rfl rfl ?_
    refine C.alen at_119 rfl F597 ?_
    show Go p l e room_1 s m #[(.int x0), (.int x1), (.int x2), (.int x3), (.int x4), (.int x5)] below meth c n0 (FinQ s n0 (Qcon0 Z n0 h0 x0 x1 x2 x3 x4 x5) room_1.cells room_1.slots) h582 4 28 120 #[.val (.int x0), .val (.int x1), .val (.int x2), .val (.int x3), .val (.int x4), .val (.int x5), .val (.int 3), .val (.ref a484), .val (.ref a511), .val (.ref a584), .unset, .unset] [(.int 3)]
    refine C.iload at_120 rfl rfl ?_
    refine C.icmp_eq_t at_122 (by decide) rfl (by decide) ?_
    refine C.aload at_127 rfl rfl rfl ?_
    refine C.aload at_129 rfl rfl rfl ?_
    refine C.iload at_131 rfl rfl ?_
    refine C.callS (argsL := [(.ref a584), (.ref a484), (.int 3)]) (rest := []) 0 (fun zz => con_m3 l Z a0 hw n0 h582 zz a584 a484 x0 x1 x2 x3 x4 F597 F592) at_133 rfl (tw hw 37 rfl) (tw hw 38 rfl) (tw hw 39 rfl) (tw hw 40 rfl) (by decide) pd_4 rfl rfl rfl (Nat.le_of_eq rfl) (by decide) (by decide) (by decide) (by decide) (fun v598 h599 r600 => ?_)
    obtain ⟨rfl, rfl⟩ := r600
    refine C.istore (Ls' := #[.val (.int x0), .val (.int x1), .val (.int x2), .val (.int x3), .val (.int x4), .val (.int x5), .val (.int 3), .val (.ref a484), .val (.ref a511), .val (.ref a584), .val (.int 1), .unset]) at_136 rfl rfl ?_
    refine C.iload at_138 rfl rfl ?_
    refine C.if_le_f at_140 rfl (by decide) ?_
    refine C.aload at_143 rfl rfl rfl ?_
    refine C.iconst 0 at_145 rfl rfl ?_
    refine C.aload at_146 rfl rfl rfl ?_
    refine C.iconst 0 at_148 rfl rfl ?_
    refine C.iaload (.int x0) at_149 rfl F597 (by decide) rfl ?_
    refine C.iconst (-1) at_150 rfl rfl ?_
    refine C.ixor at_151 rfl ?_
    refine C.iastore at_152 rfl F597 g587 (by decide) (Nat.le_of_ble_eq_true rfl) (fun h602 W603 F604 => ?_)
    have F605 : Av Z h602 a484 .int ([.int x0, .int x1, .int x2, .int x3, .int x4]) := F592.other W603 ne589
    have F606 : Exa Z h602 a511 "com/example/pathfold/pathfold/chi/IntList" := Exa.wr W603 F593
    have F607 : Fld Z h602 a511 "com/example/pathfold/pathfold/chi/IntList" "items" "[I" (.ref a525) := Fld.other W603 F594 (Or.inl ne590)
    have F608 : Fld Z h602 a511 "com/example/pathfold/pathfold/chi/IntList" "size" "I" (.int 3) := Fld.other W603 F595 (Or.inl ne590)
    have F609 : Av Z h602 a525 .int ([.int x0, .int x1, .int x2, .int 0, .int 0, .int 0, .int 0, .int 0, .int 0, .int 0, .int 0, .int 0, .int 0, .int 0, .int 0, .int 0]) := F596.other W603 ne591
    have F610 : Av Z h602 a584 .int ([.int (x0 ^^^ (-1 : Int32)), .int x1, .int x2]) := F604
    refine C.aload at_153 rfl rfl rfl ?_
    refine C.callV (argsL := []) (rest := []) 0 (fun zz => con_ta l Z a0 hw n0 h602 zz a511 a525 3 ([.int x0, .int x1, .int x2, .int 0, .int 0, .int 0, .int 0, .int 0, .int 0, .int 0, .int 0, .int 0, .int 0, .int 0, .int 0, .int 0]) F607 F608 F609 (by decide) (by decide) (show ¬ (3 : Int32) = (16 : Nat).toInt32 by decide) (Nat.le_of_ble_eq_true rfl)) F606 at_155 rfl (tw hw 20 rfl) (tw hw 21 rfl) (tw hw 22 rfl) (tw hw 23 rfl) (tw hw 4 rfl) (tw hw 24 rfl) (by decide) pd_3 rfl rfl rfl (Nat.le_of_eq rfl) (by decide) (by decide) (by decide) (by decide) (fun v611 h612 r613 => ?_)
    obtain ⟨a614, rfl, K615, g617, gz618, F616⟩ := r613
    have ne619 : a484 ≠ a614 := Nat.ne_of_lt (Nat.lt_of_lt_of_le F605.lt gz618)
    have ne620 : a511 ≠ a614 := Nat.ne_of_lt (Nat.lt_of_lt_of_le F606.lt gz618)
    have ne621 : a525 ≠ a614 := Nat.ne_of_lt (Nat.lt_of_lt_of_le F609.lt gz618)
    have ne622 : a584 ≠ a614 := Nat.ne_of_lt (Nat.lt_of_lt_of_le F610.lt gz618)
    have F623 : Av Z h612 a484 .int ([.int x0, .int x1, .int x2, .int x3, .int x4]) := F605.keep K615 nin0
    have F624 : Exa Z h612 a511 "com/example/pathfold/pathfold/chi/IntList" := F606.keep K615
    have F625 : Fld Z h612 a511 "com/example/pathfold/pathfold/chi/IntList" "items" "[I" (.ref a525) := F607.keep K615 nin0
    have F626 : Fld Z h612 a511 "com/example/pathfold/pathfold/chi/IntList" "size" "I" (.int 3) := F608.keep K615 nin0
    have F627 : Av Z h612 a525 .int ([.int x0, .int x1, .int x2, .int 0, .int 0, .int 0, .int 0, .int 0, .int 0, .int 0, .int 0, .int 0, .int 0, .int 0, .int 0, .int 0]) := F609.keep K615 nin0
    have F628 : Av Z h612 a584 .int ([.int (x0 ^^^ (-1 : Int32)), .int x1, .int x2]) := F610.keep K615 nin0
    have F629 : Av Z h612 a614 .int ([.int x0, .int x1, .int x2]) := F616
    refine C.astore (Ls' := #[.val (.int x0), .val (.int x1), .val (.int x2), .val (.int x3), .val (.int x4), .val (.int x5), .val (.int 3), .val (.ref a484), .val (.ref a511), .val (.ref a584), .val (.int 1), .val (.ref a614)]) at_158 rfl rfl rfl ?_
    refine C.aload at_160 rfl rfl rfl ?_
    refine C.ifnull_ref at_162 rfl ?_
    refine C.aload at_165 rfl rfl rfl ?_
    refine C.alen at_167 rfl F629 ?_
    show Go p l e room_1 s m #[(.int x0), (.int x1), (.int x2), (.int x3), (.int x4), (.int x5)] below meth c n0 (FinQ s n0 (Qcon0 Z n0 h0 x0 x1 x2 x3 x4 x5) room_1.cells room_1.slots) h612 5 33 168 #[.val (.int x0), .val (.int x1), .val (.int x2), .val (.int x3), .val (.int x4), .val (.int x5), .val (.int 3), .val (.ref a484), .val (.ref a511), .val (.ref a584), .val (.int 1), .val (.ref a614)] [(.int 3)]
    refine C.iload at_168 rfl rfl ?_
    refine C.icmp_eq_t at_170 (by decide) rfl (by decide) ?_
    refine C.iload at_175 rfl rfl ?_
    refine C.if_eq_f at_177 rfl (by decide) ?_
    refine C.aload at_180 rfl rfl rfl ?_
    refine C.aload at_182 rfl rfl rfl ?_
    refine C.iload at_184 rfl rfl ?_
    refine C.callS (argsL := [(.ref a614), (.ref a484), (.int 3)]) (rest := []) 0 (fun zz => con_m3 l Z a0 hw n0 h612 zz a614 a484 x0 x1 x2 x3 x4 F629 F623) at_186 rfl (tw hw 37 rfl) (tw hw 38 rfl) (tw hw 39 rfl) (tw hw 40 rfl) (by decide) pd_4 rfl rfl rfl (Nat.le_of_eq rfl) (by decide) (by decide) (by decide) (by decide) (fun v630 h631 r632 => ?_)
    obtain ⟨rfl, rfl⟩ := r632
    refine C.if_eq_f at_189 rfl (by decide) ?_
    refine C.iconst 1 at_192 rfl rfl ?_
    refine C.goto at_193 (by decide) rfl ?_
    exact C.retZ at_197 rfl (by decide) (by decide) ⟨rfl, trivial⟩
  · rw [qc]
    refine C.iconst 5 at_10 rfl rfl ?_
    refine C.newarr 5 at_11 rfl rfl (tw hw 1 rfl) (by decide) (by decide) (by decide) (by decide) (by decide) (fun a634 h635 z638 g639 X636 F637 => ?_)
    have F640 : Av Z h635 a634 .int ([.int 0, .int 0, .int 0, .int 0, .int 0]) := F637
    refine C.dup at_13 rfl rfl ?_
    refine C.iconst 0 at_14 rfl rfl ?_
    refine C.iloadN at_15 rfl rfl ?_
    refine C.iastore at_16 rfl F640 g639 (by decide) (Nat.le_of_ble_eq_true rfl) (fun h641 W642 F643 => ?_)
    have F644 : Av Z h641 a634 .int ([.int x0, .int 0, .int 0, .int 0, .int 0]) := F643
    refine C.dup at_17 rfl rfl ?_
    refine C.iconst 1 at_18 rfl rfl ?_
    refine C.iloadN at_19 rfl rfl ?_
    refine C.iastore at_20 rfl F644 g639 (by decide) (Nat.le_of_ble_eq_true rfl) (fun h645 W646 F647 => ?_)
    have F648 : Av Z h645 a634 .int ([.int x0, .int x1, .int 0, .int 0, .int 0]) := F647
    refine C.dup at_21 rfl rfl ?_
    refine C.iconst 2 at_22 rfl rfl ?_
    refine C.iloadN at_23 rfl rfl ?_
    refine C.iastore at_24 rfl F648 g639 (by decide) (Nat.le_of_ble_eq_true rfl) (fun h649 W650 F651 => ?_)
    have F652 : Av Z h649 a634 .int ([.int x0, .int x1, .int x2, .int 0, .int 0]) := F651
    refine C.dup at_25 rfl rfl ?_
    refine C.iconst 3 at_26 rfl rfl ?_
    refine C.iloadN at_27 rfl rfl ?_
    refine C.iastore at_28 rfl F652 g639 (by decide) (Nat.le_of_ble_eq_true rfl) (fun h653 W654 F655 => ?_)
    have F656 : Av Z h653 a634 .int ([.int x0, .int x1, .int x2, .int x3, .int 0]) := F655
    refine C.dup at_29 rfl rfl ?_
    refine C.iconst 4 at_30 rfl rfl ?_
    refine C.iload at_31 rfl rfl ?_
    refine C.iastore at_33 rfl F656 g639 (by decide) (Nat.le_of_ble_eq_true rfl) (fun h657 W658 F659 => ?_)
    have F660 : Av Z h657 a634 .int ([.int x0, .int x1, .int x2, .int x3, .int x4]) := F659
    refine C.astore (Ls' := #[.val (.int x0), .val (.int x1), .val (.int x2), .val (.int x3), .val (.int x4), .val (.int x5), .val (.int 4), .val (.ref a634), .unset, .unset, .unset, .unset]) at_34 rfl rfl rfl ?_
    refine C.new at_36 rfl (tw hw 2 rfl) (tw hw 3 rfl) (tw hw 4 rfl) (by decide) (by decide) (fun a661 h662 z666 g667 X664 E663 D665 => ?_)
    have ne668 : a634 ≠ a661 := by rw [z666]; exact Nat.ne_of_lt F660.lt
    have F669 : Av Z h662 a634 .int ([.int x0, .int x1, .int x2, .int x3, .int x4]) := F660.ext X664
    have F670 : Fld Z h662 a661 "com/example/pathfold/pathfold/chi/IntList" "items" "[I" (.null) := D665 (Or.inl (tw hw 12 rfl)) (ty := (.array .int)) (by decide)
    have F671 : Fld Z h662 a661 "com/example/pathfold/pathfold/chi/IntList" "size" "I" (.int 0) := D665 (Or.inl (tw hw 19 rfl)) (ty := .int) (by decide)
    refine C.dup at_39 rfl rfl ?_
    refine C.callN (argsL := []) (rest := [(.ref a661)]) 1 (fun zz => con_ini l Z a0 hw n0 h662 zz a661 E663 F670 F671 g667) at_40 rfl rfl (tw hw 5 rfl) (tw hw 6 rfl) (tw hw 4 rfl) (tw hw 7 rfl) (by decide) pd_2 rfl rfl rfl (Nat.le_of_eq rfl) (by decide) (by decide) (by decide) (by decide) (fun v672 h673 r674 => ?_)
    obtain ⟨a675, rfl, K676, g680, gz681, F677, F678, F679⟩ := r674
    have ne682 : a634 ≠ a675 := Nat.ne_of_lt (Nat.lt_of_lt_of_le F669.lt gz681)
    have ne683 : a661 ≠ a675 := Nat.ne_of_lt (Nat.lt_of_lt_of_le E663.lt gz681)
    have F684 : Av Z h673 a634 .int ([.int x0, .int x1, .int x2, .int x3, .int x4]) := F669.keep K676 (ninS ne668 nin0)
    have F685 : Exa Z h673 a661 "com/example/pathfold/pathfold/chi/IntList" := E663.keep K676
    have F688 : Av Z h673 a675 .int ([.int 0, .int 0, .int 0, .int 0, .int 0, .int 0, .int 0, .int 0, .int 0, .int 0, .int 0, .int 0, .int 0, .int 0, .int 0, .int 0]) := F679
    refine C.astore (Ls' := #[.val (.int x0), .val (.int x1), .val (.int x2), .val (.int x3), .val (.int x4), .val (.int x5), .val (.int 4), .val (.ref a634), .val (.ref a661), .unset, .unset, .unset]) at_43 rfl rfl rfl ?_
    refine C.iload at_45 rfl rfl ?_
    refine C.if_le_f at_47 rfl (by decide) ?_
    refine C.aload at_50 rfl rfl rfl ?_
    refine C.iloadN at_52 rfl rfl ?_
    refine C.callV (argsL := [(.int x0)]) (rest := []) 0 (fun zz => con_add l Z a0 hw n0 h673 zz a661 a675 x0 0 ([.int 0, .int 0, .int 0, .int 0, .int 0, .int 0, .int 0, .int 0, .int 0, .int 0, .int 0, .int 0, .int 0, .int 0, .int 0, .int 0]) F685 F677 F678 F688 g667 g680 ne683 (by decide) (Nat.le_of_ble_eq_true rfl) (Nat.le_of_ble_eq_true rfl)) F685 at_53 rfl (tw hw 13 rfl) (tw hw 14 rfl) (tw hw 15 rfl) (tw hw 16 rfl) (tw hw 4 rfl) (tw hw 17 rfl) (by decide) pd_5 rfl rfl rfl (Nat.le_of_eq rfl) (by decide) (by decide) (by decide) (by decide) (fun v689 h690 r691 => ?_)
    obtain ⟨rfl, K692, F693, F694, F695⟩ := r691
    have F696 : Av Z h690 a634 .int ([.int x0, .int x1, .int x2, .int x3, .int x4]) := F684.keep K692 (ninS ne668 (ninS ne682 nin0))
    have F697 : Exa Z h690 a661 "com/example/pathfold/pathfold/chi/IntList" := F685.keep K692
    have F701 : Fld Z h690 a661 "com/example/pathfold/pathfold/chi/IntList" "size" "I" (.int 1) := F694
    have F702 : Av Z h690 a675 .int ([.int x0, .int 0, .int 0, .int 0, .int 0, .int 0, .int 0, .int 0, .int 0, .int 0, .int 0, .int 0, .int 0, .int 0, .int 0, .int 0]) := F695
    refine C.iload at_56 rfl rfl ?_
    refine C.iconst 1 at_58 rfl rfl ?_
    refine C.icmp_le_f at_59 rfl (by decide) ?_
    refine C.aload at_62 rfl rfl rfl ?_
    refine C.iloadN at_64 rfl rfl ?_
    refine C.callV (argsL := [(.int x1)]) (rest := []) 0 (fun zz => con_add l Z a0 hw n0 h690 zz a661 a675 x1 1 ([.int x0, .int 0, .int 0, .int 0, .int 0, .int 0, .int 0, .int 0, .int 0, .int 0, .int 0, .int 0, .int 0, .int 0, .int 0, .int 0]) F697 F693 F701 F702 g667 g680 ne683 (by decide) (Nat.le_of_ble_eq_true rfl) (Nat.le_of_ble_eq_true rfl)) F697 at_65 rfl (tw hw 13 rfl) (tw hw 14 rfl) (tw hw 15 rfl) (tw hw 16 rfl) (tw hw 4 rfl) (tw hw 17 rfl) (by decide) pd_5 rfl rfl rfl (Nat.le_of_eq rfl) (by decide) (by decide) (by decide) (by decide) (fun v703 h704 r705 => ?_)
    obtain ⟨rfl, K706, F707, F708, F709⟩ := r705
    have F710 : Av Z h704 a634 .int ([.int x0, .int x1, .int x2, .int x3, .int x4]) := F696.keep K706 (ninS ne668 (ninS ne682 nin0))
    have F711 : Exa Z h704 a661 "com/example/pathfold/pathfold/chi/IntList" := F697.keep K706
    have F715 : Fld Z h704 a661 "com/example/pathfold/pathfold/chi/IntList" "size" "I" (.int 2) := F708
    have F716 : Av Z h704 a675 .int ([.int x0, .int x1, .int 0, .int 0, .int 0, .int 0, .int 0, .int 0, .int 0, .int 0, .int 0, .int 0, .int 0, .int 0, .int 0, .int 0]) := F709
    refine C.iload at_68 rfl rfl ?_
    refine C.iconst 2 at_70 rfl rfl ?_
    refine C.icmp_le_f at_71 rfl (by decide) ?_
    refine C.aload at_74 rfl rfl rfl ?_
    refine C.iloadN at_76 rfl rfl ?_
    refine C.callV (argsL := [(.int x2)]) (rest := []) 0 (fun zz => con_add l Z a0 hw n0 h704 zz a661 a675 x2 2 ([.int x0, .int x1, .int 0, .int 0, .int 0, .int 0, .int 0, .int 0, .int 0, .int 0, .int 0, .int 0, .int 0, .int 0, .int 0, .int 0]) F711 F707 F715 F716 g667 g680 ne683 (by decide) (Nat.le_of_ble_eq_true rfl) (Nat.le_of_ble_eq_true rfl)) F711 at_77 rfl (tw hw 13 rfl) (tw hw 14 rfl) (tw hw 15 rfl) (tw hw 16 rfl) (tw hw 4 rfl) (tw hw 17 rfl) (by decide) pd_5 rfl rfl rfl (Nat.le_of_eq rfl) (by decide) (by decide) (by decide) (by decide) (fun v717 h718 r719 => ?_)
    obtain ⟨rfl, K720, F721, F722, F723⟩ := r719
    have F724 : Av Z h718 a634 .int ([.int x0, .int x1, .int x2, .int x3, .int x4]) := F710.keep K720 (ninS ne668 (ninS ne682 nin0))
    have F725 : Exa Z h718 a661 "com/example/pathfold/pathfold/chi/IntList" := F711.keep K720
    have F729 : Fld Z h718 a661 "com/example/pathfold/pathfold/chi/IntList" "size" "I" (.int 3) := F722
    have F730 : Av Z h718 a675 .int ([.int x0, .int x1, .int x2, .int 0, .int 0, .int 0, .int 0, .int 0, .int 0, .int 0, .int 0, .int 0, .int 0, .int 0, .int 0, .int 0]) := F723
    refine C.iload at_80 rfl rfl ?_
    refine C.iconst 3 at_82 rfl rfl ?_
    refine C.icmp_le_f at_83 rfl (by decide) ?_
    refine C.aload at_86 rfl rfl rfl ?_
    refine C.iloadN at_88 rfl rfl ?_
    refine C.callV (argsL := [(.int x3)]) (rest := []) 0 (fun zz => con_add l Z a0 hw n0 h718 zz a661 a675 x3 3 ([.int x0, .int x1, .int x2, .int 0, .int 0, .int 0, .int 0, .int 0, .int 0, .int 0, .int 0, .int 0, .int 0, .int 0, .int 0, .int 0]) F725 F721 F729 F730 g667 g680 ne683 (by decide) (Nat.le_of_ble_eq_true rfl) (Nat.le_of_ble_eq_true rfl)) F725 at_89 rfl (tw hw 13 rfl) (tw hw 14 rfl) (tw hw 15 rfl) (tw hw 16 rfl) (tw hw 4 rfl) (tw hw 17 rfl) (by decide) pd_5 rfl rfl rfl (Nat.le_of_eq rfl) (by decide) (by decide) (by decide) (by decide) (fun v731 h732 r733 => ?_)
    obtain ⟨rfl, K734, F735, F736, F737⟩ := r733
    have F738 : Av Z h732 a634 .int ([.int x0, .int x1, .int x2, .int x3, .int x4]) := F724.keep K734 (ninS ne668 (ninS ne682 nin0))
    have F739 : Exa Z h732 a661 "com/example/pathfold/pathfold/chi/IntList" := F725.keep K734
    have F743 : Fld Z h732 a661 "com/example/pathfold/pathfold/chi/IntList" "size" "I" (.int 4) := F736
    have F744 : Av Z h732 a675 .int ([.int x0, .int x1, .int x2, .int x3, .int 0, .int 0, .int 0, .int 0, .int 0, .int 0, .int 0, .int 0, .int 0, .int 0, .int 0, .int 0]) := F737
    refine C.iload at_92 rfl rfl ?_
    refine C.iconst 4 at_94 rfl rfl ?_
    refine C.icmp_le_t at_95 (by decide) rfl (by decide) ?_
    refine C.aload at_105 rfl rfl rfl ?_
    refine C.callV (argsL := []) (rest := []) 0 (fun zz => con_ta l Z a0 hw n0 h732 zz a661 a675 4 ([.int x0, .int x1, .int x2, .int x3, .int 0, .int 0, .int 0, .int 0, .int 0, .int 0, .int 0, .int 0, .int 0, .int 0, .int 0, .int 0]) F735 F743 F744 (by decide) (by decide) (show ¬ (4 : Int32) = (16 : Nat).toInt32 by decide) (Nat.le_of_ble_eq_true rfl)) F739 at_107 rfl (tw hw 20 rfl) (tw hw 21 rfl) (tw hw 22 rfl) (tw hw 23 rfl) (tw hw 4 rfl) (tw hw 24 rfl) (by decide) pd_3 rfl rfl rfl (Nat.le_of_eq rfl) (by decide) (by decide) (by decide) (by decide) (fun v745 h746 r747 => ?_)
    obtain ⟨a748, rfl, K749, g751, gz752, F750⟩ := r747
    have ne753 : a634 ≠ a748 := Nat.ne_of_lt (Nat.lt_of_lt_of_le F738.lt gz752)
    have ne754 : a661 ≠ a748 := Nat.ne_of_lt (Nat.lt_of_lt_of_le F739.lt gz752)
    have ne755 : a675 ≠ a748 := Nat.ne_of_lt (Nat.lt_of_lt_of_le F744.lt gz752)
    have F756 : Av Z h746 a634 .int ([.int x0, .int x1, .int x2, .int x3, .int x4]) := F738.keep K749 nin0
    have F757 : Exa Z h746 a661 "com/example/pathfold/pathfold/chi/IntList" := F739.keep K749
    have F758 : Fld Z h746 a661 "com/example/pathfold/pathfold/chi/IntList" "items" "[I" (.ref a675) := F735.keep K749 nin0
    have F759 : Fld Z h746 a661 "com/example/pathfold/pathfold/chi/IntList" "size" "I" (.int 4) := F743.keep K749 nin0
    have F760 : Av Z h746 a675 .int ([.int x0, .int x1, .int x2, .int x3, .int 0, .int 0, .int 0, .int 0, .int 0, .int 0, .int 0, .int 0, .int 0, .int 0, .int 0, .int 0]) := F744.keep K749 nin0
    have F761 : Av Z h746 a748 .int ([.int x0, .int x1, .int x2, .int x3]) := F750
    refine C.astore (Ls' := #[.val (.int x0), .val (.int x1), .val (.int x2), .val (.int x3), .val (.int x4), .val (.int x5), .val (.int 4), .val (.ref a634), .val (.ref a661), .val (.ref a748), .unset, .unset]) at_110 rfl rfl rfl ?_
    refine C.aload at_112 rfl rfl rfl ?_
    refine C.ifnull_ref at_114 rfl ?_
    refine C.aload at_117 rfl rfl rfl ?_
    refine C.alen at_119 rfl F761 ?_
    show Go p l e room_1 s m #[(.int x0), (.int x1), (.int x2), (.int x3), (.int x4), (.int x5)] below meth c n0 (FinQ s n0 (Qcon0 Z n0 h0 x0 x1 x2 x3 x4 x5) room_1.cells room_1.slots) h746 4 28 120 #[.val (.int x0), .val (.int x1), .val (.int x2), .val (.int x3), .val (.int x4), .val (.int x5), .val (.int 4), .val (.ref a634), .val (.ref a661), .val (.ref a748), .unset, .unset] [(.int 4)]
    refine C.iload at_120 rfl rfl ?_
    refine C.icmp_eq_t at_122 (by decide) rfl (by decide) ?_
    refine C.aload at_127 rfl rfl rfl ?_
    refine C.aload at_129 rfl rfl rfl ?_
    refine C.iload at_131 rfl rfl ?_
    refine C.callS (argsL := [(.ref a748), (.ref a634), (.int 4)]) (rest := []) 0 (fun zz => con_m4 l Z a0 hw n0 h746 zz a748 a634 x0 x1 x2 x3 x4 F761 F756) at_133 rfl (tw hw 37 rfl) (tw hw 38 rfl) (tw hw 39 rfl) (tw hw 40 rfl) (by decide) pd_4 rfl rfl rfl (Nat.le_of_eq rfl) (by decide) (by decide) (by decide) (by decide) (fun v762 h763 r764 => ?_)
    obtain ⟨rfl, rfl⟩ := r764
    refine C.istore (Ls' := #[.val (.int x0), .val (.int x1), .val (.int x2), .val (.int x3), .val (.int x4), .val (.int x5), .val (.int 4), .val (.ref a634), .val (.ref a661), .val (.ref a748), .val (.int 1), .unset]) at_136 rfl rfl ?_
    refine C.iload at_138 rfl rfl ?_
    refine C.if_le_f at_140 rfl (by decide) ?_
    refine C.aload at_143 rfl rfl rfl ?_
    refine C.iconst 0 at_145 rfl rfl ?_
    refine C.aload at_146 rfl rfl rfl ?_
    refine C.iconst 0 at_148 rfl rfl ?_
    refine C.iaload (.int x0) at_149 rfl F761 (by decide) rfl ?_
    refine C.iconst (-1) at_150 rfl rfl ?_
    refine C.ixor at_151 rfl ?_
    refine C.iastore at_152 rfl F761 g751 (by decide) (Nat.le_of_ble_eq_true rfl) (fun h766 W767 F768 => ?_)
    have F769 : Av Z h766 a634 .int ([.int x0, .int x1, .int x2, .int x3, .int x4]) := F756.other W767 ne753
    have F770 : Exa Z h766 a661 "com/example/pathfold/pathfold/chi/IntList" := Exa.wr W767 F757
    have F771 : Fld Z h766 a661 "com/example/pathfold/pathfold/chi/IntList" "items" "[I" (.ref a675) := Fld.other W767 F758 (Or.inl ne754)
    have F772 : Fld Z h766 a661 "com/example/pathfold/pathfold/chi/IntList" "size" "I" (.int 4) := Fld.other W767 F759 (Or.inl ne754)
    have F773 : Av Z h766 a675 .int ([.int x0, .int x1, .int x2, .int x3, .int 0, .int 0, .int 0, .int 0, .int 0, .int 0, .int 0, .int 0, .int 0, .int 0, .int 0, .int 0]) := F760.other W767 ne755
    have F774 : Av Z h766 a748 .int ([.int (x0 ^^^ (-1 : Int32)), .int x1, .int x2, .int x3]) := F768
    refine C.aload at_153 rfl rfl rfl ?_
    refine C.callV (argsL := []) (rest := []) 0 (fun zz => con_ta l Z a0 hw n0 h766 zz a661 a675 4 ([.int x0, .int x1, .int x2, .int x3, .int 0, .int 0, .int 0, .int 0, .int 0, .int 0, .int 0, .int 0, .int 0, .int 0, .int 0, .int 0]) F771 F772 F773 (by decide) (by decide) (show ¬ (4 : Int32) = (16 : Nat).toInt32 by decide) (Nat.le_of_ble_eq_true rfl)) F770 at_155 rfl (tw hw 20 rfl) (tw hw 21 rfl) (tw hw 22 rfl) (tw hw 23 rfl) (tw hw 4 rfl) (tw hw 24 rfl) (by decide) pd_3 rfl rfl rfl (Nat.le_of_eq rfl) (by decide) (by decide) (by decide) (by decide) (fun v775 h776 r777 => ?_)
    obtain ⟨a778, rfl, K779, g781, gz782, F780⟩ := r777
    have ne783 : a634 ≠ a778 := Nat.ne_of_lt (Nat.lt_of_lt_of_le F769.lt gz782)
    have ne784 : a661 ≠ a778 := Nat.ne_of_lt (Nat.lt_of_lt_of_le F770.lt gz782)
    have ne785 : a675 ≠ a778 := Nat.ne_of_lt (Nat.lt_of_lt_of_le F773.lt gz782)
    have ne786 : a748 ≠ a778 := Nat.ne_of_lt (Nat.lt_of_lt_of_le F774.lt gz782)
    have F787 : Av Z h776 a634 .int ([.int x0, .int x1, .int x2, .int x3, .int x4]) := F769.keep K779 nin0
    have F788 : Exa Z h776 a661 "com/example/pathfold/pathfold/chi/IntList" := F770.keep K779
    have F789 : Fld Z h776 a661 "com/example/pathfold/pathfold/chi/IntList" "items" "[I" (.ref a675) := F771.keep K779 nin0
    have F790 : Fld Z h776 a661 "com/example/pathfold/pathfold/chi/IntList" "size" "I" (.int 4) := F772.keep K779 nin0
    have F791 : Av Z h776 a675 .int ([.int x0, .int x1, .int x2, .int x3, .int 0, .int 0, .int 0, .int 0, .int 0, .int 0, .int 0, .int 0, .int 0, .int 0, .int 0, .int 0]) := F773.keep K779 nin0
    have F792 : Av Z h776 a748 .int ([.int (x0 ^^^ (-1 : Int32)), .int x1, .int x2, .int x3]) := F774.keep K779 nin0
    have F793 : Av Z h776 a778 .int ([.int x0, .int x1, .int x2, .int x3]) := F780
    refine C.astore (Ls' := #[.val (.int x0), .val (.int x1), .val (.int x2), .val (.int x3), .val (.int x4), .val (.int x5), .val (.int 4), .val (.ref a634), .val (.ref a661), .val (.ref a748), .val (.int 1), .val (.ref a778)]) at_158 rfl rfl rfl ?_
    refine C.aload at_160 rfl rfl rfl ?_
    refine C.ifnull_ref at_162 rfl ?_
    refine C.aload at_165 rfl rfl rfl ?_
    refine C.alen at_167 rfl F793 ?_
    show Go p l e room_1 s m #[(.int x0), (.int x1), (.int x2), (.int x3), (.int x4), (.int x5)] below meth c n0 (FinQ s n0 (Qcon0 Z n0 h0 x0 x1 x2 x3 x4 x5) room_1.cells room_1.slots) h776 5 33 168 #[.val (.int x0), .val (.int x1), .val (.int x2), .val (.int x3), .val (.int x4), .val (.int x5), .val (.int 4), .val (.ref a634), .val (.ref a661), .val (.ref a748), .val (.int 1), .val (.ref a778)] [(.int 4)]
    refine C.iload at_168 rfl rfl ?_
    refine C.icmp_eq_t at_170 (by decide) rfl (by decide) ?_
    refine C.iload at_175 rfl rfl ?_
    refine C.if_eq_f at_177 rfl (by decide) ?_
    refine C.aload at_180 rfl rfl rfl ?_
    refine C.aload at_182 rfl rfl rfl ?_
    refine C.iload at_184 rfl rfl ?_
    refine C.callS (argsL := [(.ref a778), (.ref a634), (.int 4)]) (rest := []) 0 (fun zz => con_m4 l Z a0 hw n0 h776 zz a778 a634 x0 x1 x2 x3 x4 F793 F787) at_186 rfl (tw hw 37 rfl) (tw hw 38 rfl) (tw hw 39 rfl) (tw hw 40 rfl) (by decide) pd_4 rfl rfl rfl (Nat.le_of_eq rfl) (by decide) (by decide) (by decide) (by decide) (fun v794 h795 r796 => ?_)
    obtain ⟨rfl, rfl⟩ := r796
    refine C.if_eq_f at_189 rfl (by decide) ?_
    refine C.iconst 1 at_192 rfl rfl ?_
    refine C.goto at_193 (by decide) rfl ?_
    exact C.retZ at_197 rfl (by decide) (by decide) ⟨rfl, trivial⟩
  · rw [qc]
    refine C.iconst 5 at_10 rfl rfl ?_
    refine C.newarr 5 at_11 rfl rfl (tw hw 1 rfl) (by decide) (by decide) (by decide) (by decide) (by decide) (fun a798 h799 z802 g803 X800 F801 => ?_)
    have F804 : Av Z h799 a798 .int ([.int 0, .int 0, .int 0, .int 0, .int 0]) := F801
    refine C.dup at_13 rfl rfl ?_
    refine C.iconst 0 at_14 rfl rfl ?_
    refine C.iloadN at_15 rfl rfl ?_
    refine C.iastore at_16 rfl F804 g803 (by decide) (Nat.le_of_ble_eq_true rfl) (fun h805 W806 F807 => ?_)
    have F808 : Av Z h805 a798 .int ([.int x0, .int 0, .int 0, .int 0, .int 0]) := F807
    refine C.dup at_17 rfl rfl ?_
    refine C.iconst 1 at_18 rfl rfl ?_
    refine C.iloadN at_19 rfl rfl ?_
    refine C.iastore at_20 rfl F808 g803 (by decide) (Nat.le_of_ble_eq_true rfl) (fun h809 W810 F811 => ?_)
    have F812 : Av Z h809 a798 .int ([.int x0, .int x1, .int 0, .int 0, .int 0]) := F811
    refine C.dup at_21 rfl rfl ?_
    refine C.iconst 2 at_22 rfl rfl ?_
    refine C.iloadN at_23 rfl rfl ?_
    refine C.iastore at_24 rfl F812 g803 (by decide) (Nat.le_of_ble_eq_true rfl) (fun h813 W814 F815 => ?_)
    have F816 : Av Z h813 a798 .int ([.int x0, .int x1, .int x2, .int 0, .int 0]) := F815
    refine C.dup at_25 rfl rfl ?_
    refine C.iconst 3 at_26 rfl rfl ?_
    refine C.iloadN at_27 rfl rfl ?_
    refine C.iastore at_28 rfl F816 g803 (by decide) (Nat.le_of_ble_eq_true rfl) (fun h817 W818 F819 => ?_)
    have F820 : Av Z h817 a798 .int ([.int x0, .int x1, .int x2, .int x3, .int 0]) := F819
    refine C.dup at_29 rfl rfl ?_
    refine C.iconst 4 at_30 rfl rfl ?_
    refine C.iload at_31 rfl rfl ?_
    refine C.iastore at_33 rfl F820 g803 (by decide) (Nat.le_of_ble_eq_true rfl) (fun h821 W822 F823 => ?_)
    have F824 : Av Z h821 a798 .int ([.int x0, .int x1, .int x2, .int x3, .int x4]) := F823
    refine C.astore (Ls' := #[.val (.int x0), .val (.int x1), .val (.int x2), .val (.int x3), .val (.int x4), .val (.int x5), .val (.int 5), .val (.ref a798), .unset, .unset, .unset, .unset]) at_34 rfl rfl rfl ?_
    refine C.new at_36 rfl (tw hw 2 rfl) (tw hw 3 rfl) (tw hw 4 rfl) (by decide) (by decide) (fun a825 h826 z830 g831 X828 E827 D829 => ?_)
    have ne832 : a798 ≠ a825 := by rw [z830]; exact Nat.ne_of_lt F824.lt
    have F833 : Av Z h826 a798 .int ([.int x0, .int x1, .int x2, .int x3, .int x4]) := F824.ext X828
    have F834 : Fld Z h826 a825 "com/example/pathfold/pathfold/chi/IntList" "items" "[I" (.null) := D829 (Or.inl (tw hw 12 rfl)) (ty := (.array .int)) (by decide)
    have F835 : Fld Z h826 a825 "com/example/pathfold/pathfold/chi/IntList" "size" "I" (.int 0) := D829 (Or.inl (tw hw 19 rfl)) (ty := .int) (by decide)
    refine C.dup at_39 rfl rfl ?_
    refine C.callN (argsL := []) (rest := [(.ref a825)]) 1 (fun zz => con_ini l Z a0 hw n0 h826 zz a825 E827 F834 F835 g831) at_40 rfl rfl (tw hw 5 rfl) (tw hw 6 rfl) (tw hw 4 rfl) (tw hw 7 rfl) (by decide) pd_2 rfl rfl rfl (Nat.le_of_eq rfl) (by decide) (by decide) (by decide) (by decide) (fun v836 h837 r838 => ?_)
    obtain ⟨a839, rfl, K840, g844, gz845, F841, F842, F843⟩ := r838
    have ne846 : a798 ≠ a839 := Nat.ne_of_lt (Nat.lt_of_lt_of_le F833.lt gz845)
    have ne847 : a825 ≠ a839 := Nat.ne_of_lt (Nat.lt_of_lt_of_le E827.lt gz845)
    have F848 : Av Z h837 a798 .int ([.int x0, .int x1, .int x2, .int x3, .int x4]) := F833.keep K840 (ninS ne832 nin0)
    have F849 : Exa Z h837 a825 "com/example/pathfold/pathfold/chi/IntList" := E827.keep K840
    have F852 : Av Z h837 a839 .int ([.int 0, .int 0, .int 0, .int 0, .int 0, .int 0, .int 0, .int 0, .int 0, .int 0, .int 0, .int 0, .int 0, .int 0, .int 0, .int 0]) := F843
    refine C.astore (Ls' := #[.val (.int x0), .val (.int x1), .val (.int x2), .val (.int x3), .val (.int x4), .val (.int x5), .val (.int 5), .val (.ref a798), .val (.ref a825), .unset, .unset, .unset]) at_43 rfl rfl rfl ?_
    refine C.iload at_45 rfl rfl ?_
    refine C.if_le_f at_47 rfl (by decide) ?_
    refine C.aload at_50 rfl rfl rfl ?_
    refine C.iloadN at_52 rfl rfl ?_
    refine C.callV (argsL := [(.int x0)]) (rest := []) 0 (fun zz => con_add l Z a0 hw n0 h837 zz a825 a839 x0 0 ([.int 0, .int 0, .int 0, .int 0, .int 0, .int 0, .int 0, .int 0, .int 0, .int 0, .int 0, .int 0, .int 0, .int 0, .int 0, .int 0]) F849 F841 F842 F852 g831 g844 ne847 (by decide) (Nat.le_of_ble_eq_true rfl) (Nat.le_of_ble_eq_true rfl)) F849 at_53 rfl (tw hw 13 rfl) (tw hw 14 rfl) (tw hw 15 rfl) (tw hw 16 rfl) (tw hw 4 rfl) (tw hw 17 rfl) (by decide) pd_5 rfl rfl rfl (Nat.le_of_eq rfl) (by decide) (by decide) (by decide) (by decide) (fun v853 h854 r855 => ?_)
    obtain ⟨rfl, K856, F857, F858, F859⟩ := r855
    have F860 : Av Z h854 a798 .int ([.int x0, .int x1, .int x2, .int x3, .int x4]) := F848.keep K856 (ninS ne832 (ninS ne846 nin0))
    have F861 : Exa Z h854 a825 "com/example/pathfold/pathfold/chi/IntList" := F849.keep K856
    have F865 : Fld Z h854 a825 "com/example/pathfold/pathfold/chi/IntList" "size" "I" (.int 1) := F858
    have F866 : Av Z h854 a839 .int ([.int x0, .int 0, .int 0, .int 0, .int 0, .int 0, .int 0, .int 0, .int 0, .int 0, .int 0, .int 0, .int 0, .int 0, .int 0, .int 0]) := F859
    refine C.iload at_56 rfl rfl ?_
    refine C.iconst 1 at_58 rfl rfl ?_
    refine C.icmp_le_f at_59 rfl (by decide) ?_
    refine C.aload at_62 rfl rfl rfl ?_
    refine C.iloadN at_64 rfl rfl ?_
    refine C.callV (argsL := [(.int x1)]) (rest := []) 0 (fun zz => con_add l Z a0 hw n0 h854 zz a825 a839 x1 1 ([.int x0, .int 0, .int 0, .int 0, .int 0, .int 0, .int 0, .int 0, .int 0, .int 0, .int 0, .int 0, .int 0, .int 0, .int 0, .int 0]) F861 F857 F865 F866 g831 g844 ne847 (by decide) (Nat.le_of_ble_eq_true rfl) (Nat.le_of_ble_eq_true rfl)) F861 at_65 rfl (tw hw 13 rfl) (tw hw 14 rfl) (tw hw 15 rfl) (tw hw 16 rfl) (tw hw 4 rfl) (tw hw 17 rfl) (by decide) pd_5 rfl rfl rfl (Nat.le_of_eq rfl) (by decide) (by decide) (by decide) (by decide) (fun v867 h868 r869 => ?_)
    obtain ⟨rfl, K870, F871, F872, F873⟩ := r869
    have F874 : Av Z h868 a798 .int ([.int x0, .int x1, .int x2, .int x3, .int x4]) := F860.keep K870 (ninS ne832 (ninS ne846 nin0))
    have F875 : Exa Z h868 a825 "com/example/pathfold/pathfold/chi/IntList" := F861.keep K870
    have F879 : Fld Z h868 a825 "com/example/pathfold/pathfold/chi/IntList" "size" "I" (.int 2) := F872
    have F880 : Av Z h868 a839 .int ([.int x0, .int x1, .int 0, .int 0, .int 0, .int 0, .int 0, .int 0, .int 0, .int 0, .int 0, .int 0, .int 0, .int 0, .int 0, .int 0]) := F873
    refine C.iload at_68 rfl rfl ?_
    refine C.iconst 2 at_70 rfl rfl ?_
    refine C.icmp_le_f at_71 rfl (by decide) ?_
    refine C.aload at_74 rfl rfl rfl ?_
    refine C.iloadN at_76 rfl rfl ?_
    refine C.callV (argsL := [(.int x2)]) (rest := []) 0 (fun zz => con_add l Z a0 hw n0 h868 zz a825 a839 x2 2 ([.int x0, .int x1, .int 0, .int 0, .int 0, .int 0, .int 0, .int 0, .int 0, .int 0, .int 0, .int 0, .int 0, .int 0, .int 0, .int 0]) F875 F871 F879 F880 g831 g844 ne847 (by decide) (Nat.le_of_ble_eq_true rfl) (Nat.le_of_ble_eq_true rfl)) F875 at_77 rfl (tw hw 13 rfl) (tw hw 14 rfl) (tw hw 15 rfl) (tw hw 16 rfl) (tw hw 4 rfl) (tw hw 17 rfl) (by decide) pd_5 rfl rfl rfl (Nat.le_of_eq rfl) (by decide) (by decide) (by decide) (by decide) (fun v881 h882 r883 => ?_)
    obtain ⟨rfl, K884, F885, F886, F887⟩ := r883
    have F888 : Av Z h882 a798 .int ([.int x0, .int x1, .int x2, .int x3, .int x4]) := F874.keep K884 (ninS ne832 (ninS ne846 nin0))
    have F889 : Exa Z h882 a825 "com/example/pathfold/pathfold/chi/IntList" := F875.keep K884
    have F893 : Fld Z h882 a825 "com/example/pathfold/pathfold/chi/IntList" "size" "I" (.int 3) := F886
    have F894 : Av Z h882 a839 .int ([.int x0, .int x1, .int x2, .int 0, .int 0, .int 0, .int 0, .int 0, .int 0, .int 0, .int 0, .int 0, .int 0, .int 0, .int 0, .int 0]) := F887
    refine C.iload at_80 rfl rfl ?_
    refine C.iconst 3 at_82 rfl rfl ?_
    refine C.icmp_le_f at_83 rfl (by decide) ?_
    refine C.aload at_86 rfl rfl rfl ?_
    refine C.iloadN at_88 rfl rfl ?_
    refine C.callV (argsL := [(.int x3)]) (rest := []) 0 (fun zz => con_add l Z a0 hw n0 h882 zz a825 a839 x3 3 ([.int x0, .int x1, .int x2, .int 0, .int 0, .int 0, .int 0, .int 0, .int 0, .int 0, .int 0, .int 0, .int 0, .int 0, .int 0, .int 0]) F889 F885 F893 F894 g831 g844 ne847 (by decide) (Nat.le_of_ble_eq_true rfl) (Nat.le_of_ble_eq_true rfl)) F889 at_89 rfl (tw hw 13 rfl) (tw hw 14 rfl) (tw hw 15 rfl) (tw hw 16 rfl) (tw hw 4 rfl) (tw hw 17 rfl) (by decide) pd_5 rfl rfl rfl (Nat.le_of_eq rfl) (by decide) (by decide) (by decide) (by decide) (fun v895 h896 r897 => ?_)
    obtain ⟨rfl, K898, F899, F900, F901⟩ := r897
    have F902 : Av Z h896 a798 .int ([.int x0, .int x1, .int x2, .int x3, .int x4]) := F888.keep K898 (ninS ne832 (ninS ne846 nin0))
    have F903 : Exa Z h896 a825 "com/example/pathfold/pathfold/chi/IntList" := F889.keep K898
    have F907 : Fld Z h896 a825 "com/example/pathfold/pathfold/chi/IntList" "size" "I" (.int 4) := F900
    have F908 : Av Z h896 a839 .int ([.int x0, .int x1, .int x2, .int x3, .int 0, .int 0, .int 0, .int 0, .int 0, .int 0, .int 0, .int 0, .int 0, .int 0, .int 0, .int 0]) := F901
    refine C.iload at_92 rfl rfl ?_
    refine C.iconst 4 at_94 rfl rfl ?_
    refine C.icmp_le_f at_95 rfl (by decide) ?_
    refine C.aload at_98 rfl rfl rfl ?_
    refine C.iload at_100 rfl rfl ?_
    refine C.callV (argsL := [(.int x4)]) (rest := []) 0 (fun zz => con_add l Z a0 hw n0 h896 zz a825 a839 x4 4 ([.int x0, .int x1, .int x2, .int x3, .int 0, .int 0, .int 0, .int 0, .int 0, .int 0, .int 0, .int 0, .int 0, .int 0, .int 0, .int 0]) F903 F899 F907 F908 g831 g844 ne847 (by decide) (Nat.le_of_ble_eq_true rfl) (Nat.le_of_ble_eq_true rfl)) F903 at_102 rfl (tw hw 13 rfl) (tw hw 14 rfl) (tw hw 15 rfl) (tw hw 16 rfl) (tw hw 4 rfl) (tw hw 17 rfl) (by decide) pd_5 rfl rfl rfl (Nat.le_of_eq rfl) (by decide) (by decide) (by decide) (by decide) (fun v909 h910 r911 => ?_)
    obtain ⟨rfl, K912, F913, F914, F915⟩ := r911
    have F916 : Av Z h910 a798 .int ([.int x0, .int x1, .int x2, .int x3, .int x4]) := F902.keep K912 (ninS ne832 (ninS ne846 nin0))
    have F917 : Exa Z h910 a825 "com/example/pathfold/pathfold/chi/IntList" := F903.keep K912
    have F921 : Fld Z h910 a825 "com/example/pathfold/pathfold/chi/IntList" "size" "I" (.int 5) := F914
    have F922 : Av Z h910 a839 .int ([.int x0, .int x1, .int x2, .int x3, .int x4, .int 0, .int 0, .int 0, .int 0, .int 0, .int 0, .int 0, .int 0, .int 0, .int 0, .int 0]) := F915
    refine C.aload at_105 rfl rfl rfl ?_
    refine C.callV (argsL := []) (rest := []) 0 (fun zz => con_ta l Z a0 hw n0 h910 zz a825 a839 5 ([.int x0, .int x1, .int x2, .int x3, .int x4, .int 0, .int 0, .int 0, .int 0, .int 0, .int 0, .int 0, .int 0, .int 0, .int 0, .int 0]) F913 F921 F922 (by decide) (by decide) (show ¬ (5 : Int32) = (16 : Nat).toInt32 by decide) (Nat.le_of_ble_eq_true rfl)) F917 at_107 rfl (tw hw 20 rfl) (tw hw 21 rfl) (tw hw 22 rfl) (tw hw 23 rfl) (tw hw 4 rfl) (tw hw 24 rfl) (by decide) pd_3 rfl rfl rfl (Nat.le_of_eq rfl) (by decide) (by decide) (by decide) (by decide) (fun v923 h924 r925 => ?_)
    obtain ⟨a926, rfl, K927, g929, gz930, F928⟩ := r925
    have ne931 : a798 ≠ a926 := Nat.ne_of_lt (Nat.lt_of_lt_of_le F916.lt gz930)
    have ne932 : a825 ≠ a926 := Nat.ne_of_lt (Nat.lt_of_lt_of_le F917.lt gz930)
    have ne933 : a839 ≠ a926 := Nat.ne_of_lt (Nat.lt_of_lt_of_le F922.lt gz930)
    have F934 : Av Z h924 a798 .int ([.int x0, .int x1, .int x2, .int x3, .int x4]) := F916.keep K927 nin0
    have F935 : Exa Z h924 a825 "com/example/pathfold/pathfold/chi/IntList" := F917.keep K927
    have F936 : Fld Z h924 a825 "com/example/pathfold/pathfold/chi/IntList" "items" "[I" (.ref a839) := F913.keep K927 nin0
    have F937 : Fld Z h924 a825 "com/example/pathfold/pathfold/chi/IntList" "size" "I" (.int 5) := F921.keep K927 nin0
    have F938 : Av Z h924 a839 .int ([.int x0, .int x1, .int x2, .int x3, .int x4, .int 0, .int 0, .int 0, .int 0, .int 0, .int 0, .int 0, .int 0, .int 0, .int 0, .int 0]) := F922.keep K927 nin0
    have F939 : Av Z h924 a926 .int ([.int x0, .int x1, .int x2, .int x3, .int x4]) := F928
    refine C.astore (Ls' := #[.val (.int x0), .val (.int x1), .val (.int x2), .val (.int x3), .val (.int x4), .val (.int x5), .val (.int 5), .val (.ref a798), .val (.ref a825), .val (.ref a926), .unset, .unset]) at_110 rfl rfl rfl ?_
    refine C.aload at_112 rfl rfl rfl ?_
    refine C.ifnull_ref at_114 rfl ?_
    refine C.aload at_117 rfl rfl rfl ?_
    refine C.alen at_119 rfl F939 ?_
    show Go p l e room_1 s m #[(.int x0), (.int x1), (.int x2), (.int x3), (.int x4), (.int x5)] below meth c n0 (FinQ s n0 (Qcon0 Z n0 h0 x0 x1 x2 x3 x4 x5) room_1.cells room_1.slots) h924 4 28 120 #[.val (.int x0), .val (.int x1), .val (.int x2), .val (.int x3), .val (.int x4), .val (.int x5), .val (.int 5), .val (.ref a798), .val (.ref a825), .val (.ref a926), .unset, .unset] [(.int 5)]
    refine C.iload at_120 rfl rfl ?_
    refine C.icmp_eq_t at_122 (by decide) rfl (by decide) ?_
    refine C.aload at_127 rfl rfl rfl ?_
    refine C.aload at_129 rfl rfl rfl ?_
    refine C.iload at_131 rfl rfl ?_
    refine C.callS (argsL := [(.ref a926), (.ref a798), (.int 5)]) (rest := []) 0 (fun zz => con_m5 l Z a0 hw n0 h924 zz a926 a798 x0 x1 x2 x3 x4 F939 F934) at_133 rfl (tw hw 37 rfl) (tw hw 38 rfl) (tw hw 39 rfl) (tw hw 40 rfl) (by decide) pd_4 rfl rfl rfl (Nat.le_of_eq rfl) (by decide) (by decide) (by decide) (by decide) (fun v940 h941 r942 => ?_)
    obtain ⟨rfl, rfl⟩ := r942
    refine C.istore (Ls' := #[.val (.int x0), .val (.int x1), .val (.int x2), .val (.int x3), .val (.int x4), .val (.int x5), .val (.int 5), .val (.ref a798), .val (.ref a825), .val (.ref a926), .val (.int 1), .unset]) at_136 rfl rfl ?_
    refine C.iload at_138 rfl rfl ?_
    refine C.if_le_f at_140 rfl (by decide) ?_
    refine C.aload at_143 rfl rfl rfl ?_
    refine C.iconst 0 at_145 rfl rfl ?_
    refine C.aload at_146 rfl rfl rfl ?_
    refine C.iconst 0 at_148 rfl rfl ?_
    refine C.iaload (.int x0) at_149 rfl F939 (by decide) rfl ?_
    refine C.iconst (-1) at_150 rfl rfl ?_
    refine C.ixor at_151 rfl ?_
    refine C.iastore at_152 rfl F939 g929 (by decide) (Nat.le_of_ble_eq_true rfl) (fun h944 W945 F946 => ?_)
    have F947 : Av Z h944 a798 .int ([.int x0, .int x1, .int x2, .int x3, .int x4]) := F934.other W945 ne931
    have F948 : Exa Z h944 a825 "com/example/pathfold/pathfold/chi/IntList" := Exa.wr W945 F935
    have F949 : Fld Z h944 a825 "com/example/pathfold/pathfold/chi/IntList" "items" "[I" (.ref a839) := Fld.other W945 F936 (Or.inl ne932)
    have F950 : Fld Z h944 a825 "com/example/pathfold/pathfold/chi/IntList" "size" "I" (.int 5) := Fld.other W945 F937 (Or.inl ne932)
    have F951 : Av Z h944 a839 .int ([.int x0, .int x1, .int x2, .int x3, .int x4, .int 0, .int 0, .int 0, .int 0, .int 0, .int 0, .int 0, .int 0, .int 0, .int 0, .int 0]) := F938.other W945 ne933
    have F952 : Av Z h944 a926 .int ([.int (x0 ^^^ (-1 : Int32)), .int x1, .int x2, .int x3, .int x4]) := F946
    refine C.aload at_153 rfl rfl rfl ?_
    refine C.callV (argsL := []) (rest := []) 0 (fun zz => con_ta l Z a0 hw n0 h944 zz a825 a839 5 ([.int x0, .int x1, .int x2, .int x3, .int x4, .int 0, .int 0, .int 0, .int 0, .int 0, .int 0, .int 0, .int 0, .int 0, .int 0, .int 0]) F949 F950 F951 (by decide) (by decide) (show ¬ (5 : Int32) = (16 : Nat).toInt32 by decide) (Nat.le_of_ble_eq_true rfl)) F948 at_155 rfl (tw hw 20 rfl) (tw hw 21 rfl) (tw hw 22 rfl) (tw hw 23 rfl) (tw hw 4 rfl) (tw hw 24 rfl) (by decide) pd_3 rfl rfl rfl (Nat.le_of_eq rfl) (by decide) (by decide) (by decide) (by decide) (fun v953 h954 r955 => ?_)
    obtain ⟨a956, rfl, K957, g959, gz960, F958⟩ := r955
    have ne961 : a798 ≠ a956 := Nat.ne_of_lt (Nat.lt_of_lt_of_le F947.lt gz960)
    have ne962 : a825 ≠ a956 := Nat.ne_of_lt (Nat.lt_of_lt_of_le F948.lt gz960)
    have ne963 : a839 ≠ a956 := Nat.ne_of_lt (Nat.lt_of_lt_of_le F951.lt gz960)
    have ne964 : a926 ≠ a956 := Nat.ne_of_lt (Nat.lt_of_lt_of_le F952.lt gz960)
    have F965 : Av Z h954 a798 .int ([.int x0, .int x1, .int x2, .int x3, .int x4]) := F947.keep K957 nin0
    have F966 : Exa Z h954 a825 "com/example/pathfold/pathfold/chi/IntList" := F948.keep K957
    have F967 : Fld Z h954 a825 "com/example/pathfold/pathfold/chi/IntList" "items" "[I" (.ref a839) := F949.keep K957 nin0
    have F968 : Fld Z h954 a825 "com/example/pathfold/pathfold/chi/IntList" "size" "I" (.int 5) := F950.keep K957 nin0
    have F969 : Av Z h954 a839 .int ([.int x0, .int x1, .int x2, .int x3, .int x4, .int 0, .int 0, .int 0, .int 0, .int 0, .int 0, .int 0, .int 0, .int 0, .int 0, .int 0]) := F951.keep K957 nin0
    have F970 : Av Z h954 a926 .int ([.int (x0 ^^^ (-1 : Int32)), .int x1, .int x2, .int x3, .int x4]) := F952.keep K957 nin0
    have F971 : Av Z h954 a956 .int ([.int x0, .int x1, .int x2, .int x3, .int x4]) := F958
    refine C.astore (Ls' := #[.val (.int x0), .val (.int x1), .val (.int x2), .val (.int x3), .val (.int x4), .val (.int x5), .val (.int 5), .val (.ref a798), .val (.ref a825), .val (.ref a926), .val (.int 1), .val (.ref a956)]) at_158 rfl rfl rfl ?_
    refine C.aload at_160 rfl rfl rfl ?_
    refine C.ifnull_ref at_162 rfl ?_
    refine C.aload at_165 rfl rfl rfl ?_
    refine C.alen at_167 rfl F971 ?_
    show Go p l e room_1 s m #[(.int x0), (.int x1), (.int x2), (.int x3), (.int x4), (.int x5)] below meth c n0 (FinQ s n0 (Qcon0 Z n0 h0 x0 x1 x2 x3 x4 x5) room_1.cells room_1.slots) h954 5 33 168 #[.val (.int x0), .val (.int x1), .val (.int x2), .val (.int x3), .val (.int x4), .val (.int x5), .val (.int 5), .val (.ref a798), .val (.ref a825), .val (.ref a926), .val (.int 1), .val (.ref a956)] [(.int 5)]
    refine C.iload at_168 rfl rfl ?_
    refine C.icmp_eq_t at_170 (by decide) rfl (by decide) ?_
    refine C.iload at_175 rfl rfl ?_
    refine C.if_eq_f at_177 rfl (by decide) ?_
    refine C.aload at_180 rfl rfl rfl ?_
    refine C.aload at_182 rfl rfl rfl ?_
    refine C.iload at_184 rfl rfl ?_
    refine C.callS (argsL := [(.ref a956), (.ref a798), (.int 5)]) (rest := []) 0 (fun zz => con_m5 l Z a0 hw n0 h954 zz a956 a798 x0 x1 x2 x3 x4 F971 F965) at_186 rfl (tw hw 37 rfl) (tw hw 38 rfl) (tw hw 39 rfl) (tw hw 40 rfl) (by decide) pd_4 rfl rfl rfl (Nat.le_of_eq rfl) (by decide) (by decide) (by decide) (by decide) (fun v972 h973 r974 => ?_)
    obtain ⟨rfl, rfl⟩ := r974
    refine C.if_eq_f at_189 rfl (by decide) ?_
    refine C.iconst 1 at_192 rfl rfl ?_
    refine C.goto at_193 (by decide) rfl ?_
    exact C.retZ at_197 rfl (by decide) (by decide) ⟨rfl, trivial⟩
set_option maxRecDepth 65536 in
set_option maxHeartbeats 40000000 in
theorem comes_1 {Post : Tables → Env → Array Value → State → Outcome → State → Prop} (hpost : ∀ tb e args s v u, (limb_1_1.after args s (.returned v) u = true ∧ limb_1_2.after args s (.returned v) u = true ∧ True) → FrameEnd s (.returned v) u (Jvm.fieldLocs frame_1_writes args s ++ Jvm.arrayLocs frame_1_arrays args s ++ Jvm.staticLocs frame_1_statics s) 24 192 → Post tb e args s (.returned v) u) :
    ArmFor flags0 classFile x code maxLocals ret World_1 tables_1 room_1 Calls_1 rest_1 Pre_1 Post := by
  intro l hfl _ _ p e ha hc hk s m args below hf hA hF happ hP
  obtain ⟨hcalls, hrest, hpre⟩ := hP
  obtain ⟨-, -, -, hnamed, -, -, -, hat⟩ := (Spec.applies_iff hf).mp happ
  obtain ⟨hg, hn⟩ := and_e (Cond.before_iff.mp (show (Jvm.Cond.and given_1 narrow_1).before args s = true from hpre))
  obtain ⟨h1, h2⟩ := and_e hg
  obtain ⟨w0, w1, w2, w3, w4, w5, rfl⟩ : ∃ w0 w1 w2 w3 w4 w5 : Value, args = #[w0, w1, w2, w3, w4, w5] := by
    have hs : args.size = 6 := by simpa [Cond.value, given_1] using h1
    obtain ⟨L⟩ := args
    match L, hs with
    | [w0, w1, w2, w3, w4, w5], _ => exact ⟨w0, w1, w2, w3, w4, w5, rfl⟩
  have hw := fun d (hd : d ∈ tables_1) => atoms_spec (ws := Jvm.Cond.code x code maxLocals ret :: tables_1) hat d (List.mem_cons_of_mem _ hd)
  obtain ⟨u0, t0⟩ := and_e h2
  obtain ⟨i0, e0⟩ := is_v u0
  obtain rfl : w0 = (.int i0) := Option.some.inj e0
  obtain ⟨u1, t1⟩ := and_e t0
  obtain ⟨i1, e1⟩ := is_v u1
  obtain rfl : w1 = (.int i1) := Option.some.inj e1
  obtain ⟨u2, t2⟩ := and_e t1
  obtain ⟨i2, e2⟩ := is_v u2
  obtain rfl : w2 = (.int i2) := Option.some.inj e2
  obtain ⟨u3, t3⟩ := and_e t2
  obtain ⟨i3, e3⟩ := is_v u3
  obtain rfl : w3 = (.int i3) := Option.some.inj e3
  obtain ⟨u4, t4⟩ := and_e t3
  obtain ⟨i4, e4⟩ := is_v u4
  obtain rfl : w4 = (.int i4) := Option.some.inj e4
  obtain ⟨i5, e5⟩ := is_v t4
  obtain rfl : w5 = (.int i5) := Option.some.inj e5
  obtain ⟨n, o, h1, h2, h3, _, L, rfl, ⟨⟨rfl, -⟩, N⟩, hq⟩ := con0 l s _ hw s.heap.size s.heap (Nat.le_refl _) i0 i1 i2 i3 i4 i5 p e ha hc hk s m _ below hf ((Spec.applies_iff_loose hf).mp happ).1 ⟨rfl, State.Warmed39.refl s, rfl⟩ trivial
  refine ⟨n, _, h1, h2, h3, hpost _ _ _ _ _ _ ⟨Cond.after_iff.mpr rfl, Cond.after_iff.mpr (eq_i res_at (Term.int_eval (1)) rfl), trivial⟩ ⟨hq.1, hq.2.1, (hq.2.2.sift fun y hy => Or.inr (N y hy)).mono (by decide) (by decide)⟩⟩
theorem main_1_1 : Claimed_1_1 := comes_1 fun _ _ _ _ _ _ h hF => ⟨h.1, hF⟩
theorem main_1_2 : Claimed_1_2 := comes_1 fun _ _ _ _ _ _ h hF => ⟨h.2.1, hF⟩
end Jvm.Pilot.@@N@@
namespace Jvm.Pilot.@@N@@
open Jvm Jvm.ClassFile Sem Op Lib Jvm.Free Jvm.Stand Jvm.Pilot.@@N@@.Jvm.D
/-! MADE BY PROGRAM (witnessworld.py) out of the Statement's table words and the real class files: 12 classes; the members and pool entries that the words name. The judged class is class 1, her method 1. -/
namespace start1
open Jvm.ClassFile
def u (s : String) : CpInfo := .utf8 (stringToUtf16 s)
/-- a pool by its gaps: so many unusable entries, then the entry; so many at the end -/
def gap : Nat → List CpInfo → List CpInfo
  | 0, r => r
  | n + 1, r => .unusable :: gap n r
def poolList (es : List (Nat × CpInfo)) (last : Nat) : List CpInfo := es.foldr (fun e r => gap e.1 (e.2 :: r)) (gap last [])
def pool (es : List (Nat × CpInfo)) (last : Nat) : Array CpInfo := ⟨poolList es last⟩
def fileOf (pool : Array CpInfo) (this : Nat) (attrs : Array Attribute := #[]) (ms : Array MethodInfo := #[]) (fl : Nat := 33) (sup : Nat := 0) (ifs : Array Nat := #[]) (fds : Array FieldInfo := #[]) : ClassFile where
  minorVersion := 0
  majorVersion := 65
  constantPool := pool
  accessFlags := fl
  thisClass := this
  superClass := sup
  interfaces := ifs
  fields := fds
  methods := ms
  attributes := attrs
def plain (name : String) (sup : Option ClassId) : Class where
  name := name
  kind := .ordinary
  loader := none
  accessFlags := 33
  super := sup
  interfaces := #[]
  cf := none
  fields := #[]
  methods := #[]
  instanceTypes := #[]
  staticTypes := #[]
  resolved := #[]
  callSites := []
  init := .initialized
  statics := none
  mirror := none

def pool0 : Array CpInfo := pool [(5, u "<init>"), (0, u "()V"), (1, .class_ 10), (1, u "java/lang/Object")] 113

def k0c0 : Code := { maxStack := 0, maxLocals := 1, code := object_method_1_code, exceptionTable := #[], attributes := #[] }
def k0m0 : Method := { name := "<init>", desc := "()V", sig := { parameters := [], returnType := none }, accessFlags := 1, code := some k0c0 }
/-- java/lang/Object -/
def k0 : Class := { plain "java/lang/Object" none with
  accessFlags := 33
  interfaces := #[]
  cf := some (fileOf pool0 8 #[] #[{ accessFlags := 1, nameIndex := 5, descriptorIndex := 6, attributes := #[] }] 33 0 #[] #[])
  fields := #[]
  methods := #[k0m0]
  instanceTypes := #[]
  staticTypes := #[]
  resolved := Array.replicate 124 none
  statics := none }

def pool1 : Array CpInfo := pool [(2, .class_ 4), (0, .nameAndType 5 6), (0, u "java/lang/Object"), (0, u "<init>"), (0, u "()V"), (0, .integer 2147483647), (0, .class_ 9), (0, u "com/example/pathfold/pathfold/chi/IntList"), (0, .methodref 8 3), (0, .methodref 8 12), (0, .nameAndType 13 14), (0, u "add"), (0, u "(I)V"), (0, .methodref 8 16), (0, .nameAndType 17 18), (0, u "toArray"), (0, u "()[I"), (0, .methodref 20 21), (0, .class_ 22), (0, .nameAndType 23 24), (0, u "com/example/pathfold/pathfold/chi/IntListToArrayPinLaw"), (0, u "matches"), (0, u "([I[II)Z"), (2, u "law"), (0, u "(IIIIII)Z")] 5

def k1m0 : Method := { name := "<init>", desc := "()V", sig := { parameters := [], returnType := none }, accessFlags := 1, code := none }
def k1c1 : Code := { maxStack := 4, maxLocals := 12, code := code, exceptionTable := #[], attributes := #[] }
def k1m1 : Method := { name := "law", desc := "(IIIIII)Z", sig := { parameters := [.int, .int, .int, .int, .int, .int], returnType := some .boolean }, accessFlags := 9, code := some k1c1 }
def k1c2 : Code := { maxStack := 3, maxLocals := 3, code := method_3_code, exceptionTable := #[], attributes := #[] }
def k1m2 : Method := { name := "matches", desc := "([I[II)Z", sig := { parameters := [(.array .int), (.array .int), .int], returnType := some .boolean }, accessFlags := 10, code := some k1c2 }
/-- com/example/pathfold/pathfold/chi/IntListToArrayPinLaw -/
def k1 : Class := { plain "com/example/pathfold/pathfold/chi/IntListToArrayPinLaw" (some 0) with
  accessFlags := 49
  interfaces := #[]
  cf := some (fileOf pool1 20 #[] #[{ accessFlags := 1, nameIndex := 5, descriptorIndex := 6, attributes := #[] }, { accessFlags := 9, nameIndex := 27, descriptorIndex := 28, attributes := #[] }, { accessFlags := 10, nameIndex := 23, descriptorIndex := 24, attributes := #[] }] 49 2 #[] #[])
  fields := #[]
  methods := #[k1m0, k1m1, k1m2]
  instanceTypes := #[]
  staticTypes := #[]
  resolved := Array.replicate 34 none
  statics := none }

def pool2 : Array CpInfo := pool [(1, .methodref 2 3), (0, .class_ 4), (0, .nameAndType 5 6), (0, u "java/lang/Object"), (0, u "<init>"), (0, u "()V"), (0, .fieldref 8 9), (0, .class_ 10), (0, .nameAndType 11 12), (0, u "com/example/pathfold/pathfold/chi/IntList"), (0, u "items"), (0, u "[I"), (0, .fieldref 8 14), (0, .nameAndType 15 16), (0, u "size"), (0, u "I"), (6, .methodref 24 25), (0, .class_ 26), (0, .nameAndType 27 28), (0, u "java/util/Arrays"), (0, u "copyOf"), (0, u "([II)[I"), (2, u "add"), (0, u "(I)V"), (4, u "toArray"), (0, u "()[I")] 2

def k2c0 : Code := { maxStack := 2, maxLocals := 1, code := prog_7_method_1_code, exceptionTable := #[], attributes := #[] }
def k2m0 : Method := { name := "<init>", desc := "()V", sig := { parameters := [], returnType := none }, accessFlags := 0, code := some k2c0 }
def k2c1 : Code := { maxStack := 5, maxLocals := 2, code := prog_7_method_2_code, exceptionTable := #[], attributes := #[] }
def k2m1 : Method := { name := "add", desc := "(I)V", sig := { parameters := [.int], returnType := none }, accessFlags := 0, code := some k2c1 }
def k2c2 : Code := { maxStack := 2, maxLocals := 1, code := prog_7_method_5_code, exceptionTable := #[], attributes := #[] }
def k2m2 : Method := { name := "toArray", desc := "()[I", sig := { parameters := [], returnType := some (.array .int) }, accessFlags := 0, code := some k2c2 }
/-- com/example/pathfold/pathfold/chi/IntList -/
def k2 : Class := { plain "com/example/pathfold/pathfold/chi/IntList" (some 0) with
  accessFlags := 48
  interfaces := #[]
  cf := some (fileOf pool2 8 #[] #[{ accessFlags := 0, nameIndex := 5, descriptorIndex := 6, attributes := #[] }, { accessFlags := 0, nameIndex := 31, descriptorIndex := 32, attributes := #[] }, { accessFlags := 0, nameIndex := 37, descriptorIndex := 38, attributes := #[] }] 48 2 #[] #[{ accessFlags := 2, nameIndex := 11, descriptorIndex := 12, attributes := #[] }, { accessFlags := 2, nameIndex := 15, descriptorIndex := 16, attributes := #[] }])
  fields := #[{ name := "items", type := (.array .int), accessFlags := 2, slot := 0, constantValue := 0 }, { name := "size", type := .int, accessFlags := 2, slot := 1, constantValue := 0 }]
  methods := #[k2m0, k2m1, k2m2]
  instanceTypes := #[(.array .int), .int]
  staticTypes := #[]
  resolved := Array.replicate 41 none
  statics := none }

def pool3 : Array CpInfo := pool [(2, .class_ 4), (1, u "java/lang/Object"), (0, u "<init>"), (0, u "()V"), (7, .class_ 16), (1, u "java/util/Arrays"), (57, .class_ 76), (1, u "java/util/Arrays$NaturalOrder"), (36, .class_ 115), (1, u "java/util/Arrays$LegacyMergeSort"), (1, u "Z"), (32, .methodref 151 152), (0, .class_ 153), (0, .nameAndType 154 155), (0, u "java/lang/System"), (0, u "arraycopy"), (0, u "(Ljava/lang/Object;ILjava/lang/Object;II)V"), (146, u "copyOf"), (1, .methodref 305 306), (0, .class_ 307), (0, .nameAndType 308 309), (0, u "java/lang/Math"), (0, u "min"), (0, u "(II)I"), (65, .class_ 376), (0, u "java/util/Arrays$ArrayList"), (68, u "$assertionsDisabled"), (269, u "MIN_ARRAY_SORT_GRAN"), (0, u "I"), (2, u "INSERTIONSORT_THRESHOLD"), (151, u "([II)[I"), (103, .class_ 976), (0, u "java/util/Arrays$ArrayItr")] 52

def k3m0 : Method := { name := "<init>", desc := "()V", sig := { parameters := [], returnType := none }, accessFlags := 2, code := none }
def k3c1 : Code := { maxStack := 6, maxLocals := 3, code := jdk_65_method_123_code, exceptionTable := #[], attributes := #[] }
def k3m1 : Method := { name := "copyOf", desc := "([II)[I", sig := { parameters := [(.array .int), .int], returnType := some (.array .int) }, accessFlags := 9, code := some k3c1 }
/-- java/util/Arrays -/
def k3 : Class := { plain "java/util/Arrays" (some 0) with
  accessFlags := 49
  interfaces := #[]
  cf := some (fileOf pool3 14 #[.nestMembers #[975, 375, 113, 74]] #[{ accessFlags := 2, nameIndex := 5, descriptorIndex := 6, attributes := #[] }, { accessFlags := 9, nameIndex := 302, descriptorIndex := 871, attributes := #[] }] 49 2 #[] #[{ accessFlags := 26, nameIndex := 715, descriptorIndex := 716, attributes := #[] }, { accessFlags := 26, nameIndex := 719, descriptorIndex := 716, attributes := #[] }, { accessFlags := 4120, nameIndex := 445, descriptorIndex := 117, attributes := #[] }])
  fields := #[{ name := "MIN_ARRAY_SORT_GRAN", type := .int, accessFlags := 26, slot := 0, constantValue := 0 }, { name := "INSERTIONSORT_THRESHOLD", type := .int, accessFlags := 26, slot := 1, constantValue := 0 }, { name := "$assertionsDisabled", type := .boolean, accessFlags := 4120, slot := 2, constantValue := 0 }]
  methods := #[k3m0, k3m1]
  instanceTypes := #[]
  staticTypes := #[.int, .int, .boolean]
  resolved := Array.replicate 1029 none
  statics := none }

def pool4 : Array CpInfo := pool [(1, .class_ 2), (0, u "java/lang/Math"), (1, .class_ 6), (1, u "java/lang/Object"), (0, u "<init>"), (0, u "()V"), (89, .class_ 100), (1, u "java/lang/Math$RandomNumberGeneratorHolder"), (71, u "negativeZeroFloatBits"), (0, u "J"), (2, u "negativeZeroDoubleBits"), (24, u "min"), (43, u "$assertionsDisabled"), (0, u "Z"), (88, u "(II)I"), (2, u "twoToTheDoubleScaleDown"), (0, u "D"), (4, u "twoToTheDoubleScaleUp"), (9, u "E"), (3, u "PI"), (2, u "TAU"), (2, u "DEGREES_TO_RADIANS"), (0, u "RADIANS_TO_DEGREES")] 94

def k4m0 : Method := { name := "<init>", desc := "()V", sig := { parameters := [], returnType := none }, accessFlags := 2, code := none }
def k4c1 : Code := { maxStack := 2, maxLocals := 2, code := jdk_29_method_69_code, exceptionTable := #[], attributes := #[] }
def k4m1 : Method := { name := "min", desc := "(II)I", sig := { parameters := [.int, .int], returnType := some .int }, accessFlags := 9, code := some k4c1 }
/-- java/lang/Math -/
def k4 : Class := { plain "java/lang/Math" (some 0) with
  accessFlags := 49
  interfaces := #[]
  cf := some (fileOf pool4 1 #[.nestMembers #[98]] #[{ accessFlags := 2, nameIndex := 7, descriptorIndex := 8, attributes := #[] }, { accessFlags := 9, nameIndex := 201, descriptorIndex := 335, attributes := #[] }] 49 4 #[] #[{ accessFlags := 25, nameIndex := 354, descriptorIndex := 339, attributes := #[] }, { accessFlags := 25, nameIndex := 358, descriptorIndex := 339, attributes := #[] }, { accessFlags := 25, nameIndex := 361, descriptorIndex := 339, attributes := #[] }, { accessFlags := 26, nameIndex := 364, descriptorIndex := 339, attributes := #[] }, { accessFlags := 26, nameIndex := 365, descriptorIndex := 339, attributes := #[] }, { accessFlags := 26, nameIndex := 172, descriptorIndex := 173, attributes := #[] }, { accessFlags := 26, nameIndex := 176, descriptorIndex := 173, attributes := #[] }, { accessFlags := 8, nameIndex := 344, descriptorIndex := 339, attributes := #[] }, { accessFlags := 8, nameIndex := 338, descriptorIndex := 339, attributes := #[] }, { accessFlags := 4120, nameIndex := 245, descriptorIndex := 246, attributes := #[] }])
  fields := #[{ name := "E", type := .double, accessFlags := 25, slot := 0, constantValue := 0 }, { name := "PI", type := .double, accessFlags := 25, slot := 1, constantValue := 0 }, { name := "TAU", type := .double, accessFlags := 25, slot := 2, constantValue := 0 }, { name := "DEGREES_TO_RADIANS", type := .double, accessFlags := 26, slot := 3, constantValue := 0 }, { name := "RADIANS_TO_DEGREES", type := .double, accessFlags := 26, slot := 4, constantValue := 0 }, { name := "negativeZeroFloatBits", type := .long, accessFlags := 26, slot := 5, constantValue := 0 }, { name := "negativeZeroDoubleBits", type := .long, accessFlags := 26, slot := 6, constantValue := 0 }, { name := "twoToTheDoubleScaleUp", type := .double, accessFlags := 8, slot := 7, constantValue := 0 }, { name := "twoToTheDoubleScaleDown", type := .double, accessFlags := 8, slot := 8, constantValue := 0 }, { name := "$assertionsDisabled", type := .boolean, accessFlags := 4120, slot := 9, constantValue := 0 }]
  methods := #[k4m0, k4m1]
  instanceTypes := #[]
  staticTypes := #[.double, .double, .double, .double, .double, .long, .long, .double, .double, .boolean]
  resolved := Array.replicate 460 none
  statics := none }

def pool5 : Array CpInfo := pool [(2, .class_ 4), (1, u "java/lang/Object"), (0, u "<init>"), (0, u "()V"), (1, .class_ 10), (1, u "java/lang/System"), (0, u "allowSecurityManager"), (0, u "I"), (16, u "cons"), (0, u "Ljava/io/Console;"), (77, .class_ 110), (1, u "java/lang/System$CallersHolder"), (43, u "initialErrStream"), (0, u "Ljava/io/PrintStream;"), (19, u "security"), (0, u "Ljava/lang/SecurityManager;"), (31, .class_ 209), (0, u "java/lang/System$1"), (7, u "props"), (0, u "Ljava/util/Properties;"), (2, u "lineSeparator"), (0, u "Ljava/lang/String;"), (96, .class_ 321), (1, u "java/lang/System$LoggerFinder"), (5, .class_ 328), (0, u "java/lang/System$Logger"), (67, u "err"), (2, u "out"), (91, u "notSupportedJnuEncoding"), (15, u "in"), (17, u "initialIn"), (0, u "Ljava/io/InputStream;"), (35, u "bootLayer"), (0, u "Ljava/lang/ModuleLayer;"), (99, .class_ 664), (0, u "java/lang/System$2"), (9, u "NEVER"), (2, u "MAYBE"), (49, u "arraycopy"), (0, u "(Ljava/lang/Object;ILjava/lang/Object;II)V"), (72, .class_ 802), (0, u "java/lang/System$Logger$Level")] 31

def k5m0 : Method := { name := "<init>", desc := "()V", sig := { parameters := [], returnType := none }, accessFlags := 2, code := none }
def k5m1 : Method := { name := "arraycopy", desc := "(Ljava/lang/Object;ILjava/lang/Object;II)V", sig := { parameters := [(.object "java/lang/Object"), .int, (.object "java/lang/Object"), .int, .int], returnType := none }, accessFlags := 265, code := none }
/-- java/lang/System -/
def k5 : Class := { plain "java/lang/System" (some 0) with
  accessFlags := 49
  interfaces := #[]
  cf := some (fileOf pool5 8 #[.nestMembers #[319, 327, 801, 108, 663, 208]] #[{ accessFlags := 2, nameIndex := 5, descriptorIndex := 6, attributes := #[] }, { accessFlags := 265, nameIndex := 727, descriptorIndex := 728, attributes := #[] }] 49 2 #[] #[{ accessFlags := 25, nameIndex := 507, descriptorIndex := 526, attributes := #[] }, { accessFlags := 25, nameIndex := 399, descriptorIndex := 155, attributes := #[] }, { accessFlags := 25, nameIndex := 396, descriptorIndex := 155, attributes := #[] }, { accessFlags := 10, nameIndex := 525, descriptorIndex := 526, attributes := #[] }, { accessFlags := 26, nameIndex := 674, descriptorIndex := 12, attributes := #[] }, { accessFlags := 26, nameIndex := 677, descriptorIndex := 12, attributes := #[] }, { accessFlags := 10, nameIndex := 11, descriptorIndex := 12, attributes := #[] }, { accessFlags := 74, nameIndex := 175, descriptorIndex := 176, attributes := #[] }, { accessFlags := 10, nameIndex := 491, descriptorIndex := 222, attributes := #[] }, { accessFlags := 74, nameIndex := 29, descriptorIndex := 30, attributes := #[] }, { accessFlags := 74, nameIndex := 154, descriptorIndex := 155, attributes := #[] }, { accessFlags := 10, nameIndex := 217, descriptorIndex := 218, attributes := #[] }, { accessFlags := 10, nameIndex := 221, descriptorIndex := 222, attributes := #[] }, { accessFlags := 8, nameIndex := 562, descriptorIndex := 563, attributes := #[] }])
  fields := #[{ name := "in", type := (.object "java/io/InputStream"), accessFlags := 25, slot := 0, constantValue := 0 }, { name := "out", type := (.object "java/io/PrintStream"), accessFlags := 25, slot := 1, constantValue := 0 }, { name := "err", type := (.object "java/io/PrintStream"), accessFlags := 25, slot := 2, constantValue := 0 }, { name := "initialIn", type := (.object "java/io/InputStream"), accessFlags := 10, slot := 3, constantValue := 0 }, { name := "NEVER", type := .int, accessFlags := 26, slot := 4, constantValue := 0 }, { name := "MAYBE", type := .int, accessFlags := 26, slot := 5, constantValue := 0 }, { name := "allowSecurityManager", type := .int, accessFlags := 10, slot := 6, constantValue := 0 }, { name := "security", type := (.object "java/lang/SecurityManager"), accessFlags := 74, slot := 7, constantValue := 0 }, { name := "notSupportedJnuEncoding", type := (.object "java/lang/String"), accessFlags := 10, slot := 8, constantValue := 0 }, { name := "cons", type := (.object "java/io/Console"), accessFlags := 74, slot := 9, constantValue := 0 }, { name := "initialErrStream", type := (.object "java/io/PrintStream"), accessFlags := 74, slot := 10, constantValue := 0 }, { name := "props", type := (.object "java/util/Properties"), accessFlags := 10, slot := 11, constantValue := 0 }, { name := "lineSeparator", type := (.object "java/lang/String"), accessFlags := 10, slot := 12, constantValue := 0 }, { name := "bootLayer", type := (.object "java/lang/ModuleLayer"), accessFlags := 8, slot := 13, constantValue := 0 }]
  methods := #[k5m0, k5m1]
  instanceTypes := #[]
  staticTypes := #[(.object "java/io/InputStream"), (.object "java/io/PrintStream"), (.object "java/io/PrintStream"), (.object "java/io/InputStream"), .int, .int, .int, (.object "java/lang/SecurityManager"), (.object "java/lang/String"), (.object "java/io/Console"), (.object "java/io/PrintStream"), (.object "java/util/Properties"), (.object "java/lang/String"), (.object "java/lang/ModuleLayer")]
  resolved := Array.replicate 834 none
  statics := none }

def pool6 : Array CpInfo := pool [(1, u "java/lang/Cloneable"), (0, .class_ 1), (0, u "java/lang/Object"), (0, .class_ 3)] 3

/-- java/lang/Cloneable -/
def k6 : Class := { plain "java/lang/Cloneable" (some 0) with
  accessFlags := 1537
  interfaces := #[]
  cf := some (fileOf pool6 2 #[] #[] 1537 4 #[] #[])
  fields := #[]
  methods := #[]
  instanceTypes := #[]
  staticTypes := #[]
  resolved := Array.replicate 8 none
  statics := none }

def pool7 : Array CpInfo := pool [(1, u "java/io/Serializable"), (0, .class_ 1), (0, u "java/lang/Object"), (0, .class_ 3)] 3

/-- java/io/Serializable -/
def k7 : Class := { plain "java/io/Serializable" (some 0) with
  accessFlags := 1537
  interfaces := #[]
  cf := some (fileOf pool7 2 #[] #[] 1537 4 #[] #[])
  fields := #[]
  methods := #[]
  instanceTypes := #[]
  staticTypes := #[]
  resolved := Array.replicate 8 none
  statics := none }

/-- the primitive byte -/
def k8 : Class := { plain "byte" none with kind := .primitive 'B', accessFlags := 0x411 }
/-- [B -/
def k9 : Class := { plain "[B" (some 0) with kind := .array 8 .byte, interfaces := #[6, 7], accessFlags := 1041 }

/-- the primitive int -/
def k10 : Class := { plain "int" none with kind := .primitive 'I', accessFlags := 0x411 }
/-- [I -/
def k11 : Class := { plain "[I" (some 0) with kind := .array 10 .int, interfaces := #[6, 7], accessFlags := 1041 }

def heap : Heap := #[]
def classes : Array Class := #[k0, k1, k2, k3, k4, k5, k6, k7, k8, k9, k10, k11]
def interned : List (Array UInt16 × Addr) := []
def slotsUsed : Nat := 0
def theMethod : MethodId := ⟨1, 1⟩
def args0 : Array Value := #[.int 0, .int 1, .int 2, .int 3, .int 4, .int 5]
def aboutOver (below : List Frame) : State where
  vm := { classes := classes, interned := interned.toArray }
  heap := heap
  slotsUsed := slotsUsed
  threads := #[{ frames := .invoking theMethod args0 :: below }]
def below0 : List Frame := [.native { method := ⟨0, 0⟩, args := #[] }]
def about1 : State := aboutOver below0
def p0 : Program := .bare "" "" ""
def e0 : Env := launch0.env 0 0 0
theorem w_frames : about1.frames = Frame.invoking theMethod args0 :: below0 := rfl
set_option maxRecDepth 65536 in
theorem w_args : argsFit about1.vm theMethod args0 = true := by decide +kernel
set_option maxRecDepth 65536 in
theorem w_heap : heapFits about1 = true := by decide +kernel
set_option maxRecDepth 65536 in
theorem w_runnable : about1.curStatus? = some .runnable := by decide +kernel
set_option maxRecDepth 65536 in
theorem w_alone : about1.alone = true := by decide +kernel
set_option maxRecDepth 65536 in
theorem w_named : about1.methodNamed? x = some theMethod := by decide +kernel
set_option maxRecDepth 65536 in
theorem w_hears : about1.hears theMethod below0 = true := by decide +kernel
set_option maxRecDepth 65536 in
theorem w_ripe : about1.ripe theMethod args0 below0 = true := by decide +kernel
theorem w_running : about1.status = .running := rfl
set_option maxRecDepth 65536 in
theorem w_room : about1.hasRoom e0.platform room_1 = true :=
  launch0.hasRoom_least _ room_1 (by decide +kernel) (by decide +kernel) (by decide +kernel) (by decide +kernel) (by decide +kernel) (by decide +kernel)
theorem allAtoms_all (ts : List Jvm.Cond) (a : Array Jvm.Value) (st : Jvm.State) : (allAtoms ts).before a st = ts.all (fun c => c.before a st) := by
  induction ts with
  | nil => rfl
  | cons c t ih =>
    show (Jvm.Cond.and c (allAtoms t)).before a st = _
    rw [Jvm.Cond.before_and, ih, List.all_cons]
def words1 : List Jvm.Cond := Jvm.Cond.code x code maxLocals ret :: tables_1
/-- a 'code' word, met by the world's own term for the bytes: nothing is compared byte by byte -/
theorem code_word {y : MethodName} {bytes : ByteArray} {mx : Nat} {rt : Option FieldType} {a : Array Value} {s : State} {m : MethodId} {meth : Method} {c : Code} (h1 : s.methodNamed? y = some m) (h2 : s.vm.method? m = some meth) (h3 : meth.code = some c) (h4 : c.code = bytes)
    (h5 : (c.maxLocals == mx && c.exceptionTable.isEmpty && decide (c.maxStack ≤ mostOperands) && decide (meth.sig.returnType = rt) && !meth.locks && decide (parseMethodDescriptor y.desc = some meth.sig)) = true) : (Jvm.Cond.code y bytes mx rt).before a s = true := by
  simp only [Bool.and_eq_true, beq_iff_eq, Bool.not_eq_true', decide_eq_true_eq] at h5
  obtain ⟨⟨⟨⟨⟨g1, g2⟩, g3⟩, g4⟩, g5⟩, g6⟩ := h5
  simp [Cond.before, Cond.holds, Cond.value, h1, h2, h3, h4, g1, g2, g3, g4, g5, g6]
def isCode : Jvm.Cond → Bool
  | .code _ _ _ _ => true
  | _ => false
theorem all_split {L : List Jvm.Cond} {P : Jvm.Cond → Bool} (h1 : L.all (fun c => isCode c || P c) = true) (h2 : ∀ c ∈ L.filter isCode, P c = true) : L.all P = true := by
  refine List.all_eq_true.mpr fun c hc => ?_
  have h := List.all_eq_true.mp h1 c hc
  rcases Bool.eq_false_or_eq_true (isCode c) with hi | hi
  · exact h2 c (List.mem_filter.mpr ⟨hc, hi⟩)
  · simpa [hi] using h
set_option maxRecDepth 65536 in
theorem w_c0 : (Jvm.Cond.code x code maxLocals ret).before args0 about1 = true := code_word (m := ⟨1, 1⟩) (meth := k1m1) (c := k1c1) (by decide +kernel) rfl rfl rfl (by decide +kernel)
set_option maxRecDepth 65536 in
theorem w_c1 : (Jvm.Cond.code ({ cls := "com/example/pathfold/pathfold/chi/IntList", name := "<init>", desc := "()V" } : Jvm.MethodName) prog_7_method_1_code (1 : Nat) (Option.none : Option Jvm.ClassFile.FieldType)).before args0 about1 = true := code_word (m := ⟨2, 0⟩) (meth := k2m0) (c := k2c0) (by decide +kernel) rfl rfl rfl (by decide +kernel)
set_option maxRecDepth 65536 in
theorem w_c2 : (Jvm.Cond.code ({ cls := "java/lang/Object", name := "<init>", desc := "()V" } : Jvm.MethodName) object_method_1_code (1 : Nat) (Option.none : Option Jvm.ClassFile.FieldType)).before args0 about1 = true := code_word (m := ⟨0, 0⟩) (meth := k0m0) (c := k0c0) (by decide +kernel) rfl rfl rfl (by decide +kernel)
set_option maxRecDepth 65536 in
theorem w_c3 : (Jvm.Cond.code ({ cls := "com/example/pathfold/pathfold/chi/IntList", name := "add", desc := "(I)V" } : Jvm.MethodName) prog_7_method_2_code (2 : Nat) (Option.none : Option Jvm.ClassFile.FieldType)).before args0 about1 = true := code_word (m := ⟨2, 1⟩) (meth := k2m1) (c := k2c1) (by decide +kernel) rfl rfl rfl (by decide +kernel)
set_option maxRecDepth 65536 in
theorem w_c4 : (Jvm.Cond.code ({ cls := "com/example/pathfold/pathfold/chi/IntList", name := "toArray", desc := "()[I" } : Jvm.MethodName) prog_7_method_5_code (1 : Nat) (Option.some (Jvm.ClassFile.FieldType.array Jvm.ClassFile.FieldType.int))).before args0 about1 = true := code_word (m := ⟨2, 2⟩) (meth := k2m2) (c := k2c2) (by decide +kernel) rfl rfl rfl (by decide +kernel)
set_option maxRecDepth 65536 in
theorem w_c5 : (Jvm.Cond.code ({ cls := "java/util/Arrays", name := "copyOf", desc := "([II)[I" } : Jvm.MethodName) jdk_65_method_123_code (3 : Nat) (Option.some (Jvm.ClassFile.FieldType.array Jvm.ClassFile.FieldType.int))).before args0 about1 = true := code_word (m := ⟨3, 1⟩) (meth := k3m1) (c := k3c1) (by decide +kernel) rfl rfl rfl (by decide +kernel)
set_option maxRecDepth 65536 in
theorem w_c6 : (Jvm.Cond.code ({ cls := "java/lang/Math", name := "min", desc := "(II)I" } : Jvm.MethodName) jdk_29_method_69_code (2 : Nat) (Option.some Jvm.ClassFile.FieldType.int)).before args0 about1 = true := code_word (m := ⟨4, 1⟩) (meth := k4m1) (c := k4c1) (by decide +kernel) rfl rfl rfl (by decide +kernel)
set_option maxRecDepth 65536 in
theorem w_c7 : (Jvm.Cond.code ({ cls := "com/example/pathfold/pathfold/chi/IntListToArrayPinLaw", name := "matches", desc := "([I[II)Z" } : Jvm.MethodName) method_3_code (3 : Nat) (Option.some Jvm.ClassFile.FieldType.boolean)).before args0 about1 = true := code_word (m := ⟨1, 2⟩) (meth := k1m2) (c := k1c2) (by decide +kernel) rfl rfl rfl (by decide +kernel)
def codes1 : List Jvm.Cond := [Jvm.Cond.code x code maxLocals ret, Jvm.Cond.code ({ cls := "com/example/pathfold/pathfold/chi/IntList", name := "<init>", desc := "()V" } : Jvm.MethodName) prog_7_method_1_code (1 : Nat) (Option.none : Option Jvm.ClassFile.FieldType), Jvm.Cond.code ({ cls := "java/lang/Object", name := "<init>", desc := "()V" } : Jvm.MethodName) object_method_1_code (1 : Nat) (Option.none : Option Jvm.ClassFile.FieldType), Jvm.Cond.code ({ cls := "com/example/pathfold/pathfold/chi/IntList", name := "add", desc := "(I)V" } : Jvm.MethodName) prog_7_method_2_code (2 : Nat) (Option.none : Option Jvm.ClassFile.FieldType), Jvm.Cond.code ({ cls := "com/example/pathfold/pathfold/chi/IntList", name := "toArray", desc := "()[I" } : Jvm.MethodName) prog_7_method_5_code (1 : Nat) (Option.some (Jvm.ClassFile.FieldType.array Jvm.ClassFile.FieldType.int)), Jvm.Cond.code ({ cls := "java/util/Arrays", name := "copyOf", desc := "([II)[I" } : Jvm.MethodName) jdk_65_method_123_code (3 : Nat) (Option.some (Jvm.ClassFile.FieldType.array Jvm.ClassFile.FieldType.int)), Jvm.Cond.code ({ cls := "java/lang/Math", name := "min", desc := "(II)I" } : Jvm.MethodName) jdk_29_method_69_code (2 : Nat) (Option.some Jvm.ClassFile.FieldType.int), Jvm.Cond.code ({ cls := "com/example/pathfold/pathfold/chi/IntListToArrayPinLaw", name := "matches", desc := "([I[II)Z" } : Jvm.MethodName) method_3_code (3 : Nat) (Option.some Jvm.ClassFile.FieldType.boolean)]
set_option maxRecDepth 65536 in
theorem codes_eq : words1.filter isCode = codes1 := rfl
theorem w_codes : ∀ c ∈ words1.filter isCode, c.before args0 about1 = true := by
  rw [codes_eq]
  intro c hc
  simp only [codes1, List.mem_cons, List.not_mem_nil, or_false] at hc
  rcases hc with rfl | rfl | rfl | rfl | rfl | rfl | rfl | rfl
  · exact w_c0
  · exact w_c1
  · exact w_c2
  · exact w_c3
  · exact w_c4
  · exact w_c5
  · exact w_c6
  · exact w_c7
set_option maxRecDepth 65536 in
theorem w_t1 : (words1.take 24).all (fun c => isCode c || c.before args0 about1) = true := by decide +kernel
set_option maxRecDepth 65536 in
theorem w_t2 : (words1.drop 24).all (fun c => isCode c || c.before args0 about1) = true := by decide +kernel
theorem w_tables : (allAtoms (Jvm.Cond.code x code maxLocals ret :: tables_1)).before args0 about1 = true := by
  rw [allAtoms_all]
  show words1.all (fun c => c.before args0 about1) = true
  refine all_split ?_ w_codes
  rw [← List.take_append_drop 24 words1, List.all_append, w_t1, w_t2]
  rfl
set_option maxRecDepth 65536 in
theorem w_case : (Jvm.Cond.and given_1 narrow_1).before args0 about1 = true := by decide +kernel
theorem w_applies : (headSpec (Jvm.Cond.code x code maxLocals ret :: tables_1) room_1).applies x e0.platform about1 = true :=
  (Spec.applies_iff w_frames).mpr ⟨w_running, w_runnable, w_alone, w_named, w_hears, w_ripe, w_room, w_tables⟩
theorem atStart : AtStart classFile x code maxLocals ret World_1 tables_1 room_1 Calls_1 rest_1 Pre_1 launch0 p0 e0 about1 theMethod args0 below0 :=
  ⟨lists_1, trivial, launch0.admits_env _ _ _, launch0.least_env, fairChoices_fair.cas, fairChoices_fair.clock, w_frames, w_args, w_heap, w_applies, trivial, trivial, w_case⟩
end start1
theorem witness_1 : WitnessClaimed_1 := ⟨start1.p0, start1.e0, start1.about1, start1.theMethod, start1.args0, start1.below0, start1.atStart⟩
end Jvm.Pilot.@@N@@
