import JvmDerived
import JvmDerived.Pilot.@@N@@Statement
import JvmDerived.Pilot.@@N@@Code
set_option linter.unusedVariables false
set_option linter.unusedSimpArgs false
@@BLOCK:NumsL.lean.txt@@
namespace Jvm.Pilot.@@N@@
open Jvm Jvm.ClassFile Sem Op Lib Jvm.Free Jvm.Stand Jvm.LawKit Jvm.RoadKit Bundle Jvm.Pilot.@@N@@.Jvm.D
/-! ## own kit: one body's walk as a goal on the heap, the frame and the room alone -/
/-- what stays the same through one body's walk -/
def Cx (p : Program) (s : State) (m : MethodId) (meth : Method) (c : Code) (Z : State) (n0 : Nat) (own : String) (bc : ByteArray) (maxL : Nat) (ret : Option FieldType) (nm : String) : Prop :=
  p.tables.exec = Jvm.exec ∧ Z.Warmed39 s.vm ∧ s.vm.findClass own = some m.cls ∧ c.code = bc ∧ c.maxLocals = maxL ∧ meth.sig.returnType = ret ∧ meth.name = nm ∧ meth.locks = false ∧ n0 ≤ s.heap.size
/-- from every state with this heap at which the body stands: the run goes on from this frame to the end that F says -/
def Go (p : Program) (l : Launch) (e : Env) (R : Room) (s : State) (m : MethodId) (args : Array Value) (below : List Frame) (meth : Method) (c : Code) (n0 : Nat) (F : State → Outcome → Prop) (h : Heap) (k n pc : Nat) (Ls : Array Slot) (st : List Value) : Prop :=
  ∀ (T : State) (locs : List Loc), Stand p l e R s m args below meth c T locs k n → T.heap = h → Fr n0 locs →
    ∃ s₂ o, Steps p.tables e below (T.setTop (mkF m pc Ls st)) s₂ ∧ s₂.status = .running ∧ Ended s₂ below o ∧ F s₂ o
/-- the end of a body: it returned what Q says, wrote new cells alone -/
def FinQ (s : State) (n0 : Nat) (Q : Option Value → Heap → Prop) (ck cs : Nat) : State → Outcome → Prop := fun s₂ o => ∃ v L, o = .returned v ∧ (Q v s₂.heap ∧ Fr n0 L) ∧ FrameEnd s o s₂ L ck cs
/-- a body's contract at the heap h0 -/
def Con (l : Launch) (Z : State) (n0 : Nat) (ws : List Jvm.Cond) (y : MethodName) (bc : ByteArray) (maxL : Nat) (ret : Option FieldType) (R : Room) (as : Array Value) (h0 : Heap) (Q : Option Value → Heap → Prop) : Prop :=
  MetFree l y (head1 (Jvm.Cond.code y bc maxL ret :: ws) R) (fun a U => a = as ∧ Z.Warmed39 U.vm ∧ U.heap = h0) (fun _ _ _ _ _ => True) (fun _ U o U' => ∃ v L, o = .returned v ∧ (Q v U'.heap ∧ Fr n0 L) ∧ FrameEnd U o U' L R.cells R.slots)
/-- an array: its class, its values -/
def Av (Z : State) (h : Heap) (a : Addr) (ty : FieldType) (vs : List Value) : Prop := ∃ c : Cell, Arr Z h a c ty ∧ c.slots.toList = vs ∧ ∀ v ∈ vs, fits ty v = true
section Own
variable {p : Program} {l : Launch} {e : Env} {R : Room} {s : State} {m : MethodId} {args : Array Value} {below : List Frame} {meth : Method} {c : Code} {n0 : Nat} {F : State → Outcome → Prop} {h : Heap} {k n pc pc' : Nat} {Ls : Array Slot} {st : List Value} {Z : State} {own : String} {bc : ByteArray} {maxL : Nat} {ret : Option FieldType} {nm : String} {a0 : Array Value}
theorem tw {ws : List Jvm.Cond} (hw : ∀ d ∈ ws, d.before a0 Z = true) (i : Nat) {d : Jvm.Cond} (q : ws[i]? = some d) : d.before a0 Z = true := hw _ (List.mem_of_getElem? q)
theorem Av.lt {a : Addr} {ty : FieldType} {vs : List Value} (A : Av Z h a ty vs) : a < h.size := by obtain ⟨c, A, -⟩ := A; exact A.lt
theorem Av.ext {a : Addr} {ty : FieldType} {vs : List Value} {h' : Heap} (A : Av Z h a ty vs) (E : Ext h h') : Av Z h' a ty vs := by obtain ⟨c, A, q⟩ := A; exact ⟨c, A.ext E, q⟩
theorem Av.other {a b : Addr} {ty : FieldType} {vs : List Value} {h' : Heap} {sl : Nat} {v : Value} (A : Av Z h b ty vs) (W : Wr h h' a sl v) (q : b ≠ a) : Av Z h' b ty vs := by obtain ⟨c, A, r⟩ := A; exact ⟨c, A.other W q, r⟩
theorem Av.keep {a : Addr} {ty : FieldType} {vs : List Value} {h' : Heap} {ws : List Addr} (A : Av Z h a ty vs) (K : Keep h h' ws) (q : a ∉ ws) : Av Z h' a ty vs := by obtain ⟨c, A, r⟩ := A; exact ⟨c, ⟨K.2.1 a c A.1 q, A.2⟩, r⟩
theorem Av.same {a : Addr} {ty : FieldType} {vs : List Value} {h' : Heap} {j : Nat} {v : Value} (A : Av Z h a ty vs) (W : Wr h h' a j v) (hf : fits ty v = true) : Av Z h' a ty (vs.set j v) := by
  obtain ⟨c, A, rfl, r⟩ := A
  refine ⟨_, A.same W, by simp [Cell.setSlot], fun w hw => ?_⟩
  rcases List.mem_or_eq_of_mem_set hw with q | rfl
  · exact r w q
  · exact hf
theorem Av.fit {a : Addr} {ty : FieldType} {vs : List Value} {i : Nat} {v : Value} (A : Av Z h a ty vs) (q : vs[i]? = some v) : fits ty v = true := by obtain ⟨c, A, -, r⟩ := A; exact r v (List.mem_of_getElem? q)
theorem Av.new {a : Addr} {kc : ClassId} {ty : FieldType} {z : Int32} (A : Arr Z h a (newA kc ty z) ty) : Av Z h a ty (List.replicate z.toNatClampNeg (defaultValue ty)) :=
  ⟨_, A, by simp [newA], fun v hv => by rw [List.eq_of_mem_replicate hv]; cases ty <;> rfl⟩
theorem own_in {j : Int32} {cl : Cell} {v : Value} (hj : ¬ j < 0) (hv : cl.slots[j.toNatClampNeg]? = some v) : ¬ (j < 0 ∨ cl.slots.size ≤ j.toNatClampNeg) := fun q => q.elim hj fun q => absurd (Array.getElem?_eq_some_iff.mp hv).1 (Nat.not_lt.mpr q)
theorem own_in2 {j : Int32} {cl : Cell} (hj : ¬ j < 0) (hl : j.toNatClampNeg < cl.slots.size) : ¬ (j < 0 ∨ cl.slots.size ≤ j.toNatClampNeg) := fun q => q.elim hj fun q => absurd hl (Nat.not_lt.mpr q)
theorem Go.pl {Ls' : Array Slot} {st' : List Value} (q : ∀ (T : State) (locs : List Loc), Stand p l e R s m args below meth c T locs k n → T.heap = h → ∀ t, Steps p.tables e below (T.setTop (mkF m pc' Ls' st')) t → Steps p.tables e below (T.setTop (mkF m pc Ls st)) t) (hr : Go p l e R s m args below meth c n0 F h k n pc' Ls' st') : Go p l e R s m args below meth c n0 F h k n pc Ls st := fun T locs X eT N => by
  obtain ⟨s₂, o, h1, h2⟩ := hr T locs X eT N
  exact ⟨s₂, o, q T locs X eT _ h1, h2⟩
theorem Go.more {k' n' : Nat} (hr : Go p l e R s m args below meth c n0 F h k' n' pc Ls st) (h1 : k ≤ k') (h2 : n ≤ n') : Go p l e R s m args below meth c n0 F h k n pc Ls st := fun T locs X eT N => hr T locs (X.more h1 h2) eT N
theorem Cx.size (C : Cx p s m meth c Z n0 own bc maxL ret nm) {T : State} {locs : List Loc} (X : Stand p l e R s m args below meth c T locs k n) : n0 ≤ T.heap.size := Nat.le_trans C.2.2.2.2.2.2.2.2 X.same.2.1
theorem Cx.iloadN (C : Cx p s m meth c Z n0 own bc maxL ret nm) {j : Fin 4} {v : Int32} (hd : decode bc pc = .ok (.iload_n j, 1)) (hp : pc + 1 = pc') (hl : Ls[j.val]? = some (.val (.int v))) (hr : Go p l e R s m args below meth c n0 F h k n pc' Ls (.int v :: st)) : Go p l e R s m args below meth c n0 F h k n pc Ls (st) := by
  subst hp; exact Go.pl (fun T locs X eT t q => XS.iloadN X.here C.1 rfl (hb C.2.2.2.1 hd) hl q) hr
theorem Cx.iload (C : Cx p s m meth c Z n0 own bc maxL ret nm) {j : Nat} {v : Int32} (hd : decode bc pc = .ok (.iload j, 2)) (hp : pc + 2 = pc') (hl : Ls[j]? = some (.val (.int v))) (hr : Go p l e R s m args below meth c n0 F h k n pc' Ls (.int v :: st)) : Go p l e R s m args below meth c n0 F h k n pc Ls (st) := by
  subst hp; exact Go.pl (fun T locs X eT t q => XS.iload X.here C.1 rfl (hb C.2.2.2.1 hd) hl q) hr
theorem Cx.lloadN (C : Cx p s m meth c Z n0 own bc maxL ret nm) {j : Fin 4} {v : Int64} (hd : decode bc pc = .ok (.lload_n j, 1)) (hp : pc + 1 = pc') (hl : Ls[j.val]? = some (.val (.long v))) (hr : Go p l e R s m args below meth c n0 F h k n pc' Ls (.long v :: st)) : Go p l e R s m args below meth c n0 F h k n pc Ls (st) := by
  subst hp; exact Go.pl (fun T locs X eT t q => XT.lloadN X.here C.1 rfl (hb C.2.2.2.1 hd) hl q) hr
theorem Cx.lload (C : Cx p s m meth c Z n0 own bc maxL ret nm) {j : Nat} {v : Int64} (hd : decode bc pc = .ok (.lload j, 2)) (hp : pc + 2 = pc') (hl : Ls[j]? = some (.val (.long v))) (hr : Go p l e R s m args below meth c n0 F h k n pc' Ls (.long v :: st)) : Go p l e R s m args below meth c n0 F h k n pc Ls (st) := by
  subst hp; exact Go.pl (fun T locs X eT t q => XT.lload X.here C.1 rfl (hb C.2.2.2.1 hd) hl q) hr
theorem Cx.aloadN (C : Cx p s m meth c Z n0 own bc maxL ret nm) {j : Fin 4} {v : Value} (hd : decode bc pc = .ok (.aload_n j, 1)) (hp : pc + 1 = pc') (hl : Ls[j.val]? = some (.val v)) (hv : v.isRef = true) (hr : Go p l e R s m args below meth c n0 F h k n pc' Ls (v :: st)) : Go p l e R s m args below meth c n0 F h k n pc Ls (st) := by
  subst hp; exact Go.pl (fun T locs X eT t q => XS.aloadN X.here C.1 rfl (hb C.2.2.2.1 hd) hl hv q) hr
theorem Cx.aload (C : Cx p s m meth c Z n0 own bc maxL ret nm) {j : Nat} {v : Value} (hd : decode bc pc = .ok (.aload j, 2)) (hp : pc + 2 = pc') (hl : Ls[j]? = some (.val v)) (hv : v.isRef = true) (hr : Go p l e R s m args below meth c n0 F h k n pc' Ls (v :: st)) : Go p l e R s m args below meth c n0 F h k n pc Ls (st) := by
  subst hp; exact Go.pl (fun T locs X eT t q => XS.aload X.here C.1 rfl (hb C.2.2.2.1 hd) hl hv q) hr
theorem Cx.istoreN (C : Cx p s m meth c Z n0 own bc maxL ret nm) {j : Fin 4} {v : Int32} {Ls' : Array Slot} (hd : decode bc pc = .ok (.istore_n j, 1)) (hp : pc + 1 = pc') (hl : storeLocals Ls j.val (.int v) = some Ls') (hr : Go p l e R s m args below meth c n0 F h k n pc' Ls' (st)) : Go p l e R s m args below meth c n0 F h k n pc Ls (.int v :: st) := by
  subst hp; exact Go.pl (fun T locs X eT t q => XS.istoreN X.here C.1 rfl (hb C.2.2.2.1 hd) rfl hl q) hr
theorem Cx.istore (C : Cx p s m meth c Z n0 own bc maxL ret nm) {j : Nat} {v : Int32} {Ls' : Array Slot} (hd : decode bc pc = .ok (.istore j, 2)) (hp : pc + 2 = pc') (hl : storeLocals Ls j (.int v) = some Ls') (hr : Go p l e R s m args below meth c n0 F h k n pc' Ls' (st)) : Go p l e R s m args below meth c n0 F h k n pc Ls (.int v :: st) := by
  subst hp; exact Go.pl (fun T locs X eT t q => XS.istore X.here C.1 rfl (hb C.2.2.2.1 hd) rfl hl q) hr
theorem Cx.lstoreN (C : Cx p s m meth c Z n0 own bc maxL ret nm) {j : Fin 4} {v : Int64} {Ls' : Array Slot} (hd : decode bc pc = .ok (.lstore_n j, 1)) (hp : pc + 1 = pc') (hl : storeLocals Ls j.val (.long v) = some Ls') (hr : Go p l e R s m args below meth c n0 F h k n pc' Ls' (st)) : Go p l e R s m args below meth c n0 F h k n pc Ls (.long v :: st) := by
  subst hp; exact Go.pl (fun T locs X eT t q => XT.lstoreN X.here C.1 rfl (hb C.2.2.2.1 hd) rfl hl q) hr
theorem Cx.lstore (C : Cx p s m meth c Z n0 own bc maxL ret nm) {j : Nat} {v : Int64} {Ls' : Array Slot} (hd : decode bc pc = .ok (.lstore j, 2)) (hp : pc + 2 = pc') (hl : storeLocals Ls j (.long v) = some Ls') (hr : Go p l e R s m args below meth c n0 F h k n pc' Ls' (st)) : Go p l e R s m args below meth c n0 F h k n pc Ls (.long v :: st) := by
  subst hp; exact Go.pl (fun T locs X eT t q => XT.lstore X.here C.1 rfl (hb C.2.2.2.1 hd) rfl hl q) hr
theorem Cx.astoreN (C : Cx p s m meth c Z n0 own bc maxL ret nm) {j : Fin 4} {v : Value} {Ls' : Array Slot} (hd : decode bc pc = .ok (.astore_n j, 1)) (hp : pc + 1 = pc') (hv : v.isRef = true) (hl : storeLocals Ls j.val v = some Ls') (hr : Go p l e R s m args below meth c n0 F h k n pc' Ls' (st)) : Go p l e R s m args below meth c n0 F h k n pc Ls (v :: st) := by
  subst hp; exact Go.pl (fun T locs X eT t q => XS.astoreN X.here C.1 rfl (hb C.2.2.2.1 hd) rfl hv hl q) hr
theorem Cx.astore (C : Cx p s m meth c Z n0 own bc maxL ret nm) {j : Nat} {v : Value} {Ls' : Array Slot} (hd : decode bc pc = .ok (.astore j, 2)) (hp : pc + 2 = pc') (hv : v.isRef = true) (hl : storeLocals Ls j v = some Ls') (hr : Go p l e R s m args below meth c n0 F h k n pc' Ls' (st)) : Go p l e R s m args below meth c n0 F h k n pc Ls (v :: st) := by
  subst hp; exact Go.pl (fun T locs X eT t q => XS.astore X.here C.1 rfl (hb C.2.2.2.1 hd) rfl hv hl q) hr
theorem Cx.iconst (C : Cx p s m meth c Z n0 own bc maxL ret nm) {i : Int} (v : Int32) (hd : decode bc pc = .ok (.iconst i, 1)) (hp : pc + 1 = pc') (hv : Int32.ofInt i = v) (hr : Go p l e R s m args below meth c n0 F h k n pc' Ls (.int v :: st)) : Go p l e R s m args below meth c n0 F h k n pc Ls st := by
  subst hp hv; exact Go.pl (fun T locs X eT t q => XS.iconst X.here C.1 rfl (hb C.2.2.2.1 hd) q) hr
theorem Cx.bipush (C : Cx p s m meth c Z n0 own bc maxL ret nm) {i : Int} (v : Int32) (hd : decode bc pc = .ok (.bipush i, 2)) (hp : pc + 2 = pc') (hv : (Int8.ofInt i).toInt32 = v) (hr : Go p l e R s m args below meth c n0 F h k n pc' Ls (.int v :: st)) : Go p l e R s m args below meth c n0 F h k n pc Ls st := by
  subst hp hv; exact Go.pl (fun T locs X eT t q => XS.bipush X.here C.1 rfl (hb C.2.2.2.1 hd) q) hr
theorem Cx.sipush (C : Cx p s m meth c Z n0 own bc maxL ret nm) {i : Int} (v : Int32) (hd : decode bc pc = .ok (.sipush i, 3)) (hp : pc + 3 = pc') (hv : (Int16.ofInt i).toInt32 = v) (hr : Go p l e R s m args below meth c n0 F h k n pc' Ls (.int v :: st)) : Go p l e R s m args below meth c n0 F h k n pc Ls st := by
  subst hp hv; exact Go.pl (fun T locs X eT t q => XS.sipush X.here C.1 rfl (hb C.2.2.2.1 hd) q) hr
theorem Cx.lconst (C : Cx p s m meth c Z n0 own bc maxL ret nm) {i : Fin 2} (v : Int64) (hd : decode bc pc = .ok (.lconst i, 1)) (hp : pc + 1 = pc') (hv : Int64.ofNat i = v) (hr : Go p l e R s m args below meth c n0 F h k n pc' Ls (.long v :: st)) : Go p l e R s m args below meth c n0 F h k n pc Ls st := by
  subst hp hv; exact Go.pl (fun T locs X eT t q => XT.lconst X.here C.1 rfl (hb C.2.2.2.1 hd) q) hr
theorem Cx.aconst_null (C : Cx p s m meth c Z n0 own bc maxL ret nm)  (hd : decode bc pc = .ok (.aconst_null, 1)) (hp : pc + 1 = pc')  (hr : Go p l e R s m args below meth c n0 F h k n pc' Ls (.null :: st)) : Go p l e R s m args below meth c n0 F h k n pc Ls (st) := by
  subst hp; exact Go.pl (fun T locs X eT t q => XS.aconstNull X.here C.1 rfl (hb C.2.2.2.1 hd)  q) hr
theorem Cx.iadd (C : Cx p s m meth c Z n0 own bc maxL ret nm) {x y : Int32} (hd : decode bc pc = .ok (.iadd, 1)) (hp : pc + 1 = pc')  (hr : Go p l e R s m args below meth c n0 F h k n pc' Ls (.int (x + y) :: st)) : Go p l e R s m args below meth c n0 F h k n pc Ls (.int y :: .int x :: st) := by
  subst hp; exact Go.pl (fun T locs X eT t q => XS.iadd X.here C.1 rfl (hb C.2.2.2.1 hd) rfl q) hr
theorem Cx.isub (C : Cx p s m meth c Z n0 own bc maxL ret nm) {x y : Int32} (hd : decode bc pc = .ok (.isub, 1)) (hp : pc + 1 = pc')  (hr : Go p l e R s m args below meth c n0 F h k n pc' Ls (.int (x - y) :: st)) : Go p l e R s m args below meth c n0 F h k n pc Ls (.int y :: .int x :: st) := by
  subst hp; exact Go.pl (fun T locs X eT t q => XS.isub X.here C.1 rfl (hb C.2.2.2.1 hd) rfl q) hr
theorem Cx.imul (C : Cx p s m meth c Z n0 own bc maxL ret nm) {x y : Int32} (hd : decode bc pc = .ok (.imul, 1)) (hp : pc + 1 = pc')  (hr : Go p l e R s m args below meth c n0 F h k n pc' Ls (.int (x * y) :: st)) : Go p l e R s m args below meth c n0 F h k n pc Ls (.int y :: .int x :: st) := by
  subst hp; exact Go.pl (fun T locs X eT t q => XS.imul X.here C.1 rfl (hb C.2.2.2.1 hd) rfl q) hr
theorem Cx.iand (C : Cx p s m meth c Z n0 own bc maxL ret nm) {x y : Int32} (hd : decode bc pc = .ok (.iand, 1)) (hp : pc + 1 = pc')  (hr : Go p l e R s m args below meth c n0 F h k n pc' Ls (.int (x &&& y) :: st)) : Go p l e R s m args below meth c n0 F h k n pc Ls (.int y :: .int x :: st) := by
  subst hp; exact Go.pl (fun T locs X eT t q => XS.iand X.here C.1 rfl (hb C.2.2.2.1 hd) rfl q) hr
theorem Cx.ixor (C : Cx p s m meth c Z n0 own bc maxL ret nm) {x y : Int32} (hd : decode bc pc = .ok (.ixor, 1)) (hp : pc + 1 = pc')  (hr : Go p l e R s m args below meth c n0 F h k n pc' Ls (.int (x ^^^ y) :: st)) : Go p l e R s m args below meth c n0 F h k n pc Ls (.int y :: .int x :: st) := by
  subst hp; exact Go.pl (fun T locs X eT t q => XT.ixor X.here C.1 rfl (hb C.2.2.2.1 hd) rfl q) hr
theorem Cx.ior (C : Cx p s m meth c Z n0 own bc maxL ret nm) {x y : Int32} (hd : decode bc pc = .ok (.ior, 1)) (hp : pc + 1 = pc')  (hr : Go p l e R s m args below meth c n0 F h k n pc' Ls (.int (x ||| y) :: st)) : Go p l e R s m args below meth c n0 F h k n pc Ls (.int y :: .int x :: st) := by
  subst hp; exact Go.pl (fun T locs X eT t q => XT.ior X.here C.1 rfl (hb C.2.2.2.1 hd) rfl q) hr
theorem Cx.ishl (C : Cx p s m meth c Z n0 own bc maxL ret nm) {x y : Int32} (hd : decode bc pc = .ok (.ishl, 1)) (hp : pc + 1 = pc')  (hr : Go p l e R s m args below meth c n0 F h k n pc' Ls (.int (x <<< (y &&& 31)) :: st)) : Go p l e R s m args below meth c n0 F h k n pc Ls (.int y :: .int x :: st) := by
  subst hp; exact Go.pl (fun T locs X eT t q => XT.ishl X.here C.1 rfl (hb C.2.2.2.1 hd) rfl q) hr
theorem Cx.ishr (C : Cx p s m meth c Z n0 own bc maxL ret nm) {x y : Int32} (hd : decode bc pc = .ok (.ishr, 1)) (hp : pc + 1 = pc')  (hr : Go p l e R s m args below meth c n0 F h k n pc' Ls (.int (x >>> (y &&& 31)) :: st)) : Go p l e R s m args below meth c n0 F h k n pc Ls (.int y :: .int x :: st) := by
  subst hp; exact Go.pl (fun T locs X eT t q => XT.ishr X.here C.1 rfl (hb C.2.2.2.1 hd) rfl q) hr
theorem Cx.iushr (C : Cx p s m meth c Z n0 own bc maxL ret nm) {x y : Int32} (hd : decode bc pc = .ok (.iushr, 1)) (hp : pc + 1 = pc')  (hr : Go p l e R s m args below meth c n0 F h k n pc' Ls (.int (XT.ushr x y) :: st)) : Go p l e R s m args below meth c n0 F h k n pc Ls (.int y :: .int x :: st) := by
  subst hp; exact Go.pl (fun T locs X eT t q => XT.iushr X.here C.1 rfl (hb C.2.2.2.1 hd) rfl q) hr
theorem Cx.idiv (C : Cx p s m meth c Z n0 own bc maxL ret nm) {x y : Int32} (hd : decode bc pc = .ok (.idiv, 1)) (hp : pc + 1 = pc') (hy : y ≠ 0) (hr : Go p l e R s m args below meth c n0 F h k n pc' Ls (.int (x / y) :: st)) : Go p l e R s m args below meth c n0 F h k n pc Ls (.int y :: .int x :: st) := by
  subst hp; exact Go.pl (fun T locs X eT t q => XS.idiv X.here C.1 rfl (hb C.2.2.2.1 hd) rfl hy q) hr
theorem Cx.irem (C : Cx p s m meth c Z n0 own bc maxL ret nm) {x y : Int32} (hd : decode bc pc = .ok (.irem, 1)) (hp : pc + 1 = pc') (hy : y ≠ 0) (hr : Go p l e R s m args below meth c n0 F h k n pc' Ls (.int (x % y) :: st)) : Go p l e R s m args below meth c n0 F h k n pc Ls (.int y :: .int x :: st) := by
  subst hp; exact Go.pl (fun T locs X eT t q => iremM X C.1 rfl (hb C.2.2.2.1 hd) rfl hy q) hr
theorem Cx.ineg (C : Cx p s m meth c Z n0 own bc maxL ret nm) {x : Int32} (hd : decode bc pc = .ok (.ineg, 1)) (hp : pc + 1 = pc')  (hr : Go p l e R s m args below meth c n0 F h k n pc' Ls (.int (-x) :: st)) : Go p l e R s m args below meth c n0 F h k n pc Ls (.int x :: st) := by
  subst hp; exact Go.pl (fun T locs X eT t q => XS.ineg X.here C.1 rfl (hb C.2.2.2.1 hd) rfl q) hr
theorem Cx.ladd (C : Cx p s m meth c Z n0 own bc maxL ret nm) {x y : Int64} (hd : decode bc pc = .ok (.ladd, 1)) (hp : pc + 1 = pc')  (hr : Go p l e R s m args below meth c n0 F h k n pc' Ls (.long (x + y) :: st)) : Go p l e R s m args below meth c n0 F h k n pc Ls (.long y :: .long x :: st) := by
  subst hp; exact Go.pl (fun T locs X eT t q => XT.ladd X.here C.1 rfl (hb C.2.2.2.1 hd) rfl q) hr
theorem Cx.lsub (C : Cx p s m meth c Z n0 own bc maxL ret nm) {x y : Int64} (hd : decode bc pc = .ok (.lsub, 1)) (hp : pc + 1 = pc')  (hr : Go p l e R s m args below meth c n0 F h k n pc' Ls (.long (x - y) :: st)) : Go p l e R s m args below meth c n0 F h k n pc Ls (.long y :: .long x :: st) := by
  subst hp; exact Go.pl (fun T locs X eT t q => XT.lsub X.here C.1 rfl (hb C.2.2.2.1 hd) rfl q) hr
theorem Cx.lmul (C : Cx p s m meth c Z n0 own bc maxL ret nm) {x y : Int64} (hd : decode bc pc = .ok (.lmul, 1)) (hp : pc + 1 = pc')  (hr : Go p l e R s m args below meth c n0 F h k n pc' Ls (.long (x * y) :: st)) : Go p l e R s m args below meth c n0 F h k n pc Ls (.long y :: .long x :: st) := by
  subst hp; exact Go.pl (fun T locs X eT t q => XT.lmul X.here C.1 rfl (hb C.2.2.2.1 hd) rfl q) hr
theorem Cx.land (C : Cx p s m meth c Z n0 own bc maxL ret nm) {x y : Int64} (hd : decode bc pc = .ok (.land, 1)) (hp : pc + 1 = pc')  (hr : Go p l e R s m args below meth c n0 F h k n pc' Ls (.long (x &&& y) :: st)) : Go p l e R s m args below meth c n0 F h k n pc Ls (.long y :: .long x :: st) := by
  subst hp; exact Go.pl (fun T locs X eT t q => XT.land X.here C.1 rfl (hb C.2.2.2.1 hd) rfl q) hr
theorem Cx.lor (C : Cx p s m meth c Z n0 own bc maxL ret nm) {x y : Int64} (hd : decode bc pc = .ok (.lor, 1)) (hp : pc + 1 = pc')  (hr : Go p l e R s m args below meth c n0 F h k n pc' Ls (.long (x ||| y) :: st)) : Go p l e R s m args below meth c n0 F h k n pc Ls (.long y :: .long x :: st) := by
  subst hp; exact Go.pl (fun T locs X eT t q => XT.lor X.here C.1 rfl (hb C.2.2.2.1 hd) rfl q) hr
theorem Cx.lxor (C : Cx p s m meth c Z n0 own bc maxL ret nm) {x y : Int64} (hd : decode bc pc = .ok (.lxor, 1)) (hp : pc + 1 = pc')  (hr : Go p l e R s m args below meth c n0 F h k n pc' Ls (.long (x ^^^ y) :: st)) : Go p l e R s m args below meth c n0 F h k n pc Ls (.long y :: .long x :: st) := by
  subst hp; exact Go.pl (fun T locs X eT t q => XT.lxor X.here C.1 rfl (hb C.2.2.2.1 hd) rfl q) hr
theorem Cx.ldiv (C : Cx p s m meth c Z n0 own bc maxL ret nm) {x y : Int64} (hd : decode bc pc = .ok (.ldiv, 1)) (hp : pc + 1 = pc') (hy : y ≠ 0) (hr : Go p l e R s m args below meth c n0 F h k n pc' Ls (.long (x / y) :: st)) : Go p l e R s m args below meth c n0 F h k n pc Ls (.long y :: .long x :: st) := by
  subst hp; exact Go.pl (fun T locs X eT t q => XT.ldiv X.here C.1 rfl (hb C.2.2.2.1 hd) rfl hy q) hr
theorem Cx.lrem (C : Cx p s m meth c Z n0 own bc maxL ret nm) {x y : Int64} (hd : decode bc pc = .ok (.lrem, 1)) (hp : pc + 1 = pc') (hy : y ≠ 0) (hr : Go p l e R s m args below meth c n0 F h k n pc' Ls (.long (x - (x / y) * y) :: st)) : Go p l e R s m args below meth c n0 F h k n pc Ls (.long y :: .long x :: st) := by
  subst hp; exact Go.pl (fun T locs X eT t q => XT.lrem X.here C.1 rfl (hb C.2.2.2.1 hd) rfl hy q) hr
theorem Cx.lshl (C : Cx p s m meth c Z n0 own bc maxL ret nm) {x : Int64} {y : Int32} (hd : decode bc pc = .ok (.lshl, 1)) (hp : pc + 1 = pc')  (hr : Go p l e R s m args below meth c n0 F h k n pc' Ls (.long (x <<< (y.toInt64 &&& 63)) :: st)) : Go p l e R s m args below meth c n0 F h k n pc Ls (.int y :: .long x :: st) := by
  subst hp; exact Go.pl (fun T locs X eT t q => XT.lshl X.here C.1 rfl (hb C.2.2.2.1 hd) rfl q) hr
theorem Cx.lshr (C : Cx p s m meth c Z n0 own bc maxL ret nm) {x : Int64} {y : Int32} (hd : decode bc pc = .ok (.lshr, 1)) (hp : pc + 1 = pc')  (hr : Go p l e R s m args below meth c n0 F h k n pc' Ls (.long (x >>> (y.toInt64 &&& 63)) :: st)) : Go p l e R s m args below meth c n0 F h k n pc Ls (.int y :: .long x :: st) := by
  subst hp; exact Go.pl (fun T locs X eT t q => XT.lshr X.here C.1 rfl (hb C.2.2.2.1 hd) rfl q) hr
theorem Cx.lushr (C : Cx p s m meth c Z n0 own bc maxL ret nm) {x : Int64} {y : Int32} (hd : decode bc pc = .ok (.lushr, 1)) (hp : pc + 1 = pc')  (hr : Go p l e R s m args below meth c n0 F h k n pc' Ls (.long (XT.ushrL x y) :: st)) : Go p l e R s m args below meth c n0 F h k n pc Ls (.int y :: .long x :: st) := by
  subst hp; exact Go.pl (fun T locs X eT t q => XT.lushr X.here C.1 rfl (hb C.2.2.2.1 hd) rfl q) hr
theorem Cx.lneg (C : Cx p s m meth c Z n0 own bc maxL ret nm) {x : Int64} (hd : decode bc pc = .ok (.lneg, 1)) (hp : pc + 1 = pc')  (hr : Go p l e R s m args below meth c n0 F h k n pc' Ls (.long (-x) :: st)) : Go p l e R s m args below meth c n0 F h k n pc Ls (.long x :: st) := by
  subst hp; exact Go.pl (fun T locs X eT t q => XT.lneg X.here C.1 rfl (hb C.2.2.2.1 hd) rfl q) hr
theorem Cx.i2l (C : Cx p s m meth c Z n0 own bc maxL ret nm) {x : Int32} (hd : decode bc pc = .ok (.i2l, 1)) (hp : pc + 1 = pc')  (hr : Go p l e R s m args below meth c n0 F h k n pc' Ls (.long x.toInt64 :: st)) : Go p l e R s m args below meth c n0 F h k n pc Ls (.int x :: st) := by
  subst hp; exact Go.pl (fun T locs X eT t q => XT.i2l X.here C.1 rfl (hb C.2.2.2.1 hd) rfl q) hr
theorem Cx.l2i (C : Cx p s m meth c Z n0 own bc maxL ret nm) {x : Int64} (hd : decode bc pc = .ok (.l2i, 1)) (hp : pc + 1 = pc')  (hr : Go p l e R s m args below meth c n0 F h k n pc' Ls (.int x.toInt32 :: st)) : Go p l e R s m args below meth c n0 F h k n pc Ls (.long x :: st) := by
  subst hp; exact Go.pl (fun T locs X eT t q => XT.l2i X.here C.1 rfl (hb C.2.2.2.1 hd) rfl q) hr
theorem Cx.i2b (C : Cx p s m meth c Z n0 own bc maxL ret nm) {x : Int32} (hd : decode bc pc = .ok (.i2b, 1)) (hp : pc + 1 = pc')  (hr : Go p l e R s m args below meth c n0 F h k n pc' Ls (.int x.toInt8.toInt32 :: st)) : Go p l e R s m args below meth c n0 F h k n pc Ls (.int x :: st) := by
  subst hp; exact Go.pl (fun T locs X eT t q => XT.i2b X.here C.1 rfl (hb C.2.2.2.1 hd) rfl q) hr
theorem Cx.i2c (C : Cx p s m meth c Z n0 own bc maxL ret nm) {x : Int32} (hd : decode bc pc = .ok (.i2c, 1)) (hp : pc + 1 = pc')  (hr : Go p l e R s m args below meth c n0 F h k n pc' Ls (.int x.toUInt32.toUInt16.toUInt32.toInt32 :: st)) : Go p l e R s m args below meth c n0 F h k n pc Ls (.int x :: st) := by
  subst hp; exact Go.pl (fun T locs X eT t q => XT.i2c X.here C.1 rfl (hb C.2.2.2.1 hd) rfl q) hr
theorem Cx.lcmp (C : Cx p s m meth c Z n0 own bc maxL ret nm) {x y : Int64} (hd : decode bc pc = .ok (.lcmp, 1)) (hp : pc + 1 = pc')  (hr : Go p l e R s m args below meth c n0 F h k n pc' Ls (.int (XT.cmpL x y) :: st)) : Go p l e R s m args below meth c n0 F h k n pc Ls (.long y :: .long x :: st) := by
  subst hp; exact Go.pl (fun T locs X eT t q => XT.lcmp X.here C.1 rfl (hb C.2.2.2.1 hd) rfl q) hr
theorem Cx.iinc (C : Cx p s m meth c Z n0 own bc maxL ret nm) {j : Nat} {i : Int} {x : Int32} {Ls' : Array Slot} (v : Int32) (hd : decode bc pc = .ok (.iinc j i, 3)) (hp : pc + 3 = pc') (hv : Int32.ofInt i = v) (hl : Ls[j]? = some (.val (.int x))) (hl' : storeLocals Ls j (.int (x + v)) = some Ls') (hr : Go p l e R s m args below meth c n0 F h k n pc' Ls' st) : Go p l e R s m args below meth c n0 F h k n pc Ls st := by
  subst hp hv; exact Go.pl (fun T locs X eT t q => XS.iinc X.here C.1 rfl (hb C.2.2.2.1 hd) hl hl' q) hr
theorem Cx.dup (C : Cx p s m meth c Z n0 own bc maxL ret nm) {x : Value} (hd : decode bc pc = .ok (.dup, 1)) (hp : pc + 1 = pc') (hc : x.category = 1) (hr : Go p l e R s m args below meth c n0 F h k n pc' Ls (x :: x :: st)) : Go p l e R s m args below meth c n0 F h k n pc Ls (x :: st) := by
  subst hp; exact Go.pl (fun T locs X eT t q => XS.dup X.here C.1 rfl (hb C.2.2.2.1 hd) rfl hc q) hr
theorem Cx.pop (C : Cx p s m meth c Z n0 own bc maxL ret nm) {x : Value} (hd : decode bc pc = .ok (.pop, 1)) (hp : pc + 1 = pc') (hc : x.category = 1) (hr : Go p l e R s m args below meth c n0 F h k n pc' Ls (st)) : Go p l e R s m args below meth c n0 F h k n pc Ls (x :: st) := by
  subst hp; exact Go.pl (fun T locs X eT t q => XT.pop X.here C.1 rfl (hb C.2.2.2.1 hd) rfl hc q) hr
theorem Cx.dupX1 (C : Cx p s m meth c Z n0 own bc maxL ret nm) {x y : Value} (hd : decode bc pc = .ok (.dup_x1, 1)) (hp : pc + 1 = pc') (hc : x.category = 1) (hc' : y.category = 1) (hr : Go p l e R s m args below meth c n0 F h k n pc' Ls (x :: y :: x :: st)) : Go p l e R s m args below meth c n0 F h k n pc Ls (x :: y :: st) := by
  subst hp; exact Go.pl (fun T locs X eT t q => XT.dupX1 X.here C.1 rfl (hb C.2.2.2.1 hd) rfl hc hc' q) hr
theorem Cx.dup2 (C : Cx p s m meth c Z n0 own bc maxL ret nm) {x y : Value} (hd : decode bc pc = .ok (.dup2, 1)) (hp : pc + 1 = pc') (hc : x.category = 1) (hc' : y.category = 1) (hr : Go p l e R s m args below meth c n0 F h k n pc' Ls (x :: y :: x :: y :: st)) : Go p l e R s m args below meth c n0 F h k n pc Ls (x :: y :: st) := by
  subst hp; exact Go.pl (fun T locs X eT t q => XT.dup2 X.here C.1 rfl (hb C.2.2.2.1 hd) rfl hc hc' q) hr
theorem Cx.dup2L (C : Cx p s m meth c Z n0 own bc maxL ret nm) {x : Int64} (hd : decode bc pc = .ok (.dup2, 1)) (hp : pc + 1 = pc')  (hr : Go p l e R s m args below meth c n0 F h k n pc' Ls (.long x :: .long x :: st)) : Go p l e R s m args below meth c n0 F h k n pc Ls (.long x :: st) := by
  subst hp; exact Go.pl (fun T locs X eT t q => XT.dup2L X.here C.1 rfl (hb C.2.2.2.1 hd) rfl q) hr
theorem Cx.goto (C : Cx p s m meth c Z n0 own bc maxL ret nm) {o : Int} (hd : decode bc pc = .ok (.goto o, 3)) (ho : 0 ≤ (pc : Int) + o) (hp : ((pc : Int) + o).toNat = pc') (hr : Go p l e R s m args below meth c n0 F h k n pc' Ls st) : Go p l e R s m args below meth c n0 F h k n pc Ls st := by
  exact Go.pl (fun T locs X eT t q => XS.goto X.here C.1 rfl rfl (hb C.2.2.2.1 hd) ho hp q) hr
theorem Cx.if_eq_t (C : Cx p s m meth c Z n0 own bc maxL ret nm) {x : Int32} {o : Int} (hd : decode bc pc = .ok (.ifCond .eq o, 3)) (ho : 0 ≤ (pc : Int) + o) (hp : ((pc : Int) + o).toNat = pc') (hq : x = 0) (hr : Go p l e R s m args below meth c n0 F h k n pc' Ls st) : Go p l e R s m args below meth c n0 F h k n pc Ls (.int x :: st) :=
  Go.pl (fun T locs X eT t q => XS.ifYes X.here C.1 rfl rfl (hb C.2.2.2.1 hd) rfl (XT.i0_eq_t hq) ho hp q) hr
theorem Cx.if_eq_f (C : Cx p s m meth c Z n0 own bc maxL ret nm) {x : Int32} {o : Int} (hd : decode bc pc = .ok (.ifCond .eq o, 3)) (hp : pc + 3 = pc') (hq : ¬ x = 0) (hr : Go p l e R s m args below meth c n0 F h k n pc' Ls st) : Go p l e R s m args below meth c n0 F h k n pc Ls (.int x :: st) := by
  subst hp; exact Go.pl (fun T locs X eT t q => XS.ifNo X.here C.1 rfl (hb C.2.2.2.1 hd) rfl (XT.i0_eq_f hq) q) hr
theorem Cx.if_eq (C : Cx p s m meth c Z n0 own bc maxL ret nm) {x : Int32} {o : Int} {pc'' : Nat} (hd : decode bc pc = .ok (.ifCond .eq o, 3)) (ho : 0 ≤ (pc : Int) + o) (hp : ((pc : Int) + o).toNat = pc') (hp' : pc + 3 = pc'') (hy : x = 0 → Go p l e R s m args below meth c n0 F h k n pc' Ls st) (hn : ¬ x = 0 → Go p l e R s m args below meth c n0 F h k n pc'' Ls st) : Go p l e R s m args below meth c n0 F h k n pc Ls (.int x :: st) := by
  by_cases q : x = 0
  · exact C.if_eq_t hd ho hp q (hy q)
  · exact C.if_eq_f hd hp' q (hn q)
theorem Cx.icmp_eq_t (C : Cx p s m meth c Z n0 own bc maxL ret nm) {x y : Int32} {o : Int} (hd : decode bc pc = .ok (.if_icmp .eq o, 3)) (ho : 0 ≤ (pc : Int) + o) (hp : ((pc : Int) + o).toNat = pc') (hq : x = y) (hr : Go p l e R s m args below meth c n0 F h k n pc' Ls st) : Go p l e R s m args below meth c n0 F h k n pc Ls (.int y :: .int x :: st) :=
  Go.pl (fun T locs X eT t q => XS.icmpYes X.here C.1 rfl rfl (hb C.2.2.2.1 hd) rfl (XT.ii_eq_t hq) ho hp q) hr
theorem Cx.icmp_eq_f (C : Cx p s m meth c Z n0 own bc maxL ret nm) {x y : Int32} {o : Int} (hd : decode bc pc = .ok (.if_icmp .eq o, 3)) (hp : pc + 3 = pc') (hq : ¬ x = y) (hr : Go p l e R s m args below meth c n0 F h k n pc' Ls st) : Go p l e R s m args below meth c n0 F h k n pc Ls (.int y :: .int x :: st) := by
  subst hp; exact Go.pl (fun T locs X eT t q => XS.icmpNo X.here C.1 rfl (hb C.2.2.2.1 hd) rfl (XT.ii_eq_f hq) q) hr
theorem Cx.icmp_eq (C : Cx p s m meth c Z n0 own bc maxL ret nm) {x y : Int32} {o : Int} {pc'' : Nat} (hd : decode bc pc = .ok (.if_icmp .eq o, 3)) (ho : 0 ≤ (pc : Int) + o) (hp : ((pc : Int) + o).toNat = pc') (hp' : pc + 3 = pc'') (hy : x = y → Go p l e R s m args below meth c n0 F h k n pc' Ls st) (hn : ¬ x = y → Go p l e R s m args below meth c n0 F h k n pc'' Ls st) : Go p l e R s m args below meth c n0 F h k n pc Ls (.int y :: .int x :: st) := by
  by_cases q : x = y
  · exact C.icmp_eq_t hd ho hp q (hy q)
  · exact C.icmp_eq_f hd hp' q (hn q)
theorem Cx.lif_eq_t (C : Cx p s m meth c Z n0 own bc maxL ret nm) {x y : Int64} {o : Int} (hd : decode bc pc = .ok (.ifCond .eq o, 3)) (ho : 0 ≤ (pc : Int) + o) (hp : ((pc : Int) + o).toNat = pc') (hq : x = y) (hr : Go p l e R s m args below meth c n0 F h k n pc' Ls st) : Go p l e R s m args below meth c n0 F h k n pc Ls (.int (XT.cmpL x y) :: st) :=
  Go.pl (fun T locs X eT t q => XS.ifYes X.here C.1 rfl rfl (hb C.2.2.2.1 hd) rfl (XT.ll_eq_t hq) ho hp q) hr
theorem Cx.lif_eq_f (C : Cx p s m meth c Z n0 own bc maxL ret nm) {x y : Int64} {o : Int} (hd : decode bc pc = .ok (.ifCond .eq o, 3)) (hp : pc + 3 = pc') (hq : ¬ x = y) (hr : Go p l e R s m args below meth c n0 F h k n pc' Ls st) : Go p l e R s m args below meth c n0 F h k n pc Ls (.int (XT.cmpL x y) :: st) := by
  subst hp; exact Go.pl (fun T locs X eT t q => XS.ifNo X.here C.1 rfl (hb C.2.2.2.1 hd) rfl (XT.ll_eq_f hq) q) hr
theorem Cx.lif_eq (C : Cx p s m meth c Z n0 own bc maxL ret nm) {x y : Int64} {o : Int} {pc'' : Nat} (hd : decode bc pc = .ok (.ifCond .eq o, 3)) (ho : 0 ≤ (pc : Int) + o) (hp : ((pc : Int) + o).toNat = pc') (hp' : pc + 3 = pc'') (hy : x = y → Go p l e R s m args below meth c n0 F h k n pc' Ls st) (hn : ¬ x = y → Go p l e R s m args below meth c n0 F h k n pc'' Ls st) : Go p l e R s m args below meth c n0 F h k n pc Ls (.int (XT.cmpL x y) :: st) := by
  by_cases q : x = y
  · exact C.lif_eq_t hd ho hp q (hy q)
  · exact C.lif_eq_f hd hp' q (hn q)
theorem Cx.if_ne_t (C : Cx p s m meth c Z n0 own bc maxL ret nm) {x : Int32} {o : Int} (hd : decode bc pc = .ok (.ifCond .ne o, 3)) (ho : 0 ≤ (pc : Int) + o) (hp : ((pc : Int) + o).toNat = pc') (hq : ¬ x = 0) (hr : Go p l e R s m args below meth c n0 F h k n pc' Ls st) : Go p l e R s m args below meth c n0 F h k n pc Ls (.int x :: st) :=
  Go.pl (fun T locs X eT t q => XS.ifYes X.here C.1 rfl rfl (hb C.2.2.2.1 hd) rfl (XT.i0_ne_t hq) ho hp q) hr
theorem Cx.if_ne_f (C : Cx p s m meth c Z n0 own bc maxL ret nm) {x : Int32} {o : Int} (hd : decode bc pc = .ok (.ifCond .ne o, 3)) (hp : pc + 3 = pc') (hq : x = 0) (hr : Go p l e R s m args below meth c n0 F h k n pc' Ls st) : Go p l e R s m args below meth c n0 F h k n pc Ls (.int x :: st) := by
  subst hp; exact Go.pl (fun T locs X eT t q => XS.ifNo X.here C.1 rfl (hb C.2.2.2.1 hd) rfl (XT.i0_ne_f hq) q) hr
theorem Cx.if_ne (C : Cx p s m meth c Z n0 own bc maxL ret nm) {x : Int32} {o : Int} {pc'' : Nat} (hd : decode bc pc = .ok (.ifCond .ne o, 3)) (ho : 0 ≤ (pc : Int) + o) (hp : ((pc : Int) + o).toNat = pc') (hp' : pc + 3 = pc'') (hy : ¬ x = 0 → Go p l e R s m args below meth c n0 F h k n pc' Ls st) (hn : x = 0 → Go p l e R s m args below meth c n0 F h k n pc'' Ls st) : Go p l e R s m args below meth c n0 F h k n pc Ls (.int x :: st) := by
  by_cases q : x = 0
  · exact C.if_ne_f hd hp' q (hn q)
  · exact C.if_ne_t hd ho hp q (hy q)
theorem Cx.icmp_ne_t (C : Cx p s m meth c Z n0 own bc maxL ret nm) {x y : Int32} {o : Int} (hd : decode bc pc = .ok (.if_icmp .ne o, 3)) (ho : 0 ≤ (pc : Int) + o) (hp : ((pc : Int) + o).toNat = pc') (hq : ¬ x = y) (hr : Go p l e R s m args below meth c n0 F h k n pc' Ls st) : Go p l e R s m args below meth c n0 F h k n pc Ls (.int y :: .int x :: st) :=
  Go.pl (fun T locs X eT t q => XS.icmpYes X.here C.1 rfl rfl (hb C.2.2.2.1 hd) rfl (XT.ii_ne_t hq) ho hp q) hr
theorem Cx.icmp_ne_f (C : Cx p s m meth c Z n0 own bc maxL ret nm) {x y : Int32} {o : Int} (hd : decode bc pc = .ok (.if_icmp .ne o, 3)) (hp : pc + 3 = pc') (hq : x = y) (hr : Go p l e R s m args below meth c n0 F h k n pc' Ls st) : Go p l e R s m args below meth c n0 F h k n pc Ls (.int y :: .int x :: st) := by
  subst hp; exact Go.pl (fun T locs X eT t q => XS.icmpNo X.here C.1 rfl (hb C.2.2.2.1 hd) rfl (XT.ii_ne_f hq) q) hr
theorem Cx.icmp_ne (C : Cx p s m meth c Z n0 own bc maxL ret nm) {x y : Int32} {o : Int} {pc'' : Nat} (hd : decode bc pc = .ok (.if_icmp .ne o, 3)) (ho : 0 ≤ (pc : Int) + o) (hp : ((pc : Int) + o).toNat = pc') (hp' : pc + 3 = pc'') (hy : ¬ x = y → Go p l e R s m args below meth c n0 F h k n pc' Ls st) (hn : x = y → Go p l e R s m args below meth c n0 F h k n pc'' Ls st) : Go p l e R s m args below meth c n0 F h k n pc Ls (.int y :: .int x :: st) := by
  by_cases q : x = y
  · exact C.icmp_ne_f hd hp' q (hn q)
  · exact C.icmp_ne_t hd ho hp q (hy q)
theorem Cx.lif_ne_t (C : Cx p s m meth c Z n0 own bc maxL ret nm) {x y : Int64} {o : Int} (hd : decode bc pc = .ok (.ifCond .ne o, 3)) (ho : 0 ≤ (pc : Int) + o) (hp : ((pc : Int) + o).toNat = pc') (hq : ¬ x = y) (hr : Go p l e R s m args below meth c n0 F h k n pc' Ls st) : Go p l e R s m args below meth c n0 F h k n pc Ls (.int (XT.cmpL x y) :: st) :=
  Go.pl (fun T locs X eT t q => XS.ifYes X.here C.1 rfl rfl (hb C.2.2.2.1 hd) rfl (XT.ll_ne_t hq) ho hp q) hr
theorem Cx.lif_ne_f (C : Cx p s m meth c Z n0 own bc maxL ret nm) {x y : Int64} {o : Int} (hd : decode bc pc = .ok (.ifCond .ne o, 3)) (hp : pc + 3 = pc') (hq : x = y) (hr : Go p l e R s m args below meth c n0 F h k n pc' Ls st) : Go p l e R s m args below meth c n0 F h k n pc Ls (.int (XT.cmpL x y) :: st) := by
  subst hp; exact Go.pl (fun T locs X eT t q => XS.ifNo X.here C.1 rfl (hb C.2.2.2.1 hd) rfl (XT.ll_ne_f hq) q) hr
theorem Cx.lif_ne (C : Cx p s m meth c Z n0 own bc maxL ret nm) {x y : Int64} {o : Int} {pc'' : Nat} (hd : decode bc pc = .ok (.ifCond .ne o, 3)) (ho : 0 ≤ (pc : Int) + o) (hp : ((pc : Int) + o).toNat = pc') (hp' : pc + 3 = pc'') (hy : ¬ x = y → Go p l e R s m args below meth c n0 F h k n pc' Ls st) (hn : x = y → Go p l e R s m args below meth c n0 F h k n pc'' Ls st) : Go p l e R s m args below meth c n0 F h k n pc Ls (.int (XT.cmpL x y) :: st) := by
  by_cases q : x = y
  · exact C.lif_ne_f hd hp' q (hn q)
  · exact C.lif_ne_t hd ho hp q (hy q)
theorem Cx.if_lt_t (C : Cx p s m meth c Z n0 own bc maxL ret nm) {x : Int32} {o : Int} (hd : decode bc pc = .ok (.ifCond .lt o, 3)) (ho : 0 ≤ (pc : Int) + o) (hp : ((pc : Int) + o).toNat = pc') (hq : x < 0) (hr : Go p l e R s m args below meth c n0 F h k n pc' Ls st) : Go p l e R s m args below meth c n0 F h k n pc Ls (.int x :: st) :=
  Go.pl (fun T locs X eT t q => XS.ifYes X.here C.1 rfl rfl (hb C.2.2.2.1 hd) rfl (XT.i0_lt_t hq) ho hp q) hr
theorem Cx.if_lt_f (C : Cx p s m meth c Z n0 own bc maxL ret nm) {x : Int32} {o : Int} (hd : decode bc pc = .ok (.ifCond .lt o, 3)) (hp : pc + 3 = pc') (hq : ¬ x < 0) (hr : Go p l e R s m args below meth c n0 F h k n pc' Ls st) : Go p l e R s m args below meth c n0 F h k n pc Ls (.int x :: st) := by
  subst hp; exact Go.pl (fun T locs X eT t q => XS.ifNo X.here C.1 rfl (hb C.2.2.2.1 hd) rfl (XT.i0_lt_f hq) q) hr
theorem Cx.if_lt (C : Cx p s m meth c Z n0 own bc maxL ret nm) {x : Int32} {o : Int} {pc'' : Nat} (hd : decode bc pc = .ok (.ifCond .lt o, 3)) (ho : 0 ≤ (pc : Int) + o) (hp : ((pc : Int) + o).toNat = pc') (hp' : pc + 3 = pc'') (hy : x < 0 → Go p l e R s m args below meth c n0 F h k n pc' Ls st) (hn : ¬ x < 0 → Go p l e R s m args below meth c n0 F h k n pc'' Ls st) : Go p l e R s m args below meth c n0 F h k n pc Ls (.int x :: st) := by
  by_cases q : x < 0
  · exact C.if_lt_t hd ho hp q (hy q)
  · exact C.if_lt_f hd hp' q (hn q)
theorem Cx.icmp_lt_t (C : Cx p s m meth c Z n0 own bc maxL ret nm) {x y : Int32} {o : Int} (hd : decode bc pc = .ok (.if_icmp .lt o, 3)) (ho : 0 ≤ (pc : Int) + o) (hp : ((pc : Int) + o).toNat = pc') (hq : x < y) (hr : Go p l e R s m args below meth c n0 F h k n pc' Ls st) : Go p l e R s m args below meth c n0 F h k n pc Ls (.int y :: .int x :: st) :=
  Go.pl (fun T locs X eT t q => XS.icmpYes X.here C.1 rfl rfl (hb C.2.2.2.1 hd) rfl (XT.ii_lt_t hq) ho hp q) hr
theorem Cx.icmp_lt_f (C : Cx p s m meth c Z n0 own bc maxL ret nm) {x y : Int32} {o : Int} (hd : decode bc pc = .ok (.if_icmp .lt o, 3)) (hp : pc + 3 = pc') (hq : ¬ x < y) (hr : Go p l e R s m args below meth c n0 F h k n pc' Ls st) : Go p l e R s m args below meth c n0 F h k n pc Ls (.int y :: .int x :: st) := by
  subst hp; exact Go.pl (fun T locs X eT t q => XS.icmpNo X.here C.1 rfl (hb C.2.2.2.1 hd) rfl (XT.ii_lt_f hq) q) hr
theorem Cx.icmp_lt (C : Cx p s m meth c Z n0 own bc maxL ret nm) {x y : Int32} {o : Int} {pc'' : Nat} (hd : decode bc pc = .ok (.if_icmp .lt o, 3)) (ho : 0 ≤ (pc : Int) + o) (hp : ((pc : Int) + o).toNat = pc') (hp' : pc + 3 = pc'') (hy : x < y → Go p l e R s m args below meth c n0 F h k n pc' Ls st) (hn : ¬ x < y → Go p l e R s m args below meth c n0 F h k n pc'' Ls st) : Go p l e R s m args below meth c n0 F h k n pc Ls (.int y :: .int x :: st) := by
  by_cases q : x < y
  · exact C.icmp_lt_t hd ho hp q (hy q)
  · exact C.icmp_lt_f hd hp' q (hn q)
theorem Cx.lif_lt_t (C : Cx p s m meth c Z n0 own bc maxL ret nm) {x y : Int64} {o : Int} (hd : decode bc pc = .ok (.ifCond .lt o, 3)) (ho : 0 ≤ (pc : Int) + o) (hp : ((pc : Int) + o).toNat = pc') (hq : x < y) (hr : Go p l e R s m args below meth c n0 F h k n pc' Ls st) : Go p l e R s m args below meth c n0 F h k n pc Ls (.int (XT.cmpL x y) :: st) :=
  Go.pl (fun T locs X eT t q => XS.ifYes X.here C.1 rfl rfl (hb C.2.2.2.1 hd) rfl (XT.ll_lt_t hq) ho hp q) hr
theorem Cx.lif_lt_f (C : Cx p s m meth c Z n0 own bc maxL ret nm) {x y : Int64} {o : Int} (hd : decode bc pc = .ok (.ifCond .lt o, 3)) (hp : pc + 3 = pc') (hq : ¬ x < y) (hr : Go p l e R s m args below meth c n0 F h k n pc' Ls st) : Go p l e R s m args below meth c n0 F h k n pc Ls (.int (XT.cmpL x y) :: st) := by
  subst hp; exact Go.pl (fun T locs X eT t q => XS.ifNo X.here C.1 rfl (hb C.2.2.2.1 hd) rfl (XT.ll_lt_f hq) q) hr
theorem Cx.lif_lt (C : Cx p s m meth c Z n0 own bc maxL ret nm) {x y : Int64} {o : Int} {pc'' : Nat} (hd : decode bc pc = .ok (.ifCond .lt o, 3)) (ho : 0 ≤ (pc : Int) + o) (hp : ((pc : Int) + o).toNat = pc') (hp' : pc + 3 = pc'') (hy : x < y → Go p l e R s m args below meth c n0 F h k n pc' Ls st) (hn : ¬ x < y → Go p l e R s m args below meth c n0 F h k n pc'' Ls st) : Go p l e R s m args below meth c n0 F h k n pc Ls (.int (XT.cmpL x y) :: st) := by
  by_cases q : x < y
  · exact C.lif_lt_t hd ho hp q (hy q)
  · exact C.lif_lt_f hd hp' q (hn q)
theorem Cx.if_ge_t (C : Cx p s m meth c Z n0 own bc maxL ret nm) {x : Int32} {o : Int} (hd : decode bc pc = .ok (.ifCond .ge o, 3)) (ho : 0 ≤ (pc : Int) + o) (hp : ((pc : Int) + o).toNat = pc') (hq : ¬ x < 0) (hr : Go p l e R s m args below meth c n0 F h k n pc' Ls st) : Go p l e R s m args below meth c n0 F h k n pc Ls (.int x :: st) :=
  Go.pl (fun T locs X eT t q => XS.ifYes X.here C.1 rfl rfl (hb C.2.2.2.1 hd) rfl (XT.i0_ge_t hq) ho hp q) hr
theorem Cx.if_ge_f (C : Cx p s m meth c Z n0 own bc maxL ret nm) {x : Int32} {o : Int} (hd : decode bc pc = .ok (.ifCond .ge o, 3)) (hp : pc + 3 = pc') (hq : x < 0) (hr : Go p l e R s m args below meth c n0 F h k n pc' Ls st) : Go p l e R s m args below meth c n0 F h k n pc Ls (.int x :: st) := by
  subst hp; exact Go.pl (fun T locs X eT t q => XS.ifNo X.here C.1 rfl (hb C.2.2.2.1 hd) rfl (XT.i0_ge_f hq) q) hr
theorem Cx.if_ge (C : Cx p s m meth c Z n0 own bc maxL ret nm) {x : Int32} {o : Int} {pc'' : Nat} (hd : decode bc pc = .ok (.ifCond .ge o, 3)) (ho : 0 ≤ (pc : Int) + o) (hp : ((pc : Int) + o).toNat = pc') (hp' : pc + 3 = pc'') (hy : ¬ x < 0 → Go p l e R s m args below meth c n0 F h k n pc' Ls st) (hn : x < 0 → Go p l e R s m args below meth c n0 F h k n pc'' Ls st) : Go p l e R s m args below meth c n0 F h k n pc Ls (.int x :: st) := by
  by_cases q : x < 0
  · exact C.if_ge_f hd hp' q (hn q)
  · exact C.if_ge_t hd ho hp q (hy q)
theorem Cx.icmp_ge_t (C : Cx p s m meth c Z n0 own bc maxL ret nm) {x y : Int32} {o : Int} (hd : decode bc pc = .ok (.if_icmp .ge o, 3)) (ho : 0 ≤ (pc : Int) + o) (hp : ((pc : Int) + o).toNat = pc') (hq : ¬ x < y) (hr : Go p l e R s m args below meth c n0 F h k n pc' Ls st) : Go p l e R s m args below meth c n0 F h k n pc Ls (.int y :: .int x :: st) :=
  Go.pl (fun T locs X eT t q => XS.icmpYes X.here C.1 rfl rfl (hb C.2.2.2.1 hd) rfl (XT.ii_ge_t hq) ho hp q) hr
theorem Cx.icmp_ge_f (C : Cx p s m meth c Z n0 own bc maxL ret nm) {x y : Int32} {o : Int} (hd : decode bc pc = .ok (.if_icmp .ge o, 3)) (hp : pc + 3 = pc') (hq : x < y) (hr : Go p l e R s m args below meth c n0 F h k n pc' Ls st) : Go p l e R s m args below meth c n0 F h k n pc Ls (.int y :: .int x :: st) := by
  subst hp; exact Go.pl (fun T locs X eT t q => XS.icmpNo X.here C.1 rfl (hb C.2.2.2.1 hd) rfl (XT.ii_ge_f hq) q) hr
theorem Cx.icmp_ge (C : Cx p s m meth c Z n0 own bc maxL ret nm) {x y : Int32} {o : Int} {pc'' : Nat} (hd : decode bc pc = .ok (.if_icmp .ge o, 3)) (ho : 0 ≤ (pc : Int) + o) (hp : ((pc : Int) + o).toNat = pc') (hp' : pc + 3 = pc'') (hy : ¬ x < y → Go p l e R s m args below meth c n0 F h k n pc' Ls st) (hn : x < y → Go p l e R s m args below meth c n0 F h k n pc'' Ls st) : Go p l e R s m args below meth c n0 F h k n pc Ls (.int y :: .int x :: st) := by
  by_cases q : x < y
  · exact C.icmp_ge_f hd hp' q (hn q)
  · exact C.icmp_ge_t hd ho hp q (hy q)
theorem Cx.lif_ge_t (C : Cx p s m meth c Z n0 own bc maxL ret nm) {x y : Int64} {o : Int} (hd : decode bc pc = .ok (.ifCond .ge o, 3)) (ho : 0 ≤ (pc : Int) + o) (hp : ((pc : Int) + o).toNat = pc') (hq : ¬ x < y) (hr : Go p l e R s m args below meth c n0 F h k n pc' Ls st) : Go p l e R s m args below meth c n0 F h k n pc Ls (.int (XT.cmpL x y) :: st) :=
  Go.pl (fun T locs X eT t q => XS.ifYes X.here C.1 rfl rfl (hb C.2.2.2.1 hd) rfl (XT.ll_ge_t hq) ho hp q) hr
theorem Cx.lif_ge_f (C : Cx p s m meth c Z n0 own bc maxL ret nm) {x y : Int64} {o : Int} (hd : decode bc pc = .ok (.ifCond .ge o, 3)) (hp : pc + 3 = pc') (hq : x < y) (hr : Go p l e R s m args below meth c n0 F h k n pc' Ls st) : Go p l e R s m args below meth c n0 F h k n pc Ls (.int (XT.cmpL x y) :: st) := by
  subst hp; exact Go.pl (fun T locs X eT t q => XS.ifNo X.here C.1 rfl (hb C.2.2.2.1 hd) rfl (XT.ll_ge_f hq) q) hr
theorem Cx.lif_ge (C : Cx p s m meth c Z n0 own bc maxL ret nm) {x y : Int64} {o : Int} {pc'' : Nat} (hd : decode bc pc = .ok (.ifCond .ge o, 3)) (ho : 0 ≤ (pc : Int) + o) (hp : ((pc : Int) + o).toNat = pc') (hp' : pc + 3 = pc'') (hy : ¬ x < y → Go p l e R s m args below meth c n0 F h k n pc' Ls st) (hn : x < y → Go p l e R s m args below meth c n0 F h k n pc'' Ls st) : Go p l e R s m args below meth c n0 F h k n pc Ls (.int (XT.cmpL x y) :: st) := by
  by_cases q : x < y
  · exact C.lif_ge_f hd hp' q (hn q)
  · exact C.lif_ge_t hd ho hp q (hy q)
theorem Cx.if_gt_t (C : Cx p s m meth c Z n0 own bc maxL ret nm) {x : Int32} {o : Int} (hd : decode bc pc = .ok (.ifCond .gt o, 3)) (ho : 0 ≤ (pc : Int) + o) (hp : ((pc : Int) + o).toNat = pc') (hq : 0 < x) (hr : Go p l e R s m args below meth c n0 F h k n pc' Ls st) : Go p l e R s m args below meth c n0 F h k n pc Ls (.int x :: st) :=
  Go.pl (fun T locs X eT t q => XS.ifYes X.here C.1 rfl rfl (hb C.2.2.2.1 hd) rfl (XT.i0_gt_t hq) ho hp q) hr
theorem Cx.if_gt_f (C : Cx p s m meth c Z n0 own bc maxL ret nm) {x : Int32} {o : Int} (hd : decode bc pc = .ok (.ifCond .gt o, 3)) (hp : pc + 3 = pc') (hq : ¬ 0 < x) (hr : Go p l e R s m args below meth c n0 F h k n pc' Ls st) : Go p l e R s m args below meth c n0 F h k n pc Ls (.int x :: st) := by
  subst hp; exact Go.pl (fun T locs X eT t q => XS.ifNo X.here C.1 rfl (hb C.2.2.2.1 hd) rfl (XT.i0_gt_f hq) q) hr
theorem Cx.if_gt (C : Cx p s m meth c Z n0 own bc maxL ret nm) {x : Int32} {o : Int} {pc'' : Nat} (hd : decode bc pc = .ok (.ifCond .gt o, 3)) (ho : 0 ≤ (pc : Int) + o) (hp : ((pc : Int) + o).toNat = pc') (hp' : pc + 3 = pc'') (hy : 0 < x → Go p l e R s m args below meth c n0 F h k n pc' Ls st) (hn : ¬ 0 < x → Go p l e R s m args below meth c n0 F h k n pc'' Ls st) : Go p l e R s m args below meth c n0 F h k n pc Ls (.int x :: st) := by
  by_cases q : 0 < x
  · exact C.if_gt_t hd ho hp q (hy q)
  · exact C.if_gt_f hd hp' q (hn q)
theorem Cx.icmp_gt_t (C : Cx p s m meth c Z n0 own bc maxL ret nm) {x y : Int32} {o : Int} (hd : decode bc pc = .ok (.if_icmp .gt o, 3)) (ho : 0 ≤ (pc : Int) + o) (hp : ((pc : Int) + o).toNat = pc') (hq : y < x) (hr : Go p l e R s m args below meth c n0 F h k n pc' Ls st) : Go p l e R s m args below meth c n0 F h k n pc Ls (.int y :: .int x :: st) :=
  Go.pl (fun T locs X eT t q => XS.icmpYes X.here C.1 rfl rfl (hb C.2.2.2.1 hd) rfl (XT.ii_gt_t hq) ho hp q) hr
theorem Cx.icmp_gt_f (C : Cx p s m meth c Z n0 own bc maxL ret nm) {x y : Int32} {o : Int} (hd : decode bc pc = .ok (.if_icmp .gt o, 3)) (hp : pc + 3 = pc') (hq : ¬ y < x) (hr : Go p l e R s m args below meth c n0 F h k n pc' Ls st) : Go p l e R s m args below meth c n0 F h k n pc Ls (.int y :: .int x :: st) := by
  subst hp; exact Go.pl (fun T locs X eT t q => XS.icmpNo X.here C.1 rfl (hb C.2.2.2.1 hd) rfl (XT.ii_gt_f hq) q) hr
theorem Cx.icmp_gt (C : Cx p s m meth c Z n0 own bc maxL ret nm) {x y : Int32} {o : Int} {pc'' : Nat} (hd : decode bc pc = .ok (.if_icmp .gt o, 3)) (ho : 0 ≤ (pc : Int) + o) (hp : ((pc : Int) + o).toNat = pc') (hp' : pc + 3 = pc'') (hy : y < x → Go p l e R s m args below meth c n0 F h k n pc' Ls st) (hn : ¬ y < x → Go p l e R s m args below meth c n0 F h k n pc'' Ls st) : Go p l e R s m args below meth c n0 F h k n pc Ls (.int y :: .int x :: st) := by
  by_cases q : y < x
  · exact C.icmp_gt_t hd ho hp q (hy q)
  · exact C.icmp_gt_f hd hp' q (hn q)
theorem Cx.lif_gt_t (C : Cx p s m meth c Z n0 own bc maxL ret nm) {x y : Int64} {o : Int} (hd : decode bc pc = .ok (.ifCond .gt o, 3)) (ho : 0 ≤ (pc : Int) + o) (hp : ((pc : Int) + o).toNat = pc') (hq : y < x) (hr : Go p l e R s m args below meth c n0 F h k n pc' Ls st) : Go p l e R s m args below meth c n0 F h k n pc Ls (.int (XT.cmpL x y) :: st) :=
  Go.pl (fun T locs X eT t q => XS.ifYes X.here C.1 rfl rfl (hb C.2.2.2.1 hd) rfl (XT.ll_gt_t hq) ho hp q) hr
theorem Cx.lif_gt_f (C : Cx p s m meth c Z n0 own bc maxL ret nm) {x y : Int64} {o : Int} (hd : decode bc pc = .ok (.ifCond .gt o, 3)) (hp : pc + 3 = pc') (hq : ¬ y < x) (hr : Go p l e R s m args below meth c n0 F h k n pc' Ls st) : Go p l e R s m args below meth c n0 F h k n pc Ls (.int (XT.cmpL x y) :: st) := by
  subst hp; exact Go.pl (fun T locs X eT t q => XS.ifNo X.here C.1 rfl (hb C.2.2.2.1 hd) rfl (XT.ll_gt_f hq) q) hr
theorem Cx.lif_gt (C : Cx p s m meth c Z n0 own bc maxL ret nm) {x y : Int64} {o : Int} {pc'' : Nat} (hd : decode bc pc = .ok (.ifCond .gt o, 3)) (ho : 0 ≤ (pc : Int) + o) (hp : ((pc : Int) + o).toNat = pc') (hp' : pc + 3 = pc'') (hy : y < x → Go p l e R s m args below meth c n0 F h k n pc' Ls st) (hn : ¬ y < x → Go p l e R s m args below meth c n0 F h k n pc'' Ls st) : Go p l e R s m args below meth c n0 F h k n pc Ls (.int (XT.cmpL x y) :: st) := by
  by_cases q : y < x
  · exact C.lif_gt_t hd ho hp q (hy q)
  · exact C.lif_gt_f hd hp' q (hn q)
theorem Cx.if_le_t (C : Cx p s m meth c Z n0 own bc maxL ret nm) {x : Int32} {o : Int} (hd : decode bc pc = .ok (.ifCond .le o, 3)) (ho : 0 ≤ (pc : Int) + o) (hp : ((pc : Int) + o).toNat = pc') (hq : ¬ 0 < x) (hr : Go p l e R s m args below meth c n0 F h k n pc' Ls st) : Go p l e R s m args below meth c n0 F h k n pc Ls (.int x :: st) :=
  Go.pl (fun T locs X eT t q => XS.ifYes X.here C.1 rfl rfl (hb C.2.2.2.1 hd) rfl (XT.i0_le_t hq) ho hp q) hr
theorem Cx.if_le_f (C : Cx p s m meth c Z n0 own bc maxL ret nm) {x : Int32} {o : Int} (hd : decode bc pc = .ok (.ifCond .le o, 3)) (hp : pc + 3 = pc') (hq : 0 < x) (hr : Go p l e R s m args below meth c n0 F h k n pc' Ls st) : Go p l e R s m args below meth c n0 F h k n pc Ls (.int x :: st) := by
  subst hp; exact Go.pl (fun T locs X eT t q => XS.ifNo X.here C.1 rfl (hb C.2.2.2.1 hd) rfl (XT.i0_le_f hq) q) hr
theorem Cx.if_le (C : Cx p s m meth c Z n0 own bc maxL ret nm) {x : Int32} {o : Int} {pc'' : Nat} (hd : decode bc pc = .ok (.ifCond .le o, 3)) (ho : 0 ≤ (pc : Int) + o) (hp : ((pc : Int) + o).toNat = pc') (hp' : pc + 3 = pc'') (hy : ¬ 0 < x → Go p l e R s m args below meth c n0 F h k n pc' Ls st) (hn : 0 < x → Go p l e R s m args below meth c n0 F h k n pc'' Ls st) : Go p l e R s m args below meth c n0 F h k n pc Ls (.int x :: st) := by
  by_cases q : 0 < x
  · exact C.if_le_f hd hp' q (hn q)
  · exact C.if_le_t hd ho hp q (hy q)
theorem Cx.icmp_le_t (C : Cx p s m meth c Z n0 own bc maxL ret nm) {x y : Int32} {o : Int} (hd : decode bc pc = .ok (.if_icmp .le o, 3)) (ho : 0 ≤ (pc : Int) + o) (hp : ((pc : Int) + o).toNat = pc') (hq : ¬ y < x) (hr : Go p l e R s m args below meth c n0 F h k n pc' Ls st) : Go p l e R s m args below meth c n0 F h k n pc Ls (.int y :: .int x :: st) :=
  Go.pl (fun T locs X eT t q => XS.icmpYes X.here C.1 rfl rfl (hb C.2.2.2.1 hd) rfl (XT.ii_le_t hq) ho hp q) hr
theorem Cx.icmp_le_f (C : Cx p s m meth c Z n0 own bc maxL ret nm) {x y : Int32} {o : Int} (hd : decode bc pc = .ok (.if_icmp .le o, 3)) (hp : pc + 3 = pc') (hq : y < x) (hr : Go p l e R s m args below meth c n0 F h k n pc' Ls st) : Go p l e R s m args below meth c n0 F h k n pc Ls (.int y :: .int x :: st) := by
  subst hp; exact Go.pl (fun T locs X eT t q => XS.icmpNo X.here C.1 rfl (hb C.2.2.2.1 hd) rfl (XT.ii_le_f hq) q) hr
theorem Cx.icmp_le (C : Cx p s m meth c Z n0 own bc maxL ret nm) {x y : Int32} {o : Int} {pc'' : Nat} (hd : decode bc pc = .ok (.if_icmp .le o, 3)) (ho : 0 ≤ (pc : Int) + o) (hp : ((pc : Int) + o).toNat = pc') (hp' : pc + 3 = pc'') (hy : ¬ y < x → Go p l e R s m args below meth c n0 F h k n pc' Ls st) (hn : y < x → Go p l e R s m args below meth c n0 F h k n pc'' Ls st) : Go p l e R s m args below meth c n0 F h k n pc Ls (.int y :: .int x :: st) := by
  by_cases q : y < x
  · exact C.icmp_le_f hd hp' q (hn q)
  · exact C.icmp_le_t hd ho hp q (hy q)
theorem Cx.lif_le_t (C : Cx p s m meth c Z n0 own bc maxL ret nm) {x y : Int64} {o : Int} (hd : decode bc pc = .ok (.ifCond .le o, 3)) (ho : 0 ≤ (pc : Int) + o) (hp : ((pc : Int) + o).toNat = pc') (hq : ¬ y < x) (hr : Go p l e R s m args below meth c n0 F h k n pc' Ls st) : Go p l e R s m args below meth c n0 F h k n pc Ls (.int (XT.cmpL x y) :: st) :=
  Go.pl (fun T locs X eT t q => XS.ifYes X.here C.1 rfl rfl (hb C.2.2.2.1 hd) rfl (XT.ll_le_t hq) ho hp q) hr
theorem Cx.lif_le_f (C : Cx p s m meth c Z n0 own bc maxL ret nm) {x y : Int64} {o : Int} (hd : decode bc pc = .ok (.ifCond .le o, 3)) (hp : pc + 3 = pc') (hq : y < x) (hr : Go p l e R s m args below meth c n0 F h k n pc' Ls st) : Go p l e R s m args below meth c n0 F h k n pc Ls (.int (XT.cmpL x y) :: st) := by
  subst hp; exact Go.pl (fun T locs X eT t q => XS.ifNo X.here C.1 rfl (hb C.2.2.2.1 hd) rfl (XT.ll_le_f hq) q) hr
theorem Cx.lif_le (C : Cx p s m meth c Z n0 own bc maxL ret nm) {x y : Int64} {o : Int} {pc'' : Nat} (hd : decode bc pc = .ok (.ifCond .le o, 3)) (ho : 0 ≤ (pc : Int) + o) (hp : ((pc : Int) + o).toNat = pc') (hp' : pc + 3 = pc'') (hy : ¬ y < x → Go p l e R s m args below meth c n0 F h k n pc' Ls st) (hn : y < x → Go p l e R s m args below meth c n0 F h k n pc'' Ls st) : Go p l e R s m args below meth c n0 F h k n pc Ls (.int (XT.cmpL x y) :: st) := by
  by_cases q : y < x
  · exact C.lif_le_f hd hp' q (hn q)
  · exact C.lif_le_t hd ho hp q (hy q)
theorem Cx.ifnull_ref (C : Cx p s m meth c Z n0 own bc maxL ret nm) {o : Int} {b : Addr} (hd : decode bc pc = .ok (.ifnull o, 3)) (hp : pc + 3 = pc')  (hr : Go p l e R s m args below meth c n0 F h k n pc' Ls (st)) : Go p l e R s m args below meth c n0 F h k n pc Ls (.ref b :: st) := by
  subst hp; exact Go.pl (fun T locs X eT t q => XS.ifnullNo X.here C.1 rfl (hb C.2.2.2.1 hd) rfl q) hr
theorem Cx.ifnonnull_null (C : Cx p s m meth c Z n0 own bc maxL ret nm) {o : Int} (hd : decode bc pc = .ok (.ifnonnull o, 3)) (hp : pc + 3 = pc')  (hr : Go p l e R s m args below meth c n0 F h k n pc' Ls (st)) : Go p l e R s m args below meth c n0 F h k n pc Ls (.null :: st) := by
  subst hp; exact Go.pl (fun T locs X eT t q => XT.ifnonnullNo X.here C.1 rfl (hb C.2.2.2.1 hd) rfl q) hr
theorem Cx.ifnull_null (C : Cx p s m meth c Z n0 own bc maxL ret nm) {b : Addr} {o : Int} (hd : decode bc pc = .ok (.ifnull o, 3)) (ho : 0 ≤ (pc : Int) + o) (hp : ((pc : Int) + o).toNat = pc') (hr : Go p l e R s m args below meth c n0 F h k n pc' Ls st) : Go p l e R s m args below meth c n0 F h k n pc Ls (.null :: st) := by
  exact Go.pl (fun T locs X eT t q => XS.ifnullYes X.here C.1 rfl rfl (hb C.2.2.2.1 hd) rfl ho hp q) hr
theorem Cx.ifnonnull_ref (C : Cx p s m meth c Z n0 own bc maxL ret nm) {b : Addr} {o : Int} (hd : decode bc pc = .ok (.ifnonnull o, 3)) (ho : 0 ≤ (pc : Int) + o) (hp : ((pc : Int) + o).toNat = pc') (hr : Go p l e R s m args below meth c n0 F h k n pc' Ls st) : Go p l e R s m args below meth c n0 F h k n pc Ls (.ref b :: st) := by
  exact Go.pl (fun T locs X eT t q => XT.ifnonnullYes X.here C.1 rfl rfl (hb C.2.2.2.1 hd) rfl ho hp q) hr
theorem Cx.ldcI (C : Cx p s m meth c Z n0 own bc maxL ret nm) {j : Nat} {v : Int32} (hd : decode bc pc = .ok (.ldc j, 2)) (hp : pc + 2 = pc') (w : (Jvm.Cond.constant own j v).before a0 Z = true) (hr : Go p l e R s m args below meth c n0 F h k n pc' Ls (.int v :: st)) : Go p l e R s m args below meth c n0 F h k n pc Ls st := by
  subst hp; exact Go.pl (fun T locs X eT t q => X.ldcI C.1 C.2.2.1 (mv C.2.1 w) rfl (hb C.2.2.2.1 hd) q) hr
theorem Cx.ldcWI (C : Cx p s m meth c Z n0 own bc maxL ret nm) {j : Nat} {v : Int32} (hd : decode bc pc = .ok (.ldc_w j, 3)) (hp : pc + 3 = pc') (w : (Jvm.Cond.constant own j v).before a0 Z = true) (hr : Go p l e R s m args below meth c n0 F h k n pc' Ls (.int v :: st)) : Go p l e R s m args below meth c n0 F h k n pc Ls st := by
  subst hp; exact Go.pl (fun T locs X eT t q => X.ldcWI C.1 C.2.2.1 (mv C.2.1 w) rfl (hb C.2.2.2.1 hd) q) hr
theorem Cx.ldc2J (C : Cx p s m meth c Z n0 own bc maxL ret nm) {j : Nat} {v : Int64} (hd : decode bc pc = .ok (.ldc2_w j, 3)) (hp : pc + 3 = pc') (w : (Jvm.Cond.constantLong own j v).before a0 Z = true) (hr : Go p l e R s m args below meth c n0 F h k n pc' Ls (.long v :: st)) : Go p l e R s m args below meth c n0 F h k n pc Ls st := by
  subst hp; exact Go.pl (fun T locs X eT t q => X.ldc2J C.1 C.2.2.1 (mv C.2.1 w) rfl (hb C.2.2.2.1 hd) q) hr
theorem Cx.alen (C : Cx p s m meth c Z n0 own bc maxL ret nm) {a : Addr} {ty : FieldType} {vs : List Value} (hd : decode bc pc = .ok (.arraylength, 1)) (hp : pc + 1 = pc') (A : Av Z h a ty vs) (hr : Go p l e R s m args below meth c n0 F h k n pc' Ls (.int vs.length.toInt32 :: st)) : Go p l e R s m args below meth c n0 F h k n pc Ls (.ref a :: st) := by
  obtain ⟨cl, A, rfl, -⟩ := A; subst hp; refine Go.pl (fun T locs X eT t q => X.arraylength C.1 (cell := cl) (by rw [eT]; exact A.1) (State.isArrayOf_alike C.2.1.alike A.2.1) (g := mkF m pc Ls (.ref a :: st)) rfl rfl (hb C.2.2.2.1 hd) t q) (by simpa using hr)
theorem Cx.iaload (C : Cx p s m meth c Z n0 own bc maxL ret nm) {a : Addr} {vs : List Value} {j : Int32} (v : Value) (hd : decode bc pc = .ok (.iaload, 1)) (hp : pc + 1 = pc') (A : Av Z h a .int vs) (hj : ¬ j < 0) (hv : vs[j.toNatClampNeg]? = some v) (hr : Go p l e R s m args below meth c n0 F h k n pc' Ls (v :: st)) : Go p l e R s m args below meth c n0 F h k n pc Ls (.int j :: .ref a :: st) := by
  obtain ⟨cl, A, rfl, -⟩ := A; subst hp; rw [Array.getElem?_toList] at hv; exact Go.pl (fun T locs X eT t q => X.iaload C.1 (by rw [eT]; exact A.1) (State.isArrayOf_alike C.2.1.alike A.2.1) A.2.2 (own_in hj hv) hv (g := mkF m pc Ls (.int j :: .ref a :: st)) rfl rfl (hb C.2.2.2.1 hd) t q) hr
theorem Cx.laload (C : Cx p s m meth c Z n0 own bc maxL ret nm) {a : Addr} {vs : List Value} {j : Int32} (v : Value) (hd : decode bc pc = .ok (.laload, 1)) (hp : pc + 1 = pc') (A : Av Z h a .long vs) (hj : ¬ j < 0) (hv : vs[j.toNatClampNeg]? = some v) (hr : Go p l e R s m args below meth c n0 F h k n pc' Ls (v :: st)) : Go p l e R s m args below meth c n0 F h k n pc Ls (.int j :: .ref a :: st) := by
  obtain ⟨cl, A, rfl, -⟩ := A; subst hp; rw [Array.getElem?_toList] at hv; exact Go.pl (fun T locs X eT t q => X.laload C.1 (by rw [eT]; exact A.1) (State.isArrayOf_alike C.2.1.alike A.2.1) A.2.2 (own_in hj hv) hv (g := mkF m pc Ls (.int j :: .ref a :: st)) rfl rfl (hb C.2.2.2.1 hd) t q) hr
theorem Cx.caload (C : Cx p s m meth c Z n0 own bc maxL ret nm) {a : Addr} {vs : List Value} {j : Int32} (v : Value) (hd : decode bc pc = .ok (.caload, 1)) (hp : pc + 1 = pc') (A : Av Z h a .char vs) (hj : ¬ j < 0) (hv : vs[j.toNatClampNeg]? = some v) (hr : Go p l e R s m args below meth c n0 F h k n pc' Ls (v :: st)) : Go p l e R s m args below meth c n0 F h k n pc Ls (.int j :: .ref a :: st) := by
  obtain ⟨cl, A, rfl, -⟩ := A; subst hp; rw [Array.getElem?_toList] at hv; exact Go.pl (fun T locs X eT t q => X.caload C.1 (by rw [eT]; exact A.1) (State.isArrayOf_alike C.2.1.alike A.2.1) A.2.2 (own_in hj hv) hv (g := mkF m pc Ls (.int j :: .ref a :: st)) rfl rfl (hb C.2.2.2.1 hd) t q) hr
theorem Cx.baload (C : Cx p s m meth c Z n0 own bc maxL ret nm) {a : Addr} {vs : List Value} {j : Int32} (v : Value) (hd : decode bc pc = .ok (.baload, 1)) (hp : pc + 1 = pc') (A : Av Z h a .byte vs) (hj : ¬ j < 0) (hv : vs[j.toNatClampNeg]? = some v) (hr : Go p l e R s m args below meth c n0 F h k n pc' Ls (v :: st)) : Go p l e R s m args below meth c n0 F h k n pc Ls (.int j :: .ref a :: st) := by
  obtain ⟨cl, A, rfl, -⟩ := A; subst hp; rw [Array.getElem?_toList] at hv; exact Go.pl (fun T locs X eT t q => X.baloadBytes C.1 (by rw [eT]; exact A.1) (State.isArrayOf_alike C.2.1.alike A.2.1) A.2.2 (own_in hj hv) hv (g := mkF m pc Ls (.int j :: .ref a :: st)) rfl rfl (hb C.2.2.2.1 hd) t q) hr
theorem Cx.zaload (C : Cx p s m meth c Z n0 own bc maxL ret nm) {a : Addr} {vs : List Value} {j : Int32} (v : Value) (hd : decode bc pc = .ok (.baload, 1)) (hp : pc + 1 = pc') (A : Av Z h a .boolean vs) (hj : ¬ j < 0) (hv : vs[j.toNatClampNeg]? = some v) (hr : Go p l e R s m args below meth c n0 F h k n pc' Ls (v :: st)) : Go p l e R s m args below meth c n0 F h k n pc Ls (.int j :: .ref a :: st) := by
  obtain ⟨cl, A, rfl, -⟩ := A; subst hp; rw [Array.getElem?_toList] at hv; exact Go.pl (fun T locs X eT t q => X.baloadBooleans C.1 (by rw [eT]; exact A.1) (State.isArrayOf_alike C.2.1.alike A.2.1) A.2.2 (own_in hj hv) hv (g := mkF m pc Ls (.int j :: .ref a :: st)) rfl rfl (hb C.2.2.2.1 hd) t q) hr
theorem Cx.iastore (C : Cx p s m meth c Z n0 own bc maxL ret nm) {a : Addr} {vs : List Value} {j : Int32} {x : Int32} (hd : decode bc pc = .ok (.iastore, 1)) (hp : pc + 1 = pc') (A : Av Z h a .int vs) (ha : n0 ≤ a) (hj : ¬ j < 0) (hl : j.toNatClampNeg < vs.length) (hr : ∀ h', Wr h h' a j.toNatClampNeg (.int x) → Av Z h' a .int (vs.set j.toNatClampNeg (.int x)) → Go p l e R s m args below meth c n0 F h' k n pc' Ls st) : Go p l e R s m args below meth c n0 F h k n pc Ls (.int x :: .int j :: .ref a :: st) := by
  intro T locs X eT N; have A0 := A; obtain ⟨cl, A, rfl, -⟩ := A; subst hp; rw [Array.length_toList] at hl
  obtain ⟨T', h', X', e', W, stp⟩ := stI X C.1 C.2.1 eT A (own_in2 hj hl) (g := mkF m pc Ls (.int x :: .int j :: .ref a :: st)) rfl rfl (hb C.2.2.2.1 hd)
  obtain ⟨s₂, o, q1, q2⟩ := hr h' W (A0.same W rfl) T' _ X' e' (Fr.snoc X' N ha)
  exact ⟨s₂, o, stp _ q1, q2⟩
theorem Cx.lastore (C : Cx p s m meth c Z n0 own bc maxL ret nm) {a : Addr} {vs : List Value} {j : Int32} {x : Int64} (hd : decode bc pc = .ok (.lastore, 1)) (hp : pc + 1 = pc') (A : Av Z h a .long vs) (ha : n0 ≤ a) (hj : ¬ j < 0) (hl : j.toNatClampNeg < vs.length) (hr : ∀ h', Wr h h' a j.toNatClampNeg (.long x) → Av Z h' a .long (vs.set j.toNatClampNeg (.long x)) → Go p l e R s m args below meth c n0 F h' k n pc' Ls st) : Go p l e R s m args below meth c n0 F h k n pc Ls (.long x :: .int j :: .ref a :: st) := by
  intro T locs X eT N; have A0 := A; obtain ⟨cl, A, rfl, -⟩ := A; subst hp; rw [Array.length_toList] at hl
  obtain ⟨T', h', X', e', W, stp⟩ := stJ X C.1 C.2.1 eT A (own_in2 hj hl) (g := mkF m pc Ls (.long x :: .int j :: .ref a :: st)) rfl rfl (hb C.2.2.2.1 hd)
  obtain ⟨s₂, o, q1, q2⟩ := hr h' W (A0.same W rfl) T' _ X' e' (Fr.snoc X' N ha)
  exact ⟨s₂, o, stp _ q1, q2⟩
theorem Cx.castore (C : Cx p s m meth c Z n0 own bc maxL ret nm) {a : Addr} {vs : List Value} {j : Int32} {x : Int32} (hd : decode bc pc = .ok (.castore, 1)) (hp : pc + 1 = pc') (A : Av Z h a .char vs) (ha : n0 ≤ a) (hj : ¬ j < 0) (hl : j.toNatClampNeg < vs.length) (hr : ∀ h', Wr h h' a j.toNatClampNeg (.int (nar .char x)) → Av Z h' a .char (vs.set j.toNatClampNeg (.int (nar .char x))) → Go p l e R s m args below meth c n0 F h' k n pc' Ls st) : Go p l e R s m args below meth c n0 F h k n pc Ls (.int x :: .int j :: .ref a :: st) := by
  intro T locs X eT N; have A0 := A; obtain ⟨cl, A, rfl, -⟩ := A; subst hp; rw [Array.length_toList] at hl
  obtain ⟨T', h', X', e', W, stp⟩ := stC X C.1 C.2.1 eT A (own_in2 hj hl) (g := mkF m pc Ls (.int x :: .int j :: .ref a :: st)) rfl rfl (hb C.2.2.2.1 hd)
  obtain ⟨s₂, o, q1, q2⟩ := hr h' W (A0.same W (fits_nar_char x)) T' _ X' e' (Fr.snoc X' N ha)
  exact ⟨s₂, o, stp _ q1, q2⟩
theorem Cx.bastore (C : Cx p s m meth c Z n0 own bc maxL ret nm) {a : Addr} {vs : List Value} {j : Int32} {x : Int32} (hd : decode bc pc = .ok (.bastore, 1)) (hp : pc + 1 = pc') (A : Av Z h a .byte vs) (ha : n0 ≤ a) (hj : ¬ j < 0) (hl : j.toNatClampNeg < vs.length) (hr : ∀ h', Wr h h' a j.toNatClampNeg (.int (nar .byte x)) → Av Z h' a .byte (vs.set j.toNatClampNeg (.int (nar .byte x))) → Go p l e R s m args below meth c n0 F h' k n pc' Ls st) : Go p l e R s m args below meth c n0 F h k n pc Ls (.int x :: .int j :: .ref a :: st) := by
  intro T locs X eT N; have A0 := A; obtain ⟨cl, A, rfl, -⟩ := A; subst hp; rw [Array.length_toList] at hl
  obtain ⟨T', h', X', e', W, stp⟩ := stB X C.1 C.2.1 eT A (own_in2 hj hl) (g := mkF m pc Ls (.int x :: .int j :: .ref a :: st)) rfl rfl (hb C.2.2.2.1 hd)
  obtain ⟨s₂, o, q1, q2⟩ := hr h' W (A0.same W (fits_nar_byte x)) T' _ X' e' (Fr.snoc X' N ha)
  exact ⟨s₂, o, stp _ q1, q2⟩
theorem Cx.zastore (C : Cx p s m meth c Z n0 own bc maxL ret nm) {a : Addr} {vs : List Value} {j : Int32} {x : Int32} (hd : decode bc pc = .ok (.bastore, 1)) (hp : pc + 1 = pc') (A : Av Z h a .boolean vs) (ha : n0 ≤ a) (hj : ¬ j < 0) (hl : j.toNatClampNeg < vs.length) (hr : ∀ h', Wr h h' a j.toNatClampNeg (.int (nar .boolean x)) → Av Z h' a .boolean (vs.set j.toNatClampNeg (.int (nar .boolean x))) → Go p l e R s m args below meth c n0 F h' k n pc' Ls st) : Go p l e R s m args below meth c n0 F h k n pc Ls (.int x :: .int j :: .ref a :: st) := by
  intro T locs X eT N; have A0 := A; obtain ⟨cl, A, rfl, -⟩ := A; subst hp; rw [Array.length_toList] at hl
  obtain ⟨T', h', X', e', W, stp⟩ := stZ X C.1 C.2.1 eT A (own_in2 hj hl) (g := mkF m pc Ls (.int x :: .int j :: .ref a :: st)) rfl rfl (hb C.2.2.2.1 hd)
  obtain ⟨s₂, o, q1, q2⟩ := hr h' W (A0.same W (fits_nar_bool x)) T' _ X' e' (Fr.snoc X' N ha)
  exact ⟨s₂, o, stp _ q1, q2⟩
theorem Cx.new (C : Cx p s m meth c Z n0 own bc maxL ret nm) {cls : String} {j nn : Nat} (hd : decode bc pc = .ok (.new j, 3)) (hp : pc + 3 = pc') (w1 : (Jvm.Cond.classLink own j cls).before a0 Z = true) (w2 : (Jvm.Cond.instantiable cls nn).before a0 Z = true) (w3 : (Jvm.Cond.initialized cls).before a0 Z = true) (hk : k + 1 ≤ R.cells) (hn : n + nn ≤ R.slots)
    (hr : ∀ (a : Addr) (h' : Heap), a = h.size → n0 ≤ a → Ext h h' → Exa Z h' a cls → (∀ {O f d : String} {ty : FieldType}, Laid Z a0 cls O f d → parseFieldDescriptor d = some ty → Fld Z h' a O f d (defaultValue ty)) → Go p l e R s m args below meth c n0 F h' (k + 1) (n + nn) pc' Ls (.ref a :: st)) : Go p l e R s m args below meth c n0 F h k n pc Ls st := by
  intro T locs X eT N
  subst hp
  obtain ⟨T', h', X', e', E', A', D', -, stp⟩ := newO X C.1 C.2.1 C.2.2.1 w1 w2 w3 eT (g := mkF m pc Ls st) rfl (hb C.2.2.2.1 hd) hk hn
  obtain ⟨s₂, o, q1, q2⟩ := hr h.size h' rfl (by rw [← eT]; exact C.size X) E' A' D' T' _ X' e' N
  exact ⟨s₂, o, stp _ q1, q2⟩
theorem Cx.newarr (C : Cx p s m meth c Z n0 own bc maxL ret nm) {aty : ArrayType} {ty : FieldType} {z : Int32} (cap : Nat) (hd : decode bc pc = .ok (.newarray aty, 2)) (hp : pc + 2 = pc') (hty : newarray.typeOf aty = ty) (w : (Jvm.Cond.arrayClass ty).before a0 Z = true) (hz : ¬ z < 0) (hcap : z.toNatClampNeg ≤ cap) (hb8 : cap * 8 ≤ 536870912) (hk : k + 1 ≤ R.cells) (hn : n + cap ≤ R.slots)
    (hr : ∀ (a : Addr) (h' : Heap), a = h.size → n0 ≤ a → Ext h h' → Av Z h' a ty (List.replicate z.toNatClampNeg (defaultValue ty)) → Go p l e R s m args below meth c n0 F h' (k + 1) (n + cap) pc' Ls (.ref a :: st)) : Go p l e R s m args below meth c n0 F h k n pc Ls (.int z :: st) := by
  intro T locs X eT N
  subst hp hty
  obtain ⟨T', h', cA, X', e', E', A', stp⟩ := newP X C.1 C.2.1 w eT (g := mkF m pc Ls (.int z :: st)) rfl (hb C.2.2.2.1 hd) rfl hz hcap hb8 hk hn
  obtain ⟨s₂, o, q1, q2⟩ := hr h.size h' rfl (by rw [← eT]; exact C.size X) E' (Av.new A') T' _ X' e' N
  exact ⟨s₂, o, stp _ q1, q2⟩
theorem Cx.initO (C : Cx p s m meth c Z n0 own bc maxL ret nm) {j : Nat} {a : Addr} (W : Nat) (hd : decode bc pc = .ok (.invokespecial j, 3)) (hp : pc + 3 = pc') (w1 : (Jvm.Cond.methodLink own j Lib.objectInit).before a0 Z = true) (w2 : (Jvm.Cond.instanceMethod Lib.objectInit).before a0 Z = true) (w3 : (Jvm.Cond.code Lib.objectInit ⟨#[0xb1]⟩ 1 none).before a0 Z = true) (hsz : Ls.size = maxL) (hf : 1 ≤ R.frames) (hW : (st.map fun v => v.category).sum ≤ W) (hl : W + 12 ≤ R.locals)
    (hr : Go p l e R s m args below meth c n0 F h k n pc' Ls st) : Go p l e R s m args below meth c n0 F h k n pc Ls (.ref a :: st) := by
  intro T locs X eT N
  subst hp
  obtain ⟨T', X', e', stp⟩ := RoadKit.initO X C.1 C.2.1 C.2.2.1 w1 w2 w3 eT (g := mkF m pc Ls (.ref a :: st)) rfl (hsz.trans C.2.2.2.2.1.symm) rfl (hb C.2.2.2.1 hd) hf (W := W) (by show 2 * 0 + _ ≤ W; omega) hl
  obtain ⟨s₂, o, q1, q2⟩ := hr T' _ X' e' N
  exact ⟨s₂, o, stp _ q1, q2⟩
theorem Cx.getF (C : Cx p s m meth c Z n0 own bc maxL ret nm) {O f d : String} {j : Nat} {a : Addr} {v : Value} (hd : decode bc pc = .ok (.getfield j, 3)) (hp : pc + 3 = pc') (w : (Jvm.Cond.fieldLink own j O f d).before a0 Z = true) (F' : Fld Z h a O f d v)
    (hr : Go p l e R s m args below meth c n0 F h k n pc' Ls (v :: st)) : Go p l e R s m args below meth c n0 F h k n pc Ls (.ref a :: st) := by
  intro T locs X eT N
  subst hp
  obtain ⟨T', X', e', stp⟩ := RoadKit.getF X C.1 C.2.1 C.2.2.1 (host := "") (Or.inl w) Via.refl eT F' (g := mkF m pc Ls (.ref a :: st)) rfl rfl (hb C.2.2.2.1 hd)
  obtain ⟨s₂, o, q1, q2⟩ := hr T' _ X' e' N
  exact ⟨s₂, o, stp _ q1, q2⟩
theorem Cx.putF (C : Cx p s m meth c Z n0 own bc maxL ret nm) {O f d cls : String} {j kk : Nat} {ty : FieldType} {a : Addr} {v old : Value} (hd : decode bc pc = .ok (.putfield j, 3)) (hp : pc + 3 = pc') (w : (Jvm.Cond.fieldLink own j O f d).before a0 Z = true) (F' : Fld Z h a O f d old) (E : Exa Z h a cls)
    (L : (Jvm.Cond.lays cls O f d).before a0 Z = true ∨ ((Jvm.Cond.laysFinal cls O f d).before a0 Z = true ∧ own = O ∧ nm = "<init>")) (wi : (Jvm.Cond.instantiable cls kk).before a0 Z = true) (hty : parseFieldDescriptor d = some ty) (hnr : narrow ty v = v) (hf : fits ty v = true) (ha : n0 ≤ a)
    (hr : ∀ h', Wr h h' a (Jvm.RoadKit.slotOf Z O f d) v → Fld Z h' a O f d v → Go p l e R s m args below meth c n0 F h' k n pc' Ls st) : Go p l e R s m args below meth c n0 F h k n pc Ls (v :: .ref a :: st) := by
  intro T locs X eT N
  subst hp
  obtain ⟨T', h', X', e', W, stp⟩ := RoadKit.putF X C.1 C.2.1 C.2.2.1 (host := "") (Or.inl w) Via.refl eT F' E (L.imp id fun q => ⟨q.1, q.2.1, C.2.2.2.2.2.2.1.trans q.2.2⟩) wi hty hnr hf (g := mkF m pc Ls (v :: .ref a :: st)) rfl rfl (hb C.2.2.2.1 hd)
  obtain ⟨s₂, o, q1, q2⟩ := hr h' W (F'.same W) T' _ X' e' (Fr.snoc X' N ha)
  exact ⟨s₂, o, stp _ q1, q2⟩
/-! the end of a body -/
theorem Cx.ret0 {Q : Option Value → Heap → Prop} {ck cs : Nat} (C : Cx p s m meth c Z n0 own bc maxL none nm) (hd : decode bc pc = .ok (.return_, 1)) (hk : k ≤ ck) (hn : n ≤ cs) (hq : Q none h) : Go p l e R s m args below meth c n0 (FinQ s n0 Q ck cs) h k n pc Ls [] := by
  intro T locs X eT N
  have hlk := C.2.2.2.2.2.2.2.1
  obtain ⟨fs, hr, hrun, hended, hW, hsame⟩ := X.leave (v := none) (fun _ => rfl) hlk
  exact ⟨_, _, X.returnOut C.1 C.2.2.2.2.2.1 (hb C.2.2.2.1 hd) hr, hrun, hended, _, _, rfl, ⟨by show Q none T.heap; rw [eT]; exact hq, N⟩, ⟨_, rfl⟩, hW, hsame.mono hk hn⟩
theorem Cx.retW {Q : Option Value → Heap → Prop} {ck cs : Nat} {t : FieldType} {w : Value} {i : Instr} (C : Cx p s m meth c Z n0 own bc maxL (some t) nm) (hd : decode bc pc = .ok (i, 1)) (hnr : narrow t w = w)
    (hi : (i = .ireturn ∧ (t = .int ∨ t = .boolean ∨ t = .byte ∨ t = .char ∨ t = .short) ∧ ∃ z, w = .int z) ∨ (i = .lreturn ∧ t = .long ∧ ∃ z, w = .long z) ∨ (i = .dreturn ∧ t = .double ∧ ∃ z, w = .double z) ∨ (i = .freturn ∧ t = .float ∧ ∃ z, w = .float z) ∨ (i = .areturn ∧ t.isReference = true ∧ w.isRef = true))
    (hk : k ≤ ck) (hn : n ≤ cs) (hq : Q (some w) h) : Go p l e R s m args below meth c n0 (FinQ s n0 Q ck cs) h k n pc Ls (w :: st) := by
  intro T locs X eT N
  have hlk := C.2.2.2.2.2.2.2.1
  have hrt := C.2.2.2.2.2.1
  obtain ⟨fs, hr, hrun, hended, hW, hsame⟩ := X.leave (v := some w) (fun q => by rw [hrt] at q; cases q) hlk
  exact ⟨_, _, retOut X C.1 hrt hnr hi (hb C.2.2.2.1 hd) hr, hrun, hended, _, _, rfl, ⟨by show Q (some w) T.heap; rw [eT]; exact hq, N⟩, ⟨_, rfl⟩, hW, hsame.mono hk hn⟩
theorem Cx.retI {Q : Option Value → Heap → Prop} {ck cs : Nat} {z : Int32} (C : Cx p s m meth c Z n0 own bc maxL (some .int) nm) (hd : decode bc pc = .ok (.ireturn, 1)) (hk : k ≤ ck) (hn : n ≤ cs) (hq : Q (some (.int z)) h) : Go p l e R s m args below meth c n0 (FinQ s n0 Q ck cs) h k n pc Ls (.int z :: st) :=
  C.retW hd rfl (Or.inl ⟨rfl, Or.inl rfl, z, rfl⟩) hk hn hq
theorem Cx.retZ {Q : Option Value → Heap → Prop} {ck cs : Nat} {z : Int32} (C : Cx p s m meth c Z n0 own bc maxL (some .boolean) nm) (hd : decode bc pc = .ok (.ireturn, 1)) (hz : narrow .boolean (.int z) = .int z) (hk : k ≤ ck) (hn : n ≤ cs) (hq : Q (some (.int z)) h) : Go p l e R s m args below meth c n0 (FinQ s n0 Q ck cs) h k n pc Ls (.int z :: st) :=
  C.retW hd hz (Or.inl ⟨rfl, Or.inr (Or.inl rfl), z, rfl⟩) hk hn hq
theorem Cx.retC {Q : Option Value → Heap → Prop} {ck cs : Nat} {z : Int32} (C : Cx p s m meth c Z n0 own bc maxL (some .char) nm) (hd : decode bc pc = .ok (.ireturn, 1)) (hz : narrow .char (.int z) = .int z) (hk : k ≤ ck) (hn : n ≤ cs) (hq : Q (some (.int z)) h) : Go p l e R s m args below meth c n0 (FinQ s n0 Q ck cs) h k n pc Ls (.int z :: st) :=
  C.retW hd hz (Or.inl ⟨rfl, Or.inr (Or.inr (Or.inr (Or.inl rfl))), z, rfl⟩) hk hn hq
theorem Cx.retJ {Q : Option Value → Heap → Prop} {ck cs : Nat} {z : Int64} (C : Cx p s m meth c Z n0 own bc maxL (some .long) nm) (hd : decode bc pc = .ok (.lreturn, 1)) (hk : k ≤ ck) (hn : n ≤ cs) (hq : Q (some (.long z)) h) : Go p l e R s m args below meth c n0 (FinQ s n0 Q ck cs) h k n pc Ls (.long z :: st) :=
  C.retW hd rfl (Or.inr (Or.inl ⟨rfl, rfl, z, rfl⟩)) hk hn hq
theorem Cx.retA {Q : Option Value → Heap → Prop} {ck cs : Nat} {t : FieldType} {a : Addr} (C : Cx p s m meth c Z n0 own bc maxL (some t) nm) (hd : decode bc pc = .ok (.areturn, 1)) (ht : t.isReference = true) (hnr : narrow t (.ref a) = .ref a) (hk : k ≤ ck) (hn : n ≤ cs) (hq : Q (some (.ref a)) h) : Go p l e R s m args below meth c n0 (FinQ s n0 Q ck cs) h k n pc Ls (.ref a :: st) :=
  C.retW hd hnr (Or.inr (Or.inr (Or.inr (Or.inr ⟨rfl, ht, rfl⟩)))) hk hn hq
/-! a body's contract out of its walk -/
theorem Con.of {ws : List Jvm.Cond} {y : MethodName} {as : Array Value} {h0 : Heap} {Q : Option Value → Heap → Prop} (hn : plainFor y = true) (ef : ∀ m, entryFrame m as maxL = mkF m 0 Ls []) (hn0 : n0 ≤ h0.size)
    (body : ∀ p e s m below meth c, Cx p s m meth c Z n0 y.cls bc maxL ret y.name → Go p l e R s m as below meth c n0 (FinQ s n0 Q R.cells R.slots) h0 0 0 0 Ls []) : Con l Z n0 ws y bc maxL ret R as h0 Q := by
  refine MetFree.of_bodySF hn hisR ?_
  intro p e s m args below meth c s₁ Bd hml0 hP hK
  obtain ⟨rfl, hZ, hh⟩ := hP
  have e0 : s₁.heap = h0 := by rw [← hh, Bd.state]; rfl
  have X0 : Stand p l e R s m args below meth c s₁ [] 0 0 := Stand.of_body Bd
  obtain ⟨s₂, o, q1, q2, q3, q4⟩ := body p e s m below meth c ⟨Bd.exec, hZ, findClass_of_methodNamed Bd.named, Bd.bytes, hml0, Bd.returns, (name_of_methodNamed Bd.named Bd.method).1, Bd.notSynchronized, by rw [hh]; exact hn0⟩ s₁ [] X0 e0 (Fr.nil n0)
  exact ⟨s₂, o, castTop (ef m) q1, q2, q3, q4⟩
theorem Con.imp {ws : List Jvm.Cond} {y : MethodName} {as : Array Value} {h0 : Heap} {Q Q' : Option Value → Heap → Prop} (H : Con l Z n0 ws y bc maxL ret R as h0 Q) (q : ∀ v h, Q v h → Q' v h) : Con l Z n0 ws y bc maxL ret R as h0 Q' := by
  intro p e ha hc hk s m args below hf happ hP hK
  obtain ⟨n, o, h1, h2, h3, v, L, r1, ⟨r2, r3⟩, r4⟩ := H p e ha hc hk s m args below hf happ hP hK
  exact ⟨n, o, h1, h2, h3, v, L, r1, ⟨q _ _ r2, r3⟩, r4⟩
/-! calls by contract -/
theorem Cx.callS (C : Cx p s m meth c Z n0 own bc maxL ret nm) {y : MethodName} {bc' : ByteArray} {maxL' j : Nat} {ret' : Option FieldType} {R' : Room} {argsL rest : List Value} {Q : Option Value → Heap → Prop} (W : Nat) (hC : n0 ≤ h.size → Con l Z n0 [] y bc' maxL' ret' R' argsL.toArray h Q) (hd : decode bc pc = .ok (.invokestatic j, 3)) (hp : pc + 3 = pc')
    (w1 : (Jvm.Cond.methodLink own j y).before a0 Z = true) (w2 : (Jvm.Cond.static y).before a0 Z = true) (w3 : (Jvm.Cond.initialized y.cls).before a0 Z = true) (w4 : (Jvm.Cond.code y bc' maxL' ret').before a0 Z = true) (hy : y.cls ≠ "java/lang/invoke/MethodHandle" ∧ y.cls ≠ "java/lang/invoke/VarHandle") {ps : List FieldType} {r : Option FieldType} (hpd : parseMethodDescriptor y.desc = some ⟨ps, r⟩) (hlen : argsL.length = ps.length)
    (hst : st = argsL.reverse ++ rest) (hsz : Ls.size = maxL) (hW : (rest.map fun v => v.category).sum ≤ W) (hf : R'.frames + 1 ≤ R.frames) (hl : W + (maxL' + 11) + R'.locals ≤ R.locals) (hk : k + R'.cells ≤ R.cells) (hn : n + R'.slots ≤ R.slots)
    (hr : ∀ v h', Q v h' → Go p l e R s m args below meth c n0 F h' (k + R'.cells) (n + R'.slots) pc' Ls (v.toList ++ rest)) : Go p l e R s m args below meth c n0 F h k n pc Ls st := by
  intro T locs X eT N
  subst hp hst
  obtain ⟨v, _, ⟨T', L', k', n'⟩, -, X', ⟨Lc, hQ, l1, y1, z1⟩, stp⟩ := Jvm.LawKit.callS X C.1 (y := y) C.2.2.1 (mvT C.2.1 w1) (mvT C.2.1 w2) (mvT C.2.1 w3) (mvT C.2.1 w4) hy (backOf (Z := Z) (h := h) (bytes := bc') (maxL := maxL') (ret := ret') (rm := R') (as' := argsL.toArray) (Q := fun v h' L => Q v h' ∧ Fr n0 L) (W := W) (hC (by rw [← eT]; exact C.size X)) C.2.1 w4 w3 hf hl) (g := mkF m pc Ls (argsL.reverse ++ rest)) rfl (hsz.trans C.2.2.2.2.1.symm) (argsL := argsL) (rest := rest) (lenOf hpd hlen) rfl (by show 2 * 0 + _ ≤ W; omega) (hb C.2.2.2.1 hd) (fun _ _ => ⟨rfl, eT, hk, hn⟩)
  dsimp only [Pt.U, Pt.locs, Pt.cells, Pt.slots] at X' l1 y1 z1 stp hQ
  subst l1 y1 z1
  obtain ⟨s₂, o, q1, q2⟩ := hr v T'.heap hQ.1 T' _ X' rfl (Fr.app N hQ.2)
  exact ⟨s₂, o, stp _ q1, q2⟩
theorem Cx.callN (C : Cx p s m meth c Z n0 own bc maxL ret nm) {y : MethodName} {bc' : ByteArray} {maxL' j : Nat} {R' : Room} {a : Addr} {argsL rest : List Value} {Q : Option Value → Heap → Prop} (W : Nat) (hC : n0 ≤ h.size → Con l Z n0 [] y bc' maxL' none R' (.ref a :: argsL).toArray h Q) (hd : decode bc pc = .ok (.invokespecial j, 3)) (hp : pc + 3 = pc') (hy1 : y.name = "<init>")
    (w1 : (Jvm.Cond.methodLink own j y).before a0 Z = true) (w2 : (Jvm.Cond.instanceMethod y).before a0 Z = true) (w3 : (Jvm.Cond.initialized y.cls).before a0 Z = true) (w4 : (Jvm.Cond.code y bc' maxL' none).before a0 Z = true) (hy : y.cls ≠ "java/lang/invoke/MethodHandle" ∧ y.cls ≠ "java/lang/invoke/VarHandle") {ps : List FieldType} {r : Option FieldType} (hpd : parseMethodDescriptor y.desc = some ⟨ps, r⟩) (hlen : argsL.length = ps.length)
    (hst : st = argsL.reverse ++ .ref a :: rest) (hsz : Ls.size = maxL) (hW : (rest.map fun v => v.category).sum ≤ W) (hf : R'.frames + 1 ≤ R.frames) (hl : W + (maxL' + 11) + R'.locals ≤ R.locals) (hk : k + R'.cells ≤ R.cells) (hn : n + R'.slots ≤ R.slots)
    (hr : ∀ v h', Q v h' → Go p l e R s m args below meth c n0 F h' (k + R'.cells) (n + R'.slots) pc' Ls (v.toList ++ rest)) : Go p l e R s m args below meth c n0 F h k n pc Ls st := by
  intro T locs X eT N
  subst hp hst
  obtain ⟨v, _, ⟨T', L', k', n'⟩, -, X', ⟨Lc, hQ, l1, y1, z1⟩, stp⟩ := X.specialBack C.1 (y := y) hy1 C.2.2.1 (mvT C.2.1 w1) (mvT C.2.1 w2) (mvT C.2.1 w4) hy (backOf (Z := Z) (h := h) (bytes := bc') (maxL := maxL') (ret := none) (rm := R') (as' := (Value.ref a :: argsL).toArray) (Q := fun v h' L => Q v h' ∧ Fr n0 L) (W := W) (hC (by rw [← eT]; exact C.size X)) C.2.1 w4 w3 hf hl) (g := mkF m pc Ls (argsL.reverse ++ .ref a :: rest)) rfl (hsz.trans C.2.2.2.2.1.symm) (Steps.refl _) (a := a) (argsL := argsL) (rest := rest) (lenOf hpd hlen) rfl (by show 2 * 0 + _ ≤ W; omega) (hb C.2.2.2.1 hd) (fun _ _ => ⟨rfl, eT, hk, hn⟩)
  dsimp only [Pt.U, Pt.locs, Pt.cells, Pt.slots] at X' l1 y1 z1 stp hQ
  subst l1 y1 z1
  obtain ⟨s₂, o, q1, q2⟩ := hr v T'.heap hQ.1 T' _ X' rfl (Fr.app N hQ.2)
  exact ⟨s₂, o, stp.trans q1, q2⟩
theorem Cx.callV (C : Cx p s m meth c Z n0 own bc maxL ret nm) {y : MethodName} {cls : String} {bc' : ByteArray} {maxL' j : Nat} {ret' : Option FieldType} {R' : Room} {a : Addr} {argsL rest : List Value} {Q : Option Value → Heap → Prop} (W : Nat) (hC : n0 ≤ h.size → Con l Z n0 [] y bc' maxL' ret' R' (.ref a :: argsL).toArray h Q) (E : Exa Z h a cls) (hd : decode bc pc = .ok (.invokevirtual j, 3)) (hp : pc + 3 = pc')
    (w1 : (Jvm.Cond.methodLink own j y).before a0 Z = true) (w2 : (Jvm.Cond.declares y).before a0 Z = true) (w3 : (Jvm.Cond.instanceMethod y).before a0 Z = true) (w4 : (Jvm.Cond.selects cls y y).before a0 Z = true) (w5 : (Jvm.Cond.initialized y.cls).before a0 Z = true) (w6 : (Jvm.Cond.code y bc' maxL' ret').before a0 Z = true) (hy : y.cls ≠ "java/lang/invoke/MethodHandle" ∧ y.cls ≠ "java/lang/invoke/VarHandle") {ps : List FieldType} {r : Option FieldType} (hpd : parseMethodDescriptor y.desc = some ⟨ps, r⟩) (hlen : argsL.length = ps.length)
    (hst : st = argsL.reverse ++ .ref a :: rest) (hsz : Ls.size = maxL) (hW : (rest.map fun v => v.category).sum ≤ W) (hf : R'.frames + 1 ≤ R.frames) (hl : W + (maxL' + 11) + R'.locals ≤ R.locals) (hk : k + R'.cells ≤ R.cells) (hn : n + R'.slots ≤ R.slots)
    (hr : ∀ v h', Q v h' → Go p l e R s m args below meth c n0 F h' (k + R'.cells) (n + R'.slots) pc' Ls (v.toList ++ rest)) : Go p l e R s m args below meth c n0 F h k n pc Ls st := by
  intro T locs X eT N
  subst hp hst
  obtain ⟨cq, kq, qa, qb, qc⟩ := isOf (T := T) C.2.1 eT E
  obtain ⟨v, _, ⟨T', L', k', n'⟩, -, X', ⟨Lc, hQ, l1, y1, z1⟩, stp⟩ := X.virtualBack C.1 (y := y) (z := y) C.2.2.1 (mvT C.2.1 w1) (mvT C.2.1 w2) (notFace_of_selects (args := #[]) (mvT C.2.1 w4)) (mvT C.2.1 w4) (mvT C.2.1 w3) hy (backOf (Z := Z) (h := h) (bytes := bc') (maxL := maxL') (ret := ret') (rm := R') (as' := (Value.ref a :: argsL).toArray) (Q := fun v h' L => Q v h' ∧ Fr n0 L) (W := W) (hC (by rw [← eT]; exact C.size X)) C.2.1 w6 w5 hf hl) qa qc (g := mkF m pc Ls (argsL.reverse ++ .ref a :: rest)) rfl (hsz.trans C.2.2.2.2.1.symm) (Steps.refl _) (argsL := argsL) (rest := rest) (lenOf hpd hlen) rfl (by show 2 * 0 + _ ≤ W; omega) (hb C.2.2.2.1 hd) (fun _ _ => ⟨rfl, eT, hk, hn⟩)
  dsimp only [Pt.U, Pt.locs, Pt.cells, Pt.slots] at X' l1 y1 z1 stp hQ
  subst l1 y1 z1
  obtain ⟨s₂, o, q1, q2⟩ := hr v T'.heap hQ.1 T' _ X' rfl (Fr.app N hQ.2)
  exact ⟨s₂, o, stp.trans q1, q2⟩
end Own
theorem own_or_l {a b : Int64} (q : ¬ a = 0) : ¬ a ||| b = 0 := fun e => q (by
  have f := congrArg Int64.toBitVec e
  rw [Int64.toBitVec_or] at f
  exact Int64.toBitVec_inj.1 (BitVec.or_eq_zero_iff.mp f).1)
theorem own_or_r {a b : Int64} (q : ¬ b = 0) : ¬ a ||| b = 0 := fun e => q (by
  have f := congrArg Int64.toBitVec e
  rw [Int64.toBitVec_or] at f
  exact Int64.toBitVec_inj.1 (BitVec.or_eq_zero_iff.mp f).2)
section OwnArr
variable {p : Program} {l : Launch} {e : Env} {R : Room} {s : State} {m : MethodId} {args : Array Value} {below : List Frame} {meth : Method} {c : Code} {n0 : Nat} {F : State → Outcome → Prop} {h : Heap} {k n pc pc' : Nat} {Ls : Array Slot} {st : List Value} {Z : State} {own : String} {bc : ByteArray} {maxL : Nat} {ret : Option FieldType} {nm : String} {a0 : Array Value}
theorem own_clamp {j : Nat} (q : j < 2 ^ 31) : j.toInt32.toNatClampNeg = j ∧ ¬ j.toInt32 < 0 := by
  have e := len_toInt q
  constructor
  · simp only [Int32.toNatClampNeg, e]; omega
  · rw [Int32.lt_iff_toInt_lt, e]; simp only [Int32.reduceToInt]; omega
theorem Av.arv {a : Addr} {ty : FieldType} {vs : List Value} (A : Av Z h a ty vs) (q : vs.length < 2 ^ 31) (dv : Value) : ∃ kc, Arv Z h a kc ty vs.length.toInt32 vs dv := by
  obtain ⟨cl, A, rfl, r⟩ := A
  obtain ⟨e1, e2⟩ := own_clamp q
  rw [Array.length_toList] at q e1 e2 ⊢
  refine ⟨cl.cls, cl, A, rfl, e1.symm, e2, fun i hi => ?_, fun i hi => ?_⟩
  · simp [List.getD_eq_getElem?_getD, hi]
  · have : cl.slots.toList.getD i dv = cl.slots[i] := by simp [List.getD_eq_getElem?_getD, hi]
    rw [this]; exact r _ (by simp)
theorem Arv.av {a : Addr} {kc : ClassId} {ty : FieldType} {z : Int32} {vs : List Value} {dv : Value} (A : Arv Z h a kc ty z vs dv) (q : z.toNatClampNeg = vs.length) : Av Z h a ty vs := by
  obtain ⟨cl, A, -, S, -, H, G⟩ := A
  have e : cl.slots.toList = vs := by
    apply List.ext_getElem?
    intro i
    by_cases hi : i < cl.slots.size
    · have := H i hi
      rw [Array.getElem?_toList, this]
      have h2 : i < vs.length := by omega
      simp [List.getD_eq_getElem?_getD, h2]
    · rw [List.getElem?_eq_none (by simpa using hi), List.getElem?_eq_none (by omega)]
  refine ⟨cl, A, e, fun v hv => ?_⟩
  obtain ⟨i, hi, rfl⟩ := List.getElem_of_mem hv
  have := G i (by omega)
  simpa [List.getD_eq_getElem?_getD, hi] using this
theorem own_range (vs : List Value) (sp nn : Nat) (q : sp + nn ≤ vs.length) (d : Value) : (List.range nn).map (fun i => vs.getD (sp + i) d) = (vs.drop sp).take nn := by
  apply List.ext_getElem?
  intro i
  by_cases hi : i < nn
  · simp [hi, List.getElem?_take, List.getD_eq_getElem?_getD, show sp + i < vs.length by omega]
  · rw [List.getElem?_eq_none (by simpa using hi), List.getElem?_eq_none (by simp; omega)]
theorem Cx.acopy (C : Cx p s m meth c Z n0 own bc maxL ret nm) {j : Nat} {a b : Addr} {ty : FieldType} {sp dp nn : Int32} {vs vd : List Value} (W : Nat) (hd : decode bc pc = .ok (.invokestatic j, 3)) (hp : pc + 3 = pc') (w1 : (Jvm.Cond.methodLink own j Jvm.Stand.acN).before a0 Z = true) (w2 : (Jvm.Cond.native Jvm.Stand.acN).before a0 Z = true) (w3 : (Jvm.Cond.static Jvm.Stand.acN).before a0 Z = true) (w4 : (Jvm.Cond.initialized "java/lang/System").before a0 Z = true)
    (A : Av Z h a ty vs) (B : Av Z h b ty vd) (hty : refKind ty = false) (l1 : vs.length < 2 ^ 31) (l2 : vd.length < 2 ^ 31) (h1 : ¬ sp < 0) (h2 : ¬ dp < 0) (h3 : ¬ nn < 0) (h4 : sp.toNatClampNeg + nn.toNatClampNeg ≤ vs.length) (h5 : dp.toNatClampNeg + nn.toNatClampNeg ≤ vd.length) (ge : n0 ≤ b) (hsz : Ls.size = maxL) (hf : 1 ≤ R.frames) (hW : (st.map fun v => v.category).sum ≤ W) (hlo : W + (nativeFrameWords "java/lang/System" "arraycopy" 5 + 11) ≤ R.locals)
    (hr : ∀ h', Keep h h' [b] → Av Z h' b ty (vd.take dp.toNatClampNeg ++ (vs.drop sp.toNatClampNeg).take nn.toNatClampNeg ++ vd.drop (dp.toNatClampNeg + nn.toNatClampNeg)) → Go p l e R s m args below meth c n0 F h' k n pc' Ls st) : Go p l e R s m args below meth c n0 F h k n pc Ls (.int nn :: .int dp :: .ref b :: .int sp :: .ref a :: st) := by
  intro T locs X eT N
  subst hp
  obtain ⟨ka, A'⟩ := A.arv l1 (.int 0)
  obtain ⟨kb, B'⟩ := B.arv l2 (.int 0)
  have c1 := (own_clamp l1).1
  have c2 := (own_clamp l2).1
  obtain ⟨T', h', L', X', e', N', K', V', stp⟩ := cpA X C.1 C.2.1 C.2.2.1 w1 w2 w3 w4 eT A' B' (Or.inl ⟨rfl, hty⟩) h1 h2 h3 (by rw [c1]; exact h4) (by rw [c2]; exact h5) rfl h5 N ge (g := mkF m pc Ls (.int nn :: .int dp :: .ref b :: .int sp :: .ref a :: st)) rfl (hsz.trans C.2.2.2.2.1.symm) rfl (hb C.2.2.2.1 hd) hf (W := W) (by show 2 * 0 + _ ≤ W; omega) hlo
  rw [own_range vs _ _ h4] at V'
  have V2 := Arv.av V' (by rw [c2]; simp; omega)
  obtain ⟨s₂, o, q1, q2⟩ := hr h' K' V2 T' _ X' e' N'
  exact ⟨s₂, o, stp _ q1, q2⟩
end OwnArr
section OwnCalls
variable {p : Program} {l : Launch} {e : Env} {R : Room} {s : State} {m : MethodId} {args : Array Value} {below : List Frame} {meth : Method} {c : Code} {n0 : Nat} {F : State → Outcome → Prop} {h : Heap} {k n pc pc' : Nat} {Ls : Array Slot} {st : List Value} {Z : State} {own : String} {bc : ByteArray} {maxL : Nat} {ret : Option FieldType} {nm : String} {a0 : Array Value}
theorem Cx.callNN (C : Cx p s m meth c Z n0 own bc maxL ret nm) {y : MethodName} {host : String} {bc' : ByteArray} {maxL' j : Nat} {R' : Room} {a : Addr} {argsL rest : List Value} {Q : Option Value → Heap → Prop} (W : Nat) (hC : n0 ≤ h.size → Con l Z n0 [] y bc' maxL' none R' (.ref a :: argsL).toArray h Q) (hd : decode bc pc = .ok (.invokespecial j, 3)) (hp : pc + 3 = pc') (hy1 : y.name = "<init>")
    (w1 : (Jvm.Cond.methodLinkNest own j y host).before a0 Z = true) (w2 : (Jvm.Cond.instanceMethod y).before a0 Z = true) (w3 : (Jvm.Cond.initialized y.cls).before a0 Z = true) (w4 : (Jvm.Cond.code y bc' maxL' none).before a0 Z = true) (hy : y.cls ≠ "java/lang/invoke/MethodHandle" ∧ y.cls ≠ "java/lang/invoke/VarHandle") {ps : List FieldType} {r : Option FieldType} (hpd : parseMethodDescriptor y.desc = some ⟨ps, r⟩) (hlen : argsL.length = ps.length)
    (hst : st = argsL.reverse ++ .ref a :: rest) (hsz : Ls.size = maxL) (hW : (rest.map fun v => v.category).sum ≤ W) (hf : R'.frames + 1 ≤ R.frames) (hl : W + (maxL' + 11) + R'.locals ≤ R.locals) (hk : k + R'.cells ≤ R.cells) (hn : n + R'.slots ≤ R.slots)
    (hr : ∀ v h', Q v h' → Go p l e R s m args below meth c n0 F h' (k + R'.cells) (n + R'.slots) pc' Ls (v.toList ++ rest)) : Go p l e R s m args below meth c n0 F h k n pc Ls st := by
  intro T locs X eT N
  subst hp hst
  obtain ⟨v, _, ⟨T', L', k', n'⟩, -, X', ⟨Lc, hQ, l1, y1, z1⟩, stp⟩ := X.specialBackNest C.1 (y := y) hy1 C.2.2.1 (Cond.methodLinkNest_wide C.2.1 w1 :) (mvT C.2.1 w2) (mvT C.2.1 w4) hy (backOf (Z := Z) (h := h) (bytes := bc') (maxL := maxL') (ret := none) (rm := R') (as' := (Value.ref a :: argsL).toArray) (Q := fun v h' L => Q v h' ∧ Fr n0 L) (W := W) (hC (by rw [← eT]; exact C.size X)) C.2.1 w4 w3 hf hl) (g := mkF m pc Ls (argsL.reverse ++ .ref a :: rest)) rfl (hsz.trans C.2.2.2.2.1.symm) (Steps.refl _) (a := a) (argsL := argsL) (rest := rest) (lenOf hpd hlen) rfl (by show 2 * 0 + _ ≤ W; omega) (hb C.2.2.2.1 hd) (fun _ _ => ⟨rfl, eT, hk, hn⟩)
  dsimp only [Pt.U, Pt.locs, Pt.cells, Pt.slots] at X' l1 y1 z1 stp hQ
  subst l1 y1 z1
  obtain ⟨s₂, o, q1, q2⟩ := hr v T'.heap hQ.1 T' _ X' rfl (Fr.app N hQ.2)
  exact ⟨s₂, o, stp.trans q1, q2⟩
end OwnCalls
section OwnPriv
variable {p : Program} {l : Launch} {e : Env} {R : Room} {s : State} {m : MethodId} {args : Array Value} {below : List Frame} {meth : Method} {c : Code} {n0 : Nat} {F : State → Outcome → Prop} {h : Heap} {k n pc pc' : Nat} {Ls : Array Slot} {st : List Value} {Z : State} {own : String} {bc : ByteArray} {maxL : Nat} {ret : Option FieldType} {nm : String} {a0 : Array Value}
theorem Cx.callP (C : Cx p s m meth c Z n0 own bc maxL ret nm) {y : MethodName} {cls : String} {bc' : ByteArray} {maxL' j : Nat} {ret' : Option FieldType} {R' : Room} {a : Addr} {argsL rest : List Value} {Q : Option Value → Heap → Prop} (W : Nat) (hC : n0 ≤ h.size → Con l Z n0 [] y bc' maxL' ret' R' (.ref a :: argsL).toArray h Q) (E : Exa Z h a cls) (hd : decode bc pc = .ok (.invokevirtual j, 3)) (hp : pc + 3 = pc')
    (w1 : (Jvm.Cond.methodLink own j y).before a0 Z = true) (w2 : (Jvm.Cond.privateMethod y).before a0 Z = true) (w3 : (Jvm.Cond.instanceMethod y).before a0 Z = true) (w4 : (Jvm.Cond.selects y.cls y y).before a0 Z = true) (w5 : (Jvm.Cond.initialized y.cls).before a0 Z = true) (w6 : (Jvm.Cond.code y bc' maxL' ret').before a0 Z = true) (hy : y.cls ≠ "java/lang/invoke/MethodHandle" ∧ y.cls ≠ "java/lang/invoke/VarHandle") {ps : List FieldType} {r : Option FieldType} (hpd : parseMethodDescriptor y.desc = some ⟨ps, r⟩) (hlen : argsL.length = ps.length)
    (hst : st = argsL.reverse ++ .ref a :: rest) (hsz : Ls.size = maxL) (hW : (rest.map fun v => v.category).sum ≤ W) (hf : R'.frames + 1 ≤ R.frames) (hl : W + (maxL' + 11) + R'.locals ≤ R.locals) (hk : k + R'.cells ≤ R.cells) (hn : n + R'.slots ≤ R.slots)
    (hr : ∀ v h', Q v h' → Go p l e R s m args below meth c n0 F h' (k + R'.cells) (n + R'.slots) pc' Ls (v.toList ++ rest)) : Go p l e R s m args below meth c n0 F h k n pc Ls st := by
  intro T locs X eT N
  subst hp hst
  obtain ⟨cell, hc1, hc2⟩ := E.cell
  obtain ⟨v, _, ⟨T', L', k', n'⟩, -, X', ⟨Lc, hQ, l1, y1, z1⟩, stp⟩ := X.privateBack C.1 (y := y) C.2.2.1 (mvT C.2.1 w1) (mvT C.2.1 w3) (mvT C.2.1 w4) (Cond.privateMethod_at (args := #[]) (mvP C.2.1 w2)) (mvT C.2.1 w6) hy (backOf (Z := Z) (h := h) (bytes := bc') (maxL := maxL') (ret := ret') (rm := R') (as' := (Value.ref a :: argsL).toArray) (Q := fun v h' L => Q v h' ∧ Fr n0 L) (W := W) (hC (by rw [← eT]; exact C.size X)) C.2.1 w6 w5 hf hl) (g := mkF m pc Ls (argsL.reverse ++ .ref a :: rest)) rfl (hsz.trans C.2.2.2.2.1.symm) (Steps.refl _) (by rw [eT]; exact hc1) hc2 (argsL := argsL) (rest := rest) (lenOf hpd hlen) rfl (by show 2 * 0 + _ ≤ W; omega) (hb C.2.2.2.1 hd) (fun _ _ => ⟨rfl, eT, hk, hn⟩)
  dsimp only [Pt.U, Pt.locs, Pt.cells, Pt.slots] at X' l1 y1 z1 stp hQ
  subst l1 y1 z1
  obtain ⟨s₂, o, q1, q2⟩ := hr v T'.heap hQ.1 T' _ X' rfl (Fr.app N hQ.2)
  exact ⟨s₂, o, stp.trans q1, q2⟩
end OwnPriv
theorem own_a (x : Int32) : (x &&& 3) % 3 = 0 ∨ (x &&& 3) % 3 = 1 ∨ (x &&& 3) % 3 = 2 := by
  have e : (x &&& 3).toInt = x.toInt % 2 ^ 2 := Jvm.Kit.i32_mask x 3 (k := 2) (by decide) (by decide)
  have f : ((x &&& 3) % 3).toInt = (x &&& 3).toInt % 3 := Jvm.Kit.i32_rem_nonneg (by omega)
  simp only [← Int32.toInt_inj, Int32.reduceToInt]; omega
def own_minI (x y : Int32) : Int32 := if y < x then y else x
theorem own_minN (x y : Int32) (hx : ¬ x < 0) (hy : ¬ y < 0) : ¬ own_minI x y < 0 ∧ (own_minI x y).toNatClampNeg = min x.toNatClampNeg y.toNatClampNeg := by
  simp only [own_minI]
  split <;> simp only [Int32.lt_iff_toInt_lt, Int32.toNatClampNeg, Int32.reduceToInt] at * <;> omega
theorem d6_0 : decode jdk_29_method_69_code 0 = .ok (.iload_n 0, 1) := by decide +kernel
theorem d6_1 : decode jdk_29_method_69_code 1 = .ok (.iload_n 1, 1) := by decide +kernel
theorem d6_2 : decode jdk_29_method_69_code 2 = .ok (.if_icmp .gt 7, 3) := by decide +kernel
theorem d6_5 : decode jdk_29_method_69_code 5 = .ok (.iload_n 0, 1) := by decide +kernel
theorem d6_6 : decode jdk_29_method_69_code 6 = .ok (.goto 4, 3) := by decide +kernel
theorem d6_9 : decode jdk_29_method_69_code 9 = .ok (.iload_n 1, 1) := by decide +kernel
theorem d6_10 : decode jdk_29_method_69_code 10 = .ok (.ireturn, 1) := by decide +kernel
theorem pf_0 : plainFor (⟨"java/lang/Math", "min", "(II)I"⟩ : MethodName) = true := by first | exact plainFor_of_name (by first | (simp [plainName, overriddenIn]; done) | decide +kernel) | decide +kernel
def Qcon_min (Z : State) (n0 : Nat) (h0 : Heap) (u1 : Int32) (u2 : Int32) (v : Option Value) (h' : Heap) : Prop := (v = some (.int (own_minI u1 u2))) ∧ (h0 = h')
theorem ef_con_min (m : MethodId) (u1 : Int32) (u2 : Int32) : entryFrame m #[(.int u1), (.int u2)] 2 = mkF m 0 #[.val (.int u1), .val (.int u2)] [] := by first | (simp [entryFrame, mkF, argsToLocals, Value.category]; done) | rfl
set_option maxRecDepth 65536 in
set_option maxHeartbeats 40000000 in
theorem con_min (l : Launch) (Z : State) (a0 : Array Value) (hw : ∀ d ∈ tables_1, d.before a0 Z = true) (n0 : Nat) (h0 : Heap) (hn0 : n0 ≤ h0.size) (u1 : Int32) (u2 : Int32) :
    Con l Z n0 [] (⟨"java/lang/Math", "min", "(II)I"⟩ : MethodName) jdk_29_method_69_code 2 (some .int) ({ frames := 0, cells := 0, slots := 0, locals := 0 } : Room) #[(.int u1), (.int u2)] h0 (Qcon_min Z n0 h0 u1 u2) := by
  refine Con.of pf_0 (fun m => ef_con_min m u1 u2) hn0 ?_
  intro p e s m below meth c C
  refine C.iloadN d6_0 rfl rfl ?_
  refine C.iloadN d6_1 rfl rfl ?_
  refine C.icmp_gt d6_2 (by decide) rfl rfl (fun q2 => ?_) (fun q2 => ?_)
  · refine C.iloadN d6_9 rfl rfl ?_
    exact C.retI d6_10 (by decide) (by decide) ⟨(by simp [own_minI, q2]), rfl⟩
  · refine C.iloadN d6_5 rfl rfl ?_
    refine C.goto d6_6 (by decide) rfl ?_
    exact C.retI d6_10 (by decide) (by decide) ⟨(by simp [own_minI, q2]), rfl⟩
theorem pf_1 : plainFor x = true := by first | exact plainFor_of_name (by first | (simp [plainName, overriddenIn]; done) | decide +kernel) | decide +kernel
theorem d1_0 : decode prog_26_method_1_code 0 = .ok (.aload_n 0, 1) := by decide +kernel
theorem d1_1 : decode prog_26_method_1_code 1 = .ok (.invokespecial 3, 3) := by decide +kernel
theorem d1_4 : decode prog_26_method_1_code 4 = .ok (.aload_n 0, 1) := by decide +kernel
theorem d1_5 : decode prog_26_method_1_code 5 = .ok (.iload_n 1, 1) := by decide +kernel
theorem d1_6 : decode prog_26_method_1_code 6 = .ok (.iconst 1, 1) := by decide +kernel
theorem d1_7 : decode prog_26_method_1_code 7 = .ok (.iadd, 1) := by decide +kernel
theorem d1_8 : decode prog_26_method_1_code 8 = .ok (.newarray .int, 2) := by decide +kernel
theorem d1_10 : decode prog_26_method_1_code 10 = .ok (.putfield 9, 3) := by decide +kernel
theorem d1_13 : decode prog_26_method_1_code 13 = .ok (.aload_n 0, 1) := by decide +kernel
theorem d1_14 : decode prog_26_method_1_code 14 = .ok (.iload_n 1, 1) := by decide +kernel
theorem d1_15 : decode prog_26_method_1_code 15 = .ok (.newarray .int, 2) := by decide +kernel
theorem d1_17 : decode prog_26_method_1_code 17 = .ok (.putfield 15, 3) := by decide +kernel
theorem d1_20 : decode prog_26_method_1_code 20 = .ok (.return_, 1) := by decide +kernel
theorem pf_2 : plainFor (⟨"com/example/lumencast/lumencast/model/Routes$Builder", "<init>", "(I)V"⟩ : MethodName) = true := by first | exact plainFor_of_name (by first | (simp [plainName, overriddenIn]; done) | decide +kernel) | decide +kernel
def Qau11_1 (Z : State) (n0 : Nat) (h0 : Heap) (o0 : Addr) (v : Option Value) (h' : Heap) : Prop := ∃ (f0 : Addr) (f1 : Addr), (v = none) ∧ (Keep h0 h' [o0]) ∧ (n0 ≤ f0) ∧ (h0.size ≤ f0) ∧ (n0 ≤ f1) ∧ (h0.size ≤ f1) ∧ (f0 ≠ f1) ∧ (Fld Z h' o0 "com/example/lumencast/lumencast/model/Routes$Builder" "fibres" "[I" (.ref f0)) ∧ (Fld Z h' o0 "com/example/lumencast/lumencast/model/Routes$Builder" "firstHop" "[I" (.ref f1)) ∧ (Fld Z h' o0 "com/example/lumencast/lumencast/model/Routes$Builder" "pairsDone" "I" (.int 0)) ∧ (Av Z h' f0 .int ([.int 0, .int 0])) ∧ (Av Z h' f1 .int ([.int 0, .int 0, .int 0]))
theorem ef_au11_1 (m : MethodId) (o0 : Addr) : entryFrame m #[(.ref o0), (.int 2)] 2 = mkF m 0 #[.val (.ref o0), .val (.int 2)] [] := by first | (simp [entryFrame, mkF, argsToLocals, Value.category]; done) | rfl
set_option maxRecDepth 65536 in
set_option maxHeartbeats 40000000 in
theorem au11_1 (l : Launch) (Z : State) (a0 : Array Value) (hw : ∀ d ∈ tables_1, d.before a0 Z = true) (n0 : Nat) (h0 : Heap) (hn0 : n0 ≤ h0.size) (o0 : Addr) (P0 : Exa Z h0 o0 "com/example/lumencast/lumencast/model/Routes$Builder") (P1 : Fld Z h0 o0 "com/example/lumencast/lumencast/model/Routes$Builder" "fibres" "[I" (.null)) (P2 : Fld Z h0 o0 "com/example/lumencast/lumencast/model/Routes$Builder" "firstHop" "[I" (.null)) (P3 : Fld Z h0 o0 "com/example/lumencast/lumencast/model/Routes$Builder" "pairsDone" "I" (.int 0)) (g_o0 : n0 ≤ o0) :
    Con l Z n0 [] (⟨"com/example/lumencast/lumencast/model/Routes$Builder", "<init>", "(I)V"⟩ : MethodName) prog_26_method_1_code 2 none ({ frames := 1, cells := 2, slots := 5, locals := 12 } : Room) #[(.ref o0), (.int 2)] h0 (Qau11_1 Z n0 h0 o0) := by
  refine Con.of pf_2 (fun m => ef_au11_1 m o0) hn0 ?_
  intro p e s m below meth c C
  refine C.aloadN d1_0 rfl rfl rfl ?_
  refine C.initO 0 d1_1 rfl (tw hw 6 rfl) (tw hw 7 rfl) (tw hw 8 rfl) rfl (by decide) (Nat.le_of_eq rfl) (by decide) ?_
  refine C.aloadN d1_4 rfl rfl rfl ?_
  refine C.iloadN d1_5 rfl rfl ?_
  refine C.iconst 1 d1_6 rfl rfl ?_
  refine C.iadd d1_7 rfl ?_
  show Go p l e ({ frames := 1, cells := 2, slots := 5, locals := 12 } : Room) s m #[(.ref o0), (.int 2)] below meth c n0 (FinQ s n0 (Qau11_1 Z n0 h0 o0) ({ frames := 1, cells := 2, slots := 5, locals := 12 } : Room).cells ({ frames := 1, cells := 2, slots := 5, locals := 12 } : Room).slots) h0 0 0 8 #[.val (.ref o0), .val (.int 2)] [(.int 3), (.ref o0)]
  refine C.newarr 3 d1_8 rfl rfl (tw hw 9 rfl) (by decide) (by decide) (by decide) (by decide) (by decide) (fun a98 h99 z102 g103 X100 F101 => ?_)
  have gz104 : h0.size ≤ a98 := by rw [z102]; exact (Keep.refl h0 [o0]).1
  have ne105 : o0 ≠ a98 := by rw [z102]; exact Nat.ne_of_lt P0.lt
  have F106 : Exa Z h99 o0 "com/example/lumencast/lumencast/model/Routes$Builder" := Exa.ext X100 P0
  have F107 : Fld Z h99 o0 "com/example/lumencast/lumencast/model/Routes$Builder" "fibres" "[I" (.null) := Fld.ext X100 P1
  have F108 : Fld Z h99 o0 "com/example/lumencast/lumencast/model/Routes$Builder" "firstHop" "[I" (.null) := Fld.ext X100 P2
  have F109 : Fld Z h99 o0 "com/example/lumencast/lumencast/model/Routes$Builder" "pairsDone" "I" (.int 0) := Fld.ext X100 P3
  have F110 : Av Z h99 a98 .int ([.int 0, .int 0, .int 0]) := F101
  refine C.putF d1_10 rfl (tw hw 10 rfl) F108 F106 (Or.inr ⟨(tw hw 11 rfl), rfl, rfl⟩) (tw hw 1 rfl) (ty := (.array .int)) (by decide) rfl rfl g_o0 (fun h111 W112 F113 => ?_)
  have F114 : Exa Z h111 o0 "com/example/lumencast/lumencast/model/Routes$Builder" := Exa.wr W112 F106
  have F115 : Fld Z h111 o0 "com/example/lumencast/lumencast/model/Routes$Builder" "fibres" "[I" (.null) := Fld.other W112 F107 (Or.inr (slot_ne (C := "com/example/lumencast/lumencast/model/Routes$Builder") (t := (.array .int)) (t' := (.array .int)) (Or.inl (tw hw 13 rfl)) (Or.inr (tw hw 11 rfl)) (by decide) (by decide) (by decide)))
  have F116 : Fld Z h111 o0 "com/example/lumencast/lumencast/model/Routes$Builder" "pairsDone" "I" (.int 0) := Fld.other W112 F109 (Or.inr (slot_ne (C := "com/example/lumencast/lumencast/model/Routes$Builder") (t := .int) (t' := (.array .int)) (Or.inl (tw hw 20 rfl)) (Or.inr (tw hw 11 rfl)) (by decide) (by decide) (by decide)))
  have F117 : Av Z h111 a98 .int ([.int 0, .int 0, .int 0]) := F110.other W112 (Ne.symm ne105)
  refine C.aloadN d1_13 rfl rfl rfl ?_
  refine C.iloadN d1_14 rfl rfl ?_
  refine C.newarr 2 d1_15 rfl rfl (tw hw 9 rfl) (by decide) (by decide) (by decide) (by decide) (by decide) (fun a118 h119 z122 g123 X120 F121 => ?_)
  have gz124 : h0.size ≤ a118 := by rw [z122]; exact (((Keep.refl h0 [o0]).ext X100).wr W112 (Or.inl (List.mem_of_getElem? (i := 0) rfl))).1
  have ne125 : o0 ≠ a118 := by rw [z122]; exact Nat.ne_of_lt F114.lt
  have ne126 : a98 ≠ a118 := by rw [z122]; exact Nat.ne_of_lt F117.lt
  have F127 : Exa Z h119 o0 "com/example/lumencast/lumencast/model/Routes$Builder" := Exa.ext X120 F114
  have F128 : Fld Z h119 o0 "com/example/lumencast/lumencast/model/Routes$Builder" "fibres" "[I" (.null) := Fld.ext X120 F115
  have F129 : Fld Z h119 o0 "com/example/lumencast/lumencast/model/Routes$Builder" "pairsDone" "I" (.int 0) := Fld.ext X120 F116
  have F130 : Av Z h119 a98 .int ([.int 0, .int 0, .int 0]) := F117.ext X120
  have F131 : Fld Z h119 o0 "com/example/lumencast/lumencast/model/Routes$Builder" "firstHop" "[I" (.ref a98) := Fld.ext X120 F113
  have F132 : Av Z h119 a118 .int ([.int 0, .int 0]) := F121
  refine C.putF d1_17 rfl (tw hw 12 rfl) F128 F127 (Or.inl (tw hw 13 rfl)) (tw hw 1 rfl) (ty := (.array .int)) (by decide) rfl rfl g_o0 (fun h133 W134 F135 => ?_)
  have F136 : Exa Z h133 o0 "com/example/lumencast/lumencast/model/Routes$Builder" := Exa.wr W134 F127
  have F137 : Fld Z h133 o0 "com/example/lumencast/lumencast/model/Routes$Builder" "pairsDone" "I" (.int 0) := Fld.other W134 F129 (Or.inr (slot_ne (C := "com/example/lumencast/lumencast/model/Routes$Builder") (t := .int) (t' := (.array .int)) (Or.inl (tw hw 20 rfl)) (Or.inl (tw hw 13 rfl)) (by decide) (by decide) (by decide)))
  have F138 : Av Z h133 a98 .int ([.int 0, .int 0, .int 0]) := F130.other W134 (Ne.symm ne105)
  have F139 : Fld Z h133 o0 "com/example/lumencast/lumencast/model/Routes$Builder" "firstHop" "[I" (.ref a98) := Fld.other W134 F131 (Or.inr (slot_ne (C := "com/example/lumencast/lumencast/model/Routes$Builder") (t := (.array .int)) (t' := (.array .int)) (Or.inr (tw hw 11 rfl)) (Or.inl (tw hw 13 rfl)) (by decide) (by decide) (by decide)))
  have F140 : Av Z h133 a118 .int ([.int 0, .int 0]) := F132.other W134 (Ne.symm ne125)
  exact C.ret0 d1_20 (by decide) (by decide) ⟨a118, a98, rfl, (((((Keep.refl h0 [o0]).ext X100).wr W112 (Or.inl (List.mem_of_getElem? (i := 0) rfl))).ext X120).wr W134 (Or.inl (List.mem_of_getElem? (i := 0) rfl))), g123, gz124, g103, gz104, (Ne.symm ne126), F135, F139, F137, F140, F138⟩
theorem pd_0 : parseMethodDescriptor "(I)V" = some ⟨[.int], none⟩ := by decide +kernel
theorem d3_0 : decode prog_26_method_3_code 0 = .ok (.aload_n 0, 1) := by decide +kernel
theorem d3_1 : decode prog_26_method_3_code 1 = .ok (.dup, 1) := by decide +kernel
theorem d3_2 : decode prog_26_method_3_code 2 = .ok (.getfield 18, 3) := by decide +kernel
theorem d3_5 : decode prog_26_method_3_code 5 = .ok (.iconst 1, 1) := by decide +kernel
theorem d3_6 : decode prog_26_method_3_code 6 = .ok (.iadd, 1) := by decide +kernel
theorem d3_7 : decode prog_26_method_3_code 7 = .ok (.putfield 18, 3) := by decide +kernel
theorem d3_10 : decode prog_26_method_3_code 10 = .ok (.aload_n 0, 1) := by decide +kernel
theorem d3_11 : decode prog_26_method_3_code 11 = .ok (.getfield 18, 3) := by decide +kernel
theorem d3_14 : decode prog_26_method_3_code 14 = .ok (.iconst 1, 1) := by decide +kernel
theorem d3_15 : decode prog_26_method_3_code 15 = .ok (.iadd, 1) := by decide +kernel
theorem d3_16 : decode prog_26_method_3_code 16 = .ok (.aload_n 0, 1) := by decide +kernel
theorem d3_17 : decode prog_26_method_3_code 17 = .ok (.getfield 9, 3) := by decide +kernel
theorem d3_20 : decode prog_26_method_3_code 20 = .ok (.arraylength, 1) := by decide +kernel
theorem d3_21 : decode prog_26_method_3_code 21 = .ok (.if_icmp .ge 23, 3) := by decide +kernel
theorem d3_24 : decode prog_26_method_3_code 24 = .ok (.aload_n 0, 1) := by decide +kernel
theorem d3_25 : decode prog_26_method_3_code 25 = .ok (.getfield 9, 3) := by decide +kernel
theorem d3_28 : decode prog_26_method_3_code 28 = .ok (.aload_n 0, 1) := by decide +kernel
theorem d3_29 : decode prog_26_method_3_code 29 = .ok (.getfield 18, 3) := by decide +kernel
theorem d3_32 : decode prog_26_method_3_code 32 = .ok (.iconst 1, 1) := by decide +kernel
theorem d3_33 : decode prog_26_method_3_code 33 = .ok (.iadd, 1) := by decide +kernel
theorem d3_34 : decode prog_26_method_3_code 34 = .ok (.aload_n 0, 1) := by decide +kernel
theorem d3_35 : decode prog_26_method_3_code 35 = .ok (.getfield 9, 3) := by decide +kernel
theorem d3_38 : decode prog_26_method_3_code 38 = .ok (.aload_n 0, 1) := by decide +kernel
theorem d3_39 : decode prog_26_method_3_code 39 = .ok (.getfield 18, 3) := by decide +kernel
theorem d3_42 : decode prog_26_method_3_code 42 = .ok (.iaload, 1) := by decide +kernel
theorem d3_43 : decode prog_26_method_3_code 43 = .ok (.iastore, 1) := by decide +kernel
theorem d3_44 : decode prog_26_method_3_code 44 = .ok (.return_, 1) := by decide +kernel
theorem pf_3 : plainFor (⟨"com/example/lumencast/lumencast/model/Routes$Builder", "endRoute", "()V"⟩ : MethodName) = true := by first | exact plainFor_of_name (by first | (simp [plainName, overriddenIn]; done) | decide +kernel) | decide +kernel
def Qau163_3 (Z : State) (n0 : Nat) (h0 : Heap) (o0 : Addr) (o1 : Addr) (o2 : Addr) (v : Option Value) (h' : Heap) : Prop := (v = none) ∧ (Keep h0 h' [o0, o2]) ∧ (Fld Z h' o0 "com/example/lumencast/lumencast/model/Routes$Builder" "fibres" "[I" (.ref o1)) ∧ (Fld Z h' o0 "com/example/lumencast/lumencast/model/Routes$Builder" "firstHop" "[I" (.ref o2)) ∧ (Fld Z h' o0 "com/example/lumencast/lumencast/model/Routes$Builder" "pairsDone" "I" (.int 1)) ∧ (Av Z h' o2 .int ([.int 0, .int 0, .int 0]))
theorem ef_au163_3 (m : MethodId) (o0 : Addr) : entryFrame m #[(.ref o0)] 1 = mkF m 0 #[.val (.ref o0)] [] := by first | (simp [entryFrame, mkF, argsToLocals, Value.category]; done) | rfl
set_option maxRecDepth 65536 in
set_option maxHeartbeats 40000000 in
theorem au163_3 (l : Launch) (Z : State) (a0 : Array Value) (hw : ∀ d ∈ tables_1, d.before a0 Z = true) (n0 : Nat) (h0 : Heap) (hn0 : n0 ≤ h0.size) (o0 : Addr) (o1 : Addr) (o2 : Addr) (P0 : Exa Z h0 o0 "com/example/lumencast/lumencast/model/Routes$Builder") (P1 : Fld Z h0 o0 "com/example/lumencast/lumencast/model/Routes$Builder" "fibres" "[I" (.ref o1)) (P2 : Fld Z h0 o0 "com/example/lumencast/lumencast/model/Routes$Builder" "firstHop" "[I" (.ref o2)) (P3 : Fld Z h0 o0 "com/example/lumencast/lumencast/model/Routes$Builder" "pairsDone" "I" (.int 0)) (P4 : Av Z h0 o1 .int ([.int 0, .int 0])) (P5 : Av Z h0 o2 .int ([.int 0, .int 0, .int 0])) (g_o0 : n0 ≤ o0) (g_o1 : n0 ≤ o1) (g_o2 : n0 ≤ o2) (ne_o0_o1 : o0 ≠ o1) (ne_o0_o2 : o0 ≠ o2) (ne_o1_o2 : o1 ≠ o2) :
    Con l Z n0 [] (⟨"com/example/lumencast/lumencast/model/Routes$Builder", "endRoute", "()V"⟩ : MethodName) prog_26_method_3_code 1 none ({ frames := 0, cells := 0, slots := 0, locals := 0 } : Room) #[(.ref o0)] h0 (Qau163_3 Z n0 h0 o0 o1 o2) := by
  refine Con.of pf_3 (fun m => ef_au163_3 m o0) hn0 ?_
  intro p e s m below meth c C
  refine C.aloadN d3_0 rfl rfl rfl ?_
  refine C.dup d3_1 rfl rfl ?_
  refine C.getF d3_2 rfl (tw hw 19 rfl) P3 ?_
  refine C.iconst 1 d3_5 rfl rfl ?_
  refine C.iadd d3_6 rfl ?_
  show Go p l e ({ frames := 0, cells := 0, slots := 0, locals := 0 } : Room) s m #[(.ref o0)] below meth c n0 (FinQ s n0 (Qau163_3 Z n0 h0 o0 o1 o2) ({ frames := 0, cells := 0, slots := 0, locals := 0 } : Room).cells ({ frames := 0, cells := 0, slots := 0, locals := 0 } : Room).slots) h0 0 0 7 #[.val (.ref o0)] [(.int 1), (.ref o0)]
  refine C.putF d3_7 rfl (tw hw 19 rfl) P3 P0 (Or.inl (tw hw 20 rfl)) (tw hw 1 rfl) (ty := .int) (by decide) rfl rfl g_o0 (fun h198 W199 F200 => ?_)
  have F201 : Exa Z h198 o0 "com/example/lumencast/lumencast/model/Routes$Builder" := Exa.wr W199 P0
  have F202 : Fld Z h198 o0 "com/example/lumencast/lumencast/model/Routes$Builder" "fibres" "[I" (.ref o1) := Fld.other W199 P1 (Or.inr (slot_ne (C := "com/example/lumencast/lumencast/model/Routes$Builder") (t := (.array .int)) (t' := .int) (Or.inl (tw hw 13 rfl)) (Or.inl (tw hw 20 rfl)) (by decide) (by decide) (by decide)))
  have F203 : Fld Z h198 o0 "com/example/lumencast/lumencast/model/Routes$Builder" "firstHop" "[I" (.ref o2) := Fld.other W199 P2 (Or.inr (slot_ne (C := "com/example/lumencast/lumencast/model/Routes$Builder") (t := (.array .int)) (t' := .int) (Or.inr (tw hw 11 rfl)) (Or.inl (tw hw 20 rfl)) (by decide) (by decide) (by decide)))
  have F204 : Av Z h198 o1 .int ([.int 0, .int 0]) := P4.other W199 (Ne.symm ne_o0_o1)
  have F205 : Av Z h198 o2 .int ([.int 0, .int 0, .int 0]) := P5.other W199 (Ne.symm ne_o0_o2)
  refine C.aloadN d3_10 rfl rfl rfl ?_
  refine C.getF d3_11 rfl (tw hw 19 rfl) F200 ?_
  refine C.iconst 1 d3_14 rfl rfl ?_
  refine C.iadd d3_15 rfl ?_
  show Go p l e ({ frames := 0, cells := 0, slots := 0, locals := 0 } : Room) s m #[(.ref o0)] below meth c n0 (FinQ s n0 (Qau163_3 Z n0 h0 o0 o1 o2) ({ frames := 0, cells := 0, slots := 0, locals := 0 } : Room).cells ({ frames := 0, cells := 0, slots := 0, locals := 0 } : Room).slots) h198 0 0 16 #[.val (.ref o0)] [(.int 2)]
  refine C.aloadN d3_16 rfl rfl rfl ?_
  refine C.getF d3_17 rfl (tw hw 10 rfl) F203 ?_
  refine C.alen d3_20 rfl F205 ?_
  show Go p l e ({ frames := 0, cells := 0, slots := 0, locals := 0 } : Room) s m #[(.ref o0)] below meth c n0 (FinQ s n0 (Qau163_3 Z n0 h0 o0 o1 o2) ({ frames := 0, cells := 0, slots := 0, locals := 0 } : Room).cells ({ frames := 0, cells := 0, slots := 0, locals := 0 } : Room).slots) h198 0 0 21 #[.val (.ref o0)] [(.int 3), (.int 2)]
  refine C.icmp_ge_f d3_21 rfl (by decide) ?_
  refine C.aloadN d3_24 rfl rfl rfl ?_
  refine C.getF d3_25 rfl (tw hw 10 rfl) F203 ?_
  refine C.aloadN d3_28 rfl rfl rfl ?_
  refine C.getF d3_29 rfl (tw hw 19 rfl) F200 ?_
  refine C.iconst 1 d3_32 rfl rfl ?_
  refine C.iadd d3_33 rfl ?_
  show Go p l e ({ frames := 0, cells := 0, slots := 0, locals := 0 } : Room) s m #[(.ref o0)] below meth c n0 (FinQ s n0 (Qau163_3 Z n0 h0 o0 o1 o2) ({ frames := 0, cells := 0, slots := 0, locals := 0 } : Room).cells ({ frames := 0, cells := 0, slots := 0, locals := 0 } : Room).slots) h198 0 0 34 #[.val (.ref o0)] [(.int 2), (.ref o2)]
  refine C.aloadN d3_34 rfl rfl rfl ?_
  refine C.getF d3_35 rfl (tw hw 10 rfl) F203 ?_
  refine C.aloadN d3_38 rfl rfl rfl ?_
  refine C.getF d3_39 rfl (tw hw 19 rfl) F200 ?_
  refine C.iaload (.int 0) d3_42 rfl F205 (by decide) rfl ?_
  refine C.iastore d3_43 rfl F205 g_o2 (by decide) (Nat.le_of_ble_eq_true rfl) (fun h206 W207 F208 => ?_)
  have F209 : Exa Z h206 o0 "com/example/lumencast/lumencast/model/Routes$Builder" := Exa.wr W207 F201
  have F210 : Fld Z h206 o0 "com/example/lumencast/lumencast/model/Routes$Builder" "fibres" "[I" (.ref o1) := Fld.other W207 F202 (Or.inl ne_o0_o2)
  have F211 : Fld Z h206 o0 "com/example/lumencast/lumencast/model/Routes$Builder" "firstHop" "[I" (.ref o2) := Fld.other W207 F203 (Or.inl ne_o0_o2)
  have F212 : Av Z h206 o1 .int ([.int 0, .int 0]) := F204.other W207 ne_o1_o2
  have F213 : Fld Z h206 o0 "com/example/lumencast/lumencast/model/Routes$Builder" "pairsDone" "I" (.int 1) := Fld.other W207 F200 (Or.inl ne_o0_o2)
  have F214 : Av Z h206 o2 .int ([.int 0, .int 0, .int 0]) := F208
  exact C.ret0 d3_44 (by decide) (by decide) ⟨rfl, (((Keep.refl h0 [o0, o2]).wr W199 (Or.inl (List.mem_of_getElem? (i := 0) rfl))).wr W207 (Or.inl (List.mem_of_getElem? (i := 1) rfl))), F210, F211, F213, F214⟩
theorem pd_1 : parseMethodDescriptor "()V" = some ⟨[], none⟩ := by decide +kernel
def Qau229_3 (Z : State) (n0 : Nat) (h0 : Heap) (o0 : Addr) (o1 : Addr) (o2 : Addr) (v : Option Value) (h' : Heap) : Prop := (v = none) ∧ (Keep h0 h' [o0]) ∧ (Fld Z h' o0 "com/example/lumencast/lumencast/model/Routes$Builder" "fibres" "[I" (.ref o1)) ∧ (Fld Z h' o0 "com/example/lumencast/lumencast/model/Routes$Builder" "firstHop" "[I" (.ref o2)) ∧ (Fld Z h' o0 "com/example/lumencast/lumencast/model/Routes$Builder" "pairsDone" "I" (.int 2))
theorem ef_au229_3 (m : MethodId) (o0 : Addr) : entryFrame m #[(.ref o0)] 1 = mkF m 0 #[.val (.ref o0)] [] := by first | (simp [entryFrame, mkF, argsToLocals, Value.category]; done) | rfl
set_option maxRecDepth 65536 in
set_option maxHeartbeats 40000000 in
theorem au229_3 (l : Launch) (Z : State) (a0 : Array Value) (hw : ∀ d ∈ tables_1, d.before a0 Z = true) (n0 : Nat) (h0 : Heap) (hn0 : n0 ≤ h0.size) (o0 : Addr) (o1 : Addr) (o2 : Addr) (P0 : Exa Z h0 o0 "com/example/lumencast/lumencast/model/Routes$Builder") (P1 : Fld Z h0 o0 "com/example/lumencast/lumencast/model/Routes$Builder" "fibres" "[I" (.ref o1)) (P2 : Fld Z h0 o0 "com/example/lumencast/lumencast/model/Routes$Builder" "firstHop" "[I" (.ref o2)) (P3 : Fld Z h0 o0 "com/example/lumencast/lumencast/model/Routes$Builder" "pairsDone" "I" (.int 1)) (P4 : Av Z h0 o1 .int ([.int 0, .int 0])) (P5 : Av Z h0 o2 .int ([.int 0, .int 0, .int 0])) (g_o0 : n0 ≤ o0) (g_o1 : n0 ≤ o1) (g_o2 : n0 ≤ o2) (ne_o0_o1 : o0 ≠ o1) (ne_o0_o2 : o0 ≠ o2) (ne_o1_o2 : o1 ≠ o2) :
    Con l Z n0 [] (⟨"com/example/lumencast/lumencast/model/Routes$Builder", "endRoute", "()V"⟩ : MethodName) prog_26_method_3_code 1 none ({ frames := 0, cells := 0, slots := 0, locals := 0 } : Room) #[(.ref o0)] h0 (Qau229_3 Z n0 h0 o0 o1 o2) := by
  refine Con.of pf_3 (fun m => ef_au229_3 m o0) hn0 ?_
  intro p e s m below meth c C
  refine C.aloadN d3_0 rfl rfl rfl ?_
  refine C.dup d3_1 rfl rfl ?_
  refine C.getF d3_2 rfl (tw hw 19 rfl) P3 ?_
  refine C.iconst 1 d3_5 rfl rfl ?_
  refine C.iadd d3_6 rfl ?_
  show Go p l e ({ frames := 0, cells := 0, slots := 0, locals := 0 } : Room) s m #[(.ref o0)] below meth c n0 (FinQ s n0 (Qau229_3 Z n0 h0 o0 o1 o2) ({ frames := 0, cells := 0, slots := 0, locals := 0 } : Room).cells ({ frames := 0, cells := 0, slots := 0, locals := 0 } : Room).slots) h0 0 0 7 #[.val (.ref o0)] [(.int 2), (.ref o0)]
  refine C.putF d3_7 rfl (tw hw 19 rfl) P3 P0 (Or.inl (tw hw 20 rfl)) (tw hw 1 rfl) (ty := .int) (by decide) rfl rfl g_o0 (fun h246 W247 F248 => ?_)
  have F249 : Exa Z h246 o0 "com/example/lumencast/lumencast/model/Routes$Builder" := Exa.wr W247 P0
  have F250 : Fld Z h246 o0 "com/example/lumencast/lumencast/model/Routes$Builder" "fibres" "[I" (.ref o1) := Fld.other W247 P1 (Or.inr (slot_ne (C := "com/example/lumencast/lumencast/model/Routes$Builder") (t := (.array .int)) (t' := .int) (Or.inl (tw hw 13 rfl)) (Or.inl (tw hw 20 rfl)) (by decide) (by decide) (by decide)))
  have F251 : Fld Z h246 o0 "com/example/lumencast/lumencast/model/Routes$Builder" "firstHop" "[I" (.ref o2) := Fld.other W247 P2 (Or.inr (slot_ne (C := "com/example/lumencast/lumencast/model/Routes$Builder") (t := (.array .int)) (t' := .int) (Or.inr (tw hw 11 rfl)) (Or.inl (tw hw 20 rfl)) (by decide) (by decide) (by decide)))
  have F252 : Av Z h246 o1 .int ([.int 0, .int 0]) := P4.other W247 (Ne.symm ne_o0_o1)
  have F253 : Av Z h246 o2 .int ([.int 0, .int 0, .int 0]) := P5.other W247 (Ne.symm ne_o0_o2)
  refine C.aloadN d3_10 rfl rfl rfl ?_
  refine C.getF d3_11 rfl (tw hw 19 rfl) F248 ?_
  refine C.iconst 1 d3_14 rfl rfl ?_
  refine C.iadd d3_15 rfl ?_
  show Go p l e ({ frames := 0, cells := 0, slots := 0, locals := 0 } : Room) s m #[(.ref o0)] below meth c n0 (FinQ s n0 (Qau229_3 Z n0 h0 o0 o1 o2) ({ frames := 0, cells := 0, slots := 0, locals := 0 } : Room).cells ({ frames := 0, cells := 0, slots := 0, locals := 0 } : Room).slots) h246 0 0 16 #[.val (.ref o0)] [(.int 3)]
  refine C.aloadN d3_16 rfl rfl rfl ?_
  refine C.getF d3_17 rfl (tw hw 10 rfl) F251 ?_
  refine C.alen d3_20 rfl F253 ?_
  show Go p l e ({ frames := 0, cells := 0, slots := 0, locals := 0 } : Room) s m #[(.ref o0)] below meth c n0 (FinQ s n0 (Qau229_3 Z n0 h0 o0 o1 o2) ({ frames := 0, cells := 0, slots := 0, locals := 0 } : Room).cells ({ frames := 0, cells := 0, slots := 0, locals := 0 } : Room).slots) h246 0 0 21 #[.val (.ref o0)] [(.int 3), (.int 3)]
  refine C.icmp_ge_t d3_21 (by decide) rfl (by decide) ?_
  exact C.ret0 d3_44 (by decide) (by decide) ⟨rfl, ((Keep.refl h0 [o0]).wr W247 (Or.inl (List.mem_of_getElem? (i := 0) rfl))), F250, F251, F248⟩
theorem d4_0 : decode prog_26_method_4_code 0 = .ok (.aload_n 0, 1) := by decide +kernel
theorem d4_1 : decode prog_26_method_4_code 1 = .ok (.getfield 18, 3) := by decide +kernel
theorem d4_4 : decode prog_26_method_4_code 4 = .ok (.iconst 1, 1) := by decide +kernel
theorem d4_5 : decode prog_26_method_4_code 5 = .ok (.iadd, 1) := by decide +kernel
theorem d4_6 : decode prog_26_method_4_code 6 = .ok (.aload_n 0, 1) := by decide +kernel
theorem d4_7 : decode prog_26_method_4_code 7 = .ok (.getfield 9, 3) := by decide +kernel
theorem d4_10 : decode prog_26_method_4_code 10 = .ok (.arraylength, 1) := by decide +kernel
theorem d4_11 : decode prog_26_method_4_code 11 = .ok (.if_icmp .eq 28, 3) := by decide +kernel
theorem d4_14 : decode prog_26_method_4_code 14 = .ok (.new 53, 3) := by decide +kernel
theorem d4_17 : decode prog_26_method_4_code 17 = .ok (.dup, 1) := by decide +kernel
theorem d4_18 : decode prog_26_method_4_code 18 = .ok (.aload_n 0, 1) := by decide +kernel
theorem d4_19 : decode prog_26_method_4_code 19 = .ok (.getfield 9, 3) := by decide +kernel
theorem d4_22 : decode prog_26_method_4_code 22 = .ok (.arraylength, 1) := by decide +kernel
theorem d4_23 : decode prog_26_method_4_code 23 = .ok (.iconst 1, 1) := by decide +kernel
theorem d4_24 : decode prog_26_method_4_code 24 = .ok (.isub, 1) := by decide +kernel
theorem d4_25 : decode prog_26_method_4_code 25 = .ok (.aload_n 0, 1) := by decide +kernel
theorem d4_26 : decode prog_26_method_4_code 26 = .ok (.getfield 18, 3) := by decide +kernel
theorem d4_29 : decode prog_26_method_4_code 29 = .ok (.isub, 1) := by decide +kernel
theorem d4_30 : decode prog_26_method_4_code 30 = .ok (.invokedynamic 55, 5) := by decide +kernel
theorem d4_35 : decode prog_26_method_4_code 35 = .ok (.invokespecial 56, 3) := by decide +kernel
theorem d4_38 : decode prog_26_method_4_code 38 = .ok (.athrow, 1) := by decide +kernel
theorem d4_39 : decode prog_26_method_4_code 39 = .ok (.aload_n 0, 1) := by decide +kernel
theorem d4_40 : decode prog_26_method_4_code 40 = .ok (.getfield 9, 3) := by decide +kernel
theorem d4_43 : decode prog_26_method_4_code 43 = .ok (.aload_n 0, 1) := by decide +kernel
theorem d4_44 : decode prog_26_method_4_code 44 = .ok (.getfield 18, 3) := by decide +kernel
theorem d4_47 : decode prog_26_method_4_code 47 = .ok (.iaload, 1) := by decide +kernel
theorem d4_48 : decode prog_26_method_4_code 48 = .ok (.istore_n 1, 1) := by decide +kernel
theorem d4_49 : decode prog_26_method_4_code 49 = .ok (.new 1, 3) := by decide +kernel
theorem d4_52 : decode prog_26_method_4_code 52 = .ok (.dup, 1) := by decide +kernel
theorem d4_53 : decode prog_26_method_4_code 53 = .ok (.aload_n 0, 1) := by decide +kernel
theorem d4_54 : decode prog_26_method_4_code 54 = .ok (.getfield 9, 3) := by decide +kernel
theorem d4_57 : decode prog_26_method_4_code 57 = .ok (.iload_n 1, 1) := by decide +kernel
theorem d4_58 : decode prog_26_method_4_code 58 = .ok (.aload_n 0, 1) := by decide +kernel
theorem d4_59 : decode prog_26_method_4_code 59 = .ok (.getfield 15, 3) := by decide +kernel
theorem d4_62 : decode prog_26_method_4_code 62 = .ok (.arraylength, 1) := by decide +kernel
theorem d4_63 : decode prog_26_method_4_code 63 = .ok (.if_icmp .ne 10, 3) := by decide +kernel
theorem d4_66 : decode prog_26_method_4_code 66 = .ok (.aload_n 0, 1) := by decide +kernel
theorem d4_67 : decode prog_26_method_4_code 67 = .ok (.getfield 15, 3) := by decide +kernel
theorem d4_70 : decode prog_26_method_4_code 70 = .ok (.goto 11, 3) := by decide +kernel
theorem d4_73 : decode prog_26_method_4_code 73 = .ok (.aload_n 0, 1) := by decide +kernel
theorem d4_74 : decode prog_26_method_4_code 74 = .ok (.getfield 15, 3) := by decide +kernel
theorem d4_77 : decode prog_26_method_4_code 77 = .ok (.iload_n 1, 1) := by decide +kernel
theorem d4_78 : decode prog_26_method_4_code 78 = .ok (.invokestatic 47, 3) := by decide +kernel
theorem d4_81 : decode prog_26_method_4_code 81 = .ok (.invokespecial 57, 3) := by decide +kernel
theorem d4_84 : decode prog_26_method_4_code 84 = .ok (.areturn, 1) := by decide +kernel
theorem pf_4 : plainFor (⟨"com/example/lumencast/lumencast/model/Routes$Builder", "build", "()Lcom/example/lumencast/lumencast/model/Routes;"⟩ : MethodName) = true := by first | exact plainFor_of_name (by first | (simp [plainName, overriddenIn]; done) | decide +kernel) | decide +kernel
def own_copy (vs : List Value) (j : Nat) : List Value := vs.take j ++ List.replicate (j - vs.length) (.int 0)
theorem own_cp (vs : List Value) (z : Int32) (hz : ¬ z < 0) (h31 : vs.length < 2 ^ 31) : ((List.replicate z.toNatClampNeg (Value.int 0)).take (0 : Int32).toNatClampNeg ++ (vs.drop (0 : Int32).toNatClampNeg).take (own_minI vs.length.toInt32 z).toNatClampNeg ++ (List.replicate z.toNatClampNeg (Value.int 0)).drop ((0 : Int32).toNatClampNeg + (own_minI vs.length.toInt32 z).toNatClampNeg)) = own_copy vs z.toNatClampNeg := by
  obtain ⟨c1, c2⟩ := own_clamp h31
  rw [(own_minN _ z c2 hz).2, c1, show (0 : Int32).toNatClampNeg = 0 from rfl]
  simp only [List.take_zero, List.drop_zero, List.nil_append, Nat.zero_add, own_copy, List.drop_replicate]
  have e : vs.take (min vs.length z.toNatClampNeg) = vs.take z.toNatClampNeg := by
    rcases Nat.le_total vs.length z.toNatClampNeg with q | q
    · rw [Nat.min_eq_left q, List.take_length, List.take_of_length_le q]
    · rw [Nat.min_eq_right q]
  rw [e]; congr 2; omega
theorem d5_0 : decode jdk_65_method_123_code 0 = .ok (.iload_n 1, 1) := by decide +kernel
theorem d5_1 : decode jdk_65_method_123_code 1 = .ok (.aload_n 0, 1) := by decide +kernel
theorem d5_2 : decode jdk_65_method_123_code 2 = .ok (.arraylength, 1) := by decide +kernel
theorem d5_3 : decode jdk_65_method_123_code 3 = .ok (.if_icmp .ne 11, 3) := by decide +kernel
theorem d5_6 : decode jdk_65_method_123_code 6 = .ok (.aload_n 0, 1) := by decide +kernel
theorem d5_7 : decode jdk_65_method_123_code 7 = .ok (.invokevirtual 316, 3) := by decide +kernel
theorem d5_10 : decode jdk_65_method_123_code 10 = .ok (.checkcast 317, 3) := by decide +kernel
theorem d5_13 : decode jdk_65_method_123_code 13 = .ok (.areturn, 1) := by decide +kernel
theorem d5_14 : decode jdk_65_method_123_code 14 = .ok (.iload_n 1, 1) := by decide +kernel
theorem d5_15 : decode jdk_65_method_123_code 15 = .ok (.newarray .int, 2) := by decide +kernel
theorem d5_17 : decode jdk_65_method_123_code 17 = .ok (.astore_n 2, 1) := by decide +kernel
theorem d5_18 : decode jdk_65_method_123_code 18 = .ok (.aload_n 0, 1) := by decide +kernel
theorem d5_19 : decode jdk_65_method_123_code 19 = .ok (.iconst 0, 1) := by decide +kernel
theorem d5_20 : decode jdk_65_method_123_code 20 = .ok (.aload_n 2, 1) := by decide +kernel
theorem d5_21 : decode jdk_65_method_123_code 21 = .ok (.iconst 0, 1) := by decide +kernel
theorem d5_22 : decode jdk_65_method_123_code 22 = .ok (.aload_n 0, 1) := by decide +kernel
theorem d5_23 : decode jdk_65_method_123_code 23 = .ok (.arraylength, 1) := by decide +kernel
theorem d5_24 : decode jdk_65_method_123_code 24 = .ok (.iload_n 1, 1) := by decide +kernel
theorem d5_25 : decode jdk_65_method_123_code 25 = .ok (.invokestatic 304, 3) := by decide +kernel
theorem d5_28 : decode jdk_65_method_123_code 28 = .ok (.invokestatic 150, 3) := by decide +kernel
theorem d5_31 : decode jdk_65_method_123_code 31 = .ok (.aload_n 2, 1) := by decide +kernel
theorem d5_32 : decode jdk_65_method_123_code 32 = .ok (.areturn, 1) := by decide +kernel
theorem pf_5 : plainFor (⟨"java/util/Arrays", "copyOf", "([II)[I"⟩ : MethodName) = true := by first | exact plainFor_of_name (by first | (simp [plainName, overriddenIn]; done) | decide +kernel) | decide +kernel
theorem pd_2 : parseMethodDescriptor "(II)I" = some ⟨[.int, .int], some .int⟩ := by decide +kernel
def Qcon_copy0 (Z : State) (n0 : Nat) (h0 : Heap) (b : Addr) (z : Int32) (vs : List Value) (v : Option Value) (h' : Heap) : Prop := ∃ (r : Addr), (v = some (.ref r)) ∧ (Keep h0 h' []) ∧ (n0 ≤ r) ∧ (h0.size ≤ r) ∧ (Av Z h' r .int (own_copy vs (Int32.toNatClampNeg z)))
theorem ef_con_copy0 (m : MethodId) (b : Addr) (z : Int32) : entryFrame m #[(.ref b), (.int z)] 3 = mkF m 0 #[.val (.ref b), .val (.int z), .unset] [] := by first | (simp [entryFrame, mkF, argsToLocals, Value.category]; done) | rfl
set_option maxRecDepth 65536 in
set_option maxHeartbeats 40000000 in
theorem con_copy0 (l : Launch) (Z : State) (a0 : Array Value) (hw : ∀ d ∈ tables_1, d.before a0 Z = true) (n0 : Nat) (h0 : Heap) (hn0 : n0 ≤ h0.size) (b : Addr) (z : Int32) (vs : List Value) (P0 : Av Z h0 b .int vs) (hz : ¬ z < 0) (hc : z.toNatClampNeg ≤ 0) (hne : ¬ z = vs.length.toInt32) (h31 : vs.length < 2 ^ 31) :
    Con l Z n0 [] (⟨"java/util/Arrays", "copyOf", "([II)[I"⟩ : MethodName) jdk_65_method_123_code 3 (some (.array .int)) ({ frames := 1, cells := 1, slots := 0, locals := 18 } : Room) #[(.ref b), (.int z)] h0 (Qcon_copy0 Z n0 h0 b z vs) := by
  refine Con.of pf_5 (fun m => ef_con_copy0 m b z) hn0 ?_
  intro p e s m below meth c C
  refine C.iloadN d5_0 rfl rfl ?_
  refine C.aloadN d5_1 rfl rfl rfl ?_
  refine C.alen d5_2 rfl P0 ?_
  refine C.icmp_ne_t d5_3 (by decide) rfl hne ?_
  refine C.iloadN d5_14 rfl rfl ?_
  refine C.newarr 0 d5_15 rfl rfl (tw hw 9 rfl) hz hc (by decide) (by decide) (by decide) (fun a307 h308 z311 g312 X309 F310 => ?_)
  have gz313 : h0.size ≤ a307 := by rw [z311]; exact (Keep.refl h0 []).1
  have ne314 : b ≠ a307 := by rw [z311]; exact Nat.ne_of_lt P0.lt
  have F315 : Av Z h308 b .int vs := P0.ext X309
  have F316 : Av Z h308 a307 .int (List.replicate (Int32.toNatClampNeg z) (.int 0)) := F310
  refine C.astoreN (Ls' := #[.val (.ref b), .val (.int z), .val (.ref a307)]) d5_17 rfl rfl rfl ?_
  refine C.aloadN d5_18 rfl rfl rfl ?_
  refine C.iconst 0 d5_19 rfl rfl ?_
  refine C.aloadN d5_20 rfl rfl rfl ?_
  refine C.iconst 0 d5_21 rfl rfl ?_
  refine C.aloadN d5_22 rfl rfl rfl ?_
  refine C.alen d5_23 rfl F315 ?_
  refine C.iloadN d5_24 rfl rfl ?_
  refine C.callS (argsL := [(.int vs.length.toInt32), (.int z)]) (rest := [(.int 0), (.ref a307), (.int 0), (.ref b)]) 4 (fun zz => con_min l Z a0 hw n0 h308 zz vs.length.toInt32 z ) d5_25 rfl (tw hw 33 rfl) (tw hw 34 rfl) (tw hw 35 rfl) (tw hw 36 rfl) (by decide) pd_2 rfl rfl rfl (Nat.le_of_eq rfl) (by decide) (by decide) (by decide) (by decide) (fun v317 h318 r319 => ?_)
  obtain ⟨rfl, rfl⟩ := r319
  refine C.acopy 0 d5_28 rfl (tw hw 37 rfl) (tw hw 40 rfl) (tw hw 38 rfl) (tw hw 39 rfl) F315 F316 rfl h31 (by rw [List.length_replicate]; exact (back32 hz).2) (by decide) (by decide) (own_minN _ z (own_clamp h31).2 hz).1 (by rw [(own_minN _ z (own_clamp h31).2 hz).2, (own_clamp h31).1]; show 0 + _ ≤ _; omega) (by rw [(own_minN _ z (own_clamp h31).2 hz).2, (own_clamp h31).1, List.length_replicate]; show 0 + _ ≤ _; omega) g312 rfl (by decide) (Nat.le_of_eq rfl) (by decide) (fun h321 K322 F323 => ?_)
  have F324 : Av Z h321 b .int vs := F315.keep K322 (ninS ne314 nin0)
  have F326 : Av Z h321 a307 .int (own_copy vs (Int32.toNatClampNeg z)) := (by have q := F323; rw [own_cp vs z hz h31] at q; exact q)
  refine C.aloadN d5_31 rfl rfl rfl ?_
  exact C.retA d5_32 rfl rfl (by decide) (by decide) ⟨a307, rfl, (((Keep.refl h0 []).ext X309).trans K322 (allS (Or.inr gz313) all0)), g312, gz313, F326⟩
theorem pd_3 : parseMethodDescriptor "([II)[I" = some ⟨[(.array .int), .int], some (.array .int)⟩ := by decide +kernel
theorem d7_0 : decode prog_25_method_1_code 0 = .ok (.aload_n 0, 1) := by decide +kernel
theorem d7_1 : decode prog_25_method_1_code 1 = .ok (.invokespecial 3, 3) := by decide +kernel
theorem d7_4 : decode prog_25_method_1_code 4 = .ok (.aload_n 0, 1) := by decide +kernel
theorem d7_5 : decode prog_25_method_1_code 5 = .ok (.aload_n 1, 1) := by decide +kernel
theorem d7_6 : decode prog_25_method_1_code 6 = .ok (.putfield 9, 3) := by decide +kernel
theorem d7_9 : decode prog_25_method_1_code 9 = .ok (.aload_n 0, 1) := by decide +kernel
theorem d7_10 : decode prog_25_method_1_code 10 = .ok (.aload_n 2, 1) := by decide +kernel
theorem d7_11 : decode prog_25_method_1_code 11 = .ok (.putfield 15, 3) := by decide +kernel
theorem d7_14 : decode prog_25_method_1_code 14 = .ok (.return_, 1) := by decide +kernel
theorem pf_6 : plainFor (⟨"com/example/lumencast/lumencast/model/Routes", "<init>", "([I[I)V"⟩ : MethodName) = true := by first | exact plainFor_of_name (by first | (simp [plainName, overriddenIn]; done) | decide +kernel) | decide +kernel
def Qau350_7 (Z : State) (n0 : Nat) (h0 : Heap) (o0 : Addr) (o1 : Addr) (o2 : Addr) (v : Option Value) (h' : Heap) : Prop := (v = none) ∧ (Keep h0 h' [o0]) ∧ (Fld Z h' o0 "com/example/lumencast/lumencast/model/Routes" "fibres" "[I" (.ref o2)) ∧ (Fld Z h' o0 "com/example/lumencast/lumencast/model/Routes" "firstHop" "[I" (.ref o1))
theorem ef_au350_7 (m : MethodId) (o0 : Addr) (o1 : Addr) (o2 : Addr) : entryFrame m #[(.ref o0), (.ref o1), (.ref o2)] 3 = mkF m 0 #[.val (.ref o0), .val (.ref o1), .val (.ref o2)] [] := by first | (simp [entryFrame, mkF, argsToLocals, Value.category]; done) | rfl
set_option maxRecDepth 65536 in
set_option maxHeartbeats 40000000 in
theorem au350_7 (l : Launch) (Z : State) (a0 : Array Value) (hw : ∀ d ∈ tables_1, d.before a0 Z = true) (n0 : Nat) (h0 : Heap) (hn0 : n0 ≤ h0.size) (o0 : Addr) (o1 : Addr) (o2 : Addr) (P0 : Exa Z h0 o0 "com/example/lumencast/lumencast/model/Routes") (P1 : Fld Z h0 o0 "com/example/lumencast/lumencast/model/Routes" "fibres" "[I" (.null)) (P2 : Fld Z h0 o0 "com/example/lumencast/lumencast/model/Routes" "firstHop" "[I" (.null)) (P3 : Av Z h0 o1 .int ([.int 0, .int 0, .int 0])) (P4 : Av Z h0 o2 .int ([])) (g_o0 : n0 ≤ o0) (g_o1 : n0 ≤ o1) (g_o2 : n0 ≤ o2) (ne_o0_o1 : o0 ≠ o1) (ne_o0_o2 : o0 ≠ o2) (ne_o1_o2 : o1 ≠ o2) :
    Con l Z n0 [] (⟨"com/example/lumencast/lumencast/model/Routes", "<init>", "([I[I)V"⟩ : MethodName) prog_25_method_1_code 3 none ({ frames := 1, cells := 0, slots := 0, locals := 12 } : Room) #[(.ref o0), (.ref o1), (.ref o2)] h0 (Qau350_7 Z n0 h0 o0 o1 o2) := by
  refine Con.of pf_6 (fun m => ef_au350_7 m o0 o1 o2) hn0 ?_
  intro p e s m below meth c C
  refine C.aloadN d7_0 rfl rfl rfl ?_
  refine C.initO 0 d7_1 rfl (tw hw 44 rfl) (tw hw 7 rfl) (tw hw 8 rfl) rfl (by decide) (Nat.le_of_eq rfl) (by decide) ?_
  refine C.aloadN d7_4 rfl rfl rfl ?_
  refine C.aloadN d7_5 rfl rfl rfl ?_
  refine C.putF d7_6 rfl (tw hw 45 rfl) P2 P0 (Or.inr ⟨(tw hw 46 rfl), rfl, rfl⟩) (tw hw 27 rfl) (ty := (.array .int)) (by decide) rfl rfl g_o0 (fun h379 W380 F381 => ?_)
  have F382 : Exa Z h379 o0 "com/example/lumencast/lumencast/model/Routes" := Exa.wr W380 P0
  have F383 : Fld Z h379 o0 "com/example/lumencast/lumencast/model/Routes" "fibres" "[I" (.null) := Fld.other W380 P1 (Or.inr (slot_ne (C := "com/example/lumencast/lumencast/model/Routes") (t := (.array .int)) (t' := (.array .int)) (Or.inr (tw hw 48 rfl)) (Or.inr (tw hw 46 rfl)) (by decide) (by decide) (by decide)))
  have F384 : Av Z h379 o1 .int ([.int 0, .int 0, .int 0]) := P3.other W380 (Ne.symm ne_o0_o1)
  have F385 : Av Z h379 o2 .int ([]) := P4.other W380 (Ne.symm ne_o0_o2)
  refine C.aloadN d7_9 rfl rfl rfl ?_
  refine C.aloadN d7_10 rfl rfl rfl ?_
  refine C.putF d7_11 rfl (tw hw 47 rfl) F383 F382 (Or.inr ⟨(tw hw 48 rfl), rfl, rfl⟩) (tw hw 27 rfl) (ty := (.array .int)) (by decide) rfl rfl g_o0 (fun h386 W387 F388 => ?_)
  have F389 : Exa Z h386 o0 "com/example/lumencast/lumencast/model/Routes" := Exa.wr W387 F382
  have F390 : Av Z h386 o1 .int ([.int 0, .int 0, .int 0]) := F384.other W387 (Ne.symm ne_o0_o1)
  have F391 : Av Z h386 o2 .int ([]) := F385.other W387 (Ne.symm ne_o0_o2)
  have F392 : Fld Z h386 o0 "com/example/lumencast/lumencast/model/Routes" "firstHop" "[I" (.ref o1) := Fld.other W387 F381 (Or.inr (slot_ne (C := "com/example/lumencast/lumencast/model/Routes") (t := (.array .int)) (t' := (.array .int)) (Or.inr (tw hw 46 rfl)) (Or.inr (tw hw 48 rfl)) (by decide) (by decide) (by decide)))
  exact C.ret0 d7_14 (by decide) (by decide) ⟨rfl, (((Keep.refl h0 [o0]).wr W380 (Or.inl (List.mem_of_getElem? (i := 0) rfl))).wr W387 (Or.inl (List.mem_of_getElem? (i := 0) rfl))), F388, F392⟩
theorem pd_4 : parseMethodDescriptor "([I[I)V" = some ⟨[(.array .int), (.array .int)], none⟩ := by decide +kernel
def Qau267_4 (Z : State) (n0 : Nat) (h0 : Heap) (o0 : Addr) (o1 : Addr) (o2 : Addr) (v : Option Value) (h' : Heap) : Prop := ∃ (f0 : Addr) (f1 : Addr), (v = some (.ref f0)) ∧ (Keep h0 h' []) ∧ (n0 ≤ f0) ∧ (h0.size ≤ f0) ∧ (n0 ≤ f1) ∧ (h0.size ≤ f1) ∧ (f0 ≠ f1) ∧ (Exa Z h' f0 "com/example/lumencast/lumencast/model/Routes") ∧ (Fld Z h' f0 "com/example/lumencast/lumencast/model/Routes" "fibres" "[I" (.ref f1)) ∧ (Fld Z h' f0 "com/example/lumencast/lumencast/model/Routes" "firstHop" "[I" (.ref o2)) ∧ (Av Z h' f1 .int ([]))
theorem ef_au267_4 (m : MethodId) (o0 : Addr) : entryFrame m #[(.ref o0)] 2 = mkF m 0 #[.val (.ref o0), .unset] [] := by first | (simp [entryFrame, mkF, argsToLocals, Value.category]; done) | rfl
set_option maxRecDepth 65536 in
set_option maxHeartbeats 40000000 in
theorem au267_4 (l : Launch) (Z : State) (a0 : Array Value) (hw : ∀ d ∈ tables_1, d.before a0 Z = true) (n0 : Nat) (h0 : Heap) (hn0 : n0 ≤ h0.size) (o0 : Addr) (o1 : Addr) (o2 : Addr) (P0 : Exa Z h0 o0 "com/example/lumencast/lumencast/model/Routes$Builder") (P1 : Fld Z h0 o0 "com/example/lumencast/lumencast/model/Routes$Builder" "fibres" "[I" (.ref o1)) (P2 : Fld Z h0 o0 "com/example/lumencast/lumencast/model/Routes$Builder" "firstHop" "[I" (.ref o2)) (P3 : Fld Z h0 o0 "com/example/lumencast/lumencast/model/Routes$Builder" "pairsDone" "I" (.int 2)) (P4 : Av Z h0 o1 .int ([.int 0, .int 0])) (P5 : Av Z h0 o2 .int ([.int 0, .int 0, .int 0])) (g_o0 : n0 ≤ o0) (g_o1 : n0 ≤ o1) (g_o2 : n0 ≤ o2) (ne_o0_o1 : o0 ≠ o1) (ne_o0_o2 : o0 ≠ o2) (ne_o1_o2 : o1 ≠ o2) :
    Con l Z n0 [] (⟨"com/example/lumencast/lumencast/model/Routes$Builder", "build", "()Lcom/example/lumencast/lumencast/model/Routes;"⟩ : MethodName) prog_26_method_4_code 2 (some (.object "com/example/lumencast/lumencast/model/Routes")) ({ frames := 2, cells := 2, slots := 2, locals := 35 } : Room) #[(.ref o0)] h0 (Qau267_4 Z n0 h0 o0 o1 o2) := by
  refine Con.of pf_4 (fun m => ef_au267_4 m o0) hn0 ?_
  intro p e s m below meth c C
  refine C.aloadN d4_0 rfl rfl rfl ?_
  refine C.getF d4_1 rfl (tw hw 19 rfl) P3 ?_
  refine C.iconst 1 d4_4 rfl rfl ?_
  refine C.iadd d4_5 rfl ?_
  show Go p l e ({ frames := 2, cells := 2, slots := 2, locals := 35 } : Room) s m #[(.ref o0)] below meth c n0 (FinQ s n0 (Qau267_4 Z n0 h0 o0 o1 o2) ({ frames := 2, cells := 2, slots := 2, locals := 35 } : Room).cells ({ frames := 2, cells := 2, slots := 2, locals := 35 } : Room).slots) h0 0 0 6 #[.val (.ref o0), .unset] [(.int 3)]
  refine C.aloadN d4_6 rfl rfl rfl ?_
  refine C.getF d4_7 rfl (tw hw 10 rfl) P2 ?_
  refine C.alen d4_10 rfl P5 ?_
  show Go p l e ({ frames := 2, cells := 2, slots := 2, locals := 35 } : Room) s m #[(.ref o0)] below meth c n0 (FinQ s n0 (Qau267_4 Z n0 h0 o0 o1 o2) ({ frames := 2, cells := 2, slots := 2, locals := 35 } : Room).cells ({ frames := 2, cells := 2, slots := 2, locals := 35 } : Room).slots) h0 0 0 11 #[.val (.ref o0), .unset] [(.int 3), (.int 3)]
  refine C.icmp_eq_t d4_11 (by decide) rfl (by decide) ?_
  refine C.aloadN d4_39 rfl rfl rfl ?_
  refine C.getF d4_40 rfl (tw hw 10 rfl) P2 ?_
  refine C.aloadN d4_43 rfl rfl rfl ?_
  refine C.getF d4_44 rfl (tw hw 19 rfl) P3 ?_
  refine C.iaload (.int 0) d4_47 rfl P5 (by decide) rfl ?_
  refine C.istoreN (Ls' := #[.val (.ref o0), .val (.int 0)]) d4_48 rfl rfl ?_
  refine C.new d4_49 rfl (tw hw 26 rfl) (tw hw 27 rfl) (tw hw 28 rfl) (by decide) (by decide) (fun a467 h468 z472 g473 X470 E469 D471 => ?_)
  have gz474 : h0.size ≤ a467 := by rw [z472]; exact (Keep.refl h0 []).1
  have ne475 : o0 ≠ a467 := by rw [z472]; exact Nat.ne_of_lt P0.lt
  have ne476 : o1 ≠ a467 := by rw [z472]; exact Nat.ne_of_lt P4.lt
  have ne477 : o2 ≠ a467 := by rw [z472]; exact Nat.ne_of_lt P5.lt
  have F478 : Exa Z h468 o0 "com/example/lumencast/lumencast/model/Routes$Builder" := Exa.ext X470 P0
  have F479 : Fld Z h468 o0 "com/example/lumencast/lumencast/model/Routes$Builder" "fibres" "[I" (.ref o1) := Fld.ext X470 P1
  have F480 : Fld Z h468 o0 "com/example/lumencast/lumencast/model/Routes$Builder" "firstHop" "[I" (.ref o2) := Fld.ext X470 P2
  have F481 : Fld Z h468 o0 "com/example/lumencast/lumencast/model/Routes$Builder" "pairsDone" "I" (.int 2) := Fld.ext X470 P3
  have F482 : Av Z h468 o1 .int ([.int 0, .int 0]) := P4.ext X470
  have F483 : Av Z h468 o2 .int ([.int 0, .int 0, .int 0]) := P5.ext X470
  have F484 : Fld Z h468 a467 "com/example/lumencast/lumencast/model/Routes" "firstHop" "[I" (.null) := D471 (Or.inr (tw hw 46 rfl)) (ty := (.array .int)) (by decide)
  have F485 : Fld Z h468 a467 "com/example/lumencast/lumencast/model/Routes" "fibres" "[I" (.null) := D471 (Or.inr (tw hw 48 rfl)) (ty := (.array .int)) (by decide)
  refine C.dup d4_52 rfl rfl ?_
  refine C.aloadN d4_53 rfl rfl rfl ?_
  refine C.getF d4_54 rfl (tw hw 10 rfl) F480 ?_
  refine C.iloadN d4_57 rfl rfl ?_
  refine C.aloadN d4_58 rfl rfl rfl ?_
  refine C.getF d4_59 rfl (tw hw 12 rfl) F479 ?_
  refine C.alen d4_62 rfl F482 ?_
  show Go p l e ({ frames := 2, cells := 2, slots := 2, locals := 35 } : Room) s m #[(.ref o0)] below meth c n0 (FinQ s n0 (Qau267_4 Z n0 h0 o0 o1 o2) ({ frames := 2, cells := 2, slots := 2, locals := 35 } : Room).cells ({ frames := 2, cells := 2, slots := 2, locals := 35 } : Room).slots) h468 1 2 63 #[.val (.ref o0), .val (.int 0)] [(.int 2), (.int 0), (.ref o2), (.ref a467), (.ref a467)]
  refine C.icmp_ne_t d4_63 (by decide) rfl (by decide) ?_
  refine C.aloadN d4_73 rfl rfl rfl ?_
  refine C.getF d4_74 rfl (tw hw 12 rfl) F479 ?_
  refine C.iloadN d4_77 rfl rfl ?_
  refine C.callS (argsL := [(.ref o1), (.int 0)]) (rest := [(.ref o2), (.ref a467), (.ref a467)]) 3 (fun zz => con_copy0 l Z a0 hw n0 h468 zz o1 0 ([.int 0, .int 0]) F482 (by decide) (by decide) (show ¬ (0 : Int32) = (2 : Nat).toInt32 by decide) (Nat.le_of_ble_eq_true rfl)) d4_78 rfl (tw hw 29 rfl) (tw hw 30 rfl) (tw hw 31 rfl) (tw hw 32 rfl) (by decide) pd_3 rfl rfl rfl (Nat.le_of_eq rfl) (by decide) (by decide) (by decide) (by decide) (fun v486 h487 r488 => ?_)
  obtain ⟨a489, rfl, K490, g492, gz493, F491⟩ := r488
  have gz494 : h0.size ≤ a489 := Nat.le_trans ((Keep.refl h0 []).ext X470).1 gz493
  have ne495 : o0 ≠ a489 := Nat.ne_of_lt (Nat.lt_of_lt_of_le F478.lt gz493)
  have ne496 : o1 ≠ a489 := Nat.ne_of_lt (Nat.lt_of_lt_of_le F482.lt gz493)
  have ne497 : o2 ≠ a489 := Nat.ne_of_lt (Nat.lt_of_lt_of_le F483.lt gz493)
  have ne498 : a467 ≠ a489 := Nat.ne_of_lt (Nat.lt_of_lt_of_le E469.lt gz493)
  have F499 : Exa Z h487 o0 "com/example/lumencast/lumencast/model/Routes$Builder" := F478.keep K490
  have F500 : Fld Z h487 o0 "com/example/lumencast/lumencast/model/Routes$Builder" "fibres" "[I" (.ref o1) := F479.keep K490 nin0
  have F501 : Fld Z h487 o0 "com/example/lumencast/lumencast/model/Routes$Builder" "firstHop" "[I" (.ref o2) := F480.keep K490 nin0
  have F502 : Fld Z h487 o0 "com/example/lumencast/lumencast/model/Routes$Builder" "pairsDone" "I" (.int 2) := F481.keep K490 nin0
  have F503 : Av Z h487 o1 .int ([.int 0, .int 0]) := F482.keep K490 nin0
  have F504 : Av Z h487 o2 .int ([.int 0, .int 0, .int 0]) := F483.keep K490 nin0
  have F505 : Exa Z h487 a467 "com/example/lumencast/lumencast/model/Routes" := E469.keep K490
  have F506 : Fld Z h487 a467 "com/example/lumencast/lumencast/model/Routes" "firstHop" "[I" (.null) := F484.keep K490 nin0
  have F507 : Fld Z h487 a467 "com/example/lumencast/lumencast/model/Routes" "fibres" "[I" (.null) := F485.keep K490 nin0
  have F508 : Av Z h487 a489 .int ([]) := F491
  refine C.callNN (argsL := [(.ref o2), (.ref a489)]) (rest := [(.ref a467)]) 1 (fun zz => au350_7 l Z a0 hw n0 h487 zz a467 o2 a489 F505 F507 F506 F504 F508 g473 g_o2 g492 (Ne.symm ne477) ne498 ne497) d4_81 rfl rfl (tw hw 41 rfl) (tw hw 42 rfl) (tw hw 28 rfl) (tw hw 43 rfl) (by decide) pd_4 rfl rfl rfl (Nat.le_of_eq rfl) (by decide) (by decide) (by decide) (by decide) (fun v509 h510 r511 => ?_)
  obtain ⟨rfl, K512, F513, F514⟩ := r511
  have F515 : Exa Z h510 o0 "com/example/lumencast/lumencast/model/Routes$Builder" := F499.keep K512
  have F516 : Fld Z h510 o0 "com/example/lumencast/lumencast/model/Routes$Builder" "fibres" "[I" (.ref o1) := F500.keep K512 (ninS ne475 nin0)
  have F517 : Fld Z h510 o0 "com/example/lumencast/lumencast/model/Routes$Builder" "firstHop" "[I" (.ref o2) := F501.keep K512 (ninS ne475 nin0)
  have F518 : Fld Z h510 o0 "com/example/lumencast/lumencast/model/Routes$Builder" "pairsDone" "I" (.int 2) := F502.keep K512 (ninS ne475 nin0)
  have F519 : Av Z h510 o1 .int ([.int 0, .int 0]) := F503.keep K512 (ninS ne476 nin0)
  have F520 : Av Z h510 o2 .int ([.int 0, .int 0, .int 0]) := F504.keep K512 (ninS ne477 nin0)
  have F521 : Exa Z h510 a467 "com/example/lumencast/lumencast/model/Routes" := F505.keep K512
  have F524 : Av Z h510 a489 .int ([]) := F508.keep K512 (ninS (Ne.symm ne498) nin0)
  exact C.retA d4_84 rfl rfl (by decide) (by decide) ⟨a467, a489, rfl, ((((Keep.refl h0 []).ext X470).trans K490 all0).trans K512 (allS (Or.inr gz474) all0)), g473, gz474, g492, gz494, ne498, F521, F513, F514, F524⟩
theorem pd_5 : parseMethodDescriptor "()Lcom/example/lumencast/lumencast/model/Routes;" = some ⟨[], some (.object "com/example/lumencast/lumencast/model/Routes")⟩ := by decide +kernel
theorem d8_0 : decode prog_25_method_2_code 0 = .ok (.aload_n 0, 1) := by decide +kernel
theorem d8_1 : decode prog_25_method_2_code 1 = .ok (.getfield 9, 3) := by decide +kernel
theorem d8_4 : decode prog_25_method_2_code 4 = .ok (.iload_n 1, 1) := by decide +kernel
theorem d8_5 : decode prog_25_method_2_code 5 = .ok (.iconst 1, 1) := by decide +kernel
theorem d8_6 : decode prog_25_method_2_code 6 = .ok (.iadd, 1) := by decide +kernel
theorem d8_7 : decode prog_25_method_2_code 7 = .ok (.iaload, 1) := by decide +kernel
theorem d8_8 : decode prog_25_method_2_code 8 = .ok (.aload_n 0, 1) := by decide +kernel
theorem d8_9 : decode prog_25_method_2_code 9 = .ok (.getfield 9, 3) := by decide +kernel
theorem d8_12 : decode prog_25_method_2_code 12 = .ok (.iload_n 1, 1) := by decide +kernel
theorem d8_13 : decode prog_25_method_2_code 13 = .ok (.iaload, 1) := by decide +kernel
theorem d8_14 : decode prog_25_method_2_code 14 = .ok (.isub, 1) := by decide +kernel
theorem d8_15 : decode prog_25_method_2_code 15 = .ok (.ireturn, 1) := by decide +kernel
theorem pf_7 : plainFor (⟨"com/example/lumencast/lumencast/model/Routes", "hops", "(I)I"⟩ : MethodName) = true := by first | exact plainFor_of_name (by first | (simp [plainName, overriddenIn]; done) | decide +kernel) | decide +kernel
def Qau552_8 (Z : State) (n0 : Nat) (h0 : Heap) (o0 : Addr) (o1 : Addr) (o2 : Addr) (v : Option Value) (h' : Heap) : Prop := (v = some (.int 0)) ∧ (h0 = h')
theorem ef_au552_8 (m : MethodId) (o0 : Addr) : entryFrame m #[(.ref o0), (.int 0)] 2 = mkF m 0 #[.val (.ref o0), .val (.int 0)] [] := by first | (simp [entryFrame, mkF, argsToLocals, Value.category]; done) | rfl
set_option maxRecDepth 65536 in
set_option maxHeartbeats 40000000 in
theorem au552_8 (l : Launch) (Z : State) (a0 : Array Value) (hw : ∀ d ∈ tables_1, d.before a0 Z = true) (n0 : Nat) (h0 : Heap) (hn0 : n0 ≤ h0.size) (o0 : Addr) (o1 : Addr) (o2 : Addr) (P0 : Exa Z h0 o0 "com/example/lumencast/lumencast/model/Routes") (P1 : Fld Z h0 o0 "com/example/lumencast/lumencast/model/Routes" "fibres" "[I" (.ref o1)) (P2 : Fld Z h0 o0 "com/example/lumencast/lumencast/model/Routes" "firstHop" "[I" (.ref o2)) (P3 : Av Z h0 o1 .int ([])) (P4 : Av Z h0 o2 .int ([.int 0, .int 0, .int 0])) (g_o0 : n0 ≤ o0) (g_o1 : n0 ≤ o1) (g_o2 : n0 ≤ o2) (ne_o0_o1 : o0 ≠ o1) (ne_o0_o2 : o0 ≠ o2) (ne_o1_o2 : o1 ≠ o2) :
    Con l Z n0 [] (⟨"com/example/lumencast/lumencast/model/Routes", "hops", "(I)I"⟩ : MethodName) prog_25_method_2_code 2 (some .int) ({ frames := 0, cells := 0, slots := 0, locals := 0 } : Room) #[(.ref o0), (.int 0)] h0 (Qau552_8 Z n0 h0 o0 o1 o2) := by
  refine Con.of pf_7 (fun m => ef_au552_8 m o0) hn0 ?_
  intro p e s m below meth c C
  refine C.aloadN d8_0 rfl rfl rfl ?_
  refine C.getF d8_1 rfl (tw hw 45 rfl) P2 ?_
  refine C.iloadN d8_4 rfl rfl ?_
  refine C.iconst 1 d8_5 rfl rfl ?_
  refine C.iadd d8_6 rfl ?_
  show Go p l e ({ frames := 0, cells := 0, slots := 0, locals := 0 } : Room) s m #[(.ref o0), (.int 0)] below meth c n0 (FinQ s n0 (Qau552_8 Z n0 h0 o0 o1 o2) ({ frames := 0, cells := 0, slots := 0, locals := 0 } : Room).cells ({ frames := 0, cells := 0, slots := 0, locals := 0 } : Room).slots) h0 0 0 7 #[.val (.ref o0), .val (.int 0)] [(.int 1), (.ref o2)]
  refine C.iaload (.int 0) d8_7 rfl P4 (by decide) rfl ?_
  refine C.aloadN d8_8 rfl rfl rfl ?_
  refine C.getF d8_9 rfl (tw hw 45 rfl) P2 ?_
  refine C.iloadN d8_12 rfl rfl ?_
  refine C.iaload (.int 0) d8_13 rfl P4 (by decide) rfl ?_
  refine C.isub d8_14 rfl ?_
  show Go p l e ({ frames := 0, cells := 0, slots := 0, locals := 0 } : Room) s m #[(.ref o0), (.int 0)] below meth c n0 (FinQ s n0 (Qau552_8 Z n0 h0 o0 o1 o2) ({ frames := 0, cells := 0, slots := 0, locals := 0 } : Room).cells ({ frames := 0, cells := 0, slots := 0, locals := 0 } : Room).slots) h0 0 0 15 #[.val (.ref o0), .val (.int 0)] [(.int 0)]
  exact C.retI d8_15 (by decide) (by decide) ⟨rfl, rfl⟩
theorem pd_6 : parseMethodDescriptor "(I)I" = some ⟨[.int], some .int⟩ := by decide +kernel
def Qau557_8 (Z : State) (n0 : Nat) (h0 : Heap) (o0 : Addr) (o1 : Addr) (o2 : Addr) (v : Option Value) (h' : Heap) : Prop := (v = some (.int 0)) ∧ (h0 = h')
theorem ef_au557_8 (m : MethodId) (o0 : Addr) : entryFrame m #[(.ref o0), (.int 1)] 2 = mkF m 0 #[.val (.ref o0), .val (.int 1)] [] := by first | (simp [entryFrame, mkF, argsToLocals, Value.category]; done) | rfl
set_option maxRecDepth 65536 in
set_option maxHeartbeats 40000000 in
theorem au557_8 (l : Launch) (Z : State) (a0 : Array Value) (hw : ∀ d ∈ tables_1, d.before a0 Z = true) (n0 : Nat) (h0 : Heap) (hn0 : n0 ≤ h0.size) (o0 : Addr) (o1 : Addr) (o2 : Addr) (P0 : Exa Z h0 o0 "com/example/lumencast/lumencast/model/Routes") (P1 : Fld Z h0 o0 "com/example/lumencast/lumencast/model/Routes" "fibres" "[I" (.ref o1)) (P2 : Fld Z h0 o0 "com/example/lumencast/lumencast/model/Routes" "firstHop" "[I" (.ref o2)) (P3 : Av Z h0 o1 .int ([])) (P4 : Av Z h0 o2 .int ([.int 0, .int 0, .int 0])) (g_o0 : n0 ≤ o0) (g_o1 : n0 ≤ o1) (g_o2 : n0 ≤ o2) (ne_o0_o1 : o0 ≠ o1) (ne_o0_o2 : o0 ≠ o2) (ne_o1_o2 : o1 ≠ o2) :
    Con l Z n0 [] (⟨"com/example/lumencast/lumencast/model/Routes", "hops", "(I)I"⟩ : MethodName) prog_25_method_2_code 2 (some .int) ({ frames := 0, cells := 0, slots := 0, locals := 0 } : Room) #[(.ref o0), (.int 1)] h0 (Qau557_8 Z n0 h0 o0 o1 o2) := by
  refine Con.of pf_7 (fun m => ef_au557_8 m o0) hn0 ?_
  intro p e s m below meth c C
  refine C.aloadN d8_0 rfl rfl rfl ?_
  refine C.getF d8_1 rfl (tw hw 45 rfl) P2 ?_
  refine C.iloadN d8_4 rfl rfl ?_
  refine C.iconst 1 d8_5 rfl rfl ?_
  refine C.iadd d8_6 rfl ?_
  show Go p l e ({ frames := 0, cells := 0, slots := 0, locals := 0 } : Room) s m #[(.ref o0), (.int 1)] below meth c n0 (FinQ s n0 (Qau557_8 Z n0 h0 o0 o1 o2) ({ frames := 0, cells := 0, slots := 0, locals := 0 } : Room).cells ({ frames := 0, cells := 0, slots := 0, locals := 0 } : Room).slots) h0 0 0 7 #[.val (.ref o0), .val (.int 1)] [(.int 2), (.ref o2)]
  refine C.iaload (.int 0) d8_7 rfl P4 (by decide) rfl ?_
  refine C.aloadN d8_8 rfl rfl rfl ?_
  refine C.getF d8_9 rfl (tw hw 45 rfl) P2 ?_
  refine C.iloadN d8_12 rfl rfl ?_
  refine C.iaload (.int 0) d8_13 rfl P4 (by decide) rfl ?_
  refine C.isub d8_14 rfl ?_
  show Go p l e ({ frames := 0, cells := 0, slots := 0, locals := 0 } : Room) s m #[(.ref o0), (.int 1)] below meth c n0 (FinQ s n0 (Qau557_8 Z n0 h0 o0 o1 o2) ({ frames := 0, cells := 0, slots := 0, locals := 0 } : Room).cells ({ frames := 0, cells := 0, slots := 0, locals := 0 } : Room).slots) h0 0 0 15 #[.val (.ref o0), .val (.int 1)] [(.int 0)]
  exact C.retI d8_15 (by decide) (by decide) ⟨rfl, rfl⟩
theorem d9_0 : decode prog_26_method_2_code 0 = .ok (.aload_n 0, 1) := by decide +kernel
theorem d9_1 : decode prog_26_method_2_code 1 = .ok (.getfield 9, 3) := by decide +kernel
theorem d9_4 : decode prog_26_method_2_code 4 = .ok (.aload_n 0, 1) := by decide +kernel
theorem d9_5 : decode prog_26_method_2_code 5 = .ok (.getfield 18, 3) := by decide +kernel
theorem d9_8 : decode prog_26_method_2_code 8 = .ok (.iconst 1, 1) := by decide +kernel
theorem d9_9 : decode prog_26_method_2_code 9 = .ok (.iadd, 1) := by decide +kernel
theorem d9_10 : decode prog_26_method_2_code 10 = .ok (.iaload, 1) := by decide +kernel
theorem d9_11 : decode prog_26_method_2_code 11 = .ok (.istore_n 2, 1) := by decide +kernel
theorem d9_12 : decode prog_26_method_2_code 12 = .ok (.iload_n 2, 1) := by decide +kernel
theorem d9_13 : decode prog_26_method_2_code 13 = .ok (.aload_n 0, 1) := by decide +kernel
theorem d9_14 : decode prog_26_method_2_code 14 = .ok (.getfield 15, 3) := by decide +kernel
theorem d9_17 : decode prog_26_method_2_code 17 = .ok (.arraylength, 1) := by decide +kernel
theorem d9_18 : decode prog_26_method_2_code 18 = .ok (.if_icmp .ne 59, 3) := by decide +kernel
theorem d9_21 : decode prog_26_method_2_code 21 = .ok (.iload_n 2, 1) := by decide +kernel
theorem d9_22 : decode prog_26_method_2_code 22 = .ok (.ldc 22, 2) := by decide +kernel
theorem d9_24 : decode prog_26_method_2_code 24 = .ok (.if_icmp .ne 23, 3) := by decide +kernel
theorem d9_27 : decode prog_26_method_2_code 27 = .ok (.new 23, 3) := by decide +kernel
theorem d9_30 : decode prog_26_method_2_code 30 = .ok (.dup, 1) := by decide +kernel
theorem d9_31 : decode prog_26_method_2_code 31 = .ok (.aload_n 0, 1) := by decide +kernel
theorem d9_32 : decode prog_26_method_2_code 32 = .ok (.getfield 9, 3) := by decide +kernel
theorem d9_35 : decode prog_26_method_2_code 35 = .ok (.arraylength, 1) := by decide +kernel
theorem d9_36 : decode prog_26_method_2_code 36 = .ok (.iconst 1, 1) := by decide +kernel
theorem d9_37 : decode prog_26_method_2_code 37 = .ok (.isub, 1) := by decide +kernel
theorem d9_38 : decode prog_26_method_2_code 38 = .ok (.invokedynamic 25, 5) := by decide +kernel
theorem d9_43 : decode prog_26_method_2_code 43 = .ok (.invokespecial 29, 3) := by decide +kernel
theorem d9_46 : decode prog_26_method_2_code 46 = .ok (.athrow, 1) := by decide +kernel
theorem d9_47 : decode prog_26_method_2_code 47 = .ok (.aload_n 0, 1) := by decide +kernel
theorem d9_48 : decode prog_26_method_2_code 48 = .ok (.aload_n 0, 1) := by decide +kernel
theorem d9_49 : decode prog_26_method_2_code 49 = .ok (.getfield 15, 3) := by decide +kernel
theorem d9_52 : decode prog_26_method_2_code 52 = .ok (.ldc2_w 32, 3) := by decide +kernel
theorem d9_55 : decode prog_26_method_2_code 55 = .ok (.ldc2_w 34, 3) := by decide +kernel
theorem d9_58 : decode prog_26_method_2_code 58 = .ok (.ldc2_w 36, 3) := by decide +kernel
theorem d9_61 : decode prog_26_method_2_code 61 = .ok (.iload_n 2, 1) := by decide +kernel
theorem d9_62 : decode prog_26_method_2_code 62 = .ok (.i2l, 1) := by decide +kernel
theorem d9_63 : decode prog_26_method_2_code 63 = .ok (.lmul, 1) := by decide +kernel
theorem d9_64 : decode prog_26_method_2_code 64 = .ok (.invokestatic 38, 3) := by decide +kernel
theorem d9_67 : decode prog_26_method_2_code 67 = .ok (.invokestatic 44, 3) := by decide +kernel
theorem d9_70 : decode prog_26_method_2_code 70 = .ok (.l2i, 1) := by decide +kernel
theorem d9_71 : decode prog_26_method_2_code 71 = .ok (.invokestatic 47, 3) := by decide +kernel
theorem d9_74 : decode prog_26_method_2_code 74 = .ok (.putfield 15, 3) := by decide +kernel
theorem d9_77 : decode prog_26_method_2_code 77 = .ok (.aload_n 0, 1) := by decide +kernel
theorem d9_78 : decode prog_26_method_2_code 78 = .ok (.getfield 15, 3) := by decide +kernel
theorem d9_81 : decode prog_26_method_2_code 81 = .ok (.iload_n 2, 1) := by decide +kernel
theorem d9_82 : decode prog_26_method_2_code 82 = .ok (.iload_n 1, 1) := by decide +kernel
theorem d9_83 : decode prog_26_method_2_code 83 = .ok (.iastore, 1) := by decide +kernel
theorem d9_84 : decode prog_26_method_2_code 84 = .ok (.aload_n 0, 1) := by decide +kernel
theorem d9_85 : decode prog_26_method_2_code 85 = .ok (.getfield 9, 3) := by decide +kernel
theorem d9_88 : decode prog_26_method_2_code 88 = .ok (.aload_n 0, 1) := by decide +kernel
theorem d9_89 : decode prog_26_method_2_code 89 = .ok (.getfield 18, 3) := by decide +kernel
theorem d9_92 : decode prog_26_method_2_code 92 = .ok (.iconst 1, 1) := by decide +kernel
theorem d9_93 : decode prog_26_method_2_code 93 = .ok (.iadd, 1) := by decide +kernel
theorem d9_94 : decode prog_26_method_2_code 94 = .ok (.iload_n 2, 1) := by decide +kernel
theorem d9_95 : decode prog_26_method_2_code 95 = .ok (.iconst 1, 1) := by decide +kernel
theorem d9_96 : decode prog_26_method_2_code 96 = .ok (.iadd, 1) := by decide +kernel
theorem d9_97 : decode prog_26_method_2_code 97 = .ok (.iastore, 1) := by decide +kernel
theorem d9_98 : decode prog_26_method_2_code 98 = .ok (.return_, 1) := by decide +kernel
theorem pf_8 : plainFor (⟨"com/example/lumencast/lumencast/model/Routes$Builder", "addFibre", "(I)V"⟩ : MethodName) = true := by first | exact plainFor_of_name (by first | (simp [plainName, overriddenIn]; done) | decide +kernel) | decide +kernel
def Qau608_9 (Z : State) (n0 : Nat) (h0 : Heap) (o0 : Addr) (i0 : Int32) (o1 : Addr) (o2 : Addr) (v : Option Value) (h' : Heap) : Prop := (v = none) ∧ (Keep h0 h' [o1, o2]) ∧ (Av Z h' o1 .int ([.int i0, .int 0])) ∧ (Av Z h' o2 .int ([.int 0, .int 0, .int 1]))
theorem ef_au608_9 (m : MethodId) (o0 : Addr) (i0 : Int32) : entryFrame m #[(.ref o0), (.int i0)] 3 = mkF m 0 #[.val (.ref o0), .val (.int i0), .unset] [] := by first | (simp [entryFrame, mkF, argsToLocals, Value.category]; done) | rfl
set_option maxRecDepth 65536 in
set_option maxHeartbeats 40000000 in
theorem au608_9 (l : Launch) (Z : State) (a0 : Array Value) (hw : ∀ d ∈ tables_1, d.before a0 Z = true) (n0 : Nat) (h0 : Heap) (hn0 : n0 ≤ h0.size) (o0 : Addr) (i0 : Int32) (o1 : Addr) (o2 : Addr) (P0 : Exa Z h0 o0 "com/example/lumencast/lumencast/model/Routes$Builder") (P1 : Fld Z h0 o0 "com/example/lumencast/lumencast/model/Routes$Builder" "fibres" "[I" (.ref o1)) (P2 : Fld Z h0 o0 "com/example/lumencast/lumencast/model/Routes$Builder" "firstHop" "[I" (.ref o2)) (P3 : Fld Z h0 o0 "com/example/lumencast/lumencast/model/Routes$Builder" "pairsDone" "I" (.int 1)) (P4 : Av Z h0 o1 .int ([.int 0, .int 0])) (P5 : Av Z h0 o2 .int ([.int 0, .int 0, .int 0])) (g_o0 : n0 ≤ o0) (g_o1 : n0 ≤ o1) (g_o2 : n0 ≤ o2) (ne_o0_o1 : o0 ≠ o1) (ne_o0_o2 : o0 ≠ o2) (ne_o1_o2 : o1 ≠ o2) :
    Con l Z n0 [] (⟨"com/example/lumencast/lumencast/model/Routes$Builder", "addFibre", "(I)V"⟩ : MethodName) prog_26_method_2_code 3 none ({ frames := 0, cells := 0, slots := 0, locals := 0 } : Room) #[(.ref o0), (.int i0)] h0 (Qau608_9 Z n0 h0 o0 i0 o1 o2) := by
  refine Con.of pf_8 (fun m => ef_au608_9 m o0 i0) hn0 ?_
  intro p e s m below meth c C
  refine C.aloadN d9_0 rfl rfl rfl ?_
  refine C.getF d9_1 rfl (tw hw 10 rfl) P2 ?_
  refine C.aloadN d9_4 rfl rfl rfl ?_
  refine C.getF d9_5 rfl (tw hw 19 rfl) P3 ?_
  refine C.iconst 1 d9_8 rfl rfl ?_
  refine C.iadd d9_9 rfl ?_
  show Go p l e ({ frames := 0, cells := 0, slots := 0, locals := 0 } : Room) s m #[(.ref o0), (.int i0)] below meth c n0 (FinQ s n0 (Qau608_9 Z n0 h0 o0 i0 o1 o2) ({ frames := 0, cells := 0, slots := 0, locals := 0 } : Room).cells ({ frames := 0, cells := 0, slots := 0, locals := 0 } : Room).slots) h0 0 0 10 #[.val (.ref o0), .val (.int i0), .unset] [(.int 2), (.ref o2)]
  refine C.iaload (.int 0) d9_10 rfl P5 (by decide) rfl ?_
  refine C.istoreN (Ls' := #[.val (.ref o0), .val (.int i0), .val (.int 0)]) d9_11 rfl rfl ?_
  refine C.iloadN d9_12 rfl rfl ?_
  refine C.aloadN d9_13 rfl rfl rfl ?_
  refine C.getF d9_14 rfl (tw hw 12 rfl) P1 ?_
  refine C.alen d9_17 rfl P4 ?_
  show Go p l e ({ frames := 0, cells := 0, slots := 0, locals := 0 } : Room) s m #[(.ref o0), (.int i0)] below meth c n0 (FinQ s n0 (Qau608_9 Z n0 h0 o0 i0 o1 o2) ({ frames := 0, cells := 0, slots := 0, locals := 0 } : Room).cells ({ frames := 0, cells := 0, slots := 0, locals := 0 } : Room).slots) h0 0 0 18 #[.val (.ref o0), .val (.int i0), .val (.int 0)] [(.int 2), (.int 0)]
  refine C.icmp_ne_t d9_18 (by decide) rfl (by decide) ?_
  refine C.aloadN d9_77 rfl rfl rfl ?_
  refine C.getF d9_78 rfl (tw hw 12 rfl) P1 ?_
  refine C.iloadN d9_81 rfl rfl ?_
  refine C.iloadN d9_82 rfl rfl ?_
  refine C.iastore d9_83 rfl P4 g_o1 (by decide) (Nat.le_of_ble_eq_true rfl) (fun h645 W646 F647 => ?_)
  have F648 : Exa Z h645 o0 "com/example/lumencast/lumencast/model/Routes$Builder" := Exa.wr W646 P0
  have F649 : Fld Z h645 o0 "com/example/lumencast/lumencast/model/Routes$Builder" "fibres" "[I" (.ref o1) := Fld.other W646 P1 (Or.inl ne_o0_o1)
  have F650 : Fld Z h645 o0 "com/example/lumencast/lumencast/model/Routes$Builder" "firstHop" "[I" (.ref o2) := Fld.other W646 P2 (Or.inl ne_o0_o1)
  have F651 : Fld Z h645 o0 "com/example/lumencast/lumencast/model/Routes$Builder" "pairsDone" "I" (.int 1) := Fld.other W646 P3 (Or.inl ne_o0_o1)
  have F652 : Av Z h645 o2 .int ([.int 0, .int 0, .int 0]) := P5.other W646 (Ne.symm ne_o1_o2)
  have F653 : Av Z h645 o1 .int ([.int i0, .int 0]) := F647
  refine C.aloadN d9_84 rfl rfl rfl ?_
  refine C.getF d9_85 rfl (tw hw 10 rfl) F650 ?_
  refine C.aloadN d9_88 rfl rfl rfl ?_
  refine C.getF d9_89 rfl (tw hw 19 rfl) F651 ?_
  refine C.iconst 1 d9_92 rfl rfl ?_
  refine C.iadd d9_93 rfl ?_
  show Go p l e ({ frames := 0, cells := 0, slots := 0, locals := 0 } : Room) s m #[(.ref o0), (.int i0)] below meth c n0 (FinQ s n0 (Qau608_9 Z n0 h0 o0 i0 o1 o2) ({ frames := 0, cells := 0, slots := 0, locals := 0 } : Room).cells ({ frames := 0, cells := 0, slots := 0, locals := 0 } : Room).slots) h645 0 0 94 #[.val (.ref o0), .val (.int i0), .val (.int 0)] [(.int 2), (.ref o2)]
  refine C.iloadN d9_94 rfl rfl ?_
  refine C.iconst 1 d9_95 rfl rfl ?_
  refine C.iadd d9_96 rfl ?_
  show Go p l e ({ frames := 0, cells := 0, slots := 0, locals := 0 } : Room) s m #[(.ref o0), (.int i0)] below meth c n0 (FinQ s n0 (Qau608_9 Z n0 h0 o0 i0 o1 o2) ({ frames := 0, cells := 0, slots := 0, locals := 0 } : Room).cells ({ frames := 0, cells := 0, slots := 0, locals := 0 } : Room).slots) h645 0 0 97 #[.val (.ref o0), .val (.int i0), .val (.int 0)] [(.int 1), (.int 2), (.ref o2)]
  refine C.iastore d9_97 rfl F652 g_o2 (by decide) (Nat.le_of_ble_eq_true rfl) (fun h654 W655 F656 => ?_)
  have F657 : Exa Z h654 o0 "com/example/lumencast/lumencast/model/Routes$Builder" := Exa.wr W655 F648
  have F658 : Fld Z h654 o0 "com/example/lumencast/lumencast/model/Routes$Builder" "fibres" "[I" (.ref o1) := Fld.other W655 F649 (Or.inl ne_o0_o2)
  have F659 : Fld Z h654 o0 "com/example/lumencast/lumencast/model/Routes$Builder" "firstHop" "[I" (.ref o2) := Fld.other W655 F650 (Or.inl ne_o0_o2)
  have F660 : Fld Z h654 o0 "com/example/lumencast/lumencast/model/Routes$Builder" "pairsDone" "I" (.int 1) := Fld.other W655 F651 (Or.inl ne_o0_o2)
  have F661 : Av Z h654 o1 .int ([.int i0, .int 0]) := F653.other W655 ne_o1_o2
  have F662 : Av Z h654 o2 .int ([.int 0, .int 0, .int 1]) := F656
  exact C.ret0 d9_98 (by decide) (by decide) ⟨rfl, (((Keep.refl h0 [o1, o2]).wr W646 (Or.inl (List.mem_of_getElem? (i := 0) rfl))).wr W655 (Or.inl (List.mem_of_getElem? (i := 1) rfl))), F661, F662⟩
def Qau675_3 (Z : State) (n0 : Nat) (h0 : Heap) (o0 : Addr) (o1 : Addr) (o2 : Addr) (i0 : Int32) (v : Option Value) (h' : Heap) : Prop := (v = none) ∧ (Keep h0 h' [o0]) ∧ (Fld Z h' o0 "com/example/lumencast/lumencast/model/Routes$Builder" "fibres" "[I" (.ref o1)) ∧ (Fld Z h' o0 "com/example/lumencast/lumencast/model/Routes$Builder" "firstHop" "[I" (.ref o2)) ∧ (Fld Z h' o0 "com/example/lumencast/lumencast/model/Routes$Builder" "pairsDone" "I" (.int 2))
theorem ef_au675_3 (m : MethodId) (o0 : Addr) : entryFrame m #[(.ref o0)] 1 = mkF m 0 #[.val (.ref o0)] [] := by first | (simp [entryFrame, mkF, argsToLocals, Value.category]; done) | rfl
set_option maxRecDepth 65536 in
set_option maxHeartbeats 40000000 in
theorem au675_3 (l : Launch) (Z : State) (a0 : Array Value) (hw : ∀ d ∈ tables_1, d.before a0 Z = true) (n0 : Nat) (h0 : Heap) (hn0 : n0 ≤ h0.size) (o0 : Addr) (o1 : Addr) (o2 : Addr) (i0 : Int32) (P0 : Exa Z h0 o0 "com/example/lumencast/lumencast/model/Routes$Builder") (P1 : Fld Z h0 o0 "com/example/lumencast/lumencast/model/Routes$Builder" "fibres" "[I" (.ref o1)) (P2 : Fld Z h0 o0 "com/example/lumencast/lumencast/model/Routes$Builder" "firstHop" "[I" (.ref o2)) (P3 : Fld Z h0 o0 "com/example/lumencast/lumencast/model/Routes$Builder" "pairsDone" "I" (.int 1)) (P4 : Av Z h0 o1 .int ([.int i0, .int 0])) (P5 : Av Z h0 o2 .int ([.int 0, .int 0, .int 1])) (g_o0 : n0 ≤ o0) (g_o1 : n0 ≤ o1) (g_o2 : n0 ≤ o2) (ne_o0_o1 : o0 ≠ o1) (ne_o0_o2 : o0 ≠ o2) (ne_o1_o2 : o1 ≠ o2) :
    Con l Z n0 [] (⟨"com/example/lumencast/lumencast/model/Routes$Builder", "endRoute", "()V"⟩ : MethodName) prog_26_method_3_code 1 none ({ frames := 0, cells := 0, slots := 0, locals := 0 } : Room) #[(.ref o0)] h0 (Qau675_3 Z n0 h0 o0 o1 o2 i0) := by
  refine Con.of pf_3 (fun m => ef_au675_3 m o0) hn0 ?_
  intro p e s m below meth c C
  refine C.aloadN d3_0 rfl rfl rfl ?_
  refine C.dup d3_1 rfl rfl ?_
  refine C.getF d3_2 rfl (tw hw 19 rfl) P3 ?_
  refine C.iconst 1 d3_5 rfl rfl ?_
  refine C.iadd d3_6 rfl ?_
  show Go p l e ({ frames := 0, cells := 0, slots := 0, locals := 0 } : Room) s m #[(.ref o0)] below meth c n0 (FinQ s n0 (Qau675_3 Z n0 h0 o0 o1 o2 i0) ({ frames := 0, cells := 0, slots := 0, locals := 0 } : Room).cells ({ frames := 0, cells := 0, slots := 0, locals := 0 } : Room).slots) h0 0 0 7 #[.val (.ref o0)] [(.int 2), (.ref o0)]
  refine C.putF d3_7 rfl (tw hw 19 rfl) P3 P0 (Or.inl (tw hw 20 rfl)) (tw hw 1 rfl) (ty := .int) (by decide) rfl rfl g_o0 (fun h692 W693 F694 => ?_)
  have F695 : Exa Z h692 o0 "com/example/lumencast/lumencast/model/Routes$Builder" := Exa.wr W693 P0
  have F696 : Fld Z h692 o0 "com/example/lumencast/lumencast/model/Routes$Builder" "fibres" "[I" (.ref o1) := Fld.other W693 P1 (Or.inr (slot_ne (C := "com/example/lumencast/lumencast/model/Routes$Builder") (t := (.array .int)) (t' := .int) (Or.inl (tw hw 13 rfl)) (Or.inl (tw hw 20 rfl)) (by decide) (by decide) (by decide)))
  have F697 : Fld Z h692 o0 "com/example/lumencast/lumencast/model/Routes$Builder" "firstHop" "[I" (.ref o2) := Fld.other W693 P2 (Or.inr (slot_ne (C := "com/example/lumencast/lumencast/model/Routes$Builder") (t := (.array .int)) (t' := .int) (Or.inr (tw hw 11 rfl)) (Or.inl (tw hw 20 rfl)) (by decide) (by decide) (by decide)))
  have F698 : Av Z h692 o1 .int ([.int i0, .int 0]) := P4.other W693 (Ne.symm ne_o0_o1)
  have F699 : Av Z h692 o2 .int ([.int 0, .int 0, .int 1]) := P5.other W693 (Ne.symm ne_o0_o2)
  refine C.aloadN d3_10 rfl rfl rfl ?_
  refine C.getF d3_11 rfl (tw hw 19 rfl) F694 ?_
  refine C.iconst 1 d3_14 rfl rfl ?_
  refine C.iadd d3_15 rfl ?_
  show Go p l e ({ frames := 0, cells := 0, slots := 0, locals := 0 } : Room) s m #[(.ref o0)] below meth c n0 (FinQ s n0 (Qau675_3 Z n0 h0 o0 o1 o2 i0) ({ frames := 0, cells := 0, slots := 0, locals := 0 } : Room).cells ({ frames := 0, cells := 0, slots := 0, locals := 0 } : Room).slots) h692 0 0 16 #[.val (.ref o0)] [(.int 3)]
  refine C.aloadN d3_16 rfl rfl rfl ?_
  refine C.getF d3_17 rfl (tw hw 10 rfl) F697 ?_
  refine C.alen d3_20 rfl F699 ?_
  show Go p l e ({ frames := 0, cells := 0, slots := 0, locals := 0 } : Room) s m #[(.ref o0)] below meth c n0 (FinQ s n0 (Qau675_3 Z n0 h0 o0 o1 o2 i0) ({ frames := 0, cells := 0, slots := 0, locals := 0 } : Room).cells ({ frames := 0, cells := 0, slots := 0, locals := 0 } : Room).slots) h692 0 0 21 #[.val (.ref o0)] [(.int 3), (.int 3)]
  refine C.icmp_ge_t d3_21 (by decide) rfl (by decide) ?_
  exact C.ret0 d3_44 (by decide) (by decide) ⟨rfl, ((Keep.refl h0 [o0]).wr W693 (Or.inl (List.mem_of_getElem? (i := 0) rfl))), F696, F697, F694⟩
def Qcon_copy1 (Z : State) (n0 : Nat) (h0 : Heap) (b : Addr) (z : Int32) (vs : List Value) (v : Option Value) (h' : Heap) : Prop := ∃ (r : Addr), (v = some (.ref r)) ∧ (Keep h0 h' []) ∧ (n0 ≤ r) ∧ (h0.size ≤ r) ∧ (Av Z h' r .int (own_copy vs (Int32.toNatClampNeg z)))
theorem ef_con_copy1 (m : MethodId) (b : Addr) (z : Int32) : entryFrame m #[(.ref b), (.int z)] 3 = mkF m 0 #[.val (.ref b), .val (.int z), .unset] [] := by first | (simp [entryFrame, mkF, argsToLocals, Value.category]; done) | rfl
set_option maxRecDepth 65536 in
set_option maxHeartbeats 40000000 in
theorem con_copy1 (l : Launch) (Z : State) (a0 : Array Value) (hw : ∀ d ∈ tables_1, d.before a0 Z = true) (n0 : Nat) (h0 : Heap) (hn0 : n0 ≤ h0.size) (b : Addr) (z : Int32) (vs : List Value) (P0 : Av Z h0 b .int vs) (hz : ¬ z < 0) (hc : z.toNatClampNeg ≤ 1) (hne : ¬ z = vs.length.toInt32) (h31 : vs.length < 2 ^ 31) :
    Con l Z n0 [] (⟨"java/util/Arrays", "copyOf", "([II)[I"⟩ : MethodName) jdk_65_method_123_code 3 (some (.array .int)) ({ frames := 1, cells := 1, slots := 1, locals := 18 } : Room) #[(.ref b), (.int z)] h0 (Qcon_copy1 Z n0 h0 b z vs) := by
  refine Con.of pf_5 (fun m => ef_con_copy1 m b z) hn0 ?_
  intro p e s m below meth c C
  refine C.iloadN d5_0 rfl rfl ?_
  refine C.aloadN d5_1 rfl rfl rfl ?_
  refine C.alen d5_2 rfl P0 ?_
  refine C.icmp_ne_t d5_3 (by decide) rfl hne ?_
  refine C.iloadN d5_14 rfl rfl ?_
  refine C.newarr 1 d5_15 rfl rfl (tw hw 9 rfl) hz hc (by decide) (by decide) (by decide) (fun a753 h754 z757 g758 X755 F756 => ?_)
  have gz759 : h0.size ≤ a753 := by rw [z757]; exact (Keep.refl h0 []).1
  have ne760 : b ≠ a753 := by rw [z757]; exact Nat.ne_of_lt P0.lt
  have F761 : Av Z h754 b .int vs := P0.ext X755
  have F762 : Av Z h754 a753 .int (List.replicate (Int32.toNatClampNeg z) (.int 0)) := F756
  refine C.astoreN (Ls' := #[.val (.ref b), .val (.int z), .val (.ref a753)]) d5_17 rfl rfl rfl ?_
  refine C.aloadN d5_18 rfl rfl rfl ?_
  refine C.iconst 0 d5_19 rfl rfl ?_
  refine C.aloadN d5_20 rfl rfl rfl ?_
  refine C.iconst 0 d5_21 rfl rfl ?_
  refine C.aloadN d5_22 rfl rfl rfl ?_
  refine C.alen d5_23 rfl F761 ?_
  refine C.iloadN d5_24 rfl rfl ?_
  refine C.callS (argsL := [(.int vs.length.toInt32), (.int z)]) (rest := [(.int 0), (.ref a753), (.int 0), (.ref b)]) 4 (fun zz => con_min l Z a0 hw n0 h754 zz vs.length.toInt32 z ) d5_25 rfl (tw hw 33 rfl) (tw hw 34 rfl) (tw hw 35 rfl) (tw hw 36 rfl) (by decide) pd_2 rfl rfl rfl (Nat.le_of_eq rfl) (by decide) (by decide) (by decide) (by decide) (fun v763 h764 r765 => ?_)
  obtain ⟨rfl, rfl⟩ := r765
  refine C.acopy 0 d5_28 rfl (tw hw 37 rfl) (tw hw 40 rfl) (tw hw 38 rfl) (tw hw 39 rfl) F761 F762 rfl h31 (by rw [List.length_replicate]; exact (back32 hz).2) (by decide) (by decide) (own_minN _ z (own_clamp h31).2 hz).1 (by rw [(own_minN _ z (own_clamp h31).2 hz).2, (own_clamp h31).1]; show 0 + _ ≤ _; omega) (by rw [(own_minN _ z (own_clamp h31).2 hz).2, (own_clamp h31).1, List.length_replicate]; show 0 + _ ≤ _; omega) g758 rfl (by decide) (Nat.le_of_eq rfl) (by decide) (fun h767 K768 F769 => ?_)
  have F770 : Av Z h767 b .int vs := F761.keep K768 (ninS ne760 nin0)
  have F772 : Av Z h767 a753 .int (own_copy vs (Int32.toNatClampNeg z)) := (by have q := F769; rw [own_cp vs z hz h31] at q; exact q)
  refine C.aloadN d5_31 rfl rfl rfl ?_
  exact C.retA d5_32 rfl rfl (by decide) (by decide) ⟨a753, rfl, (((Keep.refl h0 []).ext X755).trans K768 (allS (Or.inr gz759) all0)), g758, gz759, F772⟩
def Qau796_7 (Z : State) (n0 : Nat) (h0 : Heap) (o0 : Addr) (o1 : Addr) (o2 : Addr) (i0 : Int32) (v : Option Value) (h' : Heap) : Prop := (v = none) ∧ (Keep h0 h' [o0]) ∧ (Fld Z h' o0 "com/example/lumencast/lumencast/model/Routes" "fibres" "[I" (.ref o2)) ∧ (Fld Z h' o0 "com/example/lumencast/lumencast/model/Routes" "firstHop" "[I" (.ref o1))
theorem ef_au796_7 (m : MethodId) (o0 : Addr) (o1 : Addr) (o2 : Addr) : entryFrame m #[(.ref o0), (.ref o1), (.ref o2)] 3 = mkF m 0 #[.val (.ref o0), .val (.ref o1), .val (.ref o2)] [] := by first | (simp [entryFrame, mkF, argsToLocals, Value.category]; done) | rfl
set_option maxRecDepth 65536 in
set_option maxHeartbeats 40000000 in
theorem au796_7 (l : Launch) (Z : State) (a0 : Array Value) (hw : ∀ d ∈ tables_1, d.before a0 Z = true) (n0 : Nat) (h0 : Heap) (hn0 : n0 ≤ h0.size) (o0 : Addr) (o1 : Addr) (o2 : Addr) (i0 : Int32) (P0 : Exa Z h0 o0 "com/example/lumencast/lumencast/model/Routes") (P1 : Fld Z h0 o0 "com/example/lumencast/lumencast/model/Routes" "fibres" "[I" (.null)) (P2 : Fld Z h0 o0 "com/example/lumencast/lumencast/model/Routes" "firstHop" "[I" (.null)) (P3 : Av Z h0 o1 .int ([.int 0, .int 0, .int 1])) (P4 : Av Z h0 o2 .int ([.int i0])) (g_o0 : n0 ≤ o0) (g_o1 : n0 ≤ o1) (g_o2 : n0 ≤ o2) (ne_o0_o1 : o0 ≠ o1) (ne_o0_o2 : o0 ≠ o2) (ne_o1_o2 : o1 ≠ o2) :
    Con l Z n0 [] (⟨"com/example/lumencast/lumencast/model/Routes", "<init>", "([I[I)V"⟩ : MethodName) prog_25_method_1_code 3 none ({ frames := 1, cells := 0, slots := 0, locals := 12 } : Room) #[(.ref o0), (.ref o1), (.ref o2)] h0 (Qau796_7 Z n0 h0 o0 o1 o2 i0) := by
  refine Con.of pf_6 (fun m => ef_au796_7 m o0 o1 o2) hn0 ?_
  intro p e s m below meth c C
  refine C.aloadN d7_0 rfl rfl rfl ?_
  refine C.initO 0 d7_1 rfl (tw hw 44 rfl) (tw hw 7 rfl) (tw hw 8 rfl) rfl (by decide) (Nat.le_of_eq rfl) (by decide) ?_
  refine C.aloadN d7_4 rfl rfl rfl ?_
  refine C.aloadN d7_5 rfl rfl rfl ?_
  refine C.putF d7_6 rfl (tw hw 45 rfl) P2 P0 (Or.inr ⟨(tw hw 46 rfl), rfl, rfl⟩) (tw hw 27 rfl) (ty := (.array .int)) (by decide) rfl rfl g_o0 (fun h825 W826 F827 => ?_)
  have F828 : Exa Z h825 o0 "com/example/lumencast/lumencast/model/Routes" := Exa.wr W826 P0
  have F829 : Fld Z h825 o0 "com/example/lumencast/lumencast/model/Routes" "fibres" "[I" (.null) := Fld.other W826 P1 (Or.inr (slot_ne (C := "com/example/lumencast/lumencast/model/Routes") (t := (.array .int)) (t' := (.array .int)) (Or.inr (tw hw 48 rfl)) (Or.inr (tw hw 46 rfl)) (by decide) (by decide) (by decide)))
  have F830 : Av Z h825 o1 .int ([.int 0, .int 0, .int 1]) := P3.other W826 (Ne.symm ne_o0_o1)
  have F831 : Av Z h825 o2 .int ([.int i0]) := P4.other W826 (Ne.symm ne_o0_o2)
  refine C.aloadN d7_9 rfl rfl rfl ?_
  refine C.aloadN d7_10 rfl rfl rfl ?_
  refine C.putF d7_11 rfl (tw hw 47 rfl) F829 F828 (Or.inr ⟨(tw hw 48 rfl), rfl, rfl⟩) (tw hw 27 rfl) (ty := (.array .int)) (by decide) rfl rfl g_o0 (fun h832 W833 F834 => ?_)
  have F835 : Exa Z h832 o0 "com/example/lumencast/lumencast/model/Routes" := Exa.wr W833 F828
  have F836 : Av Z h832 o1 .int ([.int 0, .int 0, .int 1]) := F830.other W833 (Ne.symm ne_o0_o1)
  have F837 : Av Z h832 o2 .int ([.int i0]) := F831.other W833 (Ne.symm ne_o0_o2)
  have F838 : Fld Z h832 o0 "com/example/lumencast/lumencast/model/Routes" "firstHop" "[I" (.ref o1) := Fld.other W833 F827 (Or.inr (slot_ne (C := "com/example/lumencast/lumencast/model/Routes") (t := (.array .int)) (t' := (.array .int)) (Or.inr (tw hw 46 rfl)) (Or.inr (tw hw 48 rfl)) (by decide) (by decide) (by decide)))
  exact C.ret0 d7_14 (by decide) (by decide) ⟨rfl, (((Keep.refl h0 [o0]).wr W826 (Or.inl (List.mem_of_getElem? (i := 0) rfl))).wr W833 (Or.inl (List.mem_of_getElem? (i := 0) rfl))), F834, F838⟩
def Qau713_4 (Z : State) (n0 : Nat) (h0 : Heap) (o0 : Addr) (o1 : Addr) (o2 : Addr) (i0 : Int32) (v : Option Value) (h' : Heap) : Prop := ∃ (f0 : Addr) (f1 : Addr), (v = some (.ref f0)) ∧ (Keep h0 h' []) ∧ (n0 ≤ f0) ∧ (h0.size ≤ f0) ∧ (n0 ≤ f1) ∧ (h0.size ≤ f1) ∧ (f0 ≠ f1) ∧ (Exa Z h' f0 "com/example/lumencast/lumencast/model/Routes") ∧ (Fld Z h' f0 "com/example/lumencast/lumencast/model/Routes" "fibres" "[I" (.ref f1)) ∧ (Fld Z h' f0 "com/example/lumencast/lumencast/model/Routes" "firstHop" "[I" (.ref o2)) ∧ (Av Z h' f1 .int ([.int i0]))
theorem ef_au713_4 (m : MethodId) (o0 : Addr) : entryFrame m #[(.ref o0)] 2 = mkF m 0 #[.val (.ref o0), .unset] [] := by first | (simp [entryFrame, mkF, argsToLocals, Value.category]; done) | rfl
set_option maxRecDepth 65536 in
set_option maxHeartbeats 40000000 in
theorem au713_4 (l : Launch) (Z : State) (a0 : Array Value) (hw : ∀ d ∈ tables_1, d.before a0 Z = true) (n0 : Nat) (h0 : Heap) (hn0 : n0 ≤ h0.size) (o0 : Addr) (o1 : Addr) (o2 : Addr) (i0 : Int32) (P0 : Exa Z h0 o0 "com/example/lumencast/lumencast/model/Routes$Builder") (P1 : Fld Z h0 o0 "com/example/lumencast/lumencast/model/Routes$Builder" "fibres" "[I" (.ref o1)) (P2 : Fld Z h0 o0 "com/example/lumencast/lumencast/model/Routes$Builder" "firstHop" "[I" (.ref o2)) (P3 : Fld Z h0 o0 "com/example/lumencast/lumencast/model/Routes$Builder" "pairsDone" "I" (.int 2)) (P4 : Av Z h0 o1 .int ([.int i0, .int 0])) (P5 : Av Z h0 o2 .int ([.int 0, .int 0, .int 1])) (g_o0 : n0 ≤ o0) (g_o1 : n0 ≤ o1) (g_o2 : n0 ≤ o2) (ne_o0_o1 : o0 ≠ o1) (ne_o0_o2 : o0 ≠ o2) (ne_o1_o2 : o1 ≠ o2) :
    Con l Z n0 [] (⟨"com/example/lumencast/lumencast/model/Routes$Builder", "build", "()Lcom/example/lumencast/lumencast/model/Routes;"⟩ : MethodName) prog_26_method_4_code 2 (some (.object "com/example/lumencast/lumencast/model/Routes")) ({ frames := 2, cells := 2, slots := 3, locals := 35 } : Room) #[(.ref o0)] h0 (Qau713_4 Z n0 h0 o0 o1 o2 i0) := by
  refine Con.of pf_4 (fun m => ef_au713_4 m o0) hn0 ?_
  intro p e s m below meth c C
  refine C.aloadN d4_0 rfl rfl rfl ?_
  refine C.getF d4_1 rfl (tw hw 19 rfl) P3 ?_
  refine C.iconst 1 d4_4 rfl rfl ?_
  refine C.iadd d4_5 rfl ?_
  show Go p l e ({ frames := 2, cells := 2, slots := 3, locals := 35 } : Room) s m #[(.ref o0)] below meth c n0 (FinQ s n0 (Qau713_4 Z n0 h0 o0 o1 o2 i0) ({ frames := 2, cells := 2, slots := 3, locals := 35 } : Room).cells ({ frames := 2, cells := 2, slots := 3, locals := 35 } : Room).slots) h0 0 0 6 #[.val (.ref o0), .unset] [(.int 3)]
  refine C.aloadN d4_6 rfl rfl rfl ?_
  refine C.getF d4_7 rfl (tw hw 10 rfl) P2 ?_
  refine C.alen d4_10 rfl P5 ?_
  show Go p l e ({ frames := 2, cells := 2, slots := 3, locals := 35 } : Room) s m #[(.ref o0)] below meth c n0 (FinQ s n0 (Qau713_4 Z n0 h0 o0 o1 o2 i0) ({ frames := 2, cells := 2, slots := 3, locals := 35 } : Room).cells ({ frames := 2, cells := 2, slots := 3, locals := 35 } : Room).slots) h0 0 0 11 #[.val (.ref o0), .unset] [(.int 3), (.int 3)]
  refine C.icmp_eq_t d4_11 (by decide) rfl (by decide) ?_
  refine C.aloadN d4_39 rfl rfl rfl ?_
  refine C.getF d4_40 rfl (tw hw 10 rfl) P2 ?_
  refine C.aloadN d4_43 rfl rfl rfl ?_
  refine C.getF d4_44 rfl (tw hw 19 rfl) P3 ?_
  refine C.iaload (.int 1) d4_47 rfl P5 (by decide) rfl ?_
  refine C.istoreN (Ls' := #[.val (.ref o0), .val (.int 1)]) d4_48 rfl rfl ?_
  refine C.new d4_49 rfl (tw hw 26 rfl) (tw hw 27 rfl) (tw hw 28 rfl) (by decide) (by decide) (fun a913 h914 z918 g919 X916 E915 D917 => ?_)
  have gz920 : h0.size ≤ a913 := by rw [z918]; exact (Keep.refl h0 []).1
  have ne921 : o0 ≠ a913 := by rw [z918]; exact Nat.ne_of_lt P0.lt
  have ne922 : o1 ≠ a913 := by rw [z918]; exact Nat.ne_of_lt P4.lt
  have ne923 : o2 ≠ a913 := by rw [z918]; exact Nat.ne_of_lt P5.lt
  have F924 : Exa Z h914 o0 "com/example/lumencast/lumencast/model/Routes$Builder" := Exa.ext X916 P0
  have F925 : Fld Z h914 o0 "com/example/lumencast/lumencast/model/Routes$Builder" "fibres" "[I" (.ref o1) := Fld.ext X916 P1
  have F926 : Fld Z h914 o0 "com/example/lumencast/lumencast/model/Routes$Builder" "firstHop" "[I" (.ref o2) := Fld.ext X916 P2
  have F927 : Fld Z h914 o0 "com/example/lumencast/lumencast/model/Routes$Builder" "pairsDone" "I" (.int 2) := Fld.ext X916 P3
  have F928 : Av Z h914 o1 .int ([.int i0, .int 0]) := P4.ext X916
  have F929 : Av Z h914 o2 .int ([.int 0, .int 0, .int 1]) := P5.ext X916
  have F930 : Fld Z h914 a913 "com/example/lumencast/lumencast/model/Routes" "firstHop" "[I" (.null) := D917 (Or.inr (tw hw 46 rfl)) (ty := (.array .int)) (by decide)
  have F931 : Fld Z h914 a913 "com/example/lumencast/lumencast/model/Routes" "fibres" "[I" (.null) := D917 (Or.inr (tw hw 48 rfl)) (ty := (.array .int)) (by decide)
  refine C.dup d4_52 rfl rfl ?_
  refine C.aloadN d4_53 rfl rfl rfl ?_
  refine C.getF d4_54 rfl (tw hw 10 rfl) F926 ?_
  refine C.iloadN d4_57 rfl rfl ?_
  refine C.aloadN d4_58 rfl rfl rfl ?_
  refine C.getF d4_59 rfl (tw hw 12 rfl) F925 ?_
  refine C.alen d4_62 rfl F928 ?_
  show Go p l e ({ frames := 2, cells := 2, slots := 3, locals := 35 } : Room) s m #[(.ref o0)] below meth c n0 (FinQ s n0 (Qau713_4 Z n0 h0 o0 o1 o2 i0) ({ frames := 2, cells := 2, slots := 3, locals := 35 } : Room).cells ({ frames := 2, cells := 2, slots := 3, locals := 35 } : Room).slots) h914 1 2 63 #[.val (.ref o0), .val (.int 1)] [(.int 2), (.int 1), (.ref o2), (.ref a913), (.ref a913)]
  refine C.icmp_ne_t d4_63 (by decide) rfl (by decide) ?_
  refine C.aloadN d4_73 rfl rfl rfl ?_
  refine C.getF d4_74 rfl (tw hw 12 rfl) F925 ?_
  refine C.iloadN d4_77 rfl rfl ?_
  refine C.callS (argsL := [(.ref o1), (.int 1)]) (rest := [(.ref o2), (.ref a913), (.ref a913)]) 3 (fun zz => con_copy1 l Z a0 hw n0 h914 zz o1 1 ([.int i0, .int 0]) F928 (by decide) (by decide) (show ¬ (1 : Int32) = (2 : Nat).toInt32 by decide) (Nat.le_of_ble_eq_true rfl)) d4_78 rfl (tw hw 29 rfl) (tw hw 30 rfl) (tw hw 31 rfl) (tw hw 32 rfl) (by decide) pd_3 rfl rfl rfl (Nat.le_of_eq rfl) (by decide) (by decide) (by decide) (by decide) (fun v932 h933 r934 => ?_)
  obtain ⟨a935, rfl, K936, g938, gz939, F937⟩ := r934
  have gz940 : h0.size ≤ a935 := Nat.le_trans ((Keep.refl h0 []).ext X916).1 gz939
  have ne941 : o0 ≠ a935 := Nat.ne_of_lt (Nat.lt_of_lt_of_le F924.lt gz939)
  have ne942 : o1 ≠ a935 := Nat.ne_of_lt (Nat.lt_of_lt_of_le F928.lt gz939)
  have ne943 : o2 ≠ a935 := Nat.ne_of_lt (Nat.lt_of_lt_of_le F929.lt gz939)
  have ne944 : a913 ≠ a935 := Nat.ne_of_lt (Nat.lt_of_lt_of_le E915.lt gz939)
  have F945 : Exa Z h933 o0 "com/example/lumencast/lumencast/model/Routes$Builder" := F924.keep K936
  have F946 : Fld Z h933 o0 "com/example/lumencast/lumencast/model/Routes$Builder" "fibres" "[I" (.ref o1) := F925.keep K936 nin0
  have F947 : Fld Z h933 o0 "com/example/lumencast/lumencast/model/Routes$Builder" "firstHop" "[I" (.ref o2) := F926.keep K936 nin0
  have F948 : Fld Z h933 o0 "com/example/lumencast/lumencast/model/Routes$Builder" "pairsDone" "I" (.int 2) := F927.keep K936 nin0
  have F949 : Av Z h933 o1 .int ([.int i0, .int 0]) := F928.keep K936 nin0
  have F950 : Av Z h933 o2 .int ([.int 0, .int 0, .int 1]) := F929.keep K936 nin0
  have F951 : Exa Z h933 a913 "com/example/lumencast/lumencast/model/Routes" := E915.keep K936
  have F952 : Fld Z h933 a913 "com/example/lumencast/lumencast/model/Routes" "firstHop" "[I" (.null) := F930.keep K936 nin0
  have F953 : Fld Z h933 a913 "com/example/lumencast/lumencast/model/Routes" "fibres" "[I" (.null) := F931.keep K936 nin0
  have F954 : Av Z h933 a935 .int ([.int i0]) := F937
  refine C.callNN (argsL := [(.ref o2), (.ref a935)]) (rest := [(.ref a913)]) 1 (fun zz => au796_7 l Z a0 hw n0 h933 zz a913 o2 a935 i0 F951 F953 F952 F950 F954 g919 g_o2 g938 (Ne.symm ne923) ne944 ne943) d4_81 rfl rfl (tw hw 41 rfl) (tw hw 42 rfl) (tw hw 28 rfl) (tw hw 43 rfl) (by decide) pd_4 rfl rfl rfl (Nat.le_of_eq rfl) (by decide) (by decide) (by decide) (by decide) (fun v955 h956 r957 => ?_)
  obtain ⟨rfl, K958, F959, F960⟩ := r957
  have F961 : Exa Z h956 o0 "com/example/lumencast/lumencast/model/Routes$Builder" := F945.keep K958
  have F962 : Fld Z h956 o0 "com/example/lumencast/lumencast/model/Routes$Builder" "fibres" "[I" (.ref o1) := F946.keep K958 (ninS ne921 nin0)
  have F963 : Fld Z h956 o0 "com/example/lumencast/lumencast/model/Routes$Builder" "firstHop" "[I" (.ref o2) := F947.keep K958 (ninS ne921 nin0)
  have F964 : Fld Z h956 o0 "com/example/lumencast/lumencast/model/Routes$Builder" "pairsDone" "I" (.int 2) := F948.keep K958 (ninS ne921 nin0)
  have F965 : Av Z h956 o1 .int ([.int i0, .int 0]) := F949.keep K958 (ninS ne922 nin0)
  have F966 : Av Z h956 o2 .int ([.int 0, .int 0, .int 1]) := F950.keep K958 (ninS ne923 nin0)
  have F967 : Exa Z h956 a913 "com/example/lumencast/lumencast/model/Routes" := F951.keep K958
  have F970 : Av Z h956 a935 .int ([.int i0]) := F954.keep K958 (ninS (Ne.symm ne944) nin0)
  exact C.retA d4_84 rfl rfl (by decide) (by decide) ⟨a913, a935, rfl, ((((Keep.refl h0 []).ext X916).trans K936 all0).trans K958 (allS (Or.inr gz920) all0)), g919, gz920, g938, gz940, ne944, F967, F959, F960, F970⟩
def Qau998_8 (Z : State) (n0 : Nat) (h0 : Heap) (o0 : Addr) (o1 : Addr) (o2 : Addr) (i0 : Int32) (v : Option Value) (h' : Heap) : Prop := (v = some (.int 0)) ∧ (h0 = h')
theorem ef_au998_8 (m : MethodId) (o0 : Addr) : entryFrame m #[(.ref o0), (.int 0)] 2 = mkF m 0 #[.val (.ref o0), .val (.int 0)] [] := by first | (simp [entryFrame, mkF, argsToLocals, Value.category]; done) | rfl
set_option maxRecDepth 65536 in
set_option maxHeartbeats 40000000 in
theorem au998_8 (l : Launch) (Z : State) (a0 : Array Value) (hw : ∀ d ∈ tables_1, d.before a0 Z = true) (n0 : Nat) (h0 : Heap) (hn0 : n0 ≤ h0.size) (o0 : Addr) (o1 : Addr) (o2 : Addr) (i0 : Int32) (P0 : Exa Z h0 o0 "com/example/lumencast/lumencast/model/Routes") (P1 : Fld Z h0 o0 "com/example/lumencast/lumencast/model/Routes" "fibres" "[I" (.ref o1)) (P2 : Fld Z h0 o0 "com/example/lumencast/lumencast/model/Routes" "firstHop" "[I" (.ref o2)) (P3 : Av Z h0 o1 .int ([.int i0])) (P4 : Av Z h0 o2 .int ([.int 0, .int 0, .int 1])) (g_o0 : n0 ≤ o0) (g_o1 : n0 ≤ o1) (g_o2 : n0 ≤ o2) (ne_o0_o1 : o0 ≠ o1) (ne_o0_o2 : o0 ≠ o2) (ne_o1_o2 : o1 ≠ o2) :
    Con l Z n0 [] (⟨"com/example/lumencast/lumencast/model/Routes", "hops", "(I)I"⟩ : MethodName) prog_25_method_2_code 2 (some .int) ({ frames := 0, cells := 0, slots := 0, locals := 0 } : Room) #[(.ref o0), (.int 0)] h0 (Qau998_8 Z n0 h0 o0 o1 o2 i0) := by
  refine Con.of pf_7 (fun m => ef_au998_8 m o0) hn0 ?_
  intro p e s m below meth c C
  refine C.aloadN d8_0 rfl rfl rfl ?_
  refine C.getF d8_1 rfl (tw hw 45 rfl) P2 ?_
  refine C.iloadN d8_4 rfl rfl ?_
  refine C.iconst 1 d8_5 rfl rfl ?_
  refine C.iadd d8_6 rfl ?_
  show Go p l e ({ frames := 0, cells := 0, slots := 0, locals := 0 } : Room) s m #[(.ref o0), (.int 0)] below meth c n0 (FinQ s n0 (Qau998_8 Z n0 h0 o0 o1 o2 i0) ({ frames := 0, cells := 0, slots := 0, locals := 0 } : Room).cells ({ frames := 0, cells := 0, slots := 0, locals := 0 } : Room).slots) h0 0 0 7 #[.val (.ref o0), .val (.int 0)] [(.int 1), (.ref o2)]
  refine C.iaload (.int 0) d8_7 rfl P4 (by decide) rfl ?_
  refine C.aloadN d8_8 rfl rfl rfl ?_
  refine C.getF d8_9 rfl (tw hw 45 rfl) P2 ?_
  refine C.iloadN d8_12 rfl rfl ?_
  refine C.iaload (.int 0) d8_13 rfl P4 (by decide) rfl ?_
  refine C.isub d8_14 rfl ?_
  show Go p l e ({ frames := 0, cells := 0, slots := 0, locals := 0 } : Room) s m #[(.ref o0), (.int 0)] below meth c n0 (FinQ s n0 (Qau998_8 Z n0 h0 o0 o1 o2 i0) ({ frames := 0, cells := 0, slots := 0, locals := 0 } : Room).cells ({ frames := 0, cells := 0, slots := 0, locals := 0 } : Room).slots) h0 0 0 15 #[.val (.ref o0), .val (.int 0)] [(.int 0)]
  exact C.retI d8_15 (by decide) (by decide) ⟨rfl, rfl⟩
def Qau1003_8 (Z : State) (n0 : Nat) (h0 : Heap) (o0 : Addr) (o1 : Addr) (o2 : Addr) (i0 : Int32) (v : Option Value) (h' : Heap) : Prop := (v = some (.int 1)) ∧ (h0 = h')
theorem ef_au1003_8 (m : MethodId) (o0 : Addr) : entryFrame m #[(.ref o0), (.int 1)] 2 = mkF m 0 #[.val (.ref o0), .val (.int 1)] [] := by first | (simp [entryFrame, mkF, argsToLocals, Value.category]; done) | rfl
set_option maxRecDepth 65536 in
set_option maxHeartbeats 40000000 in
theorem au1003_8 (l : Launch) (Z : State) (a0 : Array Value) (hw : ∀ d ∈ tables_1, d.before a0 Z = true) (n0 : Nat) (h0 : Heap) (hn0 : n0 ≤ h0.size) (o0 : Addr) (o1 : Addr) (o2 : Addr) (i0 : Int32) (P0 : Exa Z h0 o0 "com/example/lumencast/lumencast/model/Routes") (P1 : Fld Z h0 o0 "com/example/lumencast/lumencast/model/Routes" "fibres" "[I" (.ref o1)) (P2 : Fld Z h0 o0 "com/example/lumencast/lumencast/model/Routes" "firstHop" "[I" (.ref o2)) (P3 : Av Z h0 o1 .int ([.int i0])) (P4 : Av Z h0 o2 .int ([.int 0, .int 0, .int 1])) (g_o0 : n0 ≤ o0) (g_o1 : n0 ≤ o1) (g_o2 : n0 ≤ o2) (ne_o0_o1 : o0 ≠ o1) (ne_o0_o2 : o0 ≠ o2) (ne_o1_o2 : o1 ≠ o2) :
    Con l Z n0 [] (⟨"com/example/lumencast/lumencast/model/Routes", "hops", "(I)I"⟩ : MethodName) prog_25_method_2_code 2 (some .int) ({ frames := 0, cells := 0, slots := 0, locals := 0 } : Room) #[(.ref o0), (.int 1)] h0 (Qau1003_8 Z n0 h0 o0 o1 o2 i0) := by
  refine Con.of pf_7 (fun m => ef_au1003_8 m o0) hn0 ?_
  intro p e s m below meth c C
  refine C.aloadN d8_0 rfl rfl rfl ?_
  refine C.getF d8_1 rfl (tw hw 45 rfl) P2 ?_
  refine C.iloadN d8_4 rfl rfl ?_
  refine C.iconst 1 d8_5 rfl rfl ?_
  refine C.iadd d8_6 rfl ?_
  show Go p l e ({ frames := 0, cells := 0, slots := 0, locals := 0 } : Room) s m #[(.ref o0), (.int 1)] below meth c n0 (FinQ s n0 (Qau1003_8 Z n0 h0 o0 o1 o2 i0) ({ frames := 0, cells := 0, slots := 0, locals := 0 } : Room).cells ({ frames := 0, cells := 0, slots := 0, locals := 0 } : Room).slots) h0 0 0 7 #[.val (.ref o0), .val (.int 1)] [(.int 2), (.ref o2)]
  refine C.iaload (.int 1) d8_7 rfl P4 (by decide) rfl ?_
  refine C.aloadN d8_8 rfl rfl rfl ?_
  refine C.getF d8_9 rfl (tw hw 45 rfl) P2 ?_
  refine C.iloadN d8_12 rfl rfl ?_
  refine C.iaload (.int 0) d8_13 rfl P4 (by decide) rfl ?_
  refine C.isub d8_14 rfl ?_
  show Go p l e ({ frames := 0, cells := 0, slots := 0, locals := 0 } : Room) s m #[(.ref o0), (.int 1)] below meth c n0 (FinQ s n0 (Qau1003_8 Z n0 h0 o0 o1 o2 i0) ({ frames := 0, cells := 0, slots := 0, locals := 0 } : Room).cells ({ frames := 0, cells := 0, slots := 0, locals := 0 } : Room).slots) h0 0 0 15 #[.val (.ref o0), .val (.int 1)] [(.int 1)]
  exact C.retI d8_15 (by decide) (by decide) ⟨rfl, rfl⟩
theorem d10_0 : decode prog_25_method_3_code 0 = .ok (.aload_n 0, 1) := by decide +kernel
theorem d10_1 : decode prog_25_method_3_code 1 = .ok (.getfield 15, 3) := by decide +kernel
theorem d10_4 : decode prog_25_method_3_code 4 = .ok (.aload_n 0, 1) := by decide +kernel
theorem d10_5 : decode prog_25_method_3_code 5 = .ok (.getfield 9, 3) := by decide +kernel
theorem d10_8 : decode prog_25_method_3_code 8 = .ok (.iload_n 1, 1) := by decide +kernel
theorem d10_9 : decode prog_25_method_3_code 9 = .ok (.iaload, 1) := by decide +kernel
theorem d10_10 : decode prog_25_method_3_code 10 = .ok (.iload_n 2, 1) := by decide +kernel
theorem d10_11 : decode prog_25_method_3_code 11 = .ok (.iadd, 1) := by decide +kernel
theorem d10_12 : decode prog_25_method_3_code 12 = .ok (.iaload, 1) := by decide +kernel
theorem d10_13 : decode prog_25_method_3_code 13 = .ok (.ireturn, 1) := by decide +kernel
theorem pf_9 : plainFor (⟨"com/example/lumencast/lumencast/model/Routes", "fibre", "(II)I"⟩ : MethodName) = true := by first | exact plainFor_of_name (by first | (simp [plainName, overriddenIn]; done) | decide +kernel) | decide +kernel
def Qau1008_10 (Z : State) (n0 : Nat) (h0 : Heap) (o0 : Addr) (o1 : Addr) (o2 : Addr) (i0 : Int32) (v : Option Value) (h' : Heap) : Prop := (v = some (.int i0)) ∧ (h0 = h')
theorem ef_au1008_10 (m : MethodId) (o0 : Addr) : entryFrame m #[(.ref o0), (.int 1), (.int 0)] 3 = mkF m 0 #[.val (.ref o0), .val (.int 1), .val (.int 0)] [] := by first | (simp [entryFrame, mkF, argsToLocals, Value.category]; done) | rfl
set_option maxRecDepth 65536 in
set_option maxHeartbeats 40000000 in
theorem au1008_10 (l : Launch) (Z : State) (a0 : Array Value) (hw : ∀ d ∈ tables_1, d.before a0 Z = true) (n0 : Nat) (h0 : Heap) (hn0 : n0 ≤ h0.size) (o0 : Addr) (o1 : Addr) (o2 : Addr) (i0 : Int32) (P0 : Exa Z h0 o0 "com/example/lumencast/lumencast/model/Routes") (P1 : Fld Z h0 o0 "com/example/lumencast/lumencast/model/Routes" "fibres" "[I" (.ref o1)) (P2 : Fld Z h0 o0 "com/example/lumencast/lumencast/model/Routes" "firstHop" "[I" (.ref o2)) (P3 : Av Z h0 o1 .int ([.int i0])) (P4 : Av Z h0 o2 .int ([.int 0, .int 0, .int 1])) (g_o0 : n0 ≤ o0) (g_o1 : n0 ≤ o1) (g_o2 : n0 ≤ o2) (ne_o0_o1 : o0 ≠ o1) (ne_o0_o2 : o0 ≠ o2) (ne_o1_o2 : o1 ≠ o2) :
    Con l Z n0 [] (⟨"com/example/lumencast/lumencast/model/Routes", "fibre", "(II)I"⟩ : MethodName) prog_25_method_3_code 3 (some .int) ({ frames := 0, cells := 0, slots := 0, locals := 0 } : Room) #[(.ref o0), (.int 1), (.int 0)] h0 (Qau1008_10 Z n0 h0 o0 o1 o2 i0) := by
  refine Con.of pf_9 (fun m => ef_au1008_10 m o0) hn0 ?_
  intro p e s m below meth c C
  refine C.aloadN d10_0 rfl rfl rfl ?_
  refine C.getF d10_1 rfl (tw hw 47 rfl) P1 ?_
  refine C.aloadN d10_4 rfl rfl rfl ?_
  refine C.getF d10_5 rfl (tw hw 45 rfl) P2 ?_
  refine C.iloadN d10_8 rfl rfl ?_
  refine C.iaload (.int 0) d10_9 rfl P4 (by decide) rfl ?_
  refine C.iloadN d10_10 rfl rfl ?_
  refine C.iadd d10_11 rfl ?_
  show Go p l e ({ frames := 0, cells := 0, slots := 0, locals := 0 } : Room) s m #[(.ref o0), (.int 1), (.int 0)] below meth c n0 (FinQ s n0 (Qau1008_10 Z n0 h0 o0 o1 o2 i0) ({ frames := 0, cells := 0, slots := 0, locals := 0 } : Room).cells ({ frames := 0, cells := 0, slots := 0, locals := 0 } : Room).slots) h0 0 0 12 #[.val (.ref o0), .val (.int 1), .val (.int 0)] [(.int 0), (.ref o1)]
  refine C.iaload (.int i0) d10_12 rfl P3 (by decide) rfl ?_
  exact C.retI d10_13 (by decide) (by decide) ⟨rfl, rfl⟩
def Qau1045_9 (Z : State) (n0 : Nat) (h0 : Heap) (o0 : Addr) (i0 : Int32) (o1 : Addr) (o2 : Addr) (v : Option Value) (h' : Heap) : Prop := (v = none) ∧ (Keep h0 h' [o1, o2]) ∧ (Av Z h' o1 .int ([.int i0, .int 0])) ∧ (Av Z h' o2 .int ([.int 0, .int 1, .int 0]))
theorem ef_au1045_9 (m : MethodId) (o0 : Addr) (i0 : Int32) : entryFrame m #[(.ref o0), (.int i0)] 3 = mkF m 0 #[.val (.ref o0), .val (.int i0), .unset] [] := by first | (simp [entryFrame, mkF, argsToLocals, Value.category]; done) | rfl
set_option maxRecDepth 65536 in
set_option maxHeartbeats 40000000 in
theorem au1045_9 (l : Launch) (Z : State) (a0 : Array Value) (hw : ∀ d ∈ tables_1, d.before a0 Z = true) (n0 : Nat) (h0 : Heap) (hn0 : n0 ≤ h0.size) (o0 : Addr) (i0 : Int32) (o1 : Addr) (o2 : Addr) (P0 : Exa Z h0 o0 "com/example/lumencast/lumencast/model/Routes$Builder") (P1 : Fld Z h0 o0 "com/example/lumencast/lumencast/model/Routes$Builder" "fibres" "[I" (.ref o1)) (P2 : Fld Z h0 o0 "com/example/lumencast/lumencast/model/Routes$Builder" "firstHop" "[I" (.ref o2)) (P3 : Fld Z h0 o0 "com/example/lumencast/lumencast/model/Routes$Builder" "pairsDone" "I" (.int 0)) (P4 : Av Z h0 o1 .int ([.int 0, .int 0])) (P5 : Av Z h0 o2 .int ([.int 0, .int 0, .int 0])) (g_o0 : n0 ≤ o0) (g_o1 : n0 ≤ o1) (g_o2 : n0 ≤ o2) (ne_o0_o1 : o0 ≠ o1) (ne_o0_o2 : o0 ≠ o2) (ne_o1_o2 : o1 ≠ o2) :
    Con l Z n0 [] (⟨"com/example/lumencast/lumencast/model/Routes$Builder", "addFibre", "(I)V"⟩ : MethodName) prog_26_method_2_code 3 none ({ frames := 0, cells := 0, slots := 0, locals := 0 } : Room) #[(.ref o0), (.int i0)] h0 (Qau1045_9 Z n0 h0 o0 i0 o1 o2) := by
  refine Con.of pf_8 (fun m => ef_au1045_9 m o0 i0) hn0 ?_
  intro p e s m below meth c C
  refine C.aloadN d9_0 rfl rfl rfl ?_
  refine C.getF d9_1 rfl (tw hw 10 rfl) P2 ?_
  refine C.aloadN d9_4 rfl rfl rfl ?_
  refine C.getF d9_5 rfl (tw hw 19 rfl) P3 ?_
  refine C.iconst 1 d9_8 rfl rfl ?_
  refine C.iadd d9_9 rfl ?_
  show Go p l e ({ frames := 0, cells := 0, slots := 0, locals := 0 } : Room) s m #[(.ref o0), (.int i0)] below meth c n0 (FinQ s n0 (Qau1045_9 Z n0 h0 o0 i0 o1 o2) ({ frames := 0, cells := 0, slots := 0, locals := 0 } : Room).cells ({ frames := 0, cells := 0, slots := 0, locals := 0 } : Room).slots) h0 0 0 10 #[.val (.ref o0), .val (.int i0), .unset] [(.int 1), (.ref o2)]
  refine C.iaload (.int 0) d9_10 rfl P5 (by decide) rfl ?_
  refine C.istoreN (Ls' := #[.val (.ref o0), .val (.int i0), .val (.int 0)]) d9_11 rfl rfl ?_
  refine C.iloadN d9_12 rfl rfl ?_
  refine C.aloadN d9_13 rfl rfl rfl ?_
  refine C.getF d9_14 rfl (tw hw 12 rfl) P1 ?_
  refine C.alen d9_17 rfl P4 ?_
  show Go p l e ({ frames := 0, cells := 0, slots := 0, locals := 0 } : Room) s m #[(.ref o0), (.int i0)] below meth c n0 (FinQ s n0 (Qau1045_9 Z n0 h0 o0 i0 o1 o2) ({ frames := 0, cells := 0, slots := 0, locals := 0 } : Room).cells ({ frames := 0, cells := 0, slots := 0, locals := 0 } : Room).slots) h0 0 0 18 #[.val (.ref o0), .val (.int i0), .val (.int 0)] [(.int 2), (.int 0)]
  refine C.icmp_ne_t d9_18 (by decide) rfl (by decide) ?_
  refine C.aloadN d9_77 rfl rfl rfl ?_
  refine C.getF d9_78 rfl (tw hw 12 rfl) P1 ?_
  refine C.iloadN d9_81 rfl rfl ?_
  refine C.iloadN d9_82 rfl rfl ?_
  refine C.iastore d9_83 rfl P4 g_o1 (by decide) (Nat.le_of_ble_eq_true rfl) (fun h1082 W1083 F1084 => ?_)
  have F1085 : Exa Z h1082 o0 "com/example/lumencast/lumencast/model/Routes$Builder" := Exa.wr W1083 P0
  have F1086 : Fld Z h1082 o0 "com/example/lumencast/lumencast/model/Routes$Builder" "fibres" "[I" (.ref o1) := Fld.other W1083 P1 (Or.inl ne_o0_o1)
  have F1087 : Fld Z h1082 o0 "com/example/lumencast/lumencast/model/Routes$Builder" "firstHop" "[I" (.ref o2) := Fld.other W1083 P2 (Or.inl ne_o0_o1)
  have F1088 : Fld Z h1082 o0 "com/example/lumencast/lumencast/model/Routes$Builder" "pairsDone" "I" (.int 0) := Fld.other W1083 P3 (Or.inl ne_o0_o1)
  have F1089 : Av Z h1082 o2 .int ([.int 0, .int 0, .int 0]) := P5.other W1083 (Ne.symm ne_o1_o2)
  have F1090 : Av Z h1082 o1 .int ([.int i0, .int 0]) := F1084
  refine C.aloadN d9_84 rfl rfl rfl ?_
  refine C.getF d9_85 rfl (tw hw 10 rfl) F1087 ?_
  refine C.aloadN d9_88 rfl rfl rfl ?_
  refine C.getF d9_89 rfl (tw hw 19 rfl) F1088 ?_
  refine C.iconst 1 d9_92 rfl rfl ?_
  refine C.iadd d9_93 rfl ?_
  show Go p l e ({ frames := 0, cells := 0, slots := 0, locals := 0 } : Room) s m #[(.ref o0), (.int i0)] below meth c n0 (FinQ s n0 (Qau1045_9 Z n0 h0 o0 i0 o1 o2) ({ frames := 0, cells := 0, slots := 0, locals := 0 } : Room).cells ({ frames := 0, cells := 0, slots := 0, locals := 0 } : Room).slots) h1082 0 0 94 #[.val (.ref o0), .val (.int i0), .val (.int 0)] [(.int 1), (.ref o2)]
  refine C.iloadN d9_94 rfl rfl ?_
  refine C.iconst 1 d9_95 rfl rfl ?_
  refine C.iadd d9_96 rfl ?_
  show Go p l e ({ frames := 0, cells := 0, slots := 0, locals := 0 } : Room) s m #[(.ref o0), (.int i0)] below meth c n0 (FinQ s n0 (Qau1045_9 Z n0 h0 o0 i0 o1 o2) ({ frames := 0, cells := 0, slots := 0, locals := 0 } : Room).cells ({ frames := 0, cells := 0, slots := 0, locals := 0 } : Room).slots) h1082 0 0 97 #[.val (.ref o0), .val (.int i0), .val (.int 0)] [(.int 1), (.int 1), (.ref o2)]
  refine C.iastore d9_97 rfl F1089 g_o2 (by decide) (Nat.le_of_ble_eq_true rfl) (fun h1091 W1092 F1093 => ?_)
  have F1094 : Exa Z h1091 o0 "com/example/lumencast/lumencast/model/Routes$Builder" := Exa.wr W1092 F1085
  have F1095 : Fld Z h1091 o0 "com/example/lumencast/lumencast/model/Routes$Builder" "fibres" "[I" (.ref o1) := Fld.other W1092 F1086 (Or.inl ne_o0_o2)
  have F1096 : Fld Z h1091 o0 "com/example/lumencast/lumencast/model/Routes$Builder" "firstHop" "[I" (.ref o2) := Fld.other W1092 F1087 (Or.inl ne_o0_o2)
  have F1097 : Fld Z h1091 o0 "com/example/lumencast/lumencast/model/Routes$Builder" "pairsDone" "I" (.int 0) := Fld.other W1092 F1088 (Or.inl ne_o0_o2)
  have F1098 : Av Z h1091 o1 .int ([.int i0, .int 0]) := F1090.other W1092 ne_o1_o2
  have F1099 : Av Z h1091 o2 .int ([.int 0, .int 1, .int 0]) := F1093
  exact C.ret0 d9_98 (by decide) (by decide) ⟨rfl, (((Keep.refl h0 [o1, o2]).wr W1083 (Or.inl (List.mem_of_getElem? (i := 0) rfl))).wr W1092 (Or.inl (List.mem_of_getElem? (i := 1) rfl))), F1098, F1099⟩
def Qau1112_3 (Z : State) (n0 : Nat) (h0 : Heap) (o0 : Addr) (o1 : Addr) (o2 : Addr) (i0 : Int32) (v : Option Value) (h' : Heap) : Prop := (v = none) ∧ (Keep h0 h' [o0, o2]) ∧ (Fld Z h' o0 "com/example/lumencast/lumencast/model/Routes$Builder" "fibres" "[I" (.ref o1)) ∧ (Fld Z h' o0 "com/example/lumencast/lumencast/model/Routes$Builder" "firstHop" "[I" (.ref o2)) ∧ (Fld Z h' o0 "com/example/lumencast/lumencast/model/Routes$Builder" "pairsDone" "I" (.int 1)) ∧ (Av Z h' o2 .int ([.int 0, .int 1, .int 1]))
theorem ef_au1112_3 (m : MethodId) (o0 : Addr) : entryFrame m #[(.ref o0)] 1 = mkF m 0 #[.val (.ref o0)] [] := by first | (simp [entryFrame, mkF, argsToLocals, Value.category]; done) | rfl
set_option maxRecDepth 65536 in
set_option maxHeartbeats 40000000 in
theorem au1112_3 (l : Launch) (Z : State) (a0 : Array Value) (hw : ∀ d ∈ tables_1, d.before a0 Z = true) (n0 : Nat) (h0 : Heap) (hn0 : n0 ≤ h0.size) (o0 : Addr) (o1 : Addr) (o2 : Addr) (i0 : Int32) (P0 : Exa Z h0 o0 "com/example/lumencast/lumencast/model/Routes$Builder") (P1 : Fld Z h0 o0 "com/example/lumencast/lumencast/model/Routes$Builder" "fibres" "[I" (.ref o1)) (P2 : Fld Z h0 o0 "com/example/lumencast/lumencast/model/Routes$Builder" "firstHop" "[I" (.ref o2)) (P3 : Fld Z h0 o0 "com/example/lumencast/lumencast/model/Routes$Builder" "pairsDone" "I" (.int 0)) (P4 : Av Z h0 o1 .int ([.int i0, .int 0])) (P5 : Av Z h0 o2 .int ([.int 0, .int 1, .int 0])) (g_o0 : n0 ≤ o0) (g_o1 : n0 ≤ o1) (g_o2 : n0 ≤ o2) (ne_o0_o1 : o0 ≠ o1) (ne_o0_o2 : o0 ≠ o2) (ne_o1_o2 : o1 ≠ o2) :
    Con l Z n0 [] (⟨"com/example/lumencast/lumencast/model/Routes$Builder", "endRoute", "()V"⟩ : MethodName) prog_26_method_3_code 1 none ({ frames := 0, cells := 0, slots := 0, locals := 0 } : Room) #[(.ref o0)] h0 (Qau1112_3 Z n0 h0 o0 o1 o2 i0) := by
  refine Con.of pf_3 (fun m => ef_au1112_3 m o0) hn0 ?_
  intro p e s m below meth c C
  refine C.aloadN d3_0 rfl rfl rfl ?_
  refine C.dup d3_1 rfl rfl ?_
  refine C.getF d3_2 rfl (tw hw 19 rfl) P3 ?_
  refine C.iconst 1 d3_5 rfl rfl ?_
  refine C.iadd d3_6 rfl ?_
  show Go p l e ({ frames := 0, cells := 0, slots := 0, locals := 0 } : Room) s m #[(.ref o0)] below meth c n0 (FinQ s n0 (Qau1112_3 Z n0 h0 o0 o1 o2 i0) ({ frames := 0, cells := 0, slots := 0, locals := 0 } : Room).cells ({ frames := 0, cells := 0, slots := 0, locals := 0 } : Room).slots) h0 0 0 7 #[.val (.ref o0)] [(.int 1), (.ref o0)]
  refine C.putF d3_7 rfl (tw hw 19 rfl) P3 P0 (Or.inl (tw hw 20 rfl)) (tw hw 1 rfl) (ty := .int) (by decide) rfl rfl g_o0 (fun h1147 W1148 F1149 => ?_)
  have F1150 : Exa Z h1147 o0 "com/example/lumencast/lumencast/model/Routes$Builder" := Exa.wr W1148 P0
  have F1151 : Fld Z h1147 o0 "com/example/lumencast/lumencast/model/Routes$Builder" "fibres" "[I" (.ref o1) := Fld.other W1148 P1 (Or.inr (slot_ne (C := "com/example/lumencast/lumencast/model/Routes$Builder") (t := (.array .int)) (t' := .int) (Or.inl (tw hw 13 rfl)) (Or.inl (tw hw 20 rfl)) (by decide) (by decide) (by decide)))
  have F1152 : Fld Z h1147 o0 "com/example/lumencast/lumencast/model/Routes$Builder" "firstHop" "[I" (.ref o2) := Fld.other W1148 P2 (Or.inr (slot_ne (C := "com/example/lumencast/lumencast/model/Routes$Builder") (t := (.array .int)) (t' := .int) (Or.inr (tw hw 11 rfl)) (Or.inl (tw hw 20 rfl)) (by decide) (by decide) (by decide)))
  have F1153 : Av Z h1147 o1 .int ([.int i0, .int 0]) := P4.other W1148 (Ne.symm ne_o0_o1)
  have F1154 : Av Z h1147 o2 .int ([.int 0, .int 1, .int 0]) := P5.other W1148 (Ne.symm ne_o0_o2)
  refine C.aloadN d3_10 rfl rfl rfl ?_
  refine C.getF d3_11 rfl (tw hw 19 rfl) F1149 ?_
  refine C.iconst 1 d3_14 rfl rfl ?_
  refine C.iadd d3_15 rfl ?_
  show Go p l e ({ frames := 0, cells := 0, slots := 0, locals := 0 } : Room) s m #[(.ref o0)] below meth c n0 (FinQ s n0 (Qau1112_3 Z n0 h0 o0 o1 o2 i0) ({ frames := 0, cells := 0, slots := 0, locals := 0 } : Room).cells ({ frames := 0, cells := 0, slots := 0, locals := 0 } : Room).slots) h1147 0 0 16 #[.val (.ref o0)] [(.int 2)]
  refine C.aloadN d3_16 rfl rfl rfl ?_
  refine C.getF d3_17 rfl (tw hw 10 rfl) F1152 ?_
  refine C.alen d3_20 rfl F1154 ?_
  show Go p l e ({ frames := 0, cells := 0, slots := 0, locals := 0 } : Room) s m #[(.ref o0)] below meth c n0 (FinQ s n0 (Qau1112_3 Z n0 h0 o0 o1 o2 i0) ({ frames := 0, cells := 0, slots := 0, locals := 0 } : Room).cells ({ frames := 0, cells := 0, slots := 0, locals := 0 } : Room).slots) h1147 0 0 21 #[.val (.ref o0)] [(.int 3), (.int 2)]
  refine C.icmp_ge_f d3_21 rfl (by decide) ?_
  refine C.aloadN d3_24 rfl rfl rfl ?_
  refine C.getF d3_25 rfl (tw hw 10 rfl) F1152 ?_
  refine C.aloadN d3_28 rfl rfl rfl ?_
  refine C.getF d3_29 rfl (tw hw 19 rfl) F1149 ?_
  refine C.iconst 1 d3_32 rfl rfl ?_
  refine C.iadd d3_33 rfl ?_
  show Go p l e ({ frames := 0, cells := 0, slots := 0, locals := 0 } : Room) s m #[(.ref o0)] below meth c n0 (FinQ s n0 (Qau1112_3 Z n0 h0 o0 o1 o2 i0) ({ frames := 0, cells := 0, slots := 0, locals := 0 } : Room).cells ({ frames := 0, cells := 0, slots := 0, locals := 0 } : Room).slots) h1147 0 0 34 #[.val (.ref o0)] [(.int 2), (.ref o2)]
  refine C.aloadN d3_34 rfl rfl rfl ?_
  refine C.getF d3_35 rfl (tw hw 10 rfl) F1152 ?_
  refine C.aloadN d3_38 rfl rfl rfl ?_
  refine C.getF d3_39 rfl (tw hw 19 rfl) F1149 ?_
  refine C.iaload (.int 1) d3_42 rfl F1154 (by decide) rfl ?_
  refine C.iastore d3_43 rfl F1154 g_o2 (by decide) (Nat.le_of_ble_eq_true rfl) (fun h1155 W1156 F1157 => ?_)
  have F1158 : Exa Z h1155 o0 "com/example/lumencast/lumencast/model/Routes$Builder" := Exa.wr W1156 F1150
  have F1159 : Fld Z h1155 o0 "com/example/lumencast/lumencast/model/Routes$Builder" "fibres" "[I" (.ref o1) := Fld.other W1156 F1151 (Or.inl ne_o0_o2)
  have F1160 : Fld Z h1155 o0 "com/example/lumencast/lumencast/model/Routes$Builder" "firstHop" "[I" (.ref o2) := Fld.other W1156 F1152 (Or.inl ne_o0_o2)
  have F1161 : Av Z h1155 o1 .int ([.int i0, .int 0]) := F1153.other W1156 ne_o1_o2
  have F1162 : Fld Z h1155 o0 "com/example/lumencast/lumencast/model/Routes$Builder" "pairsDone" "I" (.int 1) := Fld.other W1156 F1149 (Or.inl ne_o0_o2)
  have F1163 : Av Z h1155 o2 .int ([.int 0, .int 1, .int 1]) := F1157
  exact C.ret0 d3_44 (by decide) (by decide) ⟨rfl, (((Keep.refl h0 [o0, o2]).wr W1148 (Or.inl (List.mem_of_getElem? (i := 0) rfl))).wr W1156 (Or.inl (List.mem_of_getElem? (i := 1) rfl))), F1159, F1160, F1162, F1163⟩
def Qau1178_3 (Z : State) (n0 : Nat) (h0 : Heap) (o0 : Addr) (o1 : Addr) (o2 : Addr) (i0 : Int32) (v : Option Value) (h' : Heap) : Prop := (v = none) ∧ (Keep h0 h' [o0]) ∧ (Fld Z h' o0 "com/example/lumencast/lumencast/model/Routes$Builder" "fibres" "[I" (.ref o1)) ∧ (Fld Z h' o0 "com/example/lumencast/lumencast/model/Routes$Builder" "firstHop" "[I" (.ref o2)) ∧ (Fld Z h' o0 "com/example/lumencast/lumencast/model/Routes$Builder" "pairsDone" "I" (.int 2))
theorem ef_au1178_3 (m : MethodId) (o0 : Addr) : entryFrame m #[(.ref o0)] 1 = mkF m 0 #[.val (.ref o0)] [] := by first | (simp [entryFrame, mkF, argsToLocals, Value.category]; done) | rfl
set_option maxRecDepth 65536 in
set_option maxHeartbeats 40000000 in
theorem au1178_3 (l : Launch) (Z : State) (a0 : Array Value) (hw : ∀ d ∈ tables_1, d.before a0 Z = true) (n0 : Nat) (h0 : Heap) (hn0 : n0 ≤ h0.size) (o0 : Addr) (o1 : Addr) (o2 : Addr) (i0 : Int32) (P0 : Exa Z h0 o0 "com/example/lumencast/lumencast/model/Routes$Builder") (P1 : Fld Z h0 o0 "com/example/lumencast/lumencast/model/Routes$Builder" "fibres" "[I" (.ref o1)) (P2 : Fld Z h0 o0 "com/example/lumencast/lumencast/model/Routes$Builder" "firstHop" "[I" (.ref o2)) (P3 : Fld Z h0 o0 "com/example/lumencast/lumencast/model/Routes$Builder" "pairsDone" "I" (.int 1)) (P4 : Av Z h0 o1 .int ([.int i0, .int 0])) (P5 : Av Z h0 o2 .int ([.int 0, .int 1, .int 1])) (g_o0 : n0 ≤ o0) (g_o1 : n0 ≤ o1) (g_o2 : n0 ≤ o2) (ne_o0_o1 : o0 ≠ o1) (ne_o0_o2 : o0 ≠ o2) (ne_o1_o2 : o1 ≠ o2) :
    Con l Z n0 [] (⟨"com/example/lumencast/lumencast/model/Routes$Builder", "endRoute", "()V"⟩ : MethodName) prog_26_method_3_code 1 none ({ frames := 0, cells := 0, slots := 0, locals := 0 } : Room) #[(.ref o0)] h0 (Qau1178_3 Z n0 h0 o0 o1 o2 i0) := by
  refine Con.of pf_3 (fun m => ef_au1178_3 m o0) hn0 ?_
  intro p e s m below meth c C
  refine C.aloadN d3_0 rfl rfl rfl ?_
  refine C.dup d3_1 rfl rfl ?_
  refine C.getF d3_2 rfl (tw hw 19 rfl) P3 ?_
  refine C.iconst 1 d3_5 rfl rfl ?_
  refine C.iadd d3_6 rfl ?_
  show Go p l e ({ frames := 0, cells := 0, slots := 0, locals := 0 } : Room) s m #[(.ref o0)] below meth c n0 (FinQ s n0 (Qau1178_3 Z n0 h0 o0 o1 o2 i0) ({ frames := 0, cells := 0, slots := 0, locals := 0 } : Room).cells ({ frames := 0, cells := 0, slots := 0, locals := 0 } : Room).slots) h0 0 0 7 #[.val (.ref o0)] [(.int 2), (.ref o0)]
  refine C.putF d3_7 rfl (tw hw 19 rfl) P3 P0 (Or.inl (tw hw 20 rfl)) (tw hw 1 rfl) (ty := .int) (by decide) rfl rfl g_o0 (fun h1195 W1196 F1197 => ?_)
  have F1198 : Exa Z h1195 o0 "com/example/lumencast/lumencast/model/Routes$Builder" := Exa.wr W1196 P0
  have F1199 : Fld Z h1195 o0 "com/example/lumencast/lumencast/model/Routes$Builder" "fibres" "[I" (.ref o1) := Fld.other W1196 P1 (Or.inr (slot_ne (C := "com/example/lumencast/lumencast/model/Routes$Builder") (t := (.array .int)) (t' := .int) (Or.inl (tw hw 13 rfl)) (Or.inl (tw hw 20 rfl)) (by decide) (by decide) (by decide)))
  have F1200 : Fld Z h1195 o0 "com/example/lumencast/lumencast/model/Routes$Builder" "firstHop" "[I" (.ref o2) := Fld.other W1196 P2 (Or.inr (slot_ne (C := "com/example/lumencast/lumencast/model/Routes$Builder") (t := (.array .int)) (t' := .int) (Or.inr (tw hw 11 rfl)) (Or.inl (tw hw 20 rfl)) (by decide) (by decide) (by decide)))
  have F1201 : Av Z h1195 o1 .int ([.int i0, .int 0]) := P4.other W1196 (Ne.symm ne_o0_o1)
  have F1202 : Av Z h1195 o2 .int ([.int 0, .int 1, .int 1]) := P5.other W1196 (Ne.symm ne_o0_o2)
  refine C.aloadN d3_10 rfl rfl rfl ?_
  refine C.getF d3_11 rfl (tw hw 19 rfl) F1197 ?_
  refine C.iconst 1 d3_14 rfl rfl ?_
  refine C.iadd d3_15 rfl ?_
  show Go p l e ({ frames := 0, cells := 0, slots := 0, locals := 0 } : Room) s m #[(.ref o0)] below meth c n0 (FinQ s n0 (Qau1178_3 Z n0 h0 o0 o1 o2 i0) ({ frames := 0, cells := 0, slots := 0, locals := 0 } : Room).cells ({ frames := 0, cells := 0, slots := 0, locals := 0 } : Room).slots) h1195 0 0 16 #[.val (.ref o0)] [(.int 3)]
  refine C.aloadN d3_16 rfl rfl rfl ?_
  refine C.getF d3_17 rfl (tw hw 10 rfl) F1200 ?_
  refine C.alen d3_20 rfl F1202 ?_
  show Go p l e ({ frames := 0, cells := 0, slots := 0, locals := 0 } : Room) s m #[(.ref o0)] below meth c n0 (FinQ s n0 (Qau1178_3 Z n0 h0 o0 o1 o2 i0) ({ frames := 0, cells := 0, slots := 0, locals := 0 } : Room).cells ({ frames := 0, cells := 0, slots := 0, locals := 0 } : Room).slots) h1195 0 0 21 #[.val (.ref o0)] [(.int 3), (.int 3)]
  refine C.icmp_ge_t d3_21 (by decide) rfl (by decide) ?_
  exact C.ret0 d3_44 (by decide) (by decide) ⟨rfl, ((Keep.refl h0 [o0]).wr W1196 (Or.inl (List.mem_of_getElem? (i := 0) rfl))), F1199, F1200, F1197⟩
def Qau1259_7 (Z : State) (n0 : Nat) (h0 : Heap) (o0 : Addr) (o1 : Addr) (o2 : Addr) (i0 : Int32) (v : Option Value) (h' : Heap) : Prop := (v = none) ∧ (Keep h0 h' [o0]) ∧ (Fld Z h' o0 "com/example/lumencast/lumencast/model/Routes" "fibres" "[I" (.ref o2)) ∧ (Fld Z h' o0 "com/example/lumencast/lumencast/model/Routes" "firstHop" "[I" (.ref o1))
theorem ef_au1259_7 (m : MethodId) (o0 : Addr) (o1 : Addr) (o2 : Addr) : entryFrame m #[(.ref o0), (.ref o1), (.ref o2)] 3 = mkF m 0 #[.val (.ref o0), .val (.ref o1), .val (.ref o2)] [] := by first | (simp [entryFrame, mkF, argsToLocals, Value.category]; done) | rfl
set_option maxRecDepth 65536 in
set_option maxHeartbeats 40000000 in
theorem au1259_7 (l : Launch) (Z : State) (a0 : Array Value) (hw : ∀ d ∈ tables_1, d.before a0 Z = true) (n0 : Nat) (h0 : Heap) (hn0 : n0 ≤ h0.size) (o0 : Addr) (o1 : Addr) (o2 : Addr) (i0 : Int32) (P0 : Exa Z h0 o0 "com/example/lumencast/lumencast/model/Routes") (P1 : Fld Z h0 o0 "com/example/lumencast/lumencast/model/Routes" "fibres" "[I" (.null)) (P2 : Fld Z h0 o0 "com/example/lumencast/lumencast/model/Routes" "firstHop" "[I" (.null)) (P3 : Av Z h0 o1 .int ([.int 0, .int 1, .int 1])) (P4 : Av Z h0 o2 .int ([.int i0])) (g_o0 : n0 ≤ o0) (g_o1 : n0 ≤ o1) (g_o2 : n0 ≤ o2) (ne_o0_o1 : o0 ≠ o1) (ne_o0_o2 : o0 ≠ o2) (ne_o1_o2 : o1 ≠ o2) :
    Con l Z n0 [] (⟨"com/example/lumencast/lumencast/model/Routes", "<init>", "([I[I)V"⟩ : MethodName) prog_25_method_1_code 3 none ({ frames := 1, cells := 0, slots := 0, locals := 12 } : Room) #[(.ref o0), (.ref o1), (.ref o2)] h0 (Qau1259_7 Z n0 h0 o0 o1 o2 i0) := by
  refine Con.of pf_6 (fun m => ef_au1259_7 m o0 o1 o2) hn0 ?_
  intro p e s m below meth c C
  refine C.aloadN d7_0 rfl rfl rfl ?_
  refine C.initO 0 d7_1 rfl (tw hw 44 rfl) (tw hw 7 rfl) (tw hw 8 rfl) rfl (by decide) (Nat.le_of_eq rfl) (by decide) ?_
  refine C.aloadN d7_4 rfl rfl rfl ?_
  refine C.aloadN d7_5 rfl rfl rfl ?_
  refine C.putF d7_6 rfl (tw hw 45 rfl) P2 P0 (Or.inr ⟨(tw hw 46 rfl), rfl, rfl⟩) (tw hw 27 rfl) (ty := (.array .int)) (by decide) rfl rfl g_o0 (fun h1288 W1289 F1290 => ?_)
  have F1291 : Exa Z h1288 o0 "com/example/lumencast/lumencast/model/Routes" := Exa.wr W1289 P0
  have F1292 : Fld Z h1288 o0 "com/example/lumencast/lumencast/model/Routes" "fibres" "[I" (.null) := Fld.other W1289 P1 (Or.inr (slot_ne (C := "com/example/lumencast/lumencast/model/Routes") (t := (.array .int)) (t' := (.array .int)) (Or.inr (tw hw 48 rfl)) (Or.inr (tw hw 46 rfl)) (by decide) (by decide) (by decide)))
  have F1293 : Av Z h1288 o1 .int ([.int 0, .int 1, .int 1]) := P3.other W1289 (Ne.symm ne_o0_o1)
  have F1294 : Av Z h1288 o2 .int ([.int i0]) := P4.other W1289 (Ne.symm ne_o0_o2)
  refine C.aloadN d7_9 rfl rfl rfl ?_
  refine C.aloadN d7_10 rfl rfl rfl ?_
  refine C.putF d7_11 rfl (tw hw 47 rfl) F1292 F1291 (Or.inr ⟨(tw hw 48 rfl), rfl, rfl⟩) (tw hw 27 rfl) (ty := (.array .int)) (by decide) rfl rfl g_o0 (fun h1295 W1296 F1297 => ?_)
  have F1298 : Exa Z h1295 o0 "com/example/lumencast/lumencast/model/Routes" := Exa.wr W1296 F1291
  have F1299 : Av Z h1295 o1 .int ([.int 0, .int 1, .int 1]) := F1293.other W1296 (Ne.symm ne_o0_o1)
  have F1300 : Av Z h1295 o2 .int ([.int i0]) := F1294.other W1296 (Ne.symm ne_o0_o2)
  have F1301 : Fld Z h1295 o0 "com/example/lumencast/lumencast/model/Routes" "firstHop" "[I" (.ref o1) := Fld.other W1296 F1290 (Or.inr (slot_ne (C := "com/example/lumencast/lumencast/model/Routes") (t := (.array .int)) (t' := (.array .int)) (Or.inr (tw hw 46 rfl)) (Or.inr (tw hw 48 rfl)) (by decide) (by decide) (by decide)))
  exact C.ret0 d7_14 (by decide) (by decide) ⟨rfl, (((Keep.refl h0 [o0]).wr W1289 (Or.inl (List.mem_of_getElem? (i := 0) rfl))).wr W1296 (Or.inl (List.mem_of_getElem? (i := 0) rfl))), F1297, F1301⟩
def Qau1216_4 (Z : State) (n0 : Nat) (h0 : Heap) (o0 : Addr) (o1 : Addr) (o2 : Addr) (i0 : Int32) (v : Option Value) (h' : Heap) : Prop := ∃ (f0 : Addr) (f1 : Addr), (v = some (.ref f0)) ∧ (Keep h0 h' []) ∧ (n0 ≤ f0) ∧ (h0.size ≤ f0) ∧ (n0 ≤ f1) ∧ (h0.size ≤ f1) ∧ (f0 ≠ f1) ∧ (Exa Z h' f0 "com/example/lumencast/lumencast/model/Routes") ∧ (Fld Z h' f0 "com/example/lumencast/lumencast/model/Routes" "fibres" "[I" (.ref f1)) ∧ (Fld Z h' f0 "com/example/lumencast/lumencast/model/Routes" "firstHop" "[I" (.ref o2)) ∧ (Av Z h' f1 .int ([.int i0]))
theorem ef_au1216_4 (m : MethodId) (o0 : Addr) : entryFrame m #[(.ref o0)] 2 = mkF m 0 #[.val (.ref o0), .unset] [] := by first | (simp [entryFrame, mkF, argsToLocals, Value.category]; done) | rfl
set_option maxRecDepth 65536 in
set_option maxHeartbeats 40000000 in
theorem au1216_4 (l : Launch) (Z : State) (a0 : Array Value) (hw : ∀ d ∈ tables_1, d.before a0 Z = true) (n0 : Nat) (h0 : Heap) (hn0 : n0 ≤ h0.size) (o0 : Addr) (o1 : Addr) (o2 : Addr) (i0 : Int32) (P0 : Exa Z h0 o0 "com/example/lumencast/lumencast/model/Routes$Builder") (P1 : Fld Z h0 o0 "com/example/lumencast/lumencast/model/Routes$Builder" "fibres" "[I" (.ref o1)) (P2 : Fld Z h0 o0 "com/example/lumencast/lumencast/model/Routes$Builder" "firstHop" "[I" (.ref o2)) (P3 : Fld Z h0 o0 "com/example/lumencast/lumencast/model/Routes$Builder" "pairsDone" "I" (.int 2)) (P4 : Av Z h0 o1 .int ([.int i0, .int 0])) (P5 : Av Z h0 o2 .int ([.int 0, .int 1, .int 1])) (g_o0 : n0 ≤ o0) (g_o1 : n0 ≤ o1) (g_o2 : n0 ≤ o2) (ne_o0_o1 : o0 ≠ o1) (ne_o0_o2 : o0 ≠ o2) (ne_o1_o2 : o1 ≠ o2) :
    Con l Z n0 [] (⟨"com/example/lumencast/lumencast/model/Routes$Builder", "build", "()Lcom/example/lumencast/lumencast/model/Routes;"⟩ : MethodName) prog_26_method_4_code 2 (some (.object "com/example/lumencast/lumencast/model/Routes")) ({ frames := 2, cells := 2, slots := 3, locals := 35 } : Room) #[(.ref o0)] h0 (Qau1216_4 Z n0 h0 o0 o1 o2 i0) := by
  refine Con.of pf_4 (fun m => ef_au1216_4 m o0) hn0 ?_
  intro p e s m below meth c C
  refine C.aloadN d4_0 rfl rfl rfl ?_
  refine C.getF d4_1 rfl (tw hw 19 rfl) P3 ?_
  refine C.iconst 1 d4_4 rfl rfl ?_
  refine C.iadd d4_5 rfl ?_
  show Go p l e ({ frames := 2, cells := 2, slots := 3, locals := 35 } : Room) s m #[(.ref o0)] below meth c n0 (FinQ s n0 (Qau1216_4 Z n0 h0 o0 o1 o2 i0) ({ frames := 2, cells := 2, slots := 3, locals := 35 } : Room).cells ({ frames := 2, cells := 2, slots := 3, locals := 35 } : Room).slots) h0 0 0 6 #[.val (.ref o0), .unset] [(.int 3)]
  refine C.aloadN d4_6 rfl rfl rfl ?_
  refine C.getF d4_7 rfl (tw hw 10 rfl) P2 ?_
  refine C.alen d4_10 rfl P5 ?_
  show Go p l e ({ frames := 2, cells := 2, slots := 3, locals := 35 } : Room) s m #[(.ref o0)] below meth c n0 (FinQ s n0 (Qau1216_4 Z n0 h0 o0 o1 o2 i0) ({ frames := 2, cells := 2, slots := 3, locals := 35 } : Room).cells ({ frames := 2, cells := 2, slots := 3, locals := 35 } : Room).slots) h0 0 0 11 #[.val (.ref o0), .unset] [(.int 3), (.int 3)]
  refine C.icmp_eq_t d4_11 (by decide) rfl (by decide) ?_
  refine C.aloadN d4_39 rfl rfl rfl ?_
  refine C.getF d4_40 rfl (tw hw 10 rfl) P2 ?_
  refine C.aloadN d4_43 rfl rfl rfl ?_
  refine C.getF d4_44 rfl (tw hw 19 rfl) P3 ?_
  refine C.iaload (.int 1) d4_47 rfl P5 (by decide) rfl ?_
  refine C.istoreN (Ls' := #[.val (.ref o0), .val (.int 1)]) d4_48 rfl rfl ?_
  refine C.new d4_49 rfl (tw hw 26 rfl) (tw hw 27 rfl) (tw hw 28 rfl) (by decide) (by decide) (fun a1376 h1377 z1381 g1382 X1379 E1378 D1380 => ?_)
  have gz1383 : h0.size ≤ a1376 := by rw [z1381]; exact (Keep.refl h0 []).1
  have ne1384 : o0 ≠ a1376 := by rw [z1381]; exact Nat.ne_of_lt P0.lt
  have ne1385 : o1 ≠ a1376 := by rw [z1381]; exact Nat.ne_of_lt P4.lt
  have ne1386 : o2 ≠ a1376 := by rw [z1381]; exact Nat.ne_of_lt P5.lt
  have F1387 : Exa Z h1377 o0 "com/example/lumencast/lumencast/model/Routes$Builder" := Exa.ext X1379 P0
  have F1388 : Fld Z h1377 o0 "com/example/lumencast/lumencast/model/Routes$Builder" "fibres" "[I" (.ref o1) := Fld.ext X1379 P1
  have F1389 : Fld Z h1377 o0 "com/example/lumencast/lumencast/model/Routes$Builder" "firstHop" "[I" (.ref o2) := Fld.ext X1379 P2
  have F1390 : Fld Z h1377 o0 "com/example/lumencast/lumencast/model/Routes$Builder" "pairsDone" "I" (.int 2) := Fld.ext X1379 P3
  have F1391 : Av Z h1377 o1 .int ([.int i0, .int 0]) := P4.ext X1379
  have F1392 : Av Z h1377 o2 .int ([.int 0, .int 1, .int 1]) := P5.ext X1379
  have F1393 : Fld Z h1377 a1376 "com/example/lumencast/lumencast/model/Routes" "firstHop" "[I" (.null) := D1380 (Or.inr (tw hw 46 rfl)) (ty := (.array .int)) (by decide)
  have F1394 : Fld Z h1377 a1376 "com/example/lumencast/lumencast/model/Routes" "fibres" "[I" (.null) := D1380 (Or.inr (tw hw 48 rfl)) (ty := (.array .int)) (by decide)
  refine C.dup d4_52 rfl rfl ?_
  refine C.aloadN d4_53 rfl rfl rfl ?_
  refine C.getF d4_54 rfl (tw hw 10 rfl) F1389 ?_
  refine C.iloadN d4_57 rfl rfl ?_
  refine C.aloadN d4_58 rfl rfl rfl ?_
  refine C.getF d4_59 rfl (tw hw 12 rfl) F1388 ?_
  refine C.alen d4_62 rfl F1391 ?_
  show Go p l e ({ frames := 2, cells := 2, slots := 3, locals := 35 } : Room) s m #[(.ref o0)] below meth c n0 (FinQ s n0 (Qau1216_4 Z n0 h0 o0 o1 o2 i0) ({ frames := 2, cells := 2, slots := 3, locals := 35 } : Room).cells ({ frames := 2, cells := 2, slots := 3, locals := 35 } : Room).slots) h1377 1 2 63 #[.val (.ref o0), .val (.int 1)] [(.int 2), (.int 1), (.ref o2), (.ref a1376), (.ref a1376)]
  refine C.icmp_ne_t d4_63 (by decide) rfl (by decide) ?_
  refine C.aloadN d4_73 rfl rfl rfl ?_
  refine C.getF d4_74 rfl (tw hw 12 rfl) F1388 ?_
  refine C.iloadN d4_77 rfl rfl ?_
  refine C.callS (argsL := [(.ref o1), (.int 1)]) (rest := [(.ref o2), (.ref a1376), (.ref a1376)]) 3 (fun zz => con_copy1 l Z a0 hw n0 h1377 zz o1 1 ([.int i0, .int 0]) F1391 (by decide) (by decide) (show ¬ (1 : Int32) = (2 : Nat).toInt32 by decide) (Nat.le_of_ble_eq_true rfl)) d4_78 rfl (tw hw 29 rfl) (tw hw 30 rfl) (tw hw 31 rfl) (tw hw 32 rfl) (by decide) pd_3 rfl rfl rfl (Nat.le_of_eq rfl) (by decide) (by decide) (by decide) (by decide) (fun v1395 h1396 r1397 => ?_)
  obtain ⟨a1398, rfl, K1399, g1401, gz1402, F1400⟩ := r1397
  have gz1403 : h0.size ≤ a1398 := Nat.le_trans ((Keep.refl h0 []).ext X1379).1 gz1402
  have ne1404 : o0 ≠ a1398 := Nat.ne_of_lt (Nat.lt_of_lt_of_le F1387.lt gz1402)
  have ne1405 : o1 ≠ a1398 := Nat.ne_of_lt (Nat.lt_of_lt_of_le F1391.lt gz1402)
  have ne1406 : o2 ≠ a1398 := Nat.ne_of_lt (Nat.lt_of_lt_of_le F1392.lt gz1402)
  have ne1407 : a1376 ≠ a1398 := Nat.ne_of_lt (Nat.lt_of_lt_of_le E1378.lt gz1402)
  have F1408 : Exa Z h1396 o0 "com/example/lumencast/lumencast/model/Routes$Builder" := F1387.keep K1399
  have F1409 : Fld Z h1396 o0 "com/example/lumencast/lumencast/model/Routes$Builder" "fibres" "[I" (.ref o1) := F1388.keep K1399 nin0
  have F1410 : Fld Z h1396 o0 "com/example/lumencast/lumencast/model/Routes$Builder" "firstHop" "[I" (.ref o2) := F1389.keep K1399 nin0
  have F1411 : Fld Z h1396 o0 "com/example/lumencast/lumencast/model/Routes$Builder" "pairsDone" "I" (.int 2) := F1390.keep K1399 nin0
  have F1412 : Av Z h1396 o1 .int ([.int i0, .int 0]) := F1391.keep K1399 nin0
  have F1413 : Av Z h1396 o2 .int ([.int 0, .int 1, .int 1]) := F1392.keep K1399 nin0
  have F1414 : Exa Z h1396 a1376 "com/example/lumencast/lumencast/model/Routes" := E1378.keep K1399
  have F1415 : Fld Z h1396 a1376 "com/example/lumencast/lumencast/model/Routes" "firstHop" "[I" (.null) := F1393.keep K1399 nin0
  have F1416 : Fld Z h1396 a1376 "com/example/lumencast/lumencast/model/Routes" "fibres" "[I" (.null) := F1394.keep K1399 nin0
  have F1417 : Av Z h1396 a1398 .int ([.int i0]) := F1400
  refine C.callNN (argsL := [(.ref o2), (.ref a1398)]) (rest := [(.ref a1376)]) 1 (fun zz => au1259_7 l Z a0 hw n0 h1396 zz a1376 o2 a1398 i0 F1414 F1416 F1415 F1413 F1417 g1382 g_o2 g1401 (Ne.symm ne1386) ne1407 ne1406) d4_81 rfl rfl (tw hw 41 rfl) (tw hw 42 rfl) (tw hw 28 rfl) (tw hw 43 rfl) (by decide) pd_4 rfl rfl rfl (Nat.le_of_eq rfl) (by decide) (by decide) (by decide) (by decide) (fun v1418 h1419 r1420 => ?_)
  obtain ⟨rfl, K1421, F1422, F1423⟩ := r1420
  have F1424 : Exa Z h1419 o0 "com/example/lumencast/lumencast/model/Routes$Builder" := F1408.keep K1421
  have F1425 : Fld Z h1419 o0 "com/example/lumencast/lumencast/model/Routes$Builder" "fibres" "[I" (.ref o1) := F1409.keep K1421 (ninS ne1384 nin0)
  have F1426 : Fld Z h1419 o0 "com/example/lumencast/lumencast/model/Routes$Builder" "firstHop" "[I" (.ref o2) := F1410.keep K1421 (ninS ne1384 nin0)
  have F1427 : Fld Z h1419 o0 "com/example/lumencast/lumencast/model/Routes$Builder" "pairsDone" "I" (.int 2) := F1411.keep K1421 (ninS ne1384 nin0)
  have F1428 : Av Z h1419 o1 .int ([.int i0, .int 0]) := F1412.keep K1421 (ninS ne1385 nin0)
  have F1429 : Av Z h1419 o2 .int ([.int 0, .int 1, .int 1]) := F1413.keep K1421 (ninS ne1386 nin0)
  have F1430 : Exa Z h1419 a1376 "com/example/lumencast/lumencast/model/Routes" := F1414.keep K1421
  have F1433 : Av Z h1419 a1398 .int ([.int i0]) := F1417.keep K1421 (ninS (Ne.symm ne1407) nin0)
  exact C.retA d4_84 rfl rfl (by decide) (by decide) ⟨a1376, a1398, rfl, ((((Keep.refl h0 []).ext X1379).trans K1399 all0).trans K1421 (allS (Or.inr gz1383) all0)), g1382, gz1383, g1401, gz1403, ne1407, F1430, F1422, F1423, F1433⟩
def Qau1461_8 (Z : State) (n0 : Nat) (h0 : Heap) (o0 : Addr) (o1 : Addr) (o2 : Addr) (i0 : Int32) (v : Option Value) (h' : Heap) : Prop := (v = some (.int 1)) ∧ (h0 = h')
theorem ef_au1461_8 (m : MethodId) (o0 : Addr) : entryFrame m #[(.ref o0), (.int 0)] 2 = mkF m 0 #[.val (.ref o0), .val (.int 0)] [] := by first | (simp [entryFrame, mkF, argsToLocals, Value.category]; done) | rfl
set_option maxRecDepth 65536 in
set_option maxHeartbeats 40000000 in
theorem au1461_8 (l : Launch) (Z : State) (a0 : Array Value) (hw : ∀ d ∈ tables_1, d.before a0 Z = true) (n0 : Nat) (h0 : Heap) (hn0 : n0 ≤ h0.size) (o0 : Addr) (o1 : Addr) (o2 : Addr) (i0 : Int32) (P0 : Exa Z h0 o0 "com/example/lumencast/lumencast/model/Routes") (P1 : Fld Z h0 o0 "com/example/lumencast/lumencast/model/Routes" "fibres" "[I" (.ref o1)) (P2 : Fld Z h0 o0 "com/example/lumencast/lumencast/model/Routes" "firstHop" "[I" (.ref o2)) (P3 : Av Z h0 o1 .int ([.int i0])) (P4 : Av Z h0 o2 .int ([.int 0, .int 1, .int 1])) (g_o0 : n0 ≤ o0) (g_o1 : n0 ≤ o1) (g_o2 : n0 ≤ o2) (ne_o0_o1 : o0 ≠ o1) (ne_o0_o2 : o0 ≠ o2) (ne_o1_o2 : o1 ≠ o2) :
    Con l Z n0 [] (⟨"com/example/lumencast/lumencast/model/Routes", "hops", "(I)I"⟩ : MethodName) prog_25_method_2_code 2 (some .int) ({ frames := 0, cells := 0, slots := 0, locals := 0 } : Room) #[(.ref o0), (.int 0)] h0 (Qau1461_8 Z n0 h0 o0 o1 o2 i0) := by
  refine Con.of pf_7 (fun m => ef_au1461_8 m o0) hn0 ?_
  intro p e s m below meth c C
  refine C.aloadN d8_0 rfl rfl rfl ?_
  refine C.getF d8_1 rfl (tw hw 45 rfl) P2 ?_
  refine C.iloadN d8_4 rfl rfl ?_
  refine C.iconst 1 d8_5 rfl rfl ?_
  refine C.iadd d8_6 rfl ?_
  show Go p l e ({ frames := 0, cells := 0, slots := 0, locals := 0 } : Room) s m #[(.ref o0), (.int 0)] below meth c n0 (FinQ s n0 (Qau1461_8 Z n0 h0 o0 o1 o2 i0) ({ frames := 0, cells := 0, slots := 0, locals := 0 } : Room).cells ({ frames := 0, cells := 0, slots := 0, locals := 0 } : Room).slots) h0 0 0 7 #[.val (.ref o0), .val (.int 0)] [(.int 1), (.ref o2)]
  refine C.iaload (.int 1) d8_7 rfl P4 (by decide) rfl ?_
  refine C.aloadN d8_8 rfl rfl rfl ?_
  refine C.getF d8_9 rfl (tw hw 45 rfl) P2 ?_
  refine C.iloadN d8_12 rfl rfl ?_
  refine C.iaload (.int 0) d8_13 rfl P4 (by decide) rfl ?_
  refine C.isub d8_14 rfl ?_
  show Go p l e ({ frames := 0, cells := 0, slots := 0, locals := 0 } : Room) s m #[(.ref o0), (.int 0)] below meth c n0 (FinQ s n0 (Qau1461_8 Z n0 h0 o0 o1 o2 i0) ({ frames := 0, cells := 0, slots := 0, locals := 0 } : Room).cells ({ frames := 0, cells := 0, slots := 0, locals := 0 } : Room).slots) h0 0 0 15 #[.val (.ref o0), .val (.int 0)] [(.int 1)]
  exact C.retI d8_15 (by decide) (by decide) ⟨rfl, rfl⟩
def Qau1466_8 (Z : State) (n0 : Nat) (h0 : Heap) (o0 : Addr) (o1 : Addr) (o2 : Addr) (i0 : Int32) (v : Option Value) (h' : Heap) : Prop := (v = some (.int 0)) ∧ (h0 = h')
theorem ef_au1466_8 (m : MethodId) (o0 : Addr) : entryFrame m #[(.ref o0), (.int 1)] 2 = mkF m 0 #[.val (.ref o0), .val (.int 1)] [] := by first | (simp [entryFrame, mkF, argsToLocals, Value.category]; done) | rfl
set_option maxRecDepth 65536 in
set_option maxHeartbeats 40000000 in
theorem au1466_8 (l : Launch) (Z : State) (a0 : Array Value) (hw : ∀ d ∈ tables_1, d.before a0 Z = true) (n0 : Nat) (h0 : Heap) (hn0 : n0 ≤ h0.size) (o0 : Addr) (o1 : Addr) (o2 : Addr) (i0 : Int32) (P0 : Exa Z h0 o0 "com/example/lumencast/lumencast/model/Routes") (P1 : Fld Z h0 o0 "com/example/lumencast/lumencast/model/Routes" "fibres" "[I" (.ref o1)) (P2 : Fld Z h0 o0 "com/example/lumencast/lumencast/model/Routes" "firstHop" "[I" (.ref o2)) (P3 : Av Z h0 o1 .int ([.int i0])) (P4 : Av Z h0 o2 .int ([.int 0, .int 1, .int 1])) (g_o0 : n0 ≤ o0) (g_o1 : n0 ≤ o1) (g_o2 : n0 ≤ o2) (ne_o0_o1 : o0 ≠ o1) (ne_o0_o2 : o0 ≠ o2) (ne_o1_o2 : o1 ≠ o2) :
    Con l Z n0 [] (⟨"com/example/lumencast/lumencast/model/Routes", "hops", "(I)I"⟩ : MethodName) prog_25_method_2_code 2 (some .int) ({ frames := 0, cells := 0, slots := 0, locals := 0 } : Room) #[(.ref o0), (.int 1)] h0 (Qau1466_8 Z n0 h0 o0 o1 o2 i0) := by
  refine Con.of pf_7 (fun m => ef_au1466_8 m o0) hn0 ?_
  intro p e s m below meth c C
  refine C.aloadN d8_0 rfl rfl rfl ?_
  refine C.getF d8_1 rfl (tw hw 45 rfl) P2 ?_
  refine C.iloadN d8_4 rfl rfl ?_
  refine C.iconst 1 d8_5 rfl rfl ?_
  refine C.iadd d8_6 rfl ?_
  show Go p l e ({ frames := 0, cells := 0, slots := 0, locals := 0 } : Room) s m #[(.ref o0), (.int 1)] below meth c n0 (FinQ s n0 (Qau1466_8 Z n0 h0 o0 o1 o2 i0) ({ frames := 0, cells := 0, slots := 0, locals := 0 } : Room).cells ({ frames := 0, cells := 0, slots := 0, locals := 0 } : Room).slots) h0 0 0 7 #[.val (.ref o0), .val (.int 1)] [(.int 2), (.ref o2)]
  refine C.iaload (.int 1) d8_7 rfl P4 (by decide) rfl ?_
  refine C.aloadN d8_8 rfl rfl rfl ?_
  refine C.getF d8_9 rfl (tw hw 45 rfl) P2 ?_
  refine C.iloadN d8_12 rfl rfl ?_
  refine C.iaload (.int 1) d8_13 rfl P4 (by decide) rfl ?_
  refine C.isub d8_14 rfl ?_
  show Go p l e ({ frames := 0, cells := 0, slots := 0, locals := 0 } : Room) s m #[(.ref o0), (.int 1)] below meth c n0 (FinQ s n0 (Qau1466_8 Z n0 h0 o0 o1 o2 i0) ({ frames := 0, cells := 0, slots := 0, locals := 0 } : Room).cells ({ frames := 0, cells := 0, slots := 0, locals := 0 } : Room).slots) h0 0 0 15 #[.val (.ref o0), .val (.int 1)] [(.int 0)]
  exact C.retI d8_15 (by decide) (by decide) ⟨rfl, rfl⟩
def Qau1471_10 (Z : State) (n0 : Nat) (h0 : Heap) (o0 : Addr) (o1 : Addr) (o2 : Addr) (i0 : Int32) (v : Option Value) (h' : Heap) : Prop := (v = some (.int i0)) ∧ (h0 = h')
theorem ef_au1471_10 (m : MethodId) (o0 : Addr) : entryFrame m #[(.ref o0), (.int 0), (.int 0)] 3 = mkF m 0 #[.val (.ref o0), .val (.int 0), .val (.int 0)] [] := by first | (simp [entryFrame, mkF, argsToLocals, Value.category]; done) | rfl
set_option maxRecDepth 65536 in
set_option maxHeartbeats 40000000 in
theorem au1471_10 (l : Launch) (Z : State) (a0 : Array Value) (hw : ∀ d ∈ tables_1, d.before a0 Z = true) (n0 : Nat) (h0 : Heap) (hn0 : n0 ≤ h0.size) (o0 : Addr) (o1 : Addr) (o2 : Addr) (i0 : Int32) (P0 : Exa Z h0 o0 "com/example/lumencast/lumencast/model/Routes") (P1 : Fld Z h0 o0 "com/example/lumencast/lumencast/model/Routes" "fibres" "[I" (.ref o1)) (P2 : Fld Z h0 o0 "com/example/lumencast/lumencast/model/Routes" "firstHop" "[I" (.ref o2)) (P3 : Av Z h0 o1 .int ([.int i0])) (P4 : Av Z h0 o2 .int ([.int 0, .int 1, .int 1])) (g_o0 : n0 ≤ o0) (g_o1 : n0 ≤ o1) (g_o2 : n0 ≤ o2) (ne_o0_o1 : o0 ≠ o1) (ne_o0_o2 : o0 ≠ o2) (ne_o1_o2 : o1 ≠ o2) :
    Con l Z n0 [] (⟨"com/example/lumencast/lumencast/model/Routes", "fibre", "(II)I"⟩ : MethodName) prog_25_method_3_code 3 (some .int) ({ frames := 0, cells := 0, slots := 0, locals := 0 } : Room) #[(.ref o0), (.int 0), (.int 0)] h0 (Qau1471_10 Z n0 h0 o0 o1 o2 i0) := by
  refine Con.of pf_9 (fun m => ef_au1471_10 m o0) hn0 ?_
  intro p e s m below meth c C
  refine C.aloadN d10_0 rfl rfl rfl ?_
  refine C.getF d10_1 rfl (tw hw 47 rfl) P1 ?_
  refine C.aloadN d10_4 rfl rfl rfl ?_
  refine C.getF d10_5 rfl (tw hw 45 rfl) P2 ?_
  refine C.iloadN d10_8 rfl rfl ?_
  refine C.iaload (.int 0) d10_9 rfl P4 (by decide) rfl ?_
  refine C.iloadN d10_10 rfl rfl ?_
  refine C.iadd d10_11 rfl ?_
  show Go p l e ({ frames := 0, cells := 0, slots := 0, locals := 0 } : Room) s m #[(.ref o0), (.int 0), (.int 0)] below meth c n0 (FinQ s n0 (Qau1471_10 Z n0 h0 o0 o1 o2 i0) ({ frames := 0, cells := 0, slots := 0, locals := 0 } : Room).cells ({ frames := 0, cells := 0, slots := 0, locals := 0 } : Room).slots) h0 0 0 12 #[.val (.ref o0), .val (.int 0), .val (.int 0)] [(.int 0), (.ref o1)]
  refine C.iaload (.int i0) d10_12 rfl P3 (by decide) rfl ?_
  exact C.retI d10_13 (by decide) (by decide) ⟨rfl, rfl⟩
def Qau1534_9 (Z : State) (n0 : Nat) (h0 : Heap) (o0 : Addr) (i0 : Int32) (o1 : Addr) (o2 : Addr) (i1 : Int32) (v : Option Value) (h' : Heap) : Prop := (v = none) ∧ (Keep h0 h' [o1, o2]) ∧ (Av Z h' o1 .int ([.int i1, .int i0])) ∧ (Av Z h' o2 .int ([.int 0, .int 1, .int 2]))
theorem ef_au1534_9 (m : MethodId) (o0 : Addr) (i0 : Int32) : entryFrame m #[(.ref o0), (.int i0)] 3 = mkF m 0 #[.val (.ref o0), .val (.int i0), .unset] [] := by first | (simp [entryFrame, mkF, argsToLocals, Value.category]; done) | rfl
set_option maxRecDepth 65536 in
set_option maxHeartbeats 40000000 in
theorem au1534_9 (l : Launch) (Z : State) (a0 : Array Value) (hw : ∀ d ∈ tables_1, d.before a0 Z = true) (n0 : Nat) (h0 : Heap) (hn0 : n0 ≤ h0.size) (o0 : Addr) (i0 : Int32) (o1 : Addr) (o2 : Addr) (i1 : Int32) (P0 : Exa Z h0 o0 "com/example/lumencast/lumencast/model/Routes$Builder") (P1 : Fld Z h0 o0 "com/example/lumencast/lumencast/model/Routes$Builder" "fibres" "[I" (.ref o1)) (P2 : Fld Z h0 o0 "com/example/lumencast/lumencast/model/Routes$Builder" "firstHop" "[I" (.ref o2)) (P3 : Fld Z h0 o0 "com/example/lumencast/lumencast/model/Routes$Builder" "pairsDone" "I" (.int 1)) (P4 : Av Z h0 o1 .int ([.int i1, .int 0])) (P5 : Av Z h0 o2 .int ([.int 0, .int 1, .int 1])) (g_o0 : n0 ≤ o0) (g_o1 : n0 ≤ o1) (g_o2 : n0 ≤ o2) (ne_o0_o1 : o0 ≠ o1) (ne_o0_o2 : o0 ≠ o2) (ne_o1_o2 : o1 ≠ o2) :
    Con l Z n0 [] (⟨"com/example/lumencast/lumencast/model/Routes$Builder", "addFibre", "(I)V"⟩ : MethodName) prog_26_method_2_code 3 none ({ frames := 0, cells := 0, slots := 0, locals := 0 } : Room) #[(.ref o0), (.int i0)] h0 (Qau1534_9 Z n0 h0 o0 i0 o1 o2 i1) := by
  refine Con.of pf_8 (fun m => ef_au1534_9 m o0 i0) hn0 ?_
  intro p e s m below meth c C
  refine C.aloadN d9_0 rfl rfl rfl ?_
  refine C.getF d9_1 rfl (tw hw 10 rfl) P2 ?_
  refine C.aloadN d9_4 rfl rfl rfl ?_
  refine C.getF d9_5 rfl (tw hw 19 rfl) P3 ?_
  refine C.iconst 1 d9_8 rfl rfl ?_
  refine C.iadd d9_9 rfl ?_
  show Go p l e ({ frames := 0, cells := 0, slots := 0, locals := 0 } : Room) s m #[(.ref o0), (.int i0)] below meth c n0 (FinQ s n0 (Qau1534_9 Z n0 h0 o0 i0 o1 o2 i1) ({ frames := 0, cells := 0, slots := 0, locals := 0 } : Room).cells ({ frames := 0, cells := 0, slots := 0, locals := 0 } : Room).slots) h0 0 0 10 #[.val (.ref o0), .val (.int i0), .unset] [(.int 2), (.ref o2)]
  refine C.iaload (.int 1) d9_10 rfl P5 (by decide) rfl ?_
  refine C.istoreN (Ls' := #[.val (.ref o0), .val (.int i0), .val (.int 1)]) d9_11 rfl rfl ?_
  refine C.iloadN d9_12 rfl rfl ?_
  refine C.aloadN d9_13 rfl rfl rfl ?_
  refine C.getF d9_14 rfl (tw hw 12 rfl) P1 ?_
  refine C.alen d9_17 rfl P4 ?_
  show Go p l e ({ frames := 0, cells := 0, slots := 0, locals := 0 } : Room) s m #[(.ref o0), (.int i0)] below meth c n0 (FinQ s n0 (Qau1534_9 Z n0 h0 o0 i0 o1 o2 i1) ({ frames := 0, cells := 0, slots := 0, locals := 0 } : Room).cells ({ frames := 0, cells := 0, slots := 0, locals := 0 } : Room).slots) h0 0 0 18 #[.val (.ref o0), .val (.int i0), .val (.int 1)] [(.int 2), (.int 1)]
  refine C.icmp_ne_t d9_18 (by decide) rfl (by decide) ?_
  refine C.aloadN d9_77 rfl rfl rfl ?_
  refine C.getF d9_78 rfl (tw hw 12 rfl) P1 ?_
  refine C.iloadN d9_81 rfl rfl ?_
  refine C.iloadN d9_82 rfl rfl ?_
  refine C.iastore d9_83 rfl P4 g_o1 (by decide) (Nat.le_of_ble_eq_true rfl) (fun h1571 W1572 F1573 => ?_)
  have F1574 : Exa Z h1571 o0 "com/example/lumencast/lumencast/model/Routes$Builder" := Exa.wr W1572 P0
  have F1575 : Fld Z h1571 o0 "com/example/lumencast/lumencast/model/Routes$Builder" "fibres" "[I" (.ref o1) := Fld.other W1572 P1 (Or.inl ne_o0_o1)
  have F1576 : Fld Z h1571 o0 "com/example/lumencast/lumencast/model/Routes$Builder" "firstHop" "[I" (.ref o2) := Fld.other W1572 P2 (Or.inl ne_o0_o1)
  have F1577 : Fld Z h1571 o0 "com/example/lumencast/lumencast/model/Routes$Builder" "pairsDone" "I" (.int 1) := Fld.other W1572 P3 (Or.inl ne_o0_o1)
  have F1578 : Av Z h1571 o2 .int ([.int 0, .int 1, .int 1]) := P5.other W1572 (Ne.symm ne_o1_o2)
  have F1579 : Av Z h1571 o1 .int ([.int i1, .int i0]) := F1573
  refine C.aloadN d9_84 rfl rfl rfl ?_
  refine C.getF d9_85 rfl (tw hw 10 rfl) F1576 ?_
  refine C.aloadN d9_88 rfl rfl rfl ?_
  refine C.getF d9_89 rfl (tw hw 19 rfl) F1577 ?_
  refine C.iconst 1 d9_92 rfl rfl ?_
  refine C.iadd d9_93 rfl ?_
  show Go p l e ({ frames := 0, cells := 0, slots := 0, locals := 0 } : Room) s m #[(.ref o0), (.int i0)] below meth c n0 (FinQ s n0 (Qau1534_9 Z n0 h0 o0 i0 o1 o2 i1) ({ frames := 0, cells := 0, slots := 0, locals := 0 } : Room).cells ({ frames := 0, cells := 0, slots := 0, locals := 0 } : Room).slots) h1571 0 0 94 #[.val (.ref o0), .val (.int i0), .val (.int 1)] [(.int 2), (.ref o2)]
  refine C.iloadN d9_94 rfl rfl ?_
  refine C.iconst 1 d9_95 rfl rfl ?_
  refine C.iadd d9_96 rfl ?_
  show Go p l e ({ frames := 0, cells := 0, slots := 0, locals := 0 } : Room) s m #[(.ref o0), (.int i0)] below meth c n0 (FinQ s n0 (Qau1534_9 Z n0 h0 o0 i0 o1 o2 i1) ({ frames := 0, cells := 0, slots := 0, locals := 0 } : Room).cells ({ frames := 0, cells := 0, slots := 0, locals := 0 } : Room).slots) h1571 0 0 97 #[.val (.ref o0), .val (.int i0), .val (.int 1)] [(.int 2), (.int 2), (.ref o2)]
  refine C.iastore d9_97 rfl F1578 g_o2 (by decide) (Nat.le_of_ble_eq_true rfl) (fun h1580 W1581 F1582 => ?_)
  have F1583 : Exa Z h1580 o0 "com/example/lumencast/lumencast/model/Routes$Builder" := Exa.wr W1581 F1574
  have F1584 : Fld Z h1580 o0 "com/example/lumencast/lumencast/model/Routes$Builder" "fibres" "[I" (.ref o1) := Fld.other W1581 F1575 (Or.inl ne_o0_o2)
  have F1585 : Fld Z h1580 o0 "com/example/lumencast/lumencast/model/Routes$Builder" "firstHop" "[I" (.ref o2) := Fld.other W1581 F1576 (Or.inl ne_o0_o2)
  have F1586 : Fld Z h1580 o0 "com/example/lumencast/lumencast/model/Routes$Builder" "pairsDone" "I" (.int 1) := Fld.other W1581 F1577 (Or.inl ne_o0_o2)
  have F1587 : Av Z h1580 o1 .int ([.int i1, .int i0]) := F1579.other W1581 ne_o1_o2
  have F1588 : Av Z h1580 o2 .int ([.int 0, .int 1, .int 2]) := F1582
  exact C.ret0 d9_98 (by decide) (by decide) ⟨rfl, (((Keep.refl h0 [o1, o2]).wr W1572 (Or.inl (List.mem_of_getElem? (i := 0) rfl))).wr W1581 (Or.inl (List.mem_of_getElem? (i := 1) rfl))), F1587, F1588⟩
def Qau1601_3 (Z : State) (n0 : Nat) (h0 : Heap) (o0 : Addr) (o1 : Addr) (o2 : Addr) (i0 : Int32) (i1 : Int32) (v : Option Value) (h' : Heap) : Prop := (v = none) ∧ (Keep h0 h' [o0]) ∧ (Fld Z h' o0 "com/example/lumencast/lumencast/model/Routes$Builder" "fibres" "[I" (.ref o1)) ∧ (Fld Z h' o0 "com/example/lumencast/lumencast/model/Routes$Builder" "firstHop" "[I" (.ref o2)) ∧ (Fld Z h' o0 "com/example/lumencast/lumencast/model/Routes$Builder" "pairsDone" "I" (.int 2))
theorem ef_au1601_3 (m : MethodId) (o0 : Addr) : entryFrame m #[(.ref o0)] 1 = mkF m 0 #[.val (.ref o0)] [] := by first | (simp [entryFrame, mkF, argsToLocals, Value.category]; done) | rfl
set_option maxRecDepth 65536 in
set_option maxHeartbeats 40000000 in
theorem au1601_3 (l : Launch) (Z : State) (a0 : Array Value) (hw : ∀ d ∈ tables_1, d.before a0 Z = true) (n0 : Nat) (h0 : Heap) (hn0 : n0 ≤ h0.size) (o0 : Addr) (o1 : Addr) (o2 : Addr) (i0 : Int32) (i1 : Int32) (P0 : Exa Z h0 o0 "com/example/lumencast/lumencast/model/Routes$Builder") (P1 : Fld Z h0 o0 "com/example/lumencast/lumencast/model/Routes$Builder" "fibres" "[I" (.ref o1)) (P2 : Fld Z h0 o0 "com/example/lumencast/lumencast/model/Routes$Builder" "firstHop" "[I" (.ref o2)) (P3 : Fld Z h0 o0 "com/example/lumencast/lumencast/model/Routes$Builder" "pairsDone" "I" (.int 1)) (P4 : Av Z h0 o1 .int ([.int i0, .int i1])) (P5 : Av Z h0 o2 .int ([.int 0, .int 1, .int 2])) (g_o0 : n0 ≤ o0) (g_o1 : n0 ≤ o1) (g_o2 : n0 ≤ o2) (ne_o0_o1 : o0 ≠ o1) (ne_o0_o2 : o0 ≠ o2) (ne_o1_o2 : o1 ≠ o2) :
    Con l Z n0 [] (⟨"com/example/lumencast/lumencast/model/Routes$Builder", "endRoute", "()V"⟩ : MethodName) prog_26_method_3_code 1 none ({ frames := 0, cells := 0, slots := 0, locals := 0 } : Room) #[(.ref o0)] h0 (Qau1601_3 Z n0 h0 o0 o1 o2 i0 i1) := by
  refine Con.of pf_3 (fun m => ef_au1601_3 m o0) hn0 ?_
  intro p e s m below meth c C
  refine C.aloadN d3_0 rfl rfl rfl ?_
  refine C.dup d3_1 rfl rfl ?_
  refine C.getF d3_2 rfl (tw hw 19 rfl) P3 ?_
  refine C.iconst 1 d3_5 rfl rfl ?_
  refine C.iadd d3_6 rfl ?_
  show Go p l e ({ frames := 0, cells := 0, slots := 0, locals := 0 } : Room) s m #[(.ref o0)] below meth c n0 (FinQ s n0 (Qau1601_3 Z n0 h0 o0 o1 o2 i0 i1) ({ frames := 0, cells := 0, slots := 0, locals := 0 } : Room).cells ({ frames := 0, cells := 0, slots := 0, locals := 0 } : Room).slots) h0 0 0 7 #[.val (.ref o0)] [(.int 2), (.ref o0)]
  refine C.putF d3_7 rfl (tw hw 19 rfl) P3 P0 (Or.inl (tw hw 20 rfl)) (tw hw 1 rfl) (ty := .int) (by decide) rfl rfl g_o0 (fun h1618 W1619 F1620 => ?_)
  have F1621 : Exa Z h1618 o0 "com/example/lumencast/lumencast/model/Routes$Builder" := Exa.wr W1619 P0
  have F1622 : Fld Z h1618 o0 "com/example/lumencast/lumencast/model/Routes$Builder" "fibres" "[I" (.ref o1) := Fld.other W1619 P1 (Or.inr (slot_ne (C := "com/example/lumencast/lumencast/model/Routes$Builder") (t := (.array .int)) (t' := .int) (Or.inl (tw hw 13 rfl)) (Or.inl (tw hw 20 rfl)) (by decide) (by decide) (by decide)))
  have F1623 : Fld Z h1618 o0 "com/example/lumencast/lumencast/model/Routes$Builder" "firstHop" "[I" (.ref o2) := Fld.other W1619 P2 (Or.inr (slot_ne (C := "com/example/lumencast/lumencast/model/Routes$Builder") (t := (.array .int)) (t' := .int) (Or.inr (tw hw 11 rfl)) (Or.inl (tw hw 20 rfl)) (by decide) (by decide) (by decide)))
  have F1624 : Av Z h1618 o1 .int ([.int i0, .int i1]) := P4.other W1619 (Ne.symm ne_o0_o1)
  have F1625 : Av Z h1618 o2 .int ([.int 0, .int 1, .int 2]) := P5.other W1619 (Ne.symm ne_o0_o2)
  refine C.aloadN d3_10 rfl rfl rfl ?_
  refine C.getF d3_11 rfl (tw hw 19 rfl) F1620 ?_
  refine C.iconst 1 d3_14 rfl rfl ?_
  refine C.iadd d3_15 rfl ?_
  show Go p l e ({ frames := 0, cells := 0, slots := 0, locals := 0 } : Room) s m #[(.ref o0)] below meth c n0 (FinQ s n0 (Qau1601_3 Z n0 h0 o0 o1 o2 i0 i1) ({ frames := 0, cells := 0, slots := 0, locals := 0 } : Room).cells ({ frames := 0, cells := 0, slots := 0, locals := 0 } : Room).slots) h1618 0 0 16 #[.val (.ref o0)] [(.int 3)]
  refine C.aloadN d3_16 rfl rfl rfl ?_
  refine C.getF d3_17 rfl (tw hw 10 rfl) F1623 ?_
  refine C.alen d3_20 rfl F1625 ?_
  show Go p l e ({ frames := 0, cells := 0, slots := 0, locals := 0 } : Room) s m #[(.ref o0)] below meth c n0 (FinQ s n0 (Qau1601_3 Z n0 h0 o0 o1 o2 i0 i1) ({ frames := 0, cells := 0, slots := 0, locals := 0 } : Room).cells ({ frames := 0, cells := 0, slots := 0, locals := 0 } : Room).slots) h1618 0 0 21 #[.val (.ref o0)] [(.int 3), (.int 3)]
  refine C.icmp_ge_t d3_21 (by decide) rfl (by decide) ?_
  exact C.ret0 d3_44 (by decide) (by decide) ⟨rfl, ((Keep.refl h0 [o0]).wr W1619 (Or.inl (List.mem_of_getElem? (i := 0) rfl))), F1622, F1623, F1620⟩
def Qau1659_7 (Z : State) (n0 : Nat) (h0 : Heap) (o0 : Addr) (o1 : Addr) (o2 : Addr) (i0 : Int32) (i1 : Int32) (v : Option Value) (h' : Heap) : Prop := (v = none) ∧ (Keep h0 h' [o0]) ∧ (Fld Z h' o0 "com/example/lumencast/lumencast/model/Routes" "fibres" "[I" (.ref o2)) ∧ (Fld Z h' o0 "com/example/lumencast/lumencast/model/Routes" "firstHop" "[I" (.ref o1))
theorem ef_au1659_7 (m : MethodId) (o0 : Addr) (o1 : Addr) (o2 : Addr) : entryFrame m #[(.ref o0), (.ref o1), (.ref o2)] 3 = mkF m 0 #[.val (.ref o0), .val (.ref o1), .val (.ref o2)] [] := by first | (simp [entryFrame, mkF, argsToLocals, Value.category]; done) | rfl
set_option maxRecDepth 65536 in
set_option maxHeartbeats 40000000 in
theorem au1659_7 (l : Launch) (Z : State) (a0 : Array Value) (hw : ∀ d ∈ tables_1, d.before a0 Z = true) (n0 : Nat) (h0 : Heap) (hn0 : n0 ≤ h0.size) (o0 : Addr) (o1 : Addr) (o2 : Addr) (i0 : Int32) (i1 : Int32) (P0 : Exa Z h0 o0 "com/example/lumencast/lumencast/model/Routes") (P1 : Fld Z h0 o0 "com/example/lumencast/lumencast/model/Routes" "fibres" "[I" (.null)) (P2 : Fld Z h0 o0 "com/example/lumencast/lumencast/model/Routes" "firstHop" "[I" (.null)) (P3 : Av Z h0 o1 .int ([.int 0, .int 1, .int 2])) (P4 : Av Z h0 o2 .int ([.int i0, .int i1])) (g_o0 : n0 ≤ o0) (g_o1 : n0 ≤ o1) (g_o2 : n0 ≤ o2) (ne_o0_o1 : o0 ≠ o1) (ne_o0_o2 : o0 ≠ o2) (ne_o1_o2 : o1 ≠ o2) :
    Con l Z n0 [] (⟨"com/example/lumencast/lumencast/model/Routes", "<init>", "([I[I)V"⟩ : MethodName) prog_25_method_1_code 3 none ({ frames := 1, cells := 0, slots := 0, locals := 12 } : Room) #[(.ref o0), (.ref o1), (.ref o2)] h0 (Qau1659_7 Z n0 h0 o0 o1 o2 i0 i1) := by
  refine Con.of pf_6 (fun m => ef_au1659_7 m o0 o1 o2) hn0 ?_
  intro p e s m below meth c C
  refine C.aloadN d7_0 rfl rfl rfl ?_
  refine C.initO 0 d7_1 rfl (tw hw 44 rfl) (tw hw 7 rfl) (tw hw 8 rfl) rfl (by decide) (Nat.le_of_eq rfl) (by decide) ?_
  refine C.aloadN d7_4 rfl rfl rfl ?_
  refine C.aloadN d7_5 rfl rfl rfl ?_
  refine C.putF d7_6 rfl (tw hw 45 rfl) P2 P0 (Or.inr ⟨(tw hw 46 rfl), rfl, rfl⟩) (tw hw 27 rfl) (ty := (.array .int)) (by decide) rfl rfl g_o0 (fun h1688 W1689 F1690 => ?_)
  have F1691 : Exa Z h1688 o0 "com/example/lumencast/lumencast/model/Routes" := Exa.wr W1689 P0
  have F1692 : Fld Z h1688 o0 "com/example/lumencast/lumencast/model/Routes" "fibres" "[I" (.null) := Fld.other W1689 P1 (Or.inr (slot_ne (C := "com/example/lumencast/lumencast/model/Routes") (t := (.array .int)) (t' := (.array .int)) (Or.inr (tw hw 48 rfl)) (Or.inr (tw hw 46 rfl)) (by decide) (by decide) (by decide)))
  have F1693 : Av Z h1688 o1 .int ([.int 0, .int 1, .int 2]) := P3.other W1689 (Ne.symm ne_o0_o1)
  have F1694 : Av Z h1688 o2 .int ([.int i0, .int i1]) := P4.other W1689 (Ne.symm ne_o0_o2)
  refine C.aloadN d7_9 rfl rfl rfl ?_
  refine C.aloadN d7_10 rfl rfl rfl ?_
  refine C.putF d7_11 rfl (tw hw 47 rfl) F1692 F1691 (Or.inr ⟨(tw hw 48 rfl), rfl, rfl⟩) (tw hw 27 rfl) (ty := (.array .int)) (by decide) rfl rfl g_o0 (fun h1695 W1696 F1697 => ?_)
  have F1698 : Exa Z h1695 o0 "com/example/lumencast/lumencast/model/Routes" := Exa.wr W1696 F1691
  have F1699 : Av Z h1695 o1 .int ([.int 0, .int 1, .int 2]) := F1693.other W1696 (Ne.symm ne_o0_o1)
  have F1700 : Av Z h1695 o2 .int ([.int i0, .int i1]) := F1694.other W1696 (Ne.symm ne_o0_o2)
  have F1701 : Fld Z h1695 o0 "com/example/lumencast/lumencast/model/Routes" "firstHop" "[I" (.ref o1) := Fld.other W1696 F1690 (Or.inr (slot_ne (C := "com/example/lumencast/lumencast/model/Routes") (t := (.array .int)) (t' := (.array .int)) (Or.inr (tw hw 46 rfl)) (Or.inr (tw hw 48 rfl)) (by decide) (by decide) (by decide)))
  exact C.ret0 d7_14 (by decide) (by decide) ⟨rfl, (((Keep.refl h0 [o0]).wr W1689 (Or.inl (List.mem_of_getElem? (i := 0) rfl))).wr W1696 (Or.inl (List.mem_of_getElem? (i := 0) rfl))), F1697, F1701⟩
def Qau1639_4 (Z : State) (n0 : Nat) (h0 : Heap) (o0 : Addr) (o1 : Addr) (o2 : Addr) (i0 : Int32) (i1 : Int32) (v : Option Value) (h' : Heap) : Prop := ∃ (f0 : Addr), (v = some (.ref f0)) ∧ (Keep h0 h' []) ∧ (n0 ≤ f0) ∧ (h0.size ≤ f0) ∧ (Exa Z h' f0 "com/example/lumencast/lumencast/model/Routes") ∧ (Fld Z h' f0 "com/example/lumencast/lumencast/model/Routes" "fibres" "[I" (.ref o1)) ∧ (Fld Z h' f0 "com/example/lumencast/lumencast/model/Routes" "firstHop" "[I" (.ref o2))
theorem ef_au1639_4 (m : MethodId) (o0 : Addr) : entryFrame m #[(.ref o0)] 2 = mkF m 0 #[.val (.ref o0), .unset] [] := by first | (simp [entryFrame, mkF, argsToLocals, Value.category]; done) | rfl
set_option maxRecDepth 65536 in
set_option maxHeartbeats 40000000 in
theorem au1639_4 (l : Launch) (Z : State) (a0 : Array Value) (hw : ∀ d ∈ tables_1, d.before a0 Z = true) (n0 : Nat) (h0 : Heap) (hn0 : n0 ≤ h0.size) (o0 : Addr) (o1 : Addr) (o2 : Addr) (i0 : Int32) (i1 : Int32) (P0 : Exa Z h0 o0 "com/example/lumencast/lumencast/model/Routes$Builder") (P1 : Fld Z h0 o0 "com/example/lumencast/lumencast/model/Routes$Builder" "fibres" "[I" (.ref o1)) (P2 : Fld Z h0 o0 "com/example/lumencast/lumencast/model/Routes$Builder" "firstHop" "[I" (.ref o2)) (P3 : Fld Z h0 o0 "com/example/lumencast/lumencast/model/Routes$Builder" "pairsDone" "I" (.int 2)) (P4 : Av Z h0 o1 .int ([.int i0, .int i1])) (P5 : Av Z h0 o2 .int ([.int 0, .int 1, .int 2])) (g_o0 : n0 ≤ o0) (g_o1 : n0 ≤ o1) (g_o2 : n0 ≤ o2) (ne_o0_o1 : o0 ≠ o1) (ne_o0_o2 : o0 ≠ o2) (ne_o1_o2 : o1 ≠ o2) :
    Con l Z n0 [] (⟨"com/example/lumencast/lumencast/model/Routes$Builder", "build", "()Lcom/example/lumencast/lumencast/model/Routes;"⟩ : MethodName) prog_26_method_4_code 2 (some (.object "com/example/lumencast/lumencast/model/Routes")) ({ frames := 2, cells := 1, slots := 2, locals := 27 } : Room) #[(.ref o0)] h0 (Qau1639_4 Z n0 h0 o0 o1 o2 i0 i1) := by
  refine Con.of pf_4 (fun m => ef_au1639_4 m o0) hn0 ?_
  intro p e s m below meth c C
  refine C.aloadN d4_0 rfl rfl rfl ?_
  refine C.getF d4_1 rfl (tw hw 19 rfl) P3 ?_
  refine C.iconst 1 d4_4 rfl rfl ?_
  refine C.iadd d4_5 rfl ?_
  show Go p l e ({ frames := 2, cells := 1, slots := 2, locals := 27 } : Room) s m #[(.ref o0)] below meth c n0 (FinQ s n0 (Qau1639_4 Z n0 h0 o0 o1 o2 i0 i1) ({ frames := 2, cells := 1, slots := 2, locals := 27 } : Room).cells ({ frames := 2, cells := 1, slots := 2, locals := 27 } : Room).slots) h0 0 0 6 #[.val (.ref o0), .unset] [(.int 3)]
  refine C.aloadN d4_6 rfl rfl rfl ?_
  refine C.getF d4_7 rfl (tw hw 10 rfl) P2 ?_
  refine C.alen d4_10 rfl P5 ?_
  show Go p l e ({ frames := 2, cells := 1, slots := 2, locals := 27 } : Room) s m #[(.ref o0)] below meth c n0 (FinQ s n0 (Qau1639_4 Z n0 h0 o0 o1 o2 i0 i1) ({ frames := 2, cells := 1, slots := 2, locals := 27 } : Room).cells ({ frames := 2, cells := 1, slots := 2, locals := 27 } : Room).slots) h0 0 0 11 #[.val (.ref o0), .unset] [(.int 3), (.int 3)]
  refine C.icmp_eq_t d4_11 (by decide) rfl (by decide) ?_
  refine C.aloadN d4_39 rfl rfl rfl ?_
  refine C.getF d4_40 rfl (tw hw 10 rfl) P2 ?_
  refine C.aloadN d4_43 rfl rfl rfl ?_
  refine C.getF d4_44 rfl (tw hw 19 rfl) P3 ?_
  refine C.iaload (.int 2) d4_47 rfl P5 (by decide) rfl ?_
  refine C.istoreN (Ls' := #[.val (.ref o0), .val (.int 2)]) d4_48 rfl rfl ?_
  refine C.new d4_49 rfl (tw hw 26 rfl) (tw hw 27 rfl) (tw hw 28 rfl) (by decide) (by decide) (fun a1751 h1752 z1756 g1757 X1754 E1753 D1755 => ?_)
  have gz1758 : h0.size ≤ a1751 := by rw [z1756]; exact (Keep.refl h0 []).1
  have ne1759 : o0 ≠ a1751 := by rw [z1756]; exact Nat.ne_of_lt P0.lt
  have ne1760 : o1 ≠ a1751 := by rw [z1756]; exact Nat.ne_of_lt P4.lt
  have ne1761 : o2 ≠ a1751 := by rw [z1756]; exact Nat.ne_of_lt P5.lt
  have F1762 : Exa Z h1752 o0 "com/example/lumencast/lumencast/model/Routes$Builder" := Exa.ext X1754 P0
  have F1763 : Fld Z h1752 o0 "com/example/lumencast/lumencast/model/Routes$Builder" "fibres" "[I" (.ref o1) := Fld.ext X1754 P1
  have F1764 : Fld Z h1752 o0 "com/example/lumencast/lumencast/model/Routes$Builder" "firstHop" "[I" (.ref o2) := Fld.ext X1754 P2
  have F1765 : Fld Z h1752 o0 "com/example/lumencast/lumencast/model/Routes$Builder" "pairsDone" "I" (.int 2) := Fld.ext X1754 P3
  have F1766 : Av Z h1752 o1 .int ([.int i0, .int i1]) := P4.ext X1754
  have F1767 : Av Z h1752 o2 .int ([.int 0, .int 1, .int 2]) := P5.ext X1754
  have F1768 : Fld Z h1752 a1751 "com/example/lumencast/lumencast/model/Routes" "firstHop" "[I" (.null) := D1755 (Or.inr (tw hw 46 rfl)) (ty := (.array .int)) (by decide)
  have F1769 : Fld Z h1752 a1751 "com/example/lumencast/lumencast/model/Routes" "fibres" "[I" (.null) := D1755 (Or.inr (tw hw 48 rfl)) (ty := (.array .int)) (by decide)
  refine C.dup d4_52 rfl rfl ?_
  refine C.aloadN d4_53 rfl rfl rfl ?_
  refine C.getF d4_54 rfl (tw hw 10 rfl) F1764 ?_
  refine C.iloadN d4_57 rfl rfl ?_
  refine C.aloadN d4_58 rfl rfl rfl ?_
  refine C.getF d4_59 rfl (tw hw 12 rfl) F1763 ?_
  refine C.alen d4_62 rfl F1766 ?_
  show Go p l e ({ frames := 2, cells := 1, slots := 2, locals := 27 } : Room) s m #[(.ref o0)] below meth c n0 (FinQ s n0 (Qau1639_4 Z n0 h0 o0 o1 o2 i0 i1) ({ frames := 2, cells := 1, slots := 2, locals := 27 } : Room).cells ({ frames := 2, cells := 1, slots := 2, locals := 27 } : Room).slots) h1752 1 2 63 #[.val (.ref o0), .val (.int 2)] [(.int 2), (.int 2), (.ref o2), (.ref a1751), (.ref a1751)]
  refine C.icmp_ne_f d4_63 rfl (by decide) ?_
  refine C.aloadN d4_66 rfl rfl rfl ?_
  refine C.getF d4_67 rfl (tw hw 12 rfl) F1763 ?_
  refine C.goto d4_70 (by decide) rfl ?_
  refine C.callNN (argsL := [(.ref o2), (.ref o1)]) (rest := [(.ref a1751)]) 1 (fun zz => au1659_7 l Z a0 hw n0 h1752 zz a1751 o2 o1 i0 i1 E1753 F1769 F1768 F1767 F1766 g1757 g_o2 g_o1 (Ne.symm ne1761) (Ne.symm ne1760) (Ne.symm ne_o1_o2)) d4_81 rfl rfl (tw hw 41 rfl) (tw hw 42 rfl) (tw hw 28 rfl) (tw hw 43 rfl) (by decide) pd_4 rfl rfl rfl (Nat.le_of_eq rfl) (by decide) (by decide) (by decide) (by decide) (fun v1770 h1771 r1772 => ?_)
  obtain ⟨rfl, K1773, F1774, F1775⟩ := r1772
  have F1776 : Exa Z h1771 o0 "com/example/lumencast/lumencast/model/Routes$Builder" := F1762.keep K1773
  have F1777 : Fld Z h1771 o0 "com/example/lumencast/lumencast/model/Routes$Builder" "fibres" "[I" (.ref o1) := F1763.keep K1773 (ninS ne1759 nin0)
  have F1778 : Fld Z h1771 o0 "com/example/lumencast/lumencast/model/Routes$Builder" "firstHop" "[I" (.ref o2) := F1764.keep K1773 (ninS ne1759 nin0)
  have F1779 : Fld Z h1771 o0 "com/example/lumencast/lumencast/model/Routes$Builder" "pairsDone" "I" (.int 2) := F1765.keep K1773 (ninS ne1759 nin0)
  have F1780 : Av Z h1771 o1 .int ([.int i0, .int i1]) := F1766.keep K1773 (ninS ne1760 nin0)
  have F1781 : Av Z h1771 o2 .int ([.int 0, .int 1, .int 2]) := F1767.keep K1773 (ninS ne1761 nin0)
  have F1782 : Exa Z h1771 a1751 "com/example/lumencast/lumencast/model/Routes" := E1753.keep K1773
  exact C.retA d4_84 rfl rfl (by decide) (by decide) ⟨a1751, rfl, (((Keep.refl h0 []).ext X1754).trans K1773 (allS (Or.inr gz1758) all0)), g1757, gz1758, F1782, F1774, F1775⟩
def Qau1804_8 (Z : State) (n0 : Nat) (h0 : Heap) (o0 : Addr) (o1 : Addr) (o2 : Addr) (i0 : Int32) (i1 : Int32) (v : Option Value) (h' : Heap) : Prop := (v = some (.int 1)) ∧ (h0 = h')
theorem ef_au1804_8 (m : MethodId) (o0 : Addr) : entryFrame m #[(.ref o0), (.int 0)] 2 = mkF m 0 #[.val (.ref o0), .val (.int 0)] [] := by first | (simp [entryFrame, mkF, argsToLocals, Value.category]; done) | rfl
set_option maxRecDepth 65536 in
set_option maxHeartbeats 40000000 in
theorem au1804_8 (l : Launch) (Z : State) (a0 : Array Value) (hw : ∀ d ∈ tables_1, d.before a0 Z = true) (n0 : Nat) (h0 : Heap) (hn0 : n0 ≤ h0.size) (o0 : Addr) (o1 : Addr) (o2 : Addr) (i0 : Int32) (i1 : Int32) (P0 : Exa Z h0 o0 "com/example/lumencast/lumencast/model/Routes") (P1 : Fld Z h0 o0 "com/example/lumencast/lumencast/model/Routes" "fibres" "[I" (.ref o1)) (P2 : Fld Z h0 o0 "com/example/lumencast/lumencast/model/Routes" "firstHop" "[I" (.ref o2)) (P3 : Av Z h0 o1 .int ([.int i0, .int i1])) (P4 : Av Z h0 o2 .int ([.int 0, .int 1, .int 2])) (g_o0 : n0 ≤ o0) (g_o1 : n0 ≤ o1) (g_o2 : n0 ≤ o2) (ne_o0_o1 : o0 ≠ o1) (ne_o0_o2 : o0 ≠ o2) (ne_o1_o2 : o1 ≠ o2) :
    Con l Z n0 [] (⟨"com/example/lumencast/lumencast/model/Routes", "hops", "(I)I"⟩ : MethodName) prog_25_method_2_code 2 (some .int) ({ frames := 0, cells := 0, slots := 0, locals := 0 } : Room) #[(.ref o0), (.int 0)] h0 (Qau1804_8 Z n0 h0 o0 o1 o2 i0 i1) := by
  refine Con.of pf_7 (fun m => ef_au1804_8 m o0) hn0 ?_
  intro p e s m below meth c C
  refine C.aloadN d8_0 rfl rfl rfl ?_
  refine C.getF d8_1 rfl (tw hw 45 rfl) P2 ?_
  refine C.iloadN d8_4 rfl rfl ?_
  refine C.iconst 1 d8_5 rfl rfl ?_
  refine C.iadd d8_6 rfl ?_
  show Go p l e ({ frames := 0, cells := 0, slots := 0, locals := 0 } : Room) s m #[(.ref o0), (.int 0)] below meth c n0 (FinQ s n0 (Qau1804_8 Z n0 h0 o0 o1 o2 i0 i1) ({ frames := 0, cells := 0, slots := 0, locals := 0 } : Room).cells ({ frames := 0, cells := 0, slots := 0, locals := 0 } : Room).slots) h0 0 0 7 #[.val (.ref o0), .val (.int 0)] [(.int 1), (.ref o2)]
  refine C.iaload (.int 1) d8_7 rfl P4 (by decide) rfl ?_
  refine C.aloadN d8_8 rfl rfl rfl ?_
  refine C.getF d8_9 rfl (tw hw 45 rfl) P2 ?_
  refine C.iloadN d8_12 rfl rfl ?_
  refine C.iaload (.int 0) d8_13 rfl P4 (by decide) rfl ?_
  refine C.isub d8_14 rfl ?_
  show Go p l e ({ frames := 0, cells := 0, slots := 0, locals := 0 } : Room) s m #[(.ref o0), (.int 0)] below meth c n0 (FinQ s n0 (Qau1804_8 Z n0 h0 o0 o1 o2 i0 i1) ({ frames := 0, cells := 0, slots := 0, locals := 0 } : Room).cells ({ frames := 0, cells := 0, slots := 0, locals := 0 } : Room).slots) h0 0 0 15 #[.val (.ref o0), .val (.int 0)] [(.int 1)]
  exact C.retI d8_15 (by decide) (by decide) ⟨rfl, rfl⟩
def Qau1809_8 (Z : State) (n0 : Nat) (h0 : Heap) (o0 : Addr) (o1 : Addr) (o2 : Addr) (i0 : Int32) (i1 : Int32) (v : Option Value) (h' : Heap) : Prop := (v = some (.int 1)) ∧ (h0 = h')
theorem ef_au1809_8 (m : MethodId) (o0 : Addr) : entryFrame m #[(.ref o0), (.int 1)] 2 = mkF m 0 #[.val (.ref o0), .val (.int 1)] [] := by first | (simp [entryFrame, mkF, argsToLocals, Value.category]; done) | rfl
set_option maxRecDepth 65536 in
set_option maxHeartbeats 40000000 in
theorem au1809_8 (l : Launch) (Z : State) (a0 : Array Value) (hw : ∀ d ∈ tables_1, d.before a0 Z = true) (n0 : Nat) (h0 : Heap) (hn0 : n0 ≤ h0.size) (o0 : Addr) (o1 : Addr) (o2 : Addr) (i0 : Int32) (i1 : Int32) (P0 : Exa Z h0 o0 "com/example/lumencast/lumencast/model/Routes") (P1 : Fld Z h0 o0 "com/example/lumencast/lumencast/model/Routes" "fibres" "[I" (.ref o1)) (P2 : Fld Z h0 o0 "com/example/lumencast/lumencast/model/Routes" "firstHop" "[I" (.ref o2)) (P3 : Av Z h0 o1 .int ([.int i0, .int i1])) (P4 : Av Z h0 o2 .int ([.int 0, .int 1, .int 2])) (g_o0 : n0 ≤ o0) (g_o1 : n0 ≤ o1) (g_o2 : n0 ≤ o2) (ne_o0_o1 : o0 ≠ o1) (ne_o0_o2 : o0 ≠ o2) (ne_o1_o2 : o1 ≠ o2) :
    Con l Z n0 [] (⟨"com/example/lumencast/lumencast/model/Routes", "hops", "(I)I"⟩ : MethodName) prog_25_method_2_code 2 (some .int) ({ frames := 0, cells := 0, slots := 0, locals := 0 } : Room) #[(.ref o0), (.int 1)] h0 (Qau1809_8 Z n0 h0 o0 o1 o2 i0 i1) := by
  refine Con.of pf_7 (fun m => ef_au1809_8 m o0) hn0 ?_
  intro p e s m below meth c C
  refine C.aloadN d8_0 rfl rfl rfl ?_
  refine C.getF d8_1 rfl (tw hw 45 rfl) P2 ?_
  refine C.iloadN d8_4 rfl rfl ?_
  refine C.iconst 1 d8_5 rfl rfl ?_
  refine C.iadd d8_6 rfl ?_
  show Go p l e ({ frames := 0, cells := 0, slots := 0, locals := 0 } : Room) s m #[(.ref o0), (.int 1)] below meth c n0 (FinQ s n0 (Qau1809_8 Z n0 h0 o0 o1 o2 i0 i1) ({ frames := 0, cells := 0, slots := 0, locals := 0 } : Room).cells ({ frames := 0, cells := 0, slots := 0, locals := 0 } : Room).slots) h0 0 0 7 #[.val (.ref o0), .val (.int 1)] [(.int 2), (.ref o2)]
  refine C.iaload (.int 2) d8_7 rfl P4 (by decide) rfl ?_
  refine C.aloadN d8_8 rfl rfl rfl ?_
  refine C.getF d8_9 rfl (tw hw 45 rfl) P2 ?_
  refine C.iloadN d8_12 rfl rfl ?_
  refine C.iaload (.int 1) d8_13 rfl P4 (by decide) rfl ?_
  refine C.isub d8_14 rfl ?_
  show Go p l e ({ frames := 0, cells := 0, slots := 0, locals := 0 } : Room) s m #[(.ref o0), (.int 1)] below meth c n0 (FinQ s n0 (Qau1809_8 Z n0 h0 o0 o1 o2 i0 i1) ({ frames := 0, cells := 0, slots := 0, locals := 0 } : Room).cells ({ frames := 0, cells := 0, slots := 0, locals := 0 } : Room).slots) h0 0 0 15 #[.val (.ref o0), .val (.int 1)] [(.int 1)]
  exact C.retI d8_15 (by decide) (by decide) ⟨rfl, rfl⟩
def Qau1814_10 (Z : State) (n0 : Nat) (h0 : Heap) (o0 : Addr) (o1 : Addr) (o2 : Addr) (i0 : Int32) (i1 : Int32) (v : Option Value) (h' : Heap) : Prop := (v = some (.int i0)) ∧ (h0 = h')
theorem ef_au1814_10 (m : MethodId) (o0 : Addr) : entryFrame m #[(.ref o0), (.int 0), (.int 0)] 3 = mkF m 0 #[.val (.ref o0), .val (.int 0), .val (.int 0)] [] := by first | (simp [entryFrame, mkF, argsToLocals, Value.category]; done) | rfl
set_option maxRecDepth 65536 in
set_option maxHeartbeats 40000000 in
theorem au1814_10 (l : Launch) (Z : State) (a0 : Array Value) (hw : ∀ d ∈ tables_1, d.before a0 Z = true) (n0 : Nat) (h0 : Heap) (hn0 : n0 ≤ h0.size) (o0 : Addr) (o1 : Addr) (o2 : Addr) (i0 : Int32) (i1 : Int32) (P0 : Exa Z h0 o0 "com/example/lumencast/lumencast/model/Routes") (P1 : Fld Z h0 o0 "com/example/lumencast/lumencast/model/Routes" "fibres" "[I" (.ref o1)) (P2 : Fld Z h0 o0 "com/example/lumencast/lumencast/model/Routes" "firstHop" "[I" (.ref o2)) (P3 : Av Z h0 o1 .int ([.int i0, .int i1])) (P4 : Av Z h0 o2 .int ([.int 0, .int 1, .int 2])) (g_o0 : n0 ≤ o0) (g_o1 : n0 ≤ o1) (g_o2 : n0 ≤ o2) (ne_o0_o1 : o0 ≠ o1) (ne_o0_o2 : o0 ≠ o2) (ne_o1_o2 : o1 ≠ o2) :
    Con l Z n0 [] (⟨"com/example/lumencast/lumencast/model/Routes", "fibre", "(II)I"⟩ : MethodName) prog_25_method_3_code 3 (some .int) ({ frames := 0, cells := 0, slots := 0, locals := 0 } : Room) #[(.ref o0), (.int 0), (.int 0)] h0 (Qau1814_10 Z n0 h0 o0 o1 o2 i0 i1) := by
  refine Con.of pf_9 (fun m => ef_au1814_10 m o0) hn0 ?_
  intro p e s m below meth c C
  refine C.aloadN d10_0 rfl rfl rfl ?_
  refine C.getF d10_1 rfl (tw hw 47 rfl) P1 ?_
  refine C.aloadN d10_4 rfl rfl rfl ?_
  refine C.getF d10_5 rfl (tw hw 45 rfl) P2 ?_
  refine C.iloadN d10_8 rfl rfl ?_
  refine C.iaload (.int 0) d10_9 rfl P4 (by decide) rfl ?_
  refine C.iloadN d10_10 rfl rfl ?_
  refine C.iadd d10_11 rfl ?_
  show Go p l e ({ frames := 0, cells := 0, slots := 0, locals := 0 } : Room) s m #[(.ref o0), (.int 0), (.int 0)] below meth c n0 (FinQ s n0 (Qau1814_10 Z n0 h0 o0 o1 o2 i0 i1) ({ frames := 0, cells := 0, slots := 0, locals := 0 } : Room).cells ({ frames := 0, cells := 0, slots := 0, locals := 0 } : Room).slots) h0 0 0 12 #[.val (.ref o0), .val (.int 0), .val (.int 0)] [(.int 0), (.ref o1)]
  refine C.iaload (.int i0) d10_12 rfl P3 (by decide) rfl ?_
  exact C.retI d10_13 (by decide) (by decide) ⟨rfl, rfl⟩
def Qau1819_10 (Z : State) (n0 : Nat) (h0 : Heap) (o0 : Addr) (o1 : Addr) (o2 : Addr) (i0 : Int32) (i1 : Int32) (v : Option Value) (h' : Heap) : Prop := (v = some (.int i1)) ∧ (h0 = h')
theorem ef_au1819_10 (m : MethodId) (o0 : Addr) : entryFrame m #[(.ref o0), (.int 1), (.int 0)] 3 = mkF m 0 #[.val (.ref o0), .val (.int 1), .val (.int 0)] [] := by first | (simp [entryFrame, mkF, argsToLocals, Value.category]; done) | rfl
set_option maxRecDepth 65536 in
set_option maxHeartbeats 40000000 in
theorem au1819_10 (l : Launch) (Z : State) (a0 : Array Value) (hw : ∀ d ∈ tables_1, d.before a0 Z = true) (n0 : Nat) (h0 : Heap) (hn0 : n0 ≤ h0.size) (o0 : Addr) (o1 : Addr) (o2 : Addr) (i0 : Int32) (i1 : Int32) (P0 : Exa Z h0 o0 "com/example/lumencast/lumencast/model/Routes") (P1 : Fld Z h0 o0 "com/example/lumencast/lumencast/model/Routes" "fibres" "[I" (.ref o1)) (P2 : Fld Z h0 o0 "com/example/lumencast/lumencast/model/Routes" "firstHop" "[I" (.ref o2)) (P3 : Av Z h0 o1 .int ([.int i0, .int i1])) (P4 : Av Z h0 o2 .int ([.int 0, .int 1, .int 2])) (g_o0 : n0 ≤ o0) (g_o1 : n0 ≤ o1) (g_o2 : n0 ≤ o2) (ne_o0_o1 : o0 ≠ o1) (ne_o0_o2 : o0 ≠ o2) (ne_o1_o2 : o1 ≠ o2) :
    Con l Z n0 [] (⟨"com/example/lumencast/lumencast/model/Routes", "fibre", "(II)I"⟩ : MethodName) prog_25_method_3_code 3 (some .int) ({ frames := 0, cells := 0, slots := 0, locals := 0 } : Room) #[(.ref o0), (.int 1), (.int 0)] h0 (Qau1819_10 Z n0 h0 o0 o1 o2 i0 i1) := by
  refine Con.of pf_9 (fun m => ef_au1819_10 m o0) hn0 ?_
  intro p e s m below meth c C
  refine C.aloadN d10_0 rfl rfl rfl ?_
  refine C.getF d10_1 rfl (tw hw 47 rfl) P1 ?_
  refine C.aloadN d10_4 rfl rfl rfl ?_
  refine C.getF d10_5 rfl (tw hw 45 rfl) P2 ?_
  refine C.iloadN d10_8 rfl rfl ?_
  refine C.iaload (.int 1) d10_9 rfl P4 (by decide) rfl ?_
  refine C.iloadN d10_10 rfl rfl ?_
  refine C.iadd d10_11 rfl ?_
  show Go p l e ({ frames := 0, cells := 0, slots := 0, locals := 0 } : Room) s m #[(.ref o0), (.int 1), (.int 0)] below meth c n0 (FinQ s n0 (Qau1819_10 Z n0 h0 o0 o1 o2 i0 i1) ({ frames := 0, cells := 0, slots := 0, locals := 0 } : Room).cells ({ frames := 0, cells := 0, slots := 0, locals := 0 } : Room).slots) h0 0 0 12 #[.val (.ref o0), .val (.int 1), .val (.int 0)] [(.int 1), (.ref o1)]
  refine C.iaload (.int i1) d10_12 rfl P3 (by decide) rfl ?_
  exact C.retI d10_13 (by decide) (by decide) ⟨rfl, rfl⟩
def Qau1868_9 (Z : State) (n0 : Nat) (h0 : Heap) (o0 : Addr) (i0 : Int32) (o1 : Addr) (o2 : Addr) (i1 : Int32) (v : Option Value) (h' : Heap) : Prop := (v = none) ∧ (Keep h0 h' [o1, o2]) ∧ (Av Z h' o1 .int ([.int i1, .int i0])) ∧ (Av Z h' o2 .int ([.int 0, .int 2, .int 0]))
theorem ef_au1868_9 (m : MethodId) (o0 : Addr) (i0 : Int32) : entryFrame m #[(.ref o0), (.int i0)] 3 = mkF m 0 #[.val (.ref o0), .val (.int i0), .unset] [] := by first | (simp [entryFrame, mkF, argsToLocals, Value.category]; done) | rfl
set_option maxRecDepth 65536 in
set_option maxHeartbeats 40000000 in
theorem au1868_9 (l : Launch) (Z : State) (a0 : Array Value) (hw : ∀ d ∈ tables_1, d.before a0 Z = true) (n0 : Nat) (h0 : Heap) (hn0 : n0 ≤ h0.size) (o0 : Addr) (i0 : Int32) (o1 : Addr) (o2 : Addr) (i1 : Int32) (P0 : Exa Z h0 o0 "com/example/lumencast/lumencast/model/Routes$Builder") (P1 : Fld Z h0 o0 "com/example/lumencast/lumencast/model/Routes$Builder" "fibres" "[I" (.ref o1)) (P2 : Fld Z h0 o0 "com/example/lumencast/lumencast/model/Routes$Builder" "firstHop" "[I" (.ref o2)) (P3 : Fld Z h0 o0 "com/example/lumencast/lumencast/model/Routes$Builder" "pairsDone" "I" (.int 0)) (P4 : Av Z h0 o1 .int ([.int i1, .int 0])) (P5 : Av Z h0 o2 .int ([.int 0, .int 1, .int 0])) (g_o0 : n0 ≤ o0) (g_o1 : n0 ≤ o1) (g_o2 : n0 ≤ o2) (ne_o0_o1 : o0 ≠ o1) (ne_o0_o2 : o0 ≠ o2) (ne_o1_o2 : o1 ≠ o2) :
    Con l Z n0 [] (⟨"com/example/lumencast/lumencast/model/Routes$Builder", "addFibre", "(I)V"⟩ : MethodName) prog_26_method_2_code 3 none ({ frames := 0, cells := 0, slots := 0, locals := 0 } : Room) #[(.ref o0), (.int i0)] h0 (Qau1868_9 Z n0 h0 o0 i0 o1 o2 i1) := by
  refine Con.of pf_8 (fun m => ef_au1868_9 m o0 i0) hn0 ?_
  intro p e s m below meth c C
  refine C.aloadN d9_0 rfl rfl rfl ?_
  refine C.getF d9_1 rfl (tw hw 10 rfl) P2 ?_
  refine C.aloadN d9_4 rfl rfl rfl ?_
  refine C.getF d9_5 rfl (tw hw 19 rfl) P3 ?_
  refine C.iconst 1 d9_8 rfl rfl ?_
  refine C.iadd d9_9 rfl ?_
  show Go p l e ({ frames := 0, cells := 0, slots := 0, locals := 0 } : Room) s m #[(.ref o0), (.int i0)] below meth c n0 (FinQ s n0 (Qau1868_9 Z n0 h0 o0 i0 o1 o2 i1) ({ frames := 0, cells := 0, slots := 0, locals := 0 } : Room).cells ({ frames := 0, cells := 0, slots := 0, locals := 0 } : Room).slots) h0 0 0 10 #[.val (.ref o0), .val (.int i0), .unset] [(.int 1), (.ref o2)]
  refine C.iaload (.int 1) d9_10 rfl P5 (by decide) rfl ?_
  refine C.istoreN (Ls' := #[.val (.ref o0), .val (.int i0), .val (.int 1)]) d9_11 rfl rfl ?_
  refine C.iloadN d9_12 rfl rfl ?_
  refine C.aloadN d9_13 rfl rfl rfl ?_
  refine C.getF d9_14 rfl (tw hw 12 rfl) P1 ?_
  refine C.alen d9_17 rfl P4 ?_
  show Go p l e ({ frames := 0, cells := 0, slots := 0, locals := 0 } : Room) s m #[(.ref o0), (.int i0)] below meth c n0 (FinQ s n0 (Qau1868_9 Z n0 h0 o0 i0 o1 o2 i1) ({ frames := 0, cells := 0, slots := 0, locals := 0 } : Room).cells ({ frames := 0, cells := 0, slots := 0, locals := 0 } : Room).slots) h0 0 0 18 #[.val (.ref o0), .val (.int i0), .val (.int 1)] [(.int 2), (.int 1)]
  refine C.icmp_ne_t d9_18 (by decide) rfl (by decide) ?_
  refine C.aloadN d9_77 rfl rfl rfl ?_
  refine C.getF d9_78 rfl (tw hw 12 rfl) P1 ?_
  refine C.iloadN d9_81 rfl rfl ?_
  refine C.iloadN d9_82 rfl rfl ?_
  refine C.iastore d9_83 rfl P4 g_o1 (by decide) (Nat.le_of_ble_eq_true rfl) (fun h1905 W1906 F1907 => ?_)
  have F1908 : Exa Z h1905 o0 "com/example/lumencast/lumencast/model/Routes$Builder" := Exa.wr W1906 P0
  have F1909 : Fld Z h1905 o0 "com/example/lumencast/lumencast/model/Routes$Builder" "fibres" "[I" (.ref o1) := Fld.other W1906 P1 (Or.inl ne_o0_o1)
  have F1910 : Fld Z h1905 o0 "com/example/lumencast/lumencast/model/Routes$Builder" "firstHop" "[I" (.ref o2) := Fld.other W1906 P2 (Or.inl ne_o0_o1)
  have F1911 : Fld Z h1905 o0 "com/example/lumencast/lumencast/model/Routes$Builder" "pairsDone" "I" (.int 0) := Fld.other W1906 P3 (Or.inl ne_o0_o1)
  have F1912 : Av Z h1905 o2 .int ([.int 0, .int 1, .int 0]) := P5.other W1906 (Ne.symm ne_o1_o2)
  have F1913 : Av Z h1905 o1 .int ([.int i1, .int i0]) := F1907
  refine C.aloadN d9_84 rfl rfl rfl ?_
  refine C.getF d9_85 rfl (tw hw 10 rfl) F1910 ?_
  refine C.aloadN d9_88 rfl rfl rfl ?_
  refine C.getF d9_89 rfl (tw hw 19 rfl) F1911 ?_
  refine C.iconst 1 d9_92 rfl rfl ?_
  refine C.iadd d9_93 rfl ?_
  show Go p l e ({ frames := 0, cells := 0, slots := 0, locals := 0 } : Room) s m #[(.ref o0), (.int i0)] below meth c n0 (FinQ s n0 (Qau1868_9 Z n0 h0 o0 i0 o1 o2 i1) ({ frames := 0, cells := 0, slots := 0, locals := 0 } : Room).cells ({ frames := 0, cells := 0, slots := 0, locals := 0 } : Room).slots) h1905 0 0 94 #[.val (.ref o0), .val (.int i0), .val (.int 1)] [(.int 1), (.ref o2)]
  refine C.iloadN d9_94 rfl rfl ?_
  refine C.iconst 1 d9_95 rfl rfl ?_
  refine C.iadd d9_96 rfl ?_
  show Go p l e ({ frames := 0, cells := 0, slots := 0, locals := 0 } : Room) s m #[(.ref o0), (.int i0)] below meth c n0 (FinQ s n0 (Qau1868_9 Z n0 h0 o0 i0 o1 o2 i1) ({ frames := 0, cells := 0, slots := 0, locals := 0 } : Room).cells ({ frames := 0, cells := 0, slots := 0, locals := 0 } : Room).slots) h1905 0 0 97 #[.val (.ref o0), .val (.int i0), .val (.int 1)] [(.int 2), (.int 1), (.ref o2)]
  refine C.iastore d9_97 rfl F1912 g_o2 (by decide) (Nat.le_of_ble_eq_true rfl) (fun h1914 W1915 F1916 => ?_)
  have F1917 : Exa Z h1914 o0 "com/example/lumencast/lumencast/model/Routes$Builder" := Exa.wr W1915 F1908
  have F1918 : Fld Z h1914 o0 "com/example/lumencast/lumencast/model/Routes$Builder" "fibres" "[I" (.ref o1) := Fld.other W1915 F1909 (Or.inl ne_o0_o2)
  have F1919 : Fld Z h1914 o0 "com/example/lumencast/lumencast/model/Routes$Builder" "firstHop" "[I" (.ref o2) := Fld.other W1915 F1910 (Or.inl ne_o0_o2)
  have F1920 : Fld Z h1914 o0 "com/example/lumencast/lumencast/model/Routes$Builder" "pairsDone" "I" (.int 0) := Fld.other W1915 F1911 (Or.inl ne_o0_o2)
  have F1921 : Av Z h1914 o1 .int ([.int i1, .int i0]) := F1913.other W1915 ne_o1_o2
  have F1922 : Av Z h1914 o2 .int ([.int 0, .int 2, .int 0]) := F1916
  exact C.ret0 d9_98 (by decide) (by decide) ⟨rfl, (((Keep.refl h0 [o1, o2]).wr W1906 (Or.inl (List.mem_of_getElem? (i := 0) rfl))).wr W1915 (Or.inl (List.mem_of_getElem? (i := 1) rfl))), F1921, F1922⟩
def Qau1935_3 (Z : State) (n0 : Nat) (h0 : Heap) (o0 : Addr) (o1 : Addr) (o2 : Addr) (i0 : Int32) (i1 : Int32) (v : Option Value) (h' : Heap) : Prop := (v = none) ∧ (Keep h0 h' [o0, o2]) ∧ (Fld Z h' o0 "com/example/lumencast/lumencast/model/Routes$Builder" "fibres" "[I" (.ref o1)) ∧ (Fld Z h' o0 "com/example/lumencast/lumencast/model/Routes$Builder" "firstHop" "[I" (.ref o2)) ∧ (Fld Z h' o0 "com/example/lumencast/lumencast/model/Routes$Builder" "pairsDone" "I" (.int 1)) ∧ (Av Z h' o2 .int ([.int 0, .int 2, .int 2]))
theorem ef_au1935_3 (m : MethodId) (o0 : Addr) : entryFrame m #[(.ref o0)] 1 = mkF m 0 #[.val (.ref o0)] [] := by first | (simp [entryFrame, mkF, argsToLocals, Value.category]; done) | rfl
set_option maxRecDepth 65536 in
set_option maxHeartbeats 40000000 in
theorem au1935_3 (l : Launch) (Z : State) (a0 : Array Value) (hw : ∀ d ∈ tables_1, d.before a0 Z = true) (n0 : Nat) (h0 : Heap) (hn0 : n0 ≤ h0.size) (o0 : Addr) (o1 : Addr) (o2 : Addr) (i0 : Int32) (i1 : Int32) (P0 : Exa Z h0 o0 "com/example/lumencast/lumencast/model/Routes$Builder") (P1 : Fld Z h0 o0 "com/example/lumencast/lumencast/model/Routes$Builder" "fibres" "[I" (.ref o1)) (P2 : Fld Z h0 o0 "com/example/lumencast/lumencast/model/Routes$Builder" "firstHop" "[I" (.ref o2)) (P3 : Fld Z h0 o0 "com/example/lumencast/lumencast/model/Routes$Builder" "pairsDone" "I" (.int 0)) (P4 : Av Z h0 o1 .int ([.int i0, .int i1])) (P5 : Av Z h0 o2 .int ([.int 0, .int 2, .int 0])) (g_o0 : n0 ≤ o0) (g_o1 : n0 ≤ o1) (g_o2 : n0 ≤ o2) (ne_o0_o1 : o0 ≠ o1) (ne_o0_o2 : o0 ≠ o2) (ne_o1_o2 : o1 ≠ o2) :
    Con l Z n0 [] (⟨"com/example/lumencast/lumencast/model/Routes$Builder", "endRoute", "()V"⟩ : MethodName) prog_26_method_3_code 1 none ({ frames := 0, cells := 0, slots := 0, locals := 0 } : Room) #[(.ref o0)] h0 (Qau1935_3 Z n0 h0 o0 o1 o2 i0 i1) := by
  refine Con.of pf_3 (fun m => ef_au1935_3 m o0) hn0 ?_
  intro p e s m below meth c C
  refine C.aloadN d3_0 rfl rfl rfl ?_
  refine C.dup d3_1 rfl rfl ?_
  refine C.getF d3_2 rfl (tw hw 19 rfl) P3 ?_
  refine C.iconst 1 d3_5 rfl rfl ?_
  refine C.iadd d3_6 rfl ?_
  show Go p l e ({ frames := 0, cells := 0, slots := 0, locals := 0 } : Room) s m #[(.ref o0)] below meth c n0 (FinQ s n0 (Qau1935_3 Z n0 h0 o0 o1 o2 i0 i1) ({ frames := 0, cells := 0, slots := 0, locals := 0 } : Room).cells ({ frames := 0, cells := 0, slots := 0, locals := 0 } : Room).slots) h0 0 0 7 #[.val (.ref o0)] [(.int 1), (.ref o0)]
  refine C.putF d3_7 rfl (tw hw 19 rfl) P3 P0 (Or.inl (tw hw 20 rfl)) (tw hw 1 rfl) (ty := .int) (by decide) rfl rfl g_o0 (fun h1970 W1971 F1972 => ?_)
  have F1973 : Exa Z h1970 o0 "com/example/lumencast/lumencast/model/Routes$Builder" := Exa.wr W1971 P0
  have F1974 : Fld Z h1970 o0 "com/example/lumencast/lumencast/model/Routes$Builder" "fibres" "[I" (.ref o1) := Fld.other W1971 P1 (Or.inr (slot_ne (C := "com/example/lumencast/lumencast/model/Routes$Builder") (t := (.array .int)) (t' := .int) (Or.inl (tw hw 13 rfl)) (Or.inl (tw hw 20 rfl)) (by decide) (by decide) (by decide)))
  have F1975 : Fld Z h1970 o0 "com/example/lumencast/lumencast/model/Routes$Builder" "firstHop" "[I" (.ref o2) := Fld.other W1971 P2 (Or.inr (slot_ne (C := "com/example/lumencast/lumencast/model/Routes$Builder") (t := (.array .int)) (t' := .int) (Or.inr (tw hw 11 rfl)) (Or.inl (tw hw 20 rfl)) (by decide) (by decide) (by decide)))
  have F1976 : Av Z h1970 o1 .int ([.int i0, .int i1]) := P4.other W1971 (Ne.symm ne_o0_o1)
  have F1977 : Av Z h1970 o2 .int ([.int 0, .int 2, .int 0]) := P5.other W1971 (Ne.symm ne_o0_o2)
  refine C.aloadN d3_10 rfl rfl rfl ?_
  refine C.getF d3_11 rfl (tw hw 19 rfl) F1972 ?_
  refine C.iconst 1 d3_14 rfl rfl ?_
  refine C.iadd d3_15 rfl ?_
  show Go p l e ({ frames := 0, cells := 0, slots := 0, locals := 0 } : Room) s m #[(.ref o0)] below meth c n0 (FinQ s n0 (Qau1935_3 Z n0 h0 o0 o1 o2 i0 i1) ({ frames := 0, cells := 0, slots := 0, locals := 0 } : Room).cells ({ frames := 0, cells := 0, slots := 0, locals := 0 } : Room).slots) h1970 0 0 16 #[.val (.ref o0)] [(.int 2)]
  refine C.aloadN d3_16 rfl rfl rfl ?_
  refine C.getF d3_17 rfl (tw hw 10 rfl) F1975 ?_
  refine C.alen d3_20 rfl F1977 ?_
  show Go p l e ({ frames := 0, cells := 0, slots := 0, locals := 0 } : Room) s m #[(.ref o0)] below meth c n0 (FinQ s n0 (Qau1935_3 Z n0 h0 o0 o1 o2 i0 i1) ({ frames := 0, cells := 0, slots := 0, locals := 0 } : Room).cells ({ frames := 0, cells := 0, slots := 0, locals := 0 } : Room).slots) h1970 0 0 21 #[.val (.ref o0)] [(.int 3), (.int 2)]
  refine C.icmp_ge_f d3_21 rfl (by decide) ?_
  refine C.aloadN d3_24 rfl rfl rfl ?_
  refine C.getF d3_25 rfl (tw hw 10 rfl) F1975 ?_
  refine C.aloadN d3_28 rfl rfl rfl ?_
  refine C.getF d3_29 rfl (tw hw 19 rfl) F1972 ?_
  refine C.iconst 1 d3_32 rfl rfl ?_
  refine C.iadd d3_33 rfl ?_
  show Go p l e ({ frames := 0, cells := 0, slots := 0, locals := 0 } : Room) s m #[(.ref o0)] below meth c n0 (FinQ s n0 (Qau1935_3 Z n0 h0 o0 o1 o2 i0 i1) ({ frames := 0, cells := 0, slots := 0, locals := 0 } : Room).cells ({ frames := 0, cells := 0, slots := 0, locals := 0 } : Room).slots) h1970 0 0 34 #[.val (.ref o0)] [(.int 2), (.ref o2)]
  refine C.aloadN d3_34 rfl rfl rfl ?_
  refine C.getF d3_35 rfl (tw hw 10 rfl) F1975 ?_
  refine C.aloadN d3_38 rfl rfl rfl ?_
  refine C.getF d3_39 rfl (tw hw 19 rfl) F1972 ?_
  refine C.iaload (.int 2) d3_42 rfl F1977 (by decide) rfl ?_
  refine C.iastore d3_43 rfl F1977 g_o2 (by decide) (Nat.le_of_ble_eq_true rfl) (fun h1978 W1979 F1980 => ?_)
  have F1981 : Exa Z h1978 o0 "com/example/lumencast/lumencast/model/Routes$Builder" := Exa.wr W1979 F1973
  have F1982 : Fld Z h1978 o0 "com/example/lumencast/lumencast/model/Routes$Builder" "fibres" "[I" (.ref o1) := Fld.other W1979 F1974 (Or.inl ne_o0_o2)
  have F1983 : Fld Z h1978 o0 "com/example/lumencast/lumencast/model/Routes$Builder" "firstHop" "[I" (.ref o2) := Fld.other W1979 F1975 (Or.inl ne_o0_o2)
  have F1984 : Av Z h1978 o1 .int ([.int i0, .int i1]) := F1976.other W1979 ne_o1_o2
  have F1985 : Fld Z h1978 o0 "com/example/lumencast/lumencast/model/Routes$Builder" "pairsDone" "I" (.int 1) := Fld.other W1979 F1972 (Or.inl ne_o0_o2)
  have F1986 : Av Z h1978 o2 .int ([.int 0, .int 2, .int 2]) := F1980
  exact C.ret0 d3_44 (by decide) (by decide) ⟨rfl, (((Keep.refl h0 [o0, o2]).wr W1971 (Or.inl (List.mem_of_getElem? (i := 0) rfl))).wr W1979 (Or.inl (List.mem_of_getElem? (i := 1) rfl))), F1982, F1983, F1985, F1986⟩
def Qau2001_3 (Z : State) (n0 : Nat) (h0 : Heap) (o0 : Addr) (o1 : Addr) (o2 : Addr) (i0 : Int32) (i1 : Int32) (v : Option Value) (h' : Heap) : Prop := (v = none) ∧ (Keep h0 h' [o0]) ∧ (Fld Z h' o0 "com/example/lumencast/lumencast/model/Routes$Builder" "fibres" "[I" (.ref o1)) ∧ (Fld Z h' o0 "com/example/lumencast/lumencast/model/Routes$Builder" "firstHop" "[I" (.ref o2)) ∧ (Fld Z h' o0 "com/example/lumencast/lumencast/model/Routes$Builder" "pairsDone" "I" (.int 2))
theorem ef_au2001_3 (m : MethodId) (o0 : Addr) : entryFrame m #[(.ref o0)] 1 = mkF m 0 #[.val (.ref o0)] [] := by first | (simp [entryFrame, mkF, argsToLocals, Value.category]; done) | rfl
set_option maxRecDepth 65536 in
set_option maxHeartbeats 40000000 in
theorem au2001_3 (l : Launch) (Z : State) (a0 : Array Value) (hw : ∀ d ∈ tables_1, d.before a0 Z = true) (n0 : Nat) (h0 : Heap) (hn0 : n0 ≤ h0.size) (o0 : Addr) (o1 : Addr) (o2 : Addr) (i0 : Int32) (i1 : Int32) (P0 : Exa Z h0 o0 "com/example/lumencast/lumencast/model/Routes$Builder") (P1 : Fld Z h0 o0 "com/example/lumencast/lumencast/model/Routes$Builder" "fibres" "[I" (.ref o1)) (P2 : Fld Z h0 o0 "com/example/lumencast/lumencast/model/Routes$Builder" "firstHop" "[I" (.ref o2)) (P3 : Fld Z h0 o0 "com/example/lumencast/lumencast/model/Routes$Builder" "pairsDone" "I" (.int 1)) (P4 : Av Z h0 o1 .int ([.int i0, .int i1])) (P5 : Av Z h0 o2 .int ([.int 0, .int 2, .int 2])) (g_o0 : n0 ≤ o0) (g_o1 : n0 ≤ o1) (g_o2 : n0 ≤ o2) (ne_o0_o1 : o0 ≠ o1) (ne_o0_o2 : o0 ≠ o2) (ne_o1_o2 : o1 ≠ o2) :
    Con l Z n0 [] (⟨"com/example/lumencast/lumencast/model/Routes$Builder", "endRoute", "()V"⟩ : MethodName) prog_26_method_3_code 1 none ({ frames := 0, cells := 0, slots := 0, locals := 0 } : Room) #[(.ref o0)] h0 (Qau2001_3 Z n0 h0 o0 o1 o2 i0 i1) := by
  refine Con.of pf_3 (fun m => ef_au2001_3 m o0) hn0 ?_
  intro p e s m below meth c C
  refine C.aloadN d3_0 rfl rfl rfl ?_
  refine C.dup d3_1 rfl rfl ?_
  refine C.getF d3_2 rfl (tw hw 19 rfl) P3 ?_
  refine C.iconst 1 d3_5 rfl rfl ?_
  refine C.iadd d3_6 rfl ?_
  show Go p l e ({ frames := 0, cells := 0, slots := 0, locals := 0 } : Room) s m #[(.ref o0)] below meth c n0 (FinQ s n0 (Qau2001_3 Z n0 h0 o0 o1 o2 i0 i1) ({ frames := 0, cells := 0, slots := 0, locals := 0 } : Room).cells ({ frames := 0, cells := 0, slots := 0, locals := 0 } : Room).slots) h0 0 0 7 #[.val (.ref o0)] [(.int 2), (.ref o0)]
  refine C.putF d3_7 rfl (tw hw 19 rfl) P3 P0 (Or.inl (tw hw 20 rfl)) (tw hw 1 rfl) (ty := .int) (by decide) rfl rfl g_o0 (fun h2018 W2019 F2020 => ?_)
  have F2021 : Exa Z h2018 o0 "com/example/lumencast/lumencast/model/Routes$Builder" := Exa.wr W2019 P0
  have F2022 : Fld Z h2018 o0 "com/example/lumencast/lumencast/model/Routes$Builder" "fibres" "[I" (.ref o1) := Fld.other W2019 P1 (Or.inr (slot_ne (C := "com/example/lumencast/lumencast/model/Routes$Builder") (t := (.array .int)) (t' := .int) (Or.inl (tw hw 13 rfl)) (Or.inl (tw hw 20 rfl)) (by decide) (by decide) (by decide)))
  have F2023 : Fld Z h2018 o0 "com/example/lumencast/lumencast/model/Routes$Builder" "firstHop" "[I" (.ref o2) := Fld.other W2019 P2 (Or.inr (slot_ne (C := "com/example/lumencast/lumencast/model/Routes$Builder") (t := (.array .int)) (t' := .int) (Or.inr (tw hw 11 rfl)) (Or.inl (tw hw 20 rfl)) (by decide) (by decide) (by decide)))
  have F2024 : Av Z h2018 o1 .int ([.int i0, .int i1]) := P4.other W2019 (Ne.symm ne_o0_o1)
  have F2025 : Av Z h2018 o2 .int ([.int 0, .int 2, .int 2]) := P5.other W2019 (Ne.symm ne_o0_o2)
  refine C.aloadN d3_10 rfl rfl rfl ?_
  refine C.getF d3_11 rfl (tw hw 19 rfl) F2020 ?_
  refine C.iconst 1 d3_14 rfl rfl ?_
  refine C.iadd d3_15 rfl ?_
  show Go p l e ({ frames := 0, cells := 0, slots := 0, locals := 0 } : Room) s m #[(.ref o0)] below meth c n0 (FinQ s n0 (Qau2001_3 Z n0 h0 o0 o1 o2 i0 i1) ({ frames := 0, cells := 0, slots := 0, locals := 0 } : Room).cells ({ frames := 0, cells := 0, slots := 0, locals := 0 } : Room).slots) h2018 0 0 16 #[.val (.ref o0)] [(.int 3)]
  refine C.aloadN d3_16 rfl rfl rfl ?_
  refine C.getF d3_17 rfl (tw hw 10 rfl) F2023 ?_
  refine C.alen d3_20 rfl F2025 ?_
  show Go p l e ({ frames := 0, cells := 0, slots := 0, locals := 0 } : Room) s m #[(.ref o0)] below meth c n0 (FinQ s n0 (Qau2001_3 Z n0 h0 o0 o1 o2 i0 i1) ({ frames := 0, cells := 0, slots := 0, locals := 0 } : Room).cells ({ frames := 0, cells := 0, slots := 0, locals := 0 } : Room).slots) h2018 0 0 21 #[.val (.ref o0)] [(.int 3), (.int 3)]
  refine C.icmp_ge_t d3_21 (by decide) rfl (by decide) ?_
  exact C.ret0 d3_44 (by decide) (by decide) ⟨rfl, ((Keep.refl h0 [o0]).wr W2019 (Or.inl (List.mem_of_getElem? (i := 0) rfl))), F2022, F2023, F2020⟩
def Qau2059_7 (Z : State) (n0 : Nat) (h0 : Heap) (o0 : Addr) (o1 : Addr) (o2 : Addr) (i0 : Int32) (i1 : Int32) (v : Option Value) (h' : Heap) : Prop := (v = none) ∧ (Keep h0 h' [o0]) ∧ (Fld Z h' o0 "com/example/lumencast/lumencast/model/Routes" "fibres" "[I" (.ref o2)) ∧ (Fld Z h' o0 "com/example/lumencast/lumencast/model/Routes" "firstHop" "[I" (.ref o1))
theorem ef_au2059_7 (m : MethodId) (o0 : Addr) (o1 : Addr) (o2 : Addr) : entryFrame m #[(.ref o0), (.ref o1), (.ref o2)] 3 = mkF m 0 #[.val (.ref o0), .val (.ref o1), .val (.ref o2)] [] := by first | (simp [entryFrame, mkF, argsToLocals, Value.category]; done) | rfl
set_option maxRecDepth 65536 in
set_option maxHeartbeats 40000000 in
theorem au2059_7 (l : Launch) (Z : State) (a0 : Array Value) (hw : ∀ d ∈ tables_1, d.before a0 Z = true) (n0 : Nat) (h0 : Heap) (hn0 : n0 ≤ h0.size) (o0 : Addr) (o1 : Addr) (o2 : Addr) (i0 : Int32) (i1 : Int32) (P0 : Exa Z h0 o0 "com/example/lumencast/lumencast/model/Routes") (P1 : Fld Z h0 o0 "com/example/lumencast/lumencast/model/Routes" "fibres" "[I" (.null)) (P2 : Fld Z h0 o0 "com/example/lumencast/lumencast/model/Routes" "firstHop" "[I" (.null)) (P3 : Av Z h0 o1 .int ([.int 0, .int 2, .int 2])) (P4 : Av Z h0 o2 .int ([.int i0, .int i1])) (g_o0 : n0 ≤ o0) (g_o1 : n0 ≤ o1) (g_o2 : n0 ≤ o2) (ne_o0_o1 : o0 ≠ o1) (ne_o0_o2 : o0 ≠ o2) (ne_o1_o2 : o1 ≠ o2) :
    Con l Z n0 [] (⟨"com/example/lumencast/lumencast/model/Routes", "<init>", "([I[I)V"⟩ : MethodName) prog_25_method_1_code 3 none ({ frames := 1, cells := 0, slots := 0, locals := 12 } : Room) #[(.ref o0), (.ref o1), (.ref o2)] h0 (Qau2059_7 Z n0 h0 o0 o1 o2 i0 i1) := by
  refine Con.of pf_6 (fun m => ef_au2059_7 m o0 o1 o2) hn0 ?_
  intro p e s m below meth c C
  refine C.aloadN d7_0 rfl rfl rfl ?_
  refine C.initO 0 d7_1 rfl (tw hw 44 rfl) (tw hw 7 rfl) (tw hw 8 rfl) rfl (by decide) (Nat.le_of_eq rfl) (by decide) ?_
  refine C.aloadN d7_4 rfl rfl rfl ?_
  refine C.aloadN d7_5 rfl rfl rfl ?_
  refine C.putF d7_6 rfl (tw hw 45 rfl) P2 P0 (Or.inr ⟨(tw hw 46 rfl), rfl, rfl⟩) (tw hw 27 rfl) (ty := (.array .int)) (by decide) rfl rfl g_o0 (fun h2088 W2089 F2090 => ?_)
  have F2091 : Exa Z h2088 o0 "com/example/lumencast/lumencast/model/Routes" := Exa.wr W2089 P0
  have F2092 : Fld Z h2088 o0 "com/example/lumencast/lumencast/model/Routes" "fibres" "[I" (.null) := Fld.other W2089 P1 (Or.inr (slot_ne (C := "com/example/lumencast/lumencast/model/Routes") (t := (.array .int)) (t' := (.array .int)) (Or.inr (tw hw 48 rfl)) (Or.inr (tw hw 46 rfl)) (by decide) (by decide) (by decide)))
  have F2093 : Av Z h2088 o1 .int ([.int 0, .int 2, .int 2]) := P3.other W2089 (Ne.symm ne_o0_o1)
  have F2094 : Av Z h2088 o2 .int ([.int i0, .int i1]) := P4.other W2089 (Ne.symm ne_o0_o2)
  refine C.aloadN d7_9 rfl rfl rfl ?_
  refine C.aloadN d7_10 rfl rfl rfl ?_
  refine C.putF d7_11 rfl (tw hw 47 rfl) F2092 F2091 (Or.inr ⟨(tw hw 48 rfl), rfl, rfl⟩) (tw hw 27 rfl) (ty := (.array .int)) (by decide) rfl rfl g_o0 (fun h2095 W2096 F2097 => ?_)
  have F2098 : Exa Z h2095 o0 "com/example/lumencast/lumencast/model/Routes" := Exa.wr W2096 F2091
  have F2099 : Av Z h2095 o1 .int ([.int 0, .int 2, .int 2]) := F2093.other W2096 (Ne.symm ne_o0_o1)
  have F2100 : Av Z h2095 o2 .int ([.int i0, .int i1]) := F2094.other W2096 (Ne.symm ne_o0_o2)
  have F2101 : Fld Z h2095 o0 "com/example/lumencast/lumencast/model/Routes" "firstHop" "[I" (.ref o1) := Fld.other W2096 F2090 (Or.inr (slot_ne (C := "com/example/lumencast/lumencast/model/Routes") (t := (.array .int)) (t' := (.array .int)) (Or.inr (tw hw 46 rfl)) (Or.inr (tw hw 48 rfl)) (by decide) (by decide) (by decide)))
  exact C.ret0 d7_14 (by decide) (by decide) ⟨rfl, (((Keep.refl h0 [o0]).wr W2089 (Or.inl (List.mem_of_getElem? (i := 0) rfl))).wr W2096 (Or.inl (List.mem_of_getElem? (i := 0) rfl))), F2097, F2101⟩
def Qau2039_4 (Z : State) (n0 : Nat) (h0 : Heap) (o0 : Addr) (o1 : Addr) (o2 : Addr) (i0 : Int32) (i1 : Int32) (v : Option Value) (h' : Heap) : Prop := ∃ (f0 : Addr), (v = some (.ref f0)) ∧ (Keep h0 h' []) ∧ (n0 ≤ f0) ∧ (h0.size ≤ f0) ∧ (Exa Z h' f0 "com/example/lumencast/lumencast/model/Routes") ∧ (Fld Z h' f0 "com/example/lumencast/lumencast/model/Routes" "fibres" "[I" (.ref o1)) ∧ (Fld Z h' f0 "com/example/lumencast/lumencast/model/Routes" "firstHop" "[I" (.ref o2))
theorem ef_au2039_4 (m : MethodId) (o0 : Addr) : entryFrame m #[(.ref o0)] 2 = mkF m 0 #[.val (.ref o0), .unset] [] := by first | (simp [entryFrame, mkF, argsToLocals, Value.category]; done) | rfl
set_option maxRecDepth 65536 in
set_option maxHeartbeats 40000000 in
theorem au2039_4 (l : Launch) (Z : State) (a0 : Array Value) (hw : ∀ d ∈ tables_1, d.before a0 Z = true) (n0 : Nat) (h0 : Heap) (hn0 : n0 ≤ h0.size) (o0 : Addr) (o1 : Addr) (o2 : Addr) (i0 : Int32) (i1 : Int32) (P0 : Exa Z h0 o0 "com/example/lumencast/lumencast/model/Routes$Builder") (P1 : Fld Z h0 o0 "com/example/lumencast/lumencast/model/Routes$Builder" "fibres" "[I" (.ref o1)) (P2 : Fld Z h0 o0 "com/example/lumencast/lumencast/model/Routes$Builder" "firstHop" "[I" (.ref o2)) (P3 : Fld Z h0 o0 "com/example/lumencast/lumencast/model/Routes$Builder" "pairsDone" "I" (.int 2)) (P4 : Av Z h0 o1 .int ([.int i0, .int i1])) (P5 : Av Z h0 o2 .int ([.int 0, .int 2, .int 2])) (g_o0 : n0 ≤ o0) (g_o1 : n0 ≤ o1) (g_o2 : n0 ≤ o2) (ne_o0_o1 : o0 ≠ o1) (ne_o0_o2 : o0 ≠ o2) (ne_o1_o2 : o1 ≠ o2) :
    Con l Z n0 [] (⟨"com/example/lumencast/lumencast/model/Routes$Builder", "build", "()Lcom/example/lumencast/lumencast/model/Routes;"⟩ : MethodName) prog_26_method_4_code 2 (some (.object "com/example/lumencast/lumencast/model/Routes")) ({ frames := 2, cells := 1, slots := 2, locals := 27 } : Room) #[(.ref o0)] h0 (Qau2039_4 Z n0 h0 o0 o1 o2 i0 i1) := by
  refine Con.of pf_4 (fun m => ef_au2039_4 m o0) hn0 ?_
  intro p e s m below meth c C
  refine C.aloadN d4_0 rfl rfl rfl ?_
  refine C.getF d4_1 rfl (tw hw 19 rfl) P3 ?_
  refine C.iconst 1 d4_4 rfl rfl ?_
  refine C.iadd d4_5 rfl ?_
  show Go p l e ({ frames := 2, cells := 1, slots := 2, locals := 27 } : Room) s m #[(.ref o0)] below meth c n0 (FinQ s n0 (Qau2039_4 Z n0 h0 o0 o1 o2 i0 i1) ({ frames := 2, cells := 1, slots := 2, locals := 27 } : Room).cells ({ frames := 2, cells := 1, slots := 2, locals := 27 } : Room).slots) h0 0 0 6 #[.val (.ref o0), .unset] [(.int 3)]
  refine C.aloadN d4_6 rfl rfl rfl ?_
  refine C.getF d4_7 rfl (tw hw 10 rfl) P2 ?_
  refine C.alen d4_10 rfl P5 ?_
  show Go p l e ({ frames := 2, cells := 1, slots := 2, locals := 27 } : Room) s m #[(.ref o0)] below meth c n0 (FinQ s n0 (Qau2039_4 Z n0 h0 o0 o1 o2 i0 i1) ({ frames := 2, cells := 1, slots := 2, locals := 27 } : Room).cells ({ frames := 2, cells := 1, slots := 2, locals := 27 } : Room).slots) h0 0 0 11 #[.val (.ref o0), .unset] [(.int 3), (.int 3)]
  refine C.icmp_eq_t d4_11 (by decide) rfl (by decide) ?_
  refine C.aloadN d4_39 rfl rfl rfl ?_
  refine C.getF d4_40 rfl (tw hw 10 rfl) P2 ?_
  refine C.aloadN d4_43 rfl rfl rfl ?_
  refine C.getF d4_44 rfl (tw hw 19 rfl) P3 ?_
  refine C.iaload (.int 2) d4_47 rfl P5 (by decide) rfl ?_
  refine C.istoreN (Ls' := #[.val (.ref o0), .val (.int 2)]) d4_48 rfl rfl ?_
  refine C.new d4_49 rfl (tw hw 26 rfl) (tw hw 27 rfl) (tw hw 28 rfl) (by decide) (by decide) (fun a2151 h2152 z2156 g2157 X2154 E2153 D2155 => ?_)
  have gz2158 : h0.size ≤ a2151 := by rw [z2156]; exact (Keep.refl h0 []).1
  have ne2159 : o0 ≠ a2151 := by rw [z2156]; exact Nat.ne_of_lt P0.lt
  have ne2160 : o1 ≠ a2151 := by rw [z2156]; exact Nat.ne_of_lt P4.lt
  have ne2161 : o2 ≠ a2151 := by rw [z2156]; exact Nat.ne_of_lt P5.lt
  have F2162 : Exa Z h2152 o0 "com/example/lumencast/lumencast/model/Routes$Builder" := Exa.ext X2154 P0
  have F2163 : Fld Z h2152 o0 "com/example/lumencast/lumencast/model/Routes$Builder" "fibres" "[I" (.ref o1) := Fld.ext X2154 P1
  have F2164 : Fld Z h2152 o0 "com/example/lumencast/lumencast/model/Routes$Builder" "firstHop" "[I" (.ref o2) := Fld.ext X2154 P2
  have F2165 : Fld Z h2152 o0 "com/example/lumencast/lumencast/model/Routes$Builder" "pairsDone" "I" (.int 2) := Fld.ext X2154 P3
  have F2166 : Av Z h2152 o1 .int ([.int i0, .int i1]) := P4.ext X2154
  have F2167 : Av Z h2152 o2 .int ([.int 0, .int 2, .int 2]) := P5.ext X2154
  have F2168 : Fld Z h2152 a2151 "com/example/lumencast/lumencast/model/Routes" "firstHop" "[I" (.null) := D2155 (Or.inr (tw hw 46 rfl)) (ty := (.array .int)) (by decide)
  have F2169 : Fld Z h2152 a2151 "com/example/lumencast/lumencast/model/Routes" "fibres" "[I" (.null) := D2155 (Or.inr (tw hw 48 rfl)) (ty := (.array .int)) (by decide)
  refine C.dup d4_52 rfl rfl ?_
  refine C.aloadN d4_53 rfl rfl rfl ?_
  refine C.getF d4_54 rfl (tw hw 10 rfl) F2164 ?_
  refine C.iloadN d4_57 rfl rfl ?_
  refine C.aloadN d4_58 rfl rfl rfl ?_
  refine C.getF d4_59 rfl (tw hw 12 rfl) F2163 ?_
  refine C.alen d4_62 rfl F2166 ?_
  show Go p l e ({ frames := 2, cells := 1, slots := 2, locals := 27 } : Room) s m #[(.ref o0)] below meth c n0 (FinQ s n0 (Qau2039_4 Z n0 h0 o0 o1 o2 i0 i1) ({ frames := 2, cells := 1, slots := 2, locals := 27 } : Room).cells ({ frames := 2, cells := 1, slots := 2, locals := 27 } : Room).slots) h2152 1 2 63 #[.val (.ref o0), .val (.int 2)] [(.int 2), (.int 2), (.ref o2), (.ref a2151), (.ref a2151)]
  refine C.icmp_ne_f d4_63 rfl (by decide) ?_
  refine C.aloadN d4_66 rfl rfl rfl ?_
  refine C.getF d4_67 rfl (tw hw 12 rfl) F2163 ?_
  refine C.goto d4_70 (by decide) rfl ?_
  refine C.callNN (argsL := [(.ref o2), (.ref o1)]) (rest := [(.ref a2151)]) 1 (fun zz => au2059_7 l Z a0 hw n0 h2152 zz a2151 o2 o1 i0 i1 E2153 F2169 F2168 F2167 F2166 g2157 g_o2 g_o1 (Ne.symm ne2161) (Ne.symm ne2160) (Ne.symm ne_o1_o2)) d4_81 rfl rfl (tw hw 41 rfl) (tw hw 42 rfl) (tw hw 28 rfl) (tw hw 43 rfl) (by decide) pd_4 rfl rfl rfl (Nat.le_of_eq rfl) (by decide) (by decide) (by decide) (by decide) (fun v2170 h2171 r2172 => ?_)
  obtain ⟨rfl, K2173, F2174, F2175⟩ := r2172
  have F2176 : Exa Z h2171 o0 "com/example/lumencast/lumencast/model/Routes$Builder" := F2162.keep K2173
  have F2177 : Fld Z h2171 o0 "com/example/lumencast/lumencast/model/Routes$Builder" "fibres" "[I" (.ref o1) := F2163.keep K2173 (ninS ne2159 nin0)
  have F2178 : Fld Z h2171 o0 "com/example/lumencast/lumencast/model/Routes$Builder" "firstHop" "[I" (.ref o2) := F2164.keep K2173 (ninS ne2159 nin0)
  have F2179 : Fld Z h2171 o0 "com/example/lumencast/lumencast/model/Routes$Builder" "pairsDone" "I" (.int 2) := F2165.keep K2173 (ninS ne2159 nin0)
  have F2180 : Av Z h2171 o1 .int ([.int i0, .int i1]) := F2166.keep K2173 (ninS ne2160 nin0)
  have F2181 : Av Z h2171 o2 .int ([.int 0, .int 2, .int 2]) := F2167.keep K2173 (ninS ne2161 nin0)
  have F2182 : Exa Z h2171 a2151 "com/example/lumencast/lumencast/model/Routes" := E2153.keep K2173
  exact C.retA d4_84 rfl rfl (by decide) (by decide) ⟨a2151, rfl, (((Keep.refl h0 []).ext X2154).trans K2173 (allS (Or.inr gz2158) all0)), g2157, gz2158, F2182, F2174, F2175⟩
def Qau2204_8 (Z : State) (n0 : Nat) (h0 : Heap) (o0 : Addr) (o1 : Addr) (o2 : Addr) (i0 : Int32) (i1 : Int32) (v : Option Value) (h' : Heap) : Prop := (v = some (.int 2)) ∧ (h0 = h')
theorem ef_au2204_8 (m : MethodId) (o0 : Addr) : entryFrame m #[(.ref o0), (.int 0)] 2 = mkF m 0 #[.val (.ref o0), .val (.int 0)] [] := by first | (simp [entryFrame, mkF, argsToLocals, Value.category]; done) | rfl
set_option maxRecDepth 65536 in
set_option maxHeartbeats 40000000 in
theorem au2204_8 (l : Launch) (Z : State) (a0 : Array Value) (hw : ∀ d ∈ tables_1, d.before a0 Z = true) (n0 : Nat) (h0 : Heap) (hn0 : n0 ≤ h0.size) (o0 : Addr) (o1 : Addr) (o2 : Addr) (i0 : Int32) (i1 : Int32) (P0 : Exa Z h0 o0 "com/example/lumencast/lumencast/model/Routes") (P1 : Fld Z h0 o0 "com/example/lumencast/lumencast/model/Routes" "fibres" "[I" (.ref o1)) (P2 : Fld Z h0 o0 "com/example/lumencast/lumencast/model/Routes" "firstHop" "[I" (.ref o2)) (P3 : Av Z h0 o1 .int ([.int i0, .int i1])) (P4 : Av Z h0 o2 .int ([.int 0, .int 2, .int 2])) (g_o0 : n0 ≤ o0) (g_o1 : n0 ≤ o1) (g_o2 : n0 ≤ o2) (ne_o0_o1 : o0 ≠ o1) (ne_o0_o2 : o0 ≠ o2) (ne_o1_o2 : o1 ≠ o2) :
    Con l Z n0 [] (⟨"com/example/lumencast/lumencast/model/Routes", "hops", "(I)I"⟩ : MethodName) prog_25_method_2_code 2 (some .int) ({ frames := 0, cells := 0, slots := 0, locals := 0 } : Room) #[(.ref o0), (.int 0)] h0 (Qau2204_8 Z n0 h0 o0 o1 o2 i0 i1) := by
  refine Con.of pf_7 (fun m => ef_au2204_8 m o0) hn0 ?_
  intro p e s m below meth c C
  refine C.aloadN d8_0 rfl rfl rfl ?_
  refine C.getF d8_1 rfl (tw hw 45 rfl) P2 ?_
  refine C.iloadN d8_4 rfl rfl ?_
  refine C.iconst 1 d8_5 rfl rfl ?_
  refine C.iadd d8_6 rfl ?_
  show Go p l e ({ frames := 0, cells := 0, slots := 0, locals := 0 } : Room) s m #[(.ref o0), (.int 0)] below meth c n0 (FinQ s n0 (Qau2204_8 Z n0 h0 o0 o1 o2 i0 i1) ({ frames := 0, cells := 0, slots := 0, locals := 0 } : Room).cells ({ frames := 0, cells := 0, slots := 0, locals := 0 } : Room).slots) h0 0 0 7 #[.val (.ref o0), .val (.int 0)] [(.int 1), (.ref o2)]
  refine C.iaload (.int 2) d8_7 rfl P4 (by decide) rfl ?_
  refine C.aloadN d8_8 rfl rfl rfl ?_
  refine C.getF d8_9 rfl (tw hw 45 rfl) P2 ?_
  refine C.iloadN d8_12 rfl rfl ?_
  refine C.iaload (.int 0) d8_13 rfl P4 (by decide) rfl ?_
  refine C.isub d8_14 rfl ?_
  show Go p l e ({ frames := 0, cells := 0, slots := 0, locals := 0 } : Room) s m #[(.ref o0), (.int 0)] below meth c n0 (FinQ s n0 (Qau2204_8 Z n0 h0 o0 o1 o2 i0 i1) ({ frames := 0, cells := 0, slots := 0, locals := 0 } : Room).cells ({ frames := 0, cells := 0, slots := 0, locals := 0 } : Room).slots) h0 0 0 15 #[.val (.ref o0), .val (.int 0)] [(.int 2)]
  exact C.retI d8_15 (by decide) (by decide) ⟨rfl, rfl⟩
def Qau2209_8 (Z : State) (n0 : Nat) (h0 : Heap) (o0 : Addr) (o1 : Addr) (o2 : Addr) (i0 : Int32) (i1 : Int32) (v : Option Value) (h' : Heap) : Prop := (v = some (.int 0)) ∧ (h0 = h')
theorem ef_au2209_8 (m : MethodId) (o0 : Addr) : entryFrame m #[(.ref o0), (.int 1)] 2 = mkF m 0 #[.val (.ref o0), .val (.int 1)] [] := by first | (simp [entryFrame, mkF, argsToLocals, Value.category]; done) | rfl
set_option maxRecDepth 65536 in
set_option maxHeartbeats 40000000 in
theorem au2209_8 (l : Launch) (Z : State) (a0 : Array Value) (hw : ∀ d ∈ tables_1, d.before a0 Z = true) (n0 : Nat) (h0 : Heap) (hn0 : n0 ≤ h0.size) (o0 : Addr) (o1 : Addr) (o2 : Addr) (i0 : Int32) (i1 : Int32) (P0 : Exa Z h0 o0 "com/example/lumencast/lumencast/model/Routes") (P1 : Fld Z h0 o0 "com/example/lumencast/lumencast/model/Routes" "fibres" "[I" (.ref o1)) (P2 : Fld Z h0 o0 "com/example/lumencast/lumencast/model/Routes" "firstHop" "[I" (.ref o2)) (P3 : Av Z h0 o1 .int ([.int i0, .int i1])) (P4 : Av Z h0 o2 .int ([.int 0, .int 2, .int 2])) (g_o0 : n0 ≤ o0) (g_o1 : n0 ≤ o1) (g_o2 : n0 ≤ o2) (ne_o0_o1 : o0 ≠ o1) (ne_o0_o2 : o0 ≠ o2) (ne_o1_o2 : o1 ≠ o2) :
    Con l Z n0 [] (⟨"com/example/lumencast/lumencast/model/Routes", "hops", "(I)I"⟩ : MethodName) prog_25_method_2_code 2 (some .int) ({ frames := 0, cells := 0, slots := 0, locals := 0 } : Room) #[(.ref o0), (.int 1)] h0 (Qau2209_8 Z n0 h0 o0 o1 o2 i0 i1) := by
  refine Con.of pf_7 (fun m => ef_au2209_8 m o0) hn0 ?_
  intro p e s m below meth c C
  refine C.aloadN d8_0 rfl rfl rfl ?_
  refine C.getF d8_1 rfl (tw hw 45 rfl) P2 ?_
  refine C.iloadN d8_4 rfl rfl ?_
  refine C.iconst 1 d8_5 rfl rfl ?_
  refine C.iadd d8_6 rfl ?_
  show Go p l e ({ frames := 0, cells := 0, slots := 0, locals := 0 } : Room) s m #[(.ref o0), (.int 1)] below meth c n0 (FinQ s n0 (Qau2209_8 Z n0 h0 o0 o1 o2 i0 i1) ({ frames := 0, cells := 0, slots := 0, locals := 0 } : Room).cells ({ frames := 0, cells := 0, slots := 0, locals := 0 } : Room).slots) h0 0 0 7 #[.val (.ref o0), .val (.int 1)] [(.int 2), (.ref o2)]
  refine C.iaload (.int 2) d8_7 rfl P4 (by decide) rfl ?_
  refine C.aloadN d8_8 rfl rfl rfl ?_
  refine C.getF d8_9 rfl (tw hw 45 rfl) P2 ?_
  refine C.iloadN d8_12 rfl rfl ?_
  refine C.iaload (.int 2) d8_13 rfl P4 (by decide) rfl ?_
  refine C.isub d8_14 rfl ?_
  show Go p l e ({ frames := 0, cells := 0, slots := 0, locals := 0 } : Room) s m #[(.ref o0), (.int 1)] below meth c n0 (FinQ s n0 (Qau2209_8 Z n0 h0 o0 o1 o2 i0 i1) ({ frames := 0, cells := 0, slots := 0, locals := 0 } : Room).cells ({ frames := 0, cells := 0, slots := 0, locals := 0 } : Room).slots) h0 0 0 15 #[.val (.ref o0), .val (.int 1)] [(.int 0)]
  exact C.retI d8_15 (by decide) (by decide) ⟨rfl, rfl⟩
def Qau2214_10 (Z : State) (n0 : Nat) (h0 : Heap) (o0 : Addr) (o1 : Addr) (o2 : Addr) (i0 : Int32) (i1 : Int32) (v : Option Value) (h' : Heap) : Prop := (v = some (.int i1)) ∧ (h0 = h')
theorem ef_au2214_10 (m : MethodId) (o0 : Addr) : entryFrame m #[(.ref o0), (.int 0), (.int 1)] 3 = mkF m 0 #[.val (.ref o0), .val (.int 0), .val (.int 1)] [] := by first | (simp [entryFrame, mkF, argsToLocals, Value.category]; done) | rfl
set_option maxRecDepth 65536 in
set_option maxHeartbeats 40000000 in
theorem au2214_10 (l : Launch) (Z : State) (a0 : Array Value) (hw : ∀ d ∈ tables_1, d.before a0 Z = true) (n0 : Nat) (h0 : Heap) (hn0 : n0 ≤ h0.size) (o0 : Addr) (o1 : Addr) (o2 : Addr) (i0 : Int32) (i1 : Int32) (P0 : Exa Z h0 o0 "com/example/lumencast/lumencast/model/Routes") (P1 : Fld Z h0 o0 "com/example/lumencast/lumencast/model/Routes" "fibres" "[I" (.ref o1)) (P2 : Fld Z h0 o0 "com/example/lumencast/lumencast/model/Routes" "firstHop" "[I" (.ref o2)) (P3 : Av Z h0 o1 .int ([.int i0, .int i1])) (P4 : Av Z h0 o2 .int ([.int 0, .int 2, .int 2])) (g_o0 : n0 ≤ o0) (g_o1 : n0 ≤ o1) (g_o2 : n0 ≤ o2) (ne_o0_o1 : o0 ≠ o1) (ne_o0_o2 : o0 ≠ o2) (ne_o1_o2 : o1 ≠ o2) :
    Con l Z n0 [] (⟨"com/example/lumencast/lumencast/model/Routes", "fibre", "(II)I"⟩ : MethodName) prog_25_method_3_code 3 (some .int) ({ frames := 0, cells := 0, slots := 0, locals := 0 } : Room) #[(.ref o0), (.int 0), (.int 1)] h0 (Qau2214_10 Z n0 h0 o0 o1 o2 i0 i1) := by
  refine Con.of pf_9 (fun m => ef_au2214_10 m o0) hn0 ?_
  intro p e s m below meth c C
  refine C.aloadN d10_0 rfl rfl rfl ?_
  refine C.getF d10_1 rfl (tw hw 47 rfl) P1 ?_
  refine C.aloadN d10_4 rfl rfl rfl ?_
  refine C.getF d10_5 rfl (tw hw 45 rfl) P2 ?_
  refine C.iloadN d10_8 rfl rfl ?_
  refine C.iaload (.int 0) d10_9 rfl P4 (by decide) rfl ?_
  refine C.iloadN d10_10 rfl rfl ?_
  refine C.iadd d10_11 rfl ?_
  show Go p l e ({ frames := 0, cells := 0, slots := 0, locals := 0 } : Room) s m #[(.ref o0), (.int 0), (.int 1)] below meth c n0 (FinQ s n0 (Qau2214_10 Z n0 h0 o0 o1 o2 i0 i1) ({ frames := 0, cells := 0, slots := 0, locals := 0 } : Room).cells ({ frames := 0, cells := 0, slots := 0, locals := 0 } : Room).slots) h0 0 0 12 #[.val (.ref o0), .val (.int 0), .val (.int 1)] [(.int 1), (.ref o1)]
  refine C.iaload (.int i1) d10_12 rfl P3 (by decide) rfl ?_
  exact C.retI d10_13 (by decide) (by decide) ⟨rfl, rfl⟩
theorem d11_0 : decode jdk_29_method_66_code 0 = .ok (.lload_n 0, 1) := by decide +kernel
theorem d11_1 : decode jdk_29_method_66_code 1 = .ok (.lload_n 2, 1) := by decide +kernel
theorem d11_2 : decode jdk_29_method_66_code 2 = .ok (.lcmp, 1) := by decide +kernel
theorem d11_3 : decode jdk_29_method_66_code 3 = .ok (.ifCond .lt 7, 3) := by decide +kernel
theorem d11_6 : decode jdk_29_method_66_code 6 = .ok (.lload_n 0, 1) := by decide +kernel
theorem d11_7 : decode jdk_29_method_66_code 7 = .ok (.goto 4, 3) := by decide +kernel
theorem d11_10 : decode jdk_29_method_66_code 10 = .ok (.lload_n 2, 1) := by decide +kernel
theorem d11_11 : decode jdk_29_method_66_code 11 = .ok (.lreturn, 1) := by decide +kernel
theorem pf_10 : plainFor (⟨"java/lang/Math", "max", "(JJ)J"⟩ : MethodName) = true := by first | exact plainFor_of_name (by first | (simp [plainName, overriddenIn]; done) | decide +kernel) | decide +kernel
def Qau2290_11 (Z : State) (n0 : Nat) (h0 : Heap)  (v : Option Value) (h' : Heap) : Prop := (v = some (.long 16)) ∧ (h0 = h')
theorem ef_au2290_11 (m : MethodId)  : entryFrame m #[(.long 16), (.long 4)] 4 = mkF m 0 #[.val (.long 16), .second, .val (.long 4), .second] [] := by first | (simp [entryFrame, mkF, argsToLocals, Value.category]; done) | rfl
set_option maxRecDepth 65536 in
set_option maxHeartbeats 40000000 in
theorem au2290_11 (l : Launch) (Z : State) (a0 : Array Value) (hw : ∀ d ∈ tables_1, d.before a0 Z = true) (n0 : Nat) (h0 : Heap) (hn0 : n0 ≤ h0.size)  :
    Con l Z n0 [] (⟨"java/lang/Math", "max", "(JJ)J"⟩ : MethodName) jdk_29_method_66_code 4 (some .long) ({ frames := 0, cells := 0, slots := 0, locals := 0 } : Room) #[(.long 16), (.long 4)] h0 (Qau2290_11 Z n0 h0) := by
  refine Con.of pf_10 (fun m => ef_au2290_11 m ) hn0 ?_
  intro p e s m below meth c C
  refine C.lloadN d11_0 rfl rfl ?_
  refine C.lloadN d11_1 rfl rfl ?_
  refine C.lcmp d11_2 rfl ?_
  refine C.lif_lt_f d11_3 rfl (by decide) ?_
  refine C.lloadN d11_6 rfl rfl ?_
  refine C.goto d11_7 (by decide) rfl ?_
  exact C.retJ d11_11 (by decide) (by decide) ⟨rfl, rfl⟩
theorem pd_7 : parseMethodDescriptor "(JJ)J" = some ⟨[.long, .long], some .long⟩ := by decide +kernel
theorem d12_0 : decode jdk_29_method_70_code 0 = .ok (.lload_n 0, 1) := by decide +kernel
theorem d12_1 : decode jdk_29_method_70_code 1 = .ok (.lload_n 2, 1) := by decide +kernel
theorem d12_2 : decode jdk_29_method_70_code 2 = .ok (.lcmp, 1) := by decide +kernel
theorem d12_3 : decode jdk_29_method_70_code 3 = .ok (.ifCond .gt 7, 3) := by decide +kernel
theorem d12_6 : decode jdk_29_method_70_code 6 = .ok (.lload_n 0, 1) := by decide +kernel
theorem d12_7 : decode jdk_29_method_70_code 7 = .ok (.goto 4, 3) := by decide +kernel
theorem d12_10 : decode jdk_29_method_70_code 10 = .ok (.lload_n 2, 1) := by decide +kernel
theorem d12_11 : decode jdk_29_method_70_code 11 = .ok (.lreturn, 1) := by decide +kernel
theorem pf_11 : plainFor (⟨"java/lang/Math", "min", "(JJ)J"⟩ : MethodName) = true := by first | exact plainFor_of_name (by first | (simp [plainName, overriddenIn]; done) | decide +kernel) | decide +kernel
def Qau2295_12 (Z : State) (n0 : Nat) (h0 : Heap)  (v : Option Value) (h' : Heap) : Prop := (v = some (.long 16)) ∧ (h0 = h')
theorem ef_au2295_12 (m : MethodId)  : entryFrame m #[(.long 2147483639), (.long 16)] 4 = mkF m 0 #[.val (.long 2147483639), .second, .val (.long 16), .second] [] := by first | (simp [entryFrame, mkF, argsToLocals, Value.category]; done) | rfl
set_option maxRecDepth 65536 in
set_option maxHeartbeats 40000000 in
theorem au2295_12 (l : Launch) (Z : State) (a0 : Array Value) (hw : ∀ d ∈ tables_1, d.before a0 Z = true) (n0 : Nat) (h0 : Heap) (hn0 : n0 ≤ h0.size)  :
    Con l Z n0 [] (⟨"java/lang/Math", "min", "(JJ)J"⟩ : MethodName) jdk_29_method_70_code 4 (some .long) ({ frames := 0, cells := 0, slots := 0, locals := 0 } : Room) #[(.long 2147483639), (.long 16)] h0 (Qau2295_12 Z n0 h0) := by
  refine Con.of pf_11 (fun m => ef_au2295_12 m ) hn0 ?_
  intro p e s m below meth c C
  refine C.lloadN d12_0 rfl rfl ?_
  refine C.lloadN d12_1 rfl rfl ?_
  refine C.lcmp d12_2 rfl ?_
  refine C.lif_gt_t d12_3 (by decide) rfl (by decide) ?_
  refine C.lloadN d12_10 rfl rfl ?_
  exact C.retJ d12_11 (by decide) (by decide) ⟨rfl, rfl⟩
def Qcon_copy16 (Z : State) (n0 : Nat) (h0 : Heap) (b : Addr) (z : Int32) (vs : List Value) (v : Option Value) (h' : Heap) : Prop := ∃ (r : Addr), (v = some (.ref r)) ∧ (Keep h0 h' []) ∧ (n0 ≤ r) ∧ (h0.size ≤ r) ∧ (Av Z h' r .int (own_copy vs (Int32.toNatClampNeg z)))
theorem ef_con_copy16 (m : MethodId) (b : Addr) (z : Int32) : entryFrame m #[(.ref b), (.int z)] 3 = mkF m 0 #[.val (.ref b), .val (.int z), .unset] [] := by first | (simp [entryFrame, mkF, argsToLocals, Value.category]; done) | rfl
set_option maxRecDepth 65536 in
set_option maxHeartbeats 40000000 in
theorem con_copy16 (l : Launch) (Z : State) (a0 : Array Value) (hw : ∀ d ∈ tables_1, d.before a0 Z = true) (n0 : Nat) (h0 : Heap) (hn0 : n0 ≤ h0.size) (b : Addr) (z : Int32) (vs : List Value) (P0 : Av Z h0 b .int vs) (hz : ¬ z < 0) (hc : z.toNatClampNeg ≤ 16) (hne : ¬ z = vs.length.toInt32) (h31 : vs.length < 2 ^ 31) :
    Con l Z n0 [] (⟨"java/util/Arrays", "copyOf", "([II)[I"⟩ : MethodName) jdk_65_method_123_code 3 (some (.array .int)) ({ frames := 1, cells := 1, slots := 16, locals := 18 } : Room) #[(.ref b), (.int z)] h0 (Qcon_copy16 Z n0 h0 b z vs) := by
  refine Con.of pf_5 (fun m => ef_con_copy16 m b z) hn0 ?_
  intro p e s m below meth c C
  refine C.iloadN d5_0 rfl rfl ?_
  refine C.aloadN d5_1 rfl rfl rfl ?_
  refine C.alen d5_2 rfl P0 ?_
  refine C.icmp_ne_t d5_3 (by decide) rfl hne ?_
  refine C.iloadN d5_14 rfl rfl ?_
  refine C.newarr 16 d5_15 rfl rfl (tw hw 9 rfl) hz hc (by decide) (by decide) (by decide) (fun a2320 h2321 z2324 g2325 X2322 F2323 => ?_)
  have gz2326 : h0.size ≤ a2320 := by rw [z2324]; exact (Keep.refl h0 []).1
  have ne2327 : b ≠ a2320 := by rw [z2324]; exact Nat.ne_of_lt P0.lt
  have F2328 : Av Z h2321 b .int vs := P0.ext X2322
  have F2329 : Av Z h2321 a2320 .int (List.replicate (Int32.toNatClampNeg z) (.int 0)) := F2323
  refine C.astoreN (Ls' := #[.val (.ref b), .val (.int z), .val (.ref a2320)]) d5_17 rfl rfl rfl ?_
  refine C.aloadN d5_18 rfl rfl rfl ?_
  refine C.iconst 0 d5_19 rfl rfl ?_
  refine C.aloadN d5_20 rfl rfl rfl ?_
  refine C.iconst 0 d5_21 rfl rfl ?_
  refine C.aloadN d5_22 rfl rfl rfl ?_
  refine C.alen d5_23 rfl F2328 ?_
  refine C.iloadN d5_24 rfl rfl ?_
  refine C.callS (argsL := [(.int vs.length.toInt32), (.int z)]) (rest := [(.int 0), (.ref a2320), (.int 0), (.ref b)]) 4 (fun zz => con_min l Z a0 hw n0 h2321 zz vs.length.toInt32 z ) d5_25 rfl (tw hw 33 rfl) (tw hw 34 rfl) (tw hw 35 rfl) (tw hw 36 rfl) (by decide) pd_2 rfl rfl rfl (Nat.le_of_eq rfl) (by decide) (by decide) (by decide) (by decide) (fun v2330 h2331 r2332 => ?_)
  obtain ⟨rfl, rfl⟩ := r2332
  refine C.acopy 0 d5_28 rfl (tw hw 37 rfl) (tw hw 40 rfl) (tw hw 38 rfl) (tw hw 39 rfl) F2328 F2329 rfl h31 (by rw [List.length_replicate]; exact (back32 hz).2) (by decide) (by decide) (own_minN _ z (own_clamp h31).2 hz).1 (by rw [(own_minN _ z (own_clamp h31).2 hz).2, (own_clamp h31).1]; show 0 + _ ≤ _; omega) (by rw [(own_minN _ z (own_clamp h31).2 hz).2, (own_clamp h31).1, List.length_replicate]; show 0 + _ ≤ _; omega) g2325 rfl (by decide) (Nat.le_of_eq rfl) (by decide) (fun h2334 K2335 F2336 => ?_)
  have F2337 : Av Z h2334 b .int vs := F2328.keep K2335 (ninS ne2327 nin0)
  have F2339 : Av Z h2334 a2320 .int (own_copy vs (Int32.toNatClampNeg z)) := (by have q := F2336; rw [own_cp vs z hz h31] at q; exact q)
  refine C.aloadN d5_31 rfl rfl rfl ?_
  exact C.retA d5_32 rfl rfl (by decide) (by decide) ⟨a2320, rfl, (((Keep.refl h0 []).ext X2322).trans K2335 (allS (Or.inr gz2326) all0)), g2325, gz2326, F2339⟩
def Qau2289_9 (Z : State) (n0 : Nat) (h0 : Heap) (o0 : Addr) (i0 : Int32) (o1 : Addr) (o2 : Addr) (i1 : Int32) (i2 : Int32) (v : Option Value) (h' : Heap) : Prop := ∃ (f0 : Addr), (v = none) ∧ (Keep h0 h' [o0, o2]) ∧ (n0 ≤ f0) ∧ (h0.size ≤ f0) ∧ (Fld Z h' o0 "com/example/lumencast/lumencast/model/Routes$Builder" "fibres" "[I" (.ref f0)) ∧ (Fld Z h' o0 "com/example/lumencast/lumencast/model/Routes$Builder" "firstHop" "[I" (.ref o2)) ∧ (Fld Z h' o0 "com/example/lumencast/lumencast/model/Routes$Builder" "pairsDone" "I" (.int 1)) ∧ (Av Z h' o2 .int ([.int 0, .int 2, .int 3])) ∧ (Av Z h' f0 .int ([.int i1, .int i2, .int i0, .int 0, .int 0, .int 0, .int 0, .int 0, .int 0, .int 0, .int 0, .int 0, .int 0, .int 0, .int 0, .int 0]))
theorem ef_au2289_9 (m : MethodId) (o0 : Addr) (i0 : Int32) : entryFrame m #[(.ref o0), (.int i0)] 3 = mkF m 0 #[.val (.ref o0), .val (.int i0), .unset] [] := by first | (simp [entryFrame, mkF, argsToLocals, Value.category]; done) | rfl
set_option maxRecDepth 65536 in
set_option maxHeartbeats 40000000 in
theorem au2289_9 (l : Launch) (Z : State) (a0 : Array Value) (hw : ∀ d ∈ tables_1, d.before a0 Z = true) (n0 : Nat) (h0 : Heap) (hn0 : n0 ≤ h0.size) (o0 : Addr) (i0 : Int32) (o1 : Addr) (o2 : Addr) (i1 : Int32) (i2 : Int32) (P0 : Exa Z h0 o0 "com/example/lumencast/lumencast/model/Routes$Builder") (P1 : Fld Z h0 o0 "com/example/lumencast/lumencast/model/Routes$Builder" "fibres" "[I" (.ref o1)) (P2 : Fld Z h0 o0 "com/example/lumencast/lumencast/model/Routes$Builder" "firstHop" "[I" (.ref o2)) (P3 : Fld Z h0 o0 "com/example/lumencast/lumencast/model/Routes$Builder" "pairsDone" "I" (.int 1)) (P4 : Av Z h0 o1 .int ([.int i1, .int i2])) (P5 : Av Z h0 o2 .int ([.int 0, .int 2, .int 2])) (g_o0 : n0 ≤ o0) (g_o1 : n0 ≤ o1) (g_o2 : n0 ≤ o2) (ne_o0_o1 : o0 ≠ o1) (ne_o0_o2 : o0 ≠ o2) (ne_o1_o2 : o1 ≠ o2) :
    Con l Z n0 [] (⟨"com/example/lumencast/lumencast/model/Routes$Builder", "addFibre", "(I)V"⟩ : MethodName) prog_26_method_2_code 3 none ({ frames := 2, cells := 1, slots := 16, locals := 33 } : Room) #[(.ref o0), (.int i0)] h0 (Qau2289_9 Z n0 h0 o0 i0 o1 o2 i1 i2) := by
  refine Con.of pf_8 (fun m => ef_au2289_9 m o0 i0) hn0 ?_
  intro p e s m below meth c C
  refine C.aloadN d9_0 rfl rfl rfl ?_
  refine C.getF d9_1 rfl (tw hw 10 rfl) P2 ?_
  refine C.aloadN d9_4 rfl rfl rfl ?_
  refine C.getF d9_5 rfl (tw hw 19 rfl) P3 ?_
  refine C.iconst 1 d9_8 rfl rfl ?_
  refine C.iadd d9_9 rfl ?_
  show Go p l e ({ frames := 2, cells := 1, slots := 16, locals := 33 } : Room) s m #[(.ref o0), (.int i0)] below meth c n0 (FinQ s n0 (Qau2289_9 Z n0 h0 o0 i0 o1 o2 i1 i2) ({ frames := 2, cells := 1, slots := 16, locals := 33 } : Room).cells ({ frames := 2, cells := 1, slots := 16, locals := 33 } : Room).slots) h0 0 0 10 #[.val (.ref o0), .val (.int i0), .unset] [(.int 2), (.ref o2)]
  refine C.iaload (.int 2) d9_10 rfl P5 (by decide) rfl ?_
  refine C.istoreN (Ls' := #[.val (.ref o0), .val (.int i0), .val (.int 2)]) d9_11 rfl rfl ?_
  refine C.iloadN d9_12 rfl rfl ?_
  refine C.aloadN d9_13 rfl rfl rfl ?_
  refine C.getF d9_14 rfl (tw hw 12 rfl) P1 ?_
  refine C.alen d9_17 rfl P4 ?_
  show Go p l e ({ frames := 2, cells := 1, slots := 16, locals := 33 } : Room) s m #[(.ref o0), (.int i0)] below meth c n0 (FinQ s n0 (Qau2289_9 Z n0 h0 o0 i0 o1 o2 i1 i2) ({ frames := 2, cells := 1, slots := 16, locals := 33 } : Room).cells ({ frames := 2, cells := 1, slots := 16, locals := 33 } : Room).slots) h0 0 0 18 #[.val (.ref o0), .val (.int i0), .val (.int 2)] [(.int 2), (.int 2)]
  refine C.icmp_ne_f d9_18 rfl (by decide) ?_
  refine C.iloadN d9_21 rfl rfl ?_
  refine C.ldcI d9_22 rfl (tw hw 64 rfl) ?_
  refine C.icmp_ne_t d9_24 (by decide) rfl (by decide) ?_
  refine C.aloadN d9_47 rfl rfl rfl ?_
  refine C.aloadN d9_48 rfl rfl rfl ?_
  refine C.getF d9_49 rfl (tw hw 12 rfl) P1 ?_
  refine C.ldc2J d9_52 rfl (tw hw 65 rfl) ?_
  refine C.ldc2J d9_55 rfl (tw hw 66 rfl) ?_
  refine C.ldc2J d9_58 rfl (tw hw 67 rfl) ?_
  refine C.iloadN d9_61 rfl rfl ?_
  refine C.i2l d9_62 rfl ?_
  show Go p l e ({ frames := 2, cells := 1, slots := 16, locals := 33 } : Room) s m #[(.ref o0), (.int i0)] below meth c n0 (FinQ s n0 (Qau2289_9 Z n0 h0 o0 i0 o1 o2 i1 i2) ({ frames := 2, cells := 1, slots := 16, locals := 33 } : Room).cells ({ frames := 2, cells := 1, slots := 16, locals := 33 } : Room).slots) h0 0 0 63 #[.val (.ref o0), .val (.int i0), .val (.int 2)] [(.long 2), (.long 2), (.long 16), (.long 2147483639), (.ref o1), (.ref o0)]
  refine C.lmul d9_63 rfl ?_
  show Go p l e ({ frames := 2, cells := 1, slots := 16, locals := 33 } : Room) s m #[(.ref o0), (.int i0)] below meth c n0 (FinQ s n0 (Qau2289_9 Z n0 h0 o0 i0 o1 o2 i1 i2) ({ frames := 2, cells := 1, slots := 16, locals := 33 } : Room).cells ({ frames := 2, cells := 1, slots := 16, locals := 33 } : Room).slots) h0 0 0 64 #[.val (.ref o0), .val (.int i0), .val (.int 2)] [(.long 4), (.long 16), (.long 2147483639), (.ref o1), (.ref o0)]
  refine C.callS (argsL := [(.long 16), (.long 4)]) (rest := [(.long 2147483639), (.ref o1), (.ref o0)]) 4 (fun zz => au2290_11 l Z a0 hw n0 h0 zz  ) d9_64 rfl (tw hw 68 rfl) (tw hw 69 rfl) (tw hw 35 rfl) (tw hw 70 rfl) (by decide) pd_7 rfl rfl rfl (Nat.le_of_eq rfl) (by decide) (by decide) (by decide) (by decide) (fun v2444 h2445 r2446 => ?_)
  obtain ⟨rfl, rfl⟩ := r2446
  refine C.callS (argsL := [(.long 2147483639), (.long 16)]) (rest := [(.ref o1), (.ref o0)]) 2 (fun zz => au2295_12 l Z a0 hw n0 h0 zz  ) d9_67 rfl (tw hw 71 rfl) (tw hw 72 rfl) (tw hw 35 rfl) (tw hw 73 rfl) (by decide) pd_7 rfl rfl rfl (Nat.le_of_eq rfl) (by decide) (by decide) (by decide) (by decide) (fun v2448 h2449 r2450 => ?_)
  obtain ⟨rfl, rfl⟩ := r2450
  refine C.l2i d9_70 rfl ?_
  show Go p l e ({ frames := 2, cells := 1, slots := 16, locals := 33 } : Room) s m #[(.ref o0), (.int i0)] below meth c n0 (FinQ s n0 (Qau2289_9 Z n0 h0 o0 i0 o1 o2 i1 i2) ({ frames := 2, cells := 1, slots := 16, locals := 33 } : Room).cells ({ frames := 2, cells := 1, slots := 16, locals := 33 } : Room).slots) h0 0 0 71 #[.val (.ref o0), .val (.int i0), .val (.int 2)] [(.int 16), (.ref o1), (.ref o0)]
  refine C.callS (argsL := [(.ref o1), (.int 16)]) (rest := [(.ref o0)]) 1 (fun zz => con_copy16 l Z a0 hw n0 h0 zz o1 16 ([.int i1, .int i2]) P4 (by decide) (by decide) (show ¬ (16 : Int32) = (2 : Nat).toInt32 by decide) (Nat.le_of_ble_eq_true rfl)) d9_71 rfl (tw hw 29 rfl) (tw hw 30 rfl) (tw hw 31 rfl) (tw hw 32 rfl) (by decide) pd_3 rfl rfl rfl (Nat.le_of_eq rfl) (by decide) (by decide) (by decide) (by decide) (fun v2452 h2453 r2454 => ?_)
  obtain ⟨a2455, rfl, K2456, g2458, gz2459, F2457⟩ := r2454
  have gz2460 : h0.size ≤ a2455 := Nat.le_trans (Keep.refl h0 [o0, o2]).1 gz2459
  have ne2461 : o0 ≠ a2455 := Nat.ne_of_lt (Nat.lt_of_lt_of_le P0.lt gz2459)
  have ne2462 : o1 ≠ a2455 := Nat.ne_of_lt (Nat.lt_of_lt_of_le P4.lt gz2459)
  have ne2463 : o2 ≠ a2455 := Nat.ne_of_lt (Nat.lt_of_lt_of_le P5.lt gz2459)
  have F2464 : Exa Z h2453 o0 "com/example/lumencast/lumencast/model/Routes$Builder" := P0.keep K2456
  have F2465 : Fld Z h2453 o0 "com/example/lumencast/lumencast/model/Routes$Builder" "fibres" "[I" (.ref o1) := P1.keep K2456 nin0
  have F2466 : Fld Z h2453 o0 "com/example/lumencast/lumencast/model/Routes$Builder" "firstHop" "[I" (.ref o2) := P2.keep K2456 nin0
  have F2467 : Fld Z h2453 o0 "com/example/lumencast/lumencast/model/Routes$Builder" "pairsDone" "I" (.int 1) := P3.keep K2456 nin0
  have F2468 : Av Z h2453 o1 .int ([.int i1, .int i2]) := P4.keep K2456 nin0
  have F2469 : Av Z h2453 o2 .int ([.int 0, .int 2, .int 2]) := P5.keep K2456 nin0
  have F2470 : Av Z h2453 a2455 .int ([.int i1, .int i2, .int 0, .int 0, .int 0, .int 0, .int 0, .int 0, .int 0, .int 0, .int 0, .int 0, .int 0, .int 0, .int 0, .int 0]) := F2457
  refine C.putF d9_74 rfl (tw hw 12 rfl) F2465 F2464 (Or.inl (tw hw 13 rfl)) (tw hw 1 rfl) (ty := (.array .int)) (by decide) rfl rfl g_o0 (fun h2471 W2472 F2473 => ?_)
  have F2474 : Exa Z h2471 o0 "com/example/lumencast/lumencast/model/Routes$Builder" := Exa.wr W2472 F2464
  have F2475 : Fld Z h2471 o0 "com/example/lumencast/lumencast/model/Routes$Builder" "firstHop" "[I" (.ref o2) := Fld.other W2472 F2466 (Or.inr (slot_ne (C := "com/example/lumencast/lumencast/model/Routes$Builder") (t := (.array .int)) (t' := (.array .int)) (Or.inr (tw hw 11 rfl)) (Or.inl (tw hw 13 rfl)) (by decide) (by decide) (by decide)))
  have F2476 : Fld Z h2471 o0 "com/example/lumencast/lumencast/model/Routes$Builder" "pairsDone" "I" (.int 1) := Fld.other W2472 F2467 (Or.inr (slot_ne (C := "com/example/lumencast/lumencast/model/Routes$Builder") (t := .int) (t' := (.array .int)) (Or.inl (tw hw 20 rfl)) (Or.inl (tw hw 13 rfl)) (by decide) (by decide) (by decide)))
  have F2477 : Av Z h2471 o1 .int ([.int i1, .int i2]) := F2468.other W2472 (Ne.symm ne_o0_o1)
  have F2478 : Av Z h2471 o2 .int ([.int 0, .int 2, .int 2]) := F2469.other W2472 (Ne.symm ne_o0_o2)
  have F2479 : Av Z h2471 a2455 .int ([.int i1, .int i2, .int 0, .int 0, .int 0, .int 0, .int 0, .int 0, .int 0, .int 0, .int 0, .int 0, .int 0, .int 0, .int 0, .int 0]) := F2470.other W2472 (Ne.symm ne2461)
  refine C.aloadN d9_77 rfl rfl rfl ?_
  refine C.getF d9_78 rfl (tw hw 12 rfl) F2473 ?_
  refine C.iloadN d9_81 rfl rfl ?_
  refine C.iloadN d9_82 rfl rfl ?_
  refine C.iastore d9_83 rfl F2479 g2458 (by decide) (Nat.le_of_ble_eq_true rfl) (fun h2480 W2481 F2482 => ?_)
  have F2483 : Exa Z h2480 o0 "com/example/lumencast/lumencast/model/Routes$Builder" := Exa.wr W2481 F2474
  have F2484 : Fld Z h2480 o0 "com/example/lumencast/lumencast/model/Routes$Builder" "firstHop" "[I" (.ref o2) := Fld.other W2481 F2475 (Or.inl ne2461)
  have F2485 : Fld Z h2480 o0 "com/example/lumencast/lumencast/model/Routes$Builder" "pairsDone" "I" (.int 1) := Fld.other W2481 F2476 (Or.inl ne2461)
  have F2486 : Av Z h2480 o1 .int ([.int i1, .int i2]) := F2477.other W2481 ne2462
  have F2487 : Av Z h2480 o2 .int ([.int 0, .int 2, .int 2]) := F2478.other W2481 ne2463
  have F2488 : Fld Z h2480 o0 "com/example/lumencast/lumencast/model/Routes$Builder" "fibres" "[I" (.ref a2455) := Fld.other W2481 F2473 (Or.inl ne2461)
  have F2489 : Av Z h2480 a2455 .int ([.int i1, .int i2, .int i0, .int 0, .int 0, .int 0, .int 0, .int 0, .int 0, .int 0, .int 0, .int 0, .int 0, .int 0, .int 0, .int 0]) := F2482
  refine C.aloadN d9_84 rfl rfl rfl ?_
  refine C.getF d9_85 rfl (tw hw 10 rfl) F2484 ?_
  refine C.aloadN d9_88 rfl rfl rfl ?_
  refine C.getF d9_89 rfl (tw hw 19 rfl) F2485 ?_
  refine C.iconst 1 d9_92 rfl rfl ?_
  refine C.iadd d9_93 rfl ?_
  show Go p l e ({ frames := 2, cells := 1, slots := 16, locals := 33 } : Room) s m #[(.ref o0), (.int i0)] below meth c n0 (FinQ s n0 (Qau2289_9 Z n0 h0 o0 i0 o1 o2 i1 i2) ({ frames := 2, cells := 1, slots := 16, locals := 33 } : Room).cells ({ frames := 2, cells := 1, slots := 16, locals := 33 } : Room).slots) h2480 1 16 94 #[.val (.ref o0), .val (.int i0), .val (.int 2)] [(.int 2), (.ref o2)]
  refine C.iloadN d9_94 rfl rfl ?_
  refine C.iconst 1 d9_95 rfl rfl ?_
  refine C.iadd d9_96 rfl ?_
  show Go p l e ({ frames := 2, cells := 1, slots := 16, locals := 33 } : Room) s m #[(.ref o0), (.int i0)] below meth c n0 (FinQ s n0 (Qau2289_9 Z n0 h0 o0 i0 o1 o2 i1 i2) ({ frames := 2, cells := 1, slots := 16, locals := 33 } : Room).cells ({ frames := 2, cells := 1, slots := 16, locals := 33 } : Room).slots) h2480 1 16 97 #[.val (.ref o0), .val (.int i0), .val (.int 2)] [(.int 3), (.int 2), (.ref o2)]
  refine C.iastore d9_97 rfl F2487 g_o2 (by decide) (Nat.le_of_ble_eq_true rfl) (fun h2490 W2491 F2492 => ?_)
  have F2493 : Exa Z h2490 o0 "com/example/lumencast/lumencast/model/Routes$Builder" := Exa.wr W2491 F2483
  have F2494 : Fld Z h2490 o0 "com/example/lumencast/lumencast/model/Routes$Builder" "firstHop" "[I" (.ref o2) := Fld.other W2491 F2484 (Or.inl ne_o0_o2)
  have F2495 : Fld Z h2490 o0 "com/example/lumencast/lumencast/model/Routes$Builder" "pairsDone" "I" (.int 1) := Fld.other W2491 F2485 (Or.inl ne_o0_o2)
  have F2496 : Av Z h2490 o1 .int ([.int i1, .int i2]) := F2486.other W2491 ne_o1_o2
  have F2497 : Fld Z h2490 o0 "com/example/lumencast/lumencast/model/Routes$Builder" "fibres" "[I" (.ref a2455) := Fld.other W2491 F2488 (Or.inl ne_o0_o2)
  have F2498 : Av Z h2490 a2455 .int ([.int i1, .int i2, .int i0, .int 0, .int 0, .int 0, .int 0, .int 0, .int 0, .int 0, .int 0, .int 0, .int 0, .int 0, .int 0, .int 0]) := F2489.other W2491 (Ne.symm ne2463)
  have F2499 : Av Z h2490 o2 .int ([.int 0, .int 2, .int 3]) := F2492
  exact C.ret0 d9_98 (by decide) (by decide) ⟨a2455, rfl, (((((Keep.refl h0 [o0, o2]).trans K2456 all0).wr W2472 (Or.inl (List.mem_of_getElem? (i := 0) rfl))).wr W2481 (Or.inr gz2460)).wr W2491 (Or.inl (List.mem_of_getElem? (i := 1) rfl))), g2458, gz2460, F2497, F2494, F2495, F2499, F2498⟩
def Qau2521_3 (Z : State) (n0 : Nat) (h0 : Heap) (o0 : Addr) (o1 : Addr) (o2 : Addr) (i0 : Int32) (i1 : Int32) (i2 : Int32) (v : Option Value) (h' : Heap) : Prop := (v = none) ∧ (Keep h0 h' [o0]) ∧ (Fld Z h' o0 "com/example/lumencast/lumencast/model/Routes$Builder" "fibres" "[I" (.ref o1)) ∧ (Fld Z h' o0 "com/example/lumencast/lumencast/model/Routes$Builder" "firstHop" "[I" (.ref o2)) ∧ (Fld Z h' o0 "com/example/lumencast/lumencast/model/Routes$Builder" "pairsDone" "I" (.int 2))
theorem ef_au2521_3 (m : MethodId) (o0 : Addr) : entryFrame m #[(.ref o0)] 1 = mkF m 0 #[.val (.ref o0)] [] := by first | (simp [entryFrame, mkF, argsToLocals, Value.category]; done) | rfl
set_option maxRecDepth 65536 in
set_option maxHeartbeats 40000000 in
theorem au2521_3 (l : Launch) (Z : State) (a0 : Array Value) (hw : ∀ d ∈ tables_1, d.before a0 Z = true) (n0 : Nat) (h0 : Heap) (hn0 : n0 ≤ h0.size) (o0 : Addr) (o1 : Addr) (o2 : Addr) (i0 : Int32) (i1 : Int32) (i2 : Int32) (P0 : Exa Z h0 o0 "com/example/lumencast/lumencast/model/Routes$Builder") (P1 : Fld Z h0 o0 "com/example/lumencast/lumencast/model/Routes$Builder" "fibres" "[I" (.ref o1)) (P2 : Fld Z h0 o0 "com/example/lumencast/lumencast/model/Routes$Builder" "firstHop" "[I" (.ref o2)) (P3 : Fld Z h0 o0 "com/example/lumencast/lumencast/model/Routes$Builder" "pairsDone" "I" (.int 1)) (P4 : Av Z h0 o1 .int ([.int i0, .int i1, .int i2, .int 0, .int 0, .int 0, .int 0, .int 0, .int 0, .int 0, .int 0, .int 0, .int 0, .int 0, .int 0, .int 0])) (P5 : Av Z h0 o2 .int ([.int 0, .int 2, .int 3])) (g_o0 : n0 ≤ o0) (g_o1 : n0 ≤ o1) (g_o2 : n0 ≤ o2) (ne_o0_o1 : o0 ≠ o1) (ne_o0_o2 : o0 ≠ o2) (ne_o1_o2 : o1 ≠ o2) :
    Con l Z n0 [] (⟨"com/example/lumencast/lumencast/model/Routes$Builder", "endRoute", "()V"⟩ : MethodName) prog_26_method_3_code 1 none ({ frames := 0, cells := 0, slots := 0, locals := 0 } : Room) #[(.ref o0)] h0 (Qau2521_3 Z n0 h0 o0 o1 o2 i0 i1 i2) := by
  refine Con.of pf_3 (fun m => ef_au2521_3 m o0) hn0 ?_
  intro p e s m below meth c C
  refine C.aloadN d3_0 rfl rfl rfl ?_
  refine C.dup d3_1 rfl rfl ?_
  refine C.getF d3_2 rfl (tw hw 19 rfl) P3 ?_
  refine C.iconst 1 d3_5 rfl rfl ?_
  refine C.iadd d3_6 rfl ?_
  show Go p l e ({ frames := 0, cells := 0, slots := 0, locals := 0 } : Room) s m #[(.ref o0)] below meth c n0 (FinQ s n0 (Qau2521_3 Z n0 h0 o0 o1 o2 i0 i1 i2) ({ frames := 0, cells := 0, slots := 0, locals := 0 } : Room).cells ({ frames := 0, cells := 0, slots := 0, locals := 0 } : Room).slots) h0 0 0 7 #[.val (.ref o0)] [(.int 2), (.ref o0)]
  refine C.putF d3_7 rfl (tw hw 19 rfl) P3 P0 (Or.inl (tw hw 20 rfl)) (tw hw 1 rfl) (ty := .int) (by decide) rfl rfl g_o0 (fun h2538 W2539 F2540 => ?_)
  have F2541 : Exa Z h2538 o0 "com/example/lumencast/lumencast/model/Routes$Builder" := Exa.wr W2539 P0
  have F2542 : Fld Z h2538 o0 "com/example/lumencast/lumencast/model/Routes$Builder" "fibres" "[I" (.ref o1) := Fld.other W2539 P1 (Or.inr (slot_ne (C := "com/example/lumencast/lumencast/model/Routes$Builder") (t := (.array .int)) (t' := .int) (Or.inl (tw hw 13 rfl)) (Or.inl (tw hw 20 rfl)) (by decide) (by decide) (by decide)))
  have F2543 : Fld Z h2538 o0 "com/example/lumencast/lumencast/model/Routes$Builder" "firstHop" "[I" (.ref o2) := Fld.other W2539 P2 (Or.inr (slot_ne (C := "com/example/lumencast/lumencast/model/Routes$Builder") (t := (.array .int)) (t' := .int) (Or.inr (tw hw 11 rfl)) (Or.inl (tw hw 20 rfl)) (by decide) (by decide) (by decide)))
  have F2544 : Av Z h2538 o1 .int ([.int i0, .int i1, .int i2, .int 0, .int 0, .int 0, .int 0, .int 0, .int 0, .int 0, .int 0, .int 0, .int 0, .int 0, .int 0, .int 0]) := P4.other W2539 (Ne.symm ne_o0_o1)
  have F2545 : Av Z h2538 o2 .int ([.int 0, .int 2, .int 3]) := P5.other W2539 (Ne.symm ne_o0_o2)
  refine C.aloadN d3_10 rfl rfl rfl ?_
  refine C.getF d3_11 rfl (tw hw 19 rfl) F2540 ?_
  refine C.iconst 1 d3_14 rfl rfl ?_
  refine C.iadd d3_15 rfl ?_
  show Go p l e ({ frames := 0, cells := 0, slots := 0, locals := 0 } : Room) s m #[(.ref o0)] below meth c n0 (FinQ s n0 (Qau2521_3 Z n0 h0 o0 o1 o2 i0 i1 i2) ({ frames := 0, cells := 0, slots := 0, locals := 0 } : Room).cells ({ frames := 0, cells := 0, slots := 0, locals := 0 } : Room).slots) h2538 0 0 16 #[.val (.ref o0)] [(.int 3)]
  refine C.aloadN d3_16 rfl rfl rfl ?_
  refine C.getF d3_17 rfl (tw hw 10 rfl) F2543 ?_
  refine C.alen d3_20 rfl F2545 ?_
  show Go p l e ({ frames := 0, cells := 0, slots := 0, locals := 0 } : Room) s m #[(.ref o0)] below meth c n0 (FinQ s n0 (Qau2521_3 Z n0 h0 o0 o1 o2 i0 i1 i2) ({ frames := 0, cells := 0, slots := 0, locals := 0 } : Room).cells ({ frames := 0, cells := 0, slots := 0, locals := 0 } : Room).slots) h2538 0 0 21 #[.val (.ref o0)] [(.int 3), (.int 3)]
  refine C.icmp_ge_t d3_21 (by decide) rfl (by decide) ?_
  exact C.ret0 d3_44 (by decide) (by decide) ⟨rfl, ((Keep.refl h0 [o0]).wr W2539 (Or.inl (List.mem_of_getElem? (i := 0) rfl))), F2542, F2543, F2540⟩
def Qcon_copy3 (Z : State) (n0 : Nat) (h0 : Heap) (b : Addr) (z : Int32) (vs : List Value) (v : Option Value) (h' : Heap) : Prop := ∃ (r : Addr), (v = some (.ref r)) ∧ (Keep h0 h' []) ∧ (n0 ≤ r) ∧ (h0.size ≤ r) ∧ (Av Z h' r .int (own_copy vs (Int32.toNatClampNeg z)))
theorem ef_con_copy3 (m : MethodId) (b : Addr) (z : Int32) : entryFrame m #[(.ref b), (.int z)] 3 = mkF m 0 #[.val (.ref b), .val (.int z), .unset] [] := by first | (simp [entryFrame, mkF, argsToLocals, Value.category]; done) | rfl
set_option maxRecDepth 65536 in
set_option maxHeartbeats 40000000 in
theorem con_copy3 (l : Launch) (Z : State) (a0 : Array Value) (hw : ∀ d ∈ tables_1, d.before a0 Z = true) (n0 : Nat) (h0 : Heap) (hn0 : n0 ≤ h0.size) (b : Addr) (z : Int32) (vs : List Value) (P0 : Av Z h0 b .int vs) (hz : ¬ z < 0) (hc : z.toNatClampNeg ≤ 3) (hne : ¬ z = vs.length.toInt32) (h31 : vs.length < 2 ^ 31) :
    Con l Z n0 [] (⟨"java/util/Arrays", "copyOf", "([II)[I"⟩ : MethodName) jdk_65_method_123_code 3 (some (.array .int)) ({ frames := 1, cells := 1, slots := 3, locals := 18 } : Room) #[(.ref b), (.int z)] h0 (Qcon_copy3 Z n0 h0 b z vs) := by
  refine Con.of pf_5 (fun m => ef_con_copy3 m b z) hn0 ?_
  intro p e s m below meth c C
  refine C.iloadN d5_0 rfl rfl ?_
  refine C.aloadN d5_1 rfl rfl rfl ?_
  refine C.alen d5_2 rfl P0 ?_
  refine C.icmp_ne_t d5_3 (by decide) rfl hne ?_
  refine C.iloadN d5_14 rfl rfl ?_
  refine C.newarr 3 d5_15 rfl rfl (tw hw 9 rfl) hz hc (by decide) (by decide) (by decide) (fun a2600 h2601 z2604 g2605 X2602 F2603 => ?_)
  have gz2606 : h0.size ≤ a2600 := by rw [z2604]; exact (Keep.refl h0 []).1
  have ne2607 : b ≠ a2600 := by rw [z2604]; exact Nat.ne_of_lt P0.lt
  have F2608 : Av Z h2601 b .int vs := P0.ext X2602
  have F2609 : Av Z h2601 a2600 .int (List.replicate (Int32.toNatClampNeg z) (.int 0)) := F2603
  refine C.astoreN (Ls' := #[.val (.ref b), .val (.int z), .val (.ref a2600)]) d5_17 rfl rfl rfl ?_
  refine C.aloadN d5_18 rfl rfl rfl ?_
  refine C.iconst 0 d5_19 rfl rfl ?_
  refine C.aloadN d5_20 rfl rfl rfl ?_
  refine C.iconst 0 d5_21 rfl rfl ?_
  refine C.aloadN d5_22 rfl rfl rfl ?_
  refine C.alen d5_23 rfl F2608 ?_
  refine C.iloadN d5_24 rfl rfl ?_
  refine C.callS (argsL := [(.int vs.length.toInt32), (.int z)]) (rest := [(.int 0), (.ref a2600), (.int 0), (.ref b)]) 4 (fun zz => con_min l Z a0 hw n0 h2601 zz vs.length.toInt32 z ) d5_25 rfl (tw hw 33 rfl) (tw hw 34 rfl) (tw hw 35 rfl) (tw hw 36 rfl) (by decide) pd_2 rfl rfl rfl (Nat.le_of_eq rfl) (by decide) (by decide) (by decide) (by decide) (fun v2610 h2611 r2612 => ?_)
  obtain ⟨rfl, rfl⟩ := r2612
  refine C.acopy 0 d5_28 rfl (tw hw 37 rfl) (tw hw 40 rfl) (tw hw 38 rfl) (tw hw 39 rfl) F2608 F2609 rfl h31 (by rw [List.length_replicate]; exact (back32 hz).2) (by decide) (by decide) (own_minN _ z (own_clamp h31).2 hz).1 (by rw [(own_minN _ z (own_clamp h31).2 hz).2, (own_clamp h31).1]; show 0 + _ ≤ _; omega) (by rw [(own_minN _ z (own_clamp h31).2 hz).2, (own_clamp h31).1, List.length_replicate]; show 0 + _ ≤ _; omega) g2605 rfl (by decide) (Nat.le_of_eq rfl) (by decide) (fun h2614 K2615 F2616 => ?_)
  have F2617 : Av Z h2614 b .int vs := F2608.keep K2615 (ninS ne2607 nin0)
  have F2619 : Av Z h2614 a2600 .int (own_copy vs (Int32.toNatClampNeg z)) := (by have q := F2616; rw [own_cp vs z hz h31] at q; exact q)
  refine C.aloadN d5_31 rfl rfl rfl ?_
  exact C.retA d5_32 rfl rfl (by decide) (by decide) ⟨a2600, rfl, (((Keep.refl h0 []).ext X2602).trans K2615 (allS (Or.inr gz2606) all0)), g2605, gz2606, F2619⟩
def Qau2643_7 (Z : State) (n0 : Nat) (h0 : Heap) (o0 : Addr) (o1 : Addr) (o2 : Addr) (i0 : Int32) (i1 : Int32) (i2 : Int32) (v : Option Value) (h' : Heap) : Prop := (v = none) ∧ (Keep h0 h' [o0]) ∧ (Fld Z h' o0 "com/example/lumencast/lumencast/model/Routes" "fibres" "[I" (.ref o2)) ∧ (Fld Z h' o0 "com/example/lumencast/lumencast/model/Routes" "firstHop" "[I" (.ref o1))
theorem ef_au2643_7 (m : MethodId) (o0 : Addr) (o1 : Addr) (o2 : Addr) : entryFrame m #[(.ref o0), (.ref o1), (.ref o2)] 3 = mkF m 0 #[.val (.ref o0), .val (.ref o1), .val (.ref o2)] [] := by first | (simp [entryFrame, mkF, argsToLocals, Value.category]; done) | rfl
set_option maxRecDepth 65536 in
set_option maxHeartbeats 40000000 in
theorem au2643_7 (l : Launch) (Z : State) (a0 : Array Value) (hw : ∀ d ∈ tables_1, d.before a0 Z = true) (n0 : Nat) (h0 : Heap) (hn0 : n0 ≤ h0.size) (o0 : Addr) (o1 : Addr) (o2 : Addr) (i0 : Int32) (i1 : Int32) (i2 : Int32) (P0 : Exa Z h0 o0 "com/example/lumencast/lumencast/model/Routes") (P1 : Fld Z h0 o0 "com/example/lumencast/lumencast/model/Routes" "fibres" "[I" (.null)) (P2 : Fld Z h0 o0 "com/example/lumencast/lumencast/model/Routes" "firstHop" "[I" (.null)) (P3 : Av Z h0 o1 .int ([.int 0, .int 2, .int 3])) (P4 : Av Z h0 o2 .int ([.int i0, .int i1, .int i2])) (g_o0 : n0 ≤ o0) (g_o1 : n0 ≤ o1) (g_o2 : n0 ≤ o2) (ne_o0_o1 : o0 ≠ o1) (ne_o0_o2 : o0 ≠ o2) (ne_o1_o2 : o1 ≠ o2) :
    Con l Z n0 [] (⟨"com/example/lumencast/lumencast/model/Routes", "<init>", "([I[I)V"⟩ : MethodName) prog_25_method_1_code 3 none ({ frames := 1, cells := 0, slots := 0, locals := 12 } : Room) #[(.ref o0), (.ref o1), (.ref o2)] h0 (Qau2643_7 Z n0 h0 o0 o1 o2 i0 i1 i2) := by
  refine Con.of pf_6 (fun m => ef_au2643_7 m o0 o1 o2) hn0 ?_
  intro p e s m below meth c C
  refine C.aloadN d7_0 rfl rfl rfl ?_
  refine C.initO 0 d7_1 rfl (tw hw 44 rfl) (tw hw 7 rfl) (tw hw 8 rfl) rfl (by decide) (Nat.le_of_eq rfl) (by decide) ?_
  refine C.aloadN d7_4 rfl rfl rfl ?_
  refine C.aloadN d7_5 rfl rfl rfl ?_
  refine C.putF d7_6 rfl (tw hw 45 rfl) P2 P0 (Or.inr ⟨(tw hw 46 rfl), rfl, rfl⟩) (tw hw 27 rfl) (ty := (.array .int)) (by decide) rfl rfl g_o0 (fun h2672 W2673 F2674 => ?_)
  have F2675 : Exa Z h2672 o0 "com/example/lumencast/lumencast/model/Routes" := Exa.wr W2673 P0
  have F2676 : Fld Z h2672 o0 "com/example/lumencast/lumencast/model/Routes" "fibres" "[I" (.null) := Fld.other W2673 P1 (Or.inr (slot_ne (C := "com/example/lumencast/lumencast/model/Routes") (t := (.array .int)) (t' := (.array .int)) (Or.inr (tw hw 48 rfl)) (Or.inr (tw hw 46 rfl)) (by decide) (by decide) (by decide)))
  have F2677 : Av Z h2672 o1 .int ([.int 0, .int 2, .int 3]) := P3.other W2673 (Ne.symm ne_o0_o1)
  have F2678 : Av Z h2672 o2 .int ([.int i0, .int i1, .int i2]) := P4.other W2673 (Ne.symm ne_o0_o2)
  refine C.aloadN d7_9 rfl rfl rfl ?_
  refine C.aloadN d7_10 rfl rfl rfl ?_
  refine C.putF d7_11 rfl (tw hw 47 rfl) F2676 F2675 (Or.inr ⟨(tw hw 48 rfl), rfl, rfl⟩) (tw hw 27 rfl) (ty := (.array .int)) (by decide) rfl rfl g_o0 (fun h2679 W2680 F2681 => ?_)
  have F2682 : Exa Z h2679 o0 "com/example/lumencast/lumencast/model/Routes" := Exa.wr W2680 F2675
  have F2683 : Av Z h2679 o1 .int ([.int 0, .int 2, .int 3]) := F2677.other W2680 (Ne.symm ne_o0_o1)
  have F2684 : Av Z h2679 o2 .int ([.int i0, .int i1, .int i2]) := F2678.other W2680 (Ne.symm ne_o0_o2)
  have F2685 : Fld Z h2679 o0 "com/example/lumencast/lumencast/model/Routes" "firstHop" "[I" (.ref o1) := Fld.other W2680 F2674 (Or.inr (slot_ne (C := "com/example/lumencast/lumencast/model/Routes") (t := (.array .int)) (t' := (.array .int)) (Or.inr (tw hw 46 rfl)) (Or.inr (tw hw 48 rfl)) (by decide) (by decide) (by decide)))
  exact C.ret0 d7_14 (by decide) (by decide) ⟨rfl, (((Keep.refl h0 [o0]).wr W2673 (Or.inl (List.mem_of_getElem? (i := 0) rfl))).wr W2680 (Or.inl (List.mem_of_getElem? (i := 0) rfl))), F2681, F2685⟩
def Qau2560_4 (Z : State) (n0 : Nat) (h0 : Heap) (o0 : Addr) (o1 : Addr) (o2 : Addr) (i0 : Int32) (i1 : Int32) (i2 : Int32) (v : Option Value) (h' : Heap) : Prop := ∃ (f0 : Addr) (f1 : Addr), (v = some (.ref f0)) ∧ (Keep h0 h' []) ∧ (n0 ≤ f0) ∧ (h0.size ≤ f0) ∧ (n0 ≤ f1) ∧ (h0.size ≤ f1) ∧ (f0 ≠ f1) ∧ (Exa Z h' f0 "com/example/lumencast/lumencast/model/Routes") ∧ (Fld Z h' f0 "com/example/lumencast/lumencast/model/Routes" "fibres" "[I" (.ref f1)) ∧ (Fld Z h' f0 "com/example/lumencast/lumencast/model/Routes" "firstHop" "[I" (.ref o2)) ∧ (Av Z h' f1 .int ([.int i0, .int i1, .int i2]))
theorem ef_au2560_4 (m : MethodId) (o0 : Addr) : entryFrame m #[(.ref o0)] 2 = mkF m 0 #[.val (.ref o0), .unset] [] := by first | (simp [entryFrame, mkF, argsToLocals, Value.category]; done) | rfl
set_option maxRecDepth 65536 in
set_option maxHeartbeats 40000000 in
theorem au2560_4 (l : Launch) (Z : State) (a0 : Array Value) (hw : ∀ d ∈ tables_1, d.before a0 Z = true) (n0 : Nat) (h0 : Heap) (hn0 : n0 ≤ h0.size) (o0 : Addr) (o1 : Addr) (o2 : Addr) (i0 : Int32) (i1 : Int32) (i2 : Int32) (P0 : Exa Z h0 o0 "com/example/lumencast/lumencast/model/Routes$Builder") (P1 : Fld Z h0 o0 "com/example/lumencast/lumencast/model/Routes$Builder" "fibres" "[I" (.ref o1)) (P2 : Fld Z h0 o0 "com/example/lumencast/lumencast/model/Routes$Builder" "firstHop" "[I" (.ref o2)) (P3 : Fld Z h0 o0 "com/example/lumencast/lumencast/model/Routes$Builder" "pairsDone" "I" (.int 2)) (P4 : Av Z h0 o1 .int ([.int i0, .int i1, .int i2, .int 0, .int 0, .int 0, .int 0, .int 0, .int 0, .int 0, .int 0, .int 0, .int 0, .int 0, .int 0, .int 0])) (P5 : Av Z h0 o2 .int ([.int 0, .int 2, .int 3])) (g_o0 : n0 ≤ o0) (g_o1 : n0 ≤ o1) (g_o2 : n0 ≤ o2) (ne_o0_o1 : o0 ≠ o1) (ne_o0_o2 : o0 ≠ o2) (ne_o1_o2 : o1 ≠ o2) :
    Con l Z n0 [] (⟨"com/example/lumencast/lumencast/model/Routes$Builder", "build", "()Lcom/example/lumencast/lumencast/model/Routes;"⟩ : MethodName) prog_26_method_4_code 2 (some (.object "com/example/lumencast/lumencast/model/Routes")) ({ frames := 2, cells := 2, slots := 5, locals := 35 } : Room) #[(.ref o0)] h0 (Qau2560_4 Z n0 h0 o0 o1 o2 i0 i1 i2) := by
  refine Con.of pf_4 (fun m => ef_au2560_4 m o0) hn0 ?_
  intro p e s m below meth c C
  refine C.aloadN d4_0 rfl rfl rfl ?_
  refine C.getF d4_1 rfl (tw hw 19 rfl) P3 ?_
  refine C.iconst 1 d4_4 rfl rfl ?_
  refine C.iadd d4_5 rfl ?_
  show Go p l e ({ frames := 2, cells := 2, slots := 5, locals := 35 } : Room) s m #[(.ref o0)] below meth c n0 (FinQ s n0 (Qau2560_4 Z n0 h0 o0 o1 o2 i0 i1 i2) ({ frames := 2, cells := 2, slots := 5, locals := 35 } : Room).cells ({ frames := 2, cells := 2, slots := 5, locals := 35 } : Room).slots) h0 0 0 6 #[.val (.ref o0), .unset] [(.int 3)]
  refine C.aloadN d4_6 rfl rfl rfl ?_
  refine C.getF d4_7 rfl (tw hw 10 rfl) P2 ?_
  refine C.alen d4_10 rfl P5 ?_
  show Go p l e ({ frames := 2, cells := 2, slots := 5, locals := 35 } : Room) s m #[(.ref o0)] below meth c n0 (FinQ s n0 (Qau2560_4 Z n0 h0 o0 o1 o2 i0 i1 i2) ({ frames := 2, cells := 2, slots := 5, locals := 35 } : Room).cells ({ frames := 2, cells := 2, slots := 5, locals := 35 } : Room).slots) h0 0 0 11 #[.val (.ref o0), .unset] [(.int 3), (.int 3)]
  refine C.icmp_eq_t d4_11 (by decide) rfl (by decide) ?_
  refine C.aloadN d4_39 rfl rfl rfl ?_
  refine C.getF d4_40 rfl (tw hw 10 rfl) P2 ?_
  refine C.aloadN d4_43 rfl rfl rfl ?_
  refine C.getF d4_44 rfl (tw hw 19 rfl) P3 ?_
  refine C.iaload (.int 3) d4_47 rfl P5 (by decide) rfl ?_
  refine C.istoreN (Ls' := #[.val (.ref o0), .val (.int 3)]) d4_48 rfl rfl ?_
  refine C.new d4_49 rfl (tw hw 26 rfl) (tw hw 27 rfl) (tw hw 28 rfl) (by decide) (by decide) (fun a2760 h2761 z2765 g2766 X2763 E2762 D2764 => ?_)
  have gz2767 : h0.size ≤ a2760 := by rw [z2765]; exact (Keep.refl h0 []).1
  have ne2768 : o0 ≠ a2760 := by rw [z2765]; exact Nat.ne_of_lt P0.lt
  have ne2769 : o1 ≠ a2760 := by rw [z2765]; exact Nat.ne_of_lt P4.lt
  have ne2770 : o2 ≠ a2760 := by rw [z2765]; exact Nat.ne_of_lt P5.lt
  have F2771 : Exa Z h2761 o0 "com/example/lumencast/lumencast/model/Routes$Builder" := Exa.ext X2763 P0
  have F2772 : Fld Z h2761 o0 "com/example/lumencast/lumencast/model/Routes$Builder" "fibres" "[I" (.ref o1) := Fld.ext X2763 P1
  have F2773 : Fld Z h2761 o0 "com/example/lumencast/lumencast/model/Routes$Builder" "firstHop" "[I" (.ref o2) := Fld.ext X2763 P2
  have F2774 : Fld Z h2761 o0 "com/example/lumencast/lumencast/model/Routes$Builder" "pairsDone" "I" (.int 2) := Fld.ext X2763 P3
  have F2775 : Av Z h2761 o1 .int ([.int i0, .int i1, .int i2, .int 0, .int 0, .int 0, .int 0, .int 0, .int 0, .int 0, .int 0, .int 0, .int 0, .int 0, .int 0, .int 0]) := P4.ext X2763
  have F2776 : Av Z h2761 o2 .int ([.int 0, .int 2, .int 3]) := P5.ext X2763
  have F2777 : Fld Z h2761 a2760 "com/example/lumencast/lumencast/model/Routes" "firstHop" "[I" (.null) := D2764 (Or.inr (tw hw 46 rfl)) (ty := (.array .int)) (by decide)
  have F2778 : Fld Z h2761 a2760 "com/example/lumencast/lumencast/model/Routes" "fibres" "[I" (.null) := D2764 (Or.inr (tw hw 48 rfl)) (ty := (.array .int)) (by decide)
  refine C.dup d4_52 rfl rfl ?_
  refine C.aloadN d4_53 rfl rfl rfl ?_
  refine C.getF d4_54 rfl (tw hw 10 rfl) F2773 ?_
  refine C.iloadN d4_57 rfl rfl ?_
  refine C.aloadN d4_58 rfl rfl rfl ?_
  refine C.getF d4_59 rfl (tw hw 12 rfl) F2772 ?_
  refine C.alen d4_62 rfl F2775 ?_
  show Go p l e ({ frames := 2, cells := 2, slots := 5, locals := 35 } : Room) s m #[(.ref o0)] below meth c n0 (FinQ s n0 (Qau2560_4 Z n0 h0 o0 o1 o2 i0 i1 i2) ({ frames := 2, cells := 2, slots := 5, locals := 35 } : Room).cells ({ frames := 2, cells := 2, slots := 5, locals := 35 } : Room).slots) h2761 1 2 63 #[.val (.ref o0), .val (.int 3)] [(.int 16), (.int 3), (.ref o2), (.ref a2760), (.ref a2760)]
  refine C.icmp_ne_t d4_63 (by decide) rfl (by decide) ?_
  refine C.aloadN d4_73 rfl rfl rfl ?_
  refine C.getF d4_74 rfl (tw hw 12 rfl) F2772 ?_
  refine C.iloadN d4_77 rfl rfl ?_
  refine C.callS (argsL := [(.ref o1), (.int 3)]) (rest := [(.ref o2), (.ref a2760), (.ref a2760)]) 3 (fun zz => con_copy3 l Z a0 hw n0 h2761 zz o1 3 ([.int i0, .int i1, .int i2, .int 0, .int 0, .int 0, .int 0, .int 0, .int 0, .int 0, .int 0, .int 0, .int 0, .int 0, .int 0, .int 0]) F2775 (by decide) (by decide) (show ¬ (3 : Int32) = (16 : Nat).toInt32 by decide) (Nat.le_of_ble_eq_true rfl)) d4_78 rfl (tw hw 29 rfl) (tw hw 30 rfl) (tw hw 31 rfl) (tw hw 32 rfl) (by decide) pd_3 rfl rfl rfl (Nat.le_of_eq rfl) (by decide) (by decide) (by decide) (by decide) (fun v2779 h2780 r2781 => ?_)
  obtain ⟨a2782, rfl, K2783, g2785, gz2786, F2784⟩ := r2781
  have gz2787 : h0.size ≤ a2782 := Nat.le_trans ((Keep.refl h0 []).ext X2763).1 gz2786
  have ne2788 : o0 ≠ a2782 := Nat.ne_of_lt (Nat.lt_of_lt_of_le F2771.lt gz2786)
  have ne2789 : o1 ≠ a2782 := Nat.ne_of_lt (Nat.lt_of_lt_of_le F2775.lt gz2786)
  have ne2790 : o2 ≠ a2782 := Nat.ne_of_lt (Nat.lt_of_lt_of_le F2776.lt gz2786)
  have ne2791 : a2760 ≠ a2782 := Nat.ne_of_lt (Nat.lt_of_lt_of_le E2762.lt gz2786)
  have F2792 : Exa Z h2780 o0 "com/example/lumencast/lumencast/model/Routes$Builder" := F2771.keep K2783
  have F2793 : Fld Z h2780 o0 "com/example/lumencast/lumencast/model/Routes$Builder" "fibres" "[I" (.ref o1) := F2772.keep K2783 nin0
  have F2794 : Fld Z h2780 o0 "com/example/lumencast/lumencast/model/Routes$Builder" "firstHop" "[I" (.ref o2) := F2773.keep K2783 nin0
  have F2795 : Fld Z h2780 o0 "com/example/lumencast/lumencast/model/Routes$Builder" "pairsDone" "I" (.int 2) := F2774.keep K2783 nin0
  have F2796 : Av Z h2780 o1 .int ([.int i0, .int i1, .int i2, .int 0, .int 0, .int 0, .int 0, .int 0, .int 0, .int 0, .int 0, .int 0, .int 0, .int 0, .int 0, .int 0]) := F2775.keep K2783 nin0
  have F2797 : Av Z h2780 o2 .int ([.int 0, .int 2, .int 3]) := F2776.keep K2783 nin0
  have F2798 : Exa Z h2780 a2760 "com/example/lumencast/lumencast/model/Routes" := E2762.keep K2783
  have F2799 : Fld Z h2780 a2760 "com/example/lumencast/lumencast/model/Routes" "firstHop" "[I" (.null) := F2777.keep K2783 nin0
  have F2800 : Fld Z h2780 a2760 "com/example/lumencast/lumencast/model/Routes" "fibres" "[I" (.null) := F2778.keep K2783 nin0
  have F2801 : Av Z h2780 a2782 .int ([.int i0, .int i1, .int i2]) := F2784
  refine C.callNN (argsL := [(.ref o2), (.ref a2782)]) (rest := [(.ref a2760)]) 1 (fun zz => au2643_7 l Z a0 hw n0 h2780 zz a2760 o2 a2782 i0 i1 i2 F2798 F2800 F2799 F2797 F2801 g2766 g_o2 g2785 (Ne.symm ne2770) ne2791 ne2790) d4_81 rfl rfl (tw hw 41 rfl) (tw hw 42 rfl) (tw hw 28 rfl) (tw hw 43 rfl) (by decide) pd_4 rfl rfl rfl (Nat.le_of_eq rfl) (by decide) (by decide) (by decide) (by decide) (fun v2802 h2803 r2804 => ?_)
  obtain ⟨rfl, K2805, F2806, F2807⟩ := r2804
  have F2808 : Exa Z h2803 o0 "com/example/lumencast/lumencast/model/Routes$Builder" := F2792.keep K2805
  have F2809 : Fld Z h2803 o0 "com/example/lumencast/lumencast/model/Routes$Builder" "fibres" "[I" (.ref o1) := F2793.keep K2805 (ninS ne2768 nin0)
  have F2810 : Fld Z h2803 o0 "com/example/lumencast/lumencast/model/Routes$Builder" "firstHop" "[I" (.ref o2) := F2794.keep K2805 (ninS ne2768 nin0)
  have F2811 : Fld Z h2803 o0 "com/example/lumencast/lumencast/model/Routes$Builder" "pairsDone" "I" (.int 2) := F2795.keep K2805 (ninS ne2768 nin0)
  have F2812 : Av Z h2803 o1 .int ([.int i0, .int i1, .int i2, .int 0, .int 0, .int 0, .int 0, .int 0, .int 0, .int 0, .int 0, .int 0, .int 0, .int 0, .int 0, .int 0]) := F2796.keep K2805 (ninS ne2769 nin0)
  have F2813 : Av Z h2803 o2 .int ([.int 0, .int 2, .int 3]) := F2797.keep K2805 (ninS ne2770 nin0)
  have F2814 : Exa Z h2803 a2760 "com/example/lumencast/lumencast/model/Routes" := F2798.keep K2805
  have F2817 : Av Z h2803 a2782 .int ([.int i0, .int i1, .int i2]) := F2801.keep K2805 (ninS (Ne.symm ne2791) nin0)
  exact C.retA d4_84 rfl rfl (by decide) (by decide) ⟨a2760, a2782, rfl, ((((Keep.refl h0 []).ext X2763).trans K2783 all0).trans K2805 (allS (Or.inr gz2767) all0)), g2766, gz2767, g2785, gz2787, ne2791, F2814, F2806, F2807, F2817⟩
def Qau2848_8 (Z : State) (n0 : Nat) (h0 : Heap) (o0 : Addr) (o1 : Addr) (o2 : Addr) (i0 : Int32) (i1 : Int32) (i2 : Int32) (v : Option Value) (h' : Heap) : Prop := (v = some (.int 2)) ∧ (h0 = h')
theorem ef_au2848_8 (m : MethodId) (o0 : Addr) : entryFrame m #[(.ref o0), (.int 0)] 2 = mkF m 0 #[.val (.ref o0), .val (.int 0)] [] := by first | (simp [entryFrame, mkF, argsToLocals, Value.category]; done) | rfl
set_option maxRecDepth 65536 in
set_option maxHeartbeats 40000000 in
theorem au2848_8 (l : Launch) (Z : State) (a0 : Array Value) (hw : ∀ d ∈ tables_1, d.before a0 Z = true) (n0 : Nat) (h0 : Heap) (hn0 : n0 ≤ h0.size) (o0 : Addr) (o1 : Addr) (o2 : Addr) (i0 : Int32) (i1 : Int32) (i2 : Int32) (P0 : Exa Z h0 o0 "com/example/lumencast/lumencast/model/Routes") (P1 : Fld Z h0 o0 "com/example/lumencast/lumencast/model/Routes" "fibres" "[I" (.ref o1)) (P2 : Fld Z h0 o0 "com/example/lumencast/lumencast/model/Routes" "firstHop" "[I" (.ref o2)) (P3 : Av Z h0 o1 .int ([.int i0, .int i1, .int i2])) (P4 : Av Z h0 o2 .int ([.int 0, .int 2, .int 3])) (g_o0 : n0 ≤ o0) (g_o1 : n0 ≤ o1) (g_o2 : n0 ≤ o2) (ne_o0_o1 : o0 ≠ o1) (ne_o0_o2 : o0 ≠ o2) (ne_o1_o2 : o1 ≠ o2) :
    Con l Z n0 [] (⟨"com/example/lumencast/lumencast/model/Routes", "hops", "(I)I"⟩ : MethodName) prog_25_method_2_code 2 (some .int) ({ frames := 0, cells := 0, slots := 0, locals := 0 } : Room) #[(.ref o0), (.int 0)] h0 (Qau2848_8 Z n0 h0 o0 o1 o2 i0 i1 i2) := by
  refine Con.of pf_7 (fun m => ef_au2848_8 m o0) hn0 ?_
  intro p e s m below meth c C
  refine C.aloadN d8_0 rfl rfl rfl ?_
  refine C.getF d8_1 rfl (tw hw 45 rfl) P2 ?_
  refine C.iloadN d8_4 rfl rfl ?_
  refine C.iconst 1 d8_5 rfl rfl ?_
  refine C.iadd d8_6 rfl ?_
  show Go p l e ({ frames := 0, cells := 0, slots := 0, locals := 0 } : Room) s m #[(.ref o0), (.int 0)] below meth c n0 (FinQ s n0 (Qau2848_8 Z n0 h0 o0 o1 o2 i0 i1 i2) ({ frames := 0, cells := 0, slots := 0, locals := 0 } : Room).cells ({ frames := 0, cells := 0, slots := 0, locals := 0 } : Room).slots) h0 0 0 7 #[.val (.ref o0), .val (.int 0)] [(.int 1), (.ref o2)]
  refine C.iaload (.int 2) d8_7 rfl P4 (by decide) rfl ?_
  refine C.aloadN d8_8 rfl rfl rfl ?_
  refine C.getF d8_9 rfl (tw hw 45 rfl) P2 ?_
  refine C.iloadN d8_12 rfl rfl ?_
  refine C.iaload (.int 0) d8_13 rfl P4 (by decide) rfl ?_
  refine C.isub d8_14 rfl ?_
  show Go p l e ({ frames := 0, cells := 0, slots := 0, locals := 0 } : Room) s m #[(.ref o0), (.int 0)] below meth c n0 (FinQ s n0 (Qau2848_8 Z n0 h0 o0 o1 o2 i0 i1 i2) ({ frames := 0, cells := 0, slots := 0, locals := 0 } : Room).cells ({ frames := 0, cells := 0, slots := 0, locals := 0 } : Room).slots) h0 0 0 15 #[.val (.ref o0), .val (.int 0)] [(.int 2)]
  exact C.retI d8_15 (by decide) (by decide) ⟨rfl, rfl⟩
def Qau2853_8 (Z : State) (n0 : Nat) (h0 : Heap) (o0 : Addr) (o1 : Addr) (o2 : Addr) (i0 : Int32) (i1 : Int32) (i2 : Int32) (v : Option Value) (h' : Heap) : Prop := (v = some (.int 1)) ∧ (h0 = h')
theorem ef_au2853_8 (m : MethodId) (o0 : Addr) : entryFrame m #[(.ref o0), (.int 1)] 2 = mkF m 0 #[.val (.ref o0), .val (.int 1)] [] := by first | (simp [entryFrame, mkF, argsToLocals, Value.category]; done) | rfl
set_option maxRecDepth 65536 in
set_option maxHeartbeats 40000000 in
theorem au2853_8 (l : Launch) (Z : State) (a0 : Array Value) (hw : ∀ d ∈ tables_1, d.before a0 Z = true) (n0 : Nat) (h0 : Heap) (hn0 : n0 ≤ h0.size) (o0 : Addr) (o1 : Addr) (o2 : Addr) (i0 : Int32) (i1 : Int32) (i2 : Int32) (P0 : Exa Z h0 o0 "com/example/lumencast/lumencast/model/Routes") (P1 : Fld Z h0 o0 "com/example/lumencast/lumencast/model/Routes" "fibres" "[I" (.ref o1)) (P2 : Fld Z h0 o0 "com/example/lumencast/lumencast/model/Routes" "firstHop" "[I" (.ref o2)) (P3 : Av Z h0 o1 .int ([.int i0, .int i1, .int i2])) (P4 : Av Z h0 o2 .int ([.int 0, .int 2, .int 3])) (g_o0 : n0 ≤ o0) (g_o1 : n0 ≤ o1) (g_o2 : n0 ≤ o2) (ne_o0_o1 : o0 ≠ o1) (ne_o0_o2 : o0 ≠ o2) (ne_o1_o2 : o1 ≠ o2) :
    Con l Z n0 [] (⟨"com/example/lumencast/lumencast/model/Routes", "hops", "(I)I"⟩ : MethodName) prog_25_method_2_code 2 (some .int) ({ frames := 0, cells := 0, slots := 0, locals := 0 } : Room) #[(.ref o0), (.int 1)] h0 (Qau2853_8 Z n0 h0 o0 o1 o2 i0 i1 i2) := by
  refine Con.of pf_7 (fun m => ef_au2853_8 m o0) hn0 ?_
  intro p e s m below meth c C
  refine C.aloadN d8_0 rfl rfl rfl ?_
  refine C.getF d8_1 rfl (tw hw 45 rfl) P2 ?_
  refine C.iloadN d8_4 rfl rfl ?_
  refine C.iconst 1 d8_5 rfl rfl ?_
  refine C.iadd d8_6 rfl ?_
  show Go p l e ({ frames := 0, cells := 0, slots := 0, locals := 0 } : Room) s m #[(.ref o0), (.int 1)] below meth c n0 (FinQ s n0 (Qau2853_8 Z n0 h0 o0 o1 o2 i0 i1 i2) ({ frames := 0, cells := 0, slots := 0, locals := 0 } : Room).cells ({ frames := 0, cells := 0, slots := 0, locals := 0 } : Room).slots) h0 0 0 7 #[.val (.ref o0), .val (.int 1)] [(.int 2), (.ref o2)]
  refine C.iaload (.int 3) d8_7 rfl P4 (by decide) rfl ?_
  refine C.aloadN d8_8 rfl rfl rfl ?_
  refine C.getF d8_9 rfl (tw hw 45 rfl) P2 ?_
  refine C.iloadN d8_12 rfl rfl ?_
  refine C.iaload (.int 2) d8_13 rfl P4 (by decide) rfl ?_
  refine C.isub d8_14 rfl ?_
  show Go p l e ({ frames := 0, cells := 0, slots := 0, locals := 0 } : Room) s m #[(.ref o0), (.int 1)] below meth c n0 (FinQ s n0 (Qau2853_8 Z n0 h0 o0 o1 o2 i0 i1 i2) ({ frames := 0, cells := 0, slots := 0, locals := 0 } : Room).cells ({ frames := 0, cells := 0, slots := 0, locals := 0 } : Room).slots) h0 0 0 15 #[.val (.ref o0), .val (.int 1)] [(.int 1)]
  exact C.retI d8_15 (by decide) (by decide) ⟨rfl, rfl⟩
def Qau2858_10 (Z : State) (n0 : Nat) (h0 : Heap) (o0 : Addr) (o1 : Addr) (o2 : Addr) (i0 : Int32) (i1 : Int32) (i2 : Int32) (v : Option Value) (h' : Heap) : Prop := (v = some (.int i1)) ∧ (h0 = h')
theorem ef_au2858_10 (m : MethodId) (o0 : Addr) : entryFrame m #[(.ref o0), (.int 0), (.int 1)] 3 = mkF m 0 #[.val (.ref o0), .val (.int 0), .val (.int 1)] [] := by first | (simp [entryFrame, mkF, argsToLocals, Value.category]; done) | rfl
set_option maxRecDepth 65536 in
set_option maxHeartbeats 40000000 in
theorem au2858_10 (l : Launch) (Z : State) (a0 : Array Value) (hw : ∀ d ∈ tables_1, d.before a0 Z = true) (n0 : Nat) (h0 : Heap) (hn0 : n0 ≤ h0.size) (o0 : Addr) (o1 : Addr) (o2 : Addr) (i0 : Int32) (i1 : Int32) (i2 : Int32) (P0 : Exa Z h0 o0 "com/example/lumencast/lumencast/model/Routes") (P1 : Fld Z h0 o0 "com/example/lumencast/lumencast/model/Routes" "fibres" "[I" (.ref o1)) (P2 : Fld Z h0 o0 "com/example/lumencast/lumencast/model/Routes" "firstHop" "[I" (.ref o2)) (P3 : Av Z h0 o1 .int ([.int i0, .int i1, .int i2])) (P4 : Av Z h0 o2 .int ([.int 0, .int 2, .int 3])) (g_o0 : n0 ≤ o0) (g_o1 : n0 ≤ o1) (g_o2 : n0 ≤ o2) (ne_o0_o1 : o0 ≠ o1) (ne_o0_o2 : o0 ≠ o2) (ne_o1_o2 : o1 ≠ o2) :
    Con l Z n0 [] (⟨"com/example/lumencast/lumencast/model/Routes", "fibre", "(II)I"⟩ : MethodName) prog_25_method_3_code 3 (some .int) ({ frames := 0, cells := 0, slots := 0, locals := 0 } : Room) #[(.ref o0), (.int 0), (.int 1)] h0 (Qau2858_10 Z n0 h0 o0 o1 o2 i0 i1 i2) := by
  refine Con.of pf_9 (fun m => ef_au2858_10 m o0) hn0 ?_
  intro p e s m below meth c C
  refine C.aloadN d10_0 rfl rfl rfl ?_
  refine C.getF d10_1 rfl (tw hw 47 rfl) P1 ?_
  refine C.aloadN d10_4 rfl rfl rfl ?_
  refine C.getF d10_5 rfl (tw hw 45 rfl) P2 ?_
  refine C.iloadN d10_8 rfl rfl ?_
  refine C.iaload (.int 0) d10_9 rfl P4 (by decide) rfl ?_
  refine C.iloadN d10_10 rfl rfl ?_
  refine C.iadd d10_11 rfl ?_
  show Go p l e ({ frames := 0, cells := 0, slots := 0, locals := 0 } : Room) s m #[(.ref o0), (.int 0), (.int 1)] below meth c n0 (FinQ s n0 (Qau2858_10 Z n0 h0 o0 o1 o2 i0 i1 i2) ({ frames := 0, cells := 0, slots := 0, locals := 0 } : Room).cells ({ frames := 0, cells := 0, slots := 0, locals := 0 } : Room).slots) h0 0 0 12 #[.val (.ref o0), .val (.int 0), .val (.int 1)] [(.int 1), (.ref o1)]
  refine C.iaload (.int i1) d10_12 rfl P3 (by decide) rfl ?_
  exact C.retI d10_13 (by decide) (by decide) ⟨rfl, rfl⟩
def Qau2863_10 (Z : State) (n0 : Nat) (h0 : Heap) (o0 : Addr) (o1 : Addr) (o2 : Addr) (i0 : Int32) (i1 : Int32) (i2 : Int32) (v : Option Value) (h' : Heap) : Prop := (v = some (.int i2)) ∧ (h0 = h')
theorem ef_au2863_10 (m : MethodId) (o0 : Addr) : entryFrame m #[(.ref o0), (.int 1), (.int 0)] 3 = mkF m 0 #[.val (.ref o0), .val (.int 1), .val (.int 0)] [] := by first | (simp [entryFrame, mkF, argsToLocals, Value.category]; done) | rfl
set_option maxRecDepth 65536 in
set_option maxHeartbeats 40000000 in
theorem au2863_10 (l : Launch) (Z : State) (a0 : Array Value) (hw : ∀ d ∈ tables_1, d.before a0 Z = true) (n0 : Nat) (h0 : Heap) (hn0 : n0 ≤ h0.size) (o0 : Addr) (o1 : Addr) (o2 : Addr) (i0 : Int32) (i1 : Int32) (i2 : Int32) (P0 : Exa Z h0 o0 "com/example/lumencast/lumencast/model/Routes") (P1 : Fld Z h0 o0 "com/example/lumencast/lumencast/model/Routes" "fibres" "[I" (.ref o1)) (P2 : Fld Z h0 o0 "com/example/lumencast/lumencast/model/Routes" "firstHop" "[I" (.ref o2)) (P3 : Av Z h0 o1 .int ([.int i0, .int i1, .int i2])) (P4 : Av Z h0 o2 .int ([.int 0, .int 2, .int 3])) (g_o0 : n0 ≤ o0) (g_o1 : n0 ≤ o1) (g_o2 : n0 ≤ o2) (ne_o0_o1 : o0 ≠ o1) (ne_o0_o2 : o0 ≠ o2) (ne_o1_o2 : o1 ≠ o2) :
    Con l Z n0 [] (⟨"com/example/lumencast/lumencast/model/Routes", "fibre", "(II)I"⟩ : MethodName) prog_25_method_3_code 3 (some .int) ({ frames := 0, cells := 0, slots := 0, locals := 0 } : Room) #[(.ref o0), (.int 1), (.int 0)] h0 (Qau2863_10 Z n0 h0 o0 o1 o2 i0 i1 i2) := by
  refine Con.of pf_9 (fun m => ef_au2863_10 m o0) hn0 ?_
  intro p e s m below meth c C
  refine C.aloadN d10_0 rfl rfl rfl ?_
  refine C.getF d10_1 rfl (tw hw 47 rfl) P1 ?_
  refine C.aloadN d10_4 rfl rfl rfl ?_
  refine C.getF d10_5 rfl (tw hw 45 rfl) P2 ?_
  refine C.iloadN d10_8 rfl rfl ?_
  refine C.iaload (.int 2) d10_9 rfl P4 (by decide) rfl ?_
  refine C.iloadN d10_10 rfl rfl ?_
  refine C.iadd d10_11 rfl ?_
  show Go p l e ({ frames := 0, cells := 0, slots := 0, locals := 0 } : Room) s m #[(.ref o0), (.int 1), (.int 0)] below meth c n0 (FinQ s n0 (Qau2863_10 Z n0 h0 o0 o1 o2 i0 i1 i2) ({ frames := 0, cells := 0, slots := 0, locals := 0 } : Room).cells ({ frames := 0, cells := 0, slots := 0, locals := 0 } : Room).slots) h0 0 0 12 #[.val (.ref o0), .val (.int 1), .val (.int 0)] [(.int 2), (.ref o1)]
  refine C.iaload (.int i2) d10_12 rfl P3 (by decide) rfl ?_
  exact C.retI d10_13 (by decide) (by decide) ⟨rfl, rfl⟩
def Qcon0 (Z : State) (n0 : Nat) (h0 : Heap) (x0 : Int32) (x1 : Int32) (x2 : Int32) (x3 : Int32) (v : Option Value) (h' : Heap) : Prop := v = some (.int 1) ∧ True
theorem ef_con0 (m : MethodId) (x0 : Int32) (x1 : Int32) (x2 : Int32) (x3 : Int32) : entryFrame m #[(.int x0), (.int x1), (.int x2), (.int x3)] maxLocals = mkF m 0 #[.val (.int x0), .val (.int x1), .val (.int x2), .val (.int x3), .unset, .unset, .unset, .unset, .unset, .unset] [] := by first | (simp [entryFrame, mkF, argsToLocals, Value.category, maxLocals]; done) | rfl
set_option maxRecDepth 65536 in
set_option maxHeartbeats 40000000 in
theorem con0 (l : Launch) (Z : State) (a0 : Array Value) (hw : ∀ d ∈ tables_1, d.before a0 Z = true) (n0 : Nat) (h0 : Heap) (hn0 : n0 ≤ h0.size) (x0 : Int32) (x1 : Int32) (x2 : Int32) (x3 : Int32) :
    Con l Z n0 tables_1 x code maxLocals ret room_1 #[(.int x0), (.int x1), (.int x2), (.int x3)] h0 (Qcon0 Z n0 h0 x0 x1 x2 x3) := by
  refine Con.of pf_1 (fun m => ef_con0 m x0 x1 x2 x3) hn0 ?_
  intro p e s m below meth c C
  refine C.iloadN at_0 rfl rfl ?_
  refine C.iconst 3 at_1 rfl rfl ?_
  refine C.iand at_2 rfl ?_
  refine C.iconst 3 at_3 rfl rfl ?_
  refine C.irem at_4 rfl (by decide) ?_
  refine C.istore (Ls' := #[.val (.int x0), .val (.int x1), .val (.int x2), .val (.int x3), .val (.int ((x0 &&& 3) % 3)), .unset, .unset, .unset, .unset, .unset]) at_5 rfl rfl ?_
  rcases own_a x0 with qc | qc | qc
  · rw [qc]
    refine C.iloadN at_7 rfl rfl ?_
    refine C.iconst 2 at_8 rfl rfl ?_
    refine C.iushr at_9 rfl ?_
    refine C.iconst 1 at_10 rfl rfl ?_
    refine C.iand at_11 rfl ?_
    refine C.istore (Ls' := #[.val (.int x0), .val (.int x1), .val (.int x2), .val (.int x3), .val (.int 0), .val (.int ((XT.ushr x0 2) &&& 1)), .unset, .unset, .unset, .unset]) at_12 rfl rfl ?_
    rcases and_one (XT.ushr x0 2) with qd | qd
    · rw [qd]
      refine C.new at_14 rfl (tw hw 0 rfl) (tw hw 1 rfl) (tw hw 2 rfl) (by decide) (by decide) (fun a1 h2 z6 g7 X4 E3 D5 => ?_)
      have F8 : Fld Z h2 a1 "com/example/lumencast/lumencast/model/Routes$Builder" "firstHop" "[I" (.null) := D5 (Or.inr (tw hw 11 rfl)) (ty := (.array .int)) (by decide)
      have F9 : Fld Z h2 a1 "com/example/lumencast/lumencast/model/Routes$Builder" "fibres" "[I" (.null) := D5 (Or.inl (tw hw 13 rfl)) (ty := (.array .int)) (by decide)
      have F10 : Fld Z h2 a1 "com/example/lumencast/lumencast/model/Routes$Builder" "pairsDone" "I" (.int 0) := D5 (Or.inl (tw hw 20 rfl)) (ty := .int) (by decide)
      refine C.dup at_17 rfl rfl ?_
      refine C.iconst 2 at_18 rfl rfl ?_
      refine C.callN (argsL := [(.int 2)]) (rest := [(.ref a1)]) 1 (fun zz => au11_1 l Z a0 hw n0 h2 zz a1 E3 F9 F8 F10 g7) at_19 rfl rfl (tw hw 3 rfl) (tw hw 4 rfl) (tw hw 2 rfl) (tw hw 5 rfl) (by decide) pd_0 rfl rfl rfl (Nat.le_of_eq rfl) (by decide) (by decide) (by decide) (by decide) (fun v141 h142 r143 => ?_)
      obtain ⟨a144, a145, rfl, K146, g153, gz154, g155, gz156, ne147, F148, F149, F150, F151, F152⟩ := r143
      have ne157 : a1 ≠ a144 := Nat.ne_of_lt (Nat.lt_of_lt_of_le E3.lt gz154)
      have ne158 : a1 ≠ a145 := Nat.ne_of_lt (Nat.lt_of_lt_of_le E3.lt gz156)
      have F159 : Exa Z h142 a1 "com/example/lumencast/lumencast/model/Routes$Builder" := E3.keep K146
      refine C.astore (Ls' := #[.val (.int x0), .val (.int x1), .val (.int x2), .val (.int x3), .val (.int 0), .val (.int 0), .val (.ref a1), .unset, .unset, .unset]) at_22 rfl rfl rfl ?_
      refine C.iload at_24 rfl rfl ?_
      refine C.iconst 1 at_26 rfl rfl ?_
      refine C.icmp_lt_t at_27 (by decide) rfl (by decide) ?_
      refine C.iload at_36 rfl rfl ?_
      refine C.iconst 2 at_38 rfl rfl ?_
      refine C.icmp_lt_t at_39 (by decide) rfl (by decide) ?_
      refine C.aload at_48 rfl rfl rfl ?_
      refine C.callV (argsL := []) (rest := []) 0 (fun zz => au163_3 l Z a0 hw n0 h142 zz a1 a144 a145 F159 F148 F149 F150 F151 F152 g7 g153 g155 ne157 ne158 ne147) F159 at_50 rfl (tw hw 14 rfl) (tw hw 15 rfl) (tw hw 16 rfl) (tw hw 17 rfl) (tw hw 2 rfl) (tw hw 18 rfl) (by decide) pd_1 rfl rfl rfl (Nat.le_of_eq rfl) (by decide) (by decide) (by decide) (by decide) (fun v215 h216 r217 => ?_)
      obtain ⟨rfl, K218, F219, F220, F221, F222⟩ := r217
      have F223 : Exa Z h216 a1 "com/example/lumencast/lumencast/model/Routes$Builder" := F159.keep K218
      have F227 : Av Z h216 a144 .int ([.int 0, .int 0]) := F151.keep K218 (ninS (Ne.symm ne157) (ninS ne147 nin0))
      refine C.iload at_53 rfl rfl ?_
      refine C.iconst 1 at_55 rfl rfl ?_
      refine C.icmp_ne_t at_56 (by decide) rfl (by decide) ?_
      refine C.aload at_65 rfl rfl rfl ?_
      refine C.callV (argsL := []) (rest := []) 0 (fun zz => au229_3 l Z a0 hw n0 h216 zz a1 a144 a145 F223 F219 F220 F221 F227 F222 g7 g153 g155 ne157 ne158 ne147) F223 at_67 rfl (tw hw 14 rfl) (tw hw 15 rfl) (tw hw 16 rfl) (tw hw 17 rfl) (tw hw 2 rfl) (tw hw 18 rfl) (by decide) pd_1 rfl rfl rfl (Nat.le_of_eq rfl) (by decide) (by decide) (by decide) (by decide) (fun v254 h255 r256 => ?_)
      obtain ⟨rfl, K257, F258, F259, F260⟩ := r256
      have F261 : Exa Z h255 a1 "com/example/lumencast/lumencast/model/Routes$Builder" := F223.keep K257
      have F262 : Av Z h255 a144 .int ([.int 0, .int 0]) := F227.keep K257 (ninS (Ne.symm ne157) nin0)
      have F266 : Av Z h255 a145 .int ([.int 0, .int 0, .int 0]) := F222.keep K257 (ninS (Ne.symm ne158) nin0)
      refine C.aload at_70 rfl rfl rfl ?_
      refine C.callV (argsL := []) (rest := []) 0 (fun zz => au267_4 l Z a0 hw n0 h255 zz a1 a144 a145 F261 F258 F259 F260 F262 F266 g7 g153 g155 ne157 ne158 ne147) F261 at_72 rfl (tw hw 21 rfl) (tw hw 22 rfl) (tw hw 23 rfl) (tw hw 24 rfl) (tw hw 2 rfl) (tw hw 25 rfl) (by decide) pd_5 rfl rfl rfl (Nat.le_of_eq rfl) (by decide) (by decide) (by decide) (by decide) (fun v525 h526 r527 => ?_)
      obtain ⟨a528, a529, rfl, K530, g536, gz537, g538, gz539, ne531, F532, F533, F534, F535⟩ := r527
      have ne540 : a1 ≠ a528 := Nat.ne_of_lt (Nat.lt_of_lt_of_le F261.lt gz537)
      have ne541 : a144 ≠ a528 := Nat.ne_of_lt (Nat.lt_of_lt_of_le F262.lt gz537)
      have ne542 : a145 ≠ a528 := Nat.ne_of_lt (Nat.lt_of_lt_of_le F266.lt gz537)
      have ne543 : a1 ≠ a529 := Nat.ne_of_lt (Nat.lt_of_lt_of_le F261.lt gz539)
      have ne544 : a144 ≠ a529 := Nat.ne_of_lt (Nat.lt_of_lt_of_le F262.lt gz539)
      have ne545 : a145 ≠ a529 := Nat.ne_of_lt (Nat.lt_of_lt_of_le F266.lt gz539)
      have F546 : Exa Z h526 a1 "com/example/lumencast/lumencast/model/Routes$Builder" := F261.keep K530
      have F547 : Av Z h526 a144 .int ([.int 0, .int 0]) := F262.keep K530 nin0
      have F548 : Av Z h526 a145 .int ([.int 0, .int 0, .int 0]) := F266.keep K530 nin0
      have F549 : Fld Z h526 a1 "com/example/lumencast/lumencast/model/Routes$Builder" "fibres" "[I" (.ref a144) := F258.keep K530 nin0
      have F550 : Fld Z h526 a1 "com/example/lumencast/lumencast/model/Routes$Builder" "firstHop" "[I" (.ref a145) := F259.keep K530 nin0
      have F551 : Fld Z h526 a1 "com/example/lumencast/lumencast/model/Routes$Builder" "pairsDone" "I" (.int 2) := F260.keep K530 nin0
      refine C.astore (Ls' := #[.val (.int x0), .val (.int x1), .val (.int x2), .val (.int x3), .val (.int 0), .val (.int 0), .val (.ref a1), .val (.ref a528), .unset, .unset]) at_75 rfl rfl rfl ?_
      refine C.aload at_77 rfl rfl rfl ?_
      refine C.iconst 0 at_79 rfl rfl ?_
      refine C.callV (argsL := [(.int 0)]) (rest := []) 0 (fun zz => au552_8 l Z a0 hw n0 h526 zz a528 a529 a145 F532 F533 F534 F535 F548 g536 g538 g155 ne531 (Ne.symm ne542) (Ne.symm ne545)) F532 at_80 rfl (tw hw 49 rfl) (tw hw 50 rfl) (tw hw 51 rfl) (tw hw 52 rfl) (tw hw 28 rfl) (tw hw 53 rfl) (by decide) pd_6 rfl rfl rfl (Nat.le_of_eq rfl) (by decide) (by decide) (by decide) (by decide) (fun v553 h554 r555 => ?_)
      obtain ⟨rfl, rfl⟩ := r555
      refine C.iload at_83 rfl rfl ?_
      refine C.icmp_ne_f at_85 rfl (by decide) ?_
      refine C.aload at_88 rfl rfl rfl ?_
      refine C.iconst 1 at_90 rfl rfl ?_
      refine C.callV (argsL := [(.int 1)]) (rest := []) 0 (fun zz => au557_8 l Z a0 hw n0 h526 zz a528 a529 a145 F532 F533 F534 F535 F548 g536 g538 g155 ne531 (Ne.symm ne542) (Ne.symm ne545)) F532 at_91 rfl (tw hw 49 rfl) (tw hw 50 rfl) (tw hw 51 rfl) (tw hw 52 rfl) (tw hw 28 rfl) (tw hw 53 rfl) (by decide) pd_6 rfl rfl rfl (Nat.le_of_eq rfl) (by decide) (by decide) (by decide) (by decide) (fun v558 h559 r560 => ?_)
      obtain ⟨rfl, rfl⟩ := r560
      refine C.iload at_94 rfl rfl ?_
      refine C.icmp_ne_f at_96 rfl (by decide) ?_
      refine C.iconst 1 at_99 rfl rfl ?_
      refine C.goto at_100 (by decide) rfl ?_
      refine C.istore (Ls' := #[.val (.int x0), .val (.int x1), .val (.int x2), .val (.int x3), .val (.int 0), .val (.int 0), .val (.ref a1), .val (.ref a528), .val (.int 1), .unset]) at_104 rfl rfl ?_
      refine C.iload at_106 rfl rfl ?_
      refine C.if_eq_f at_108 rfl (by decide) ?_
      refine C.iload at_111 rfl rfl ?_
      refine C.iconst 1 at_113 rfl rfl ?_
      refine C.icmp_lt_t at_114 (by decide) rfl (by decide) ?_
      refine C.iload at_152 rfl rfl ?_
      refine C.if_eq_f at_154 rfl (by decide) ?_
      refine C.iload at_157 rfl rfl ?_
      refine C.iconst 1 at_159 rfl rfl ?_
      refine C.icmp_ne_t at_160 (by decide) rfl (by decide) ?_
      refine C.iload at_181 rfl rfl ?_
      exact C.retZ at_183 rfl (by decide) (by decide) ⟨rfl, trivial⟩
    · rw [qd]
      refine C.new at_14 rfl (tw hw 0 rfl) (tw hw 1 rfl) (tw hw 2 rfl) (by decide) (by decide) (fun a562 h563 z567 g568 X565 E564 D566 => ?_)
      have F569 : Fld Z h563 a562 "com/example/lumencast/lumencast/model/Routes$Builder" "firstHop" "[I" (.null) := D566 (Or.inr (tw hw 11 rfl)) (ty := (.array .int)) (by decide)
      have F570 : Fld Z h563 a562 "com/example/lumencast/lumencast/model/Routes$Builder" "fibres" "[I" (.null) := D566 (Or.inl (tw hw 13 rfl)) (ty := (.array .int)) (by decide)
      have F571 : Fld Z h563 a562 "com/example/lumencast/lumencast/model/Routes$Builder" "pairsDone" "I" (.int 0) := D566 (Or.inl (tw hw 20 rfl)) (ty := .int) (by decide)
      refine C.dup at_17 rfl rfl ?_
      refine C.iconst 2 at_18 rfl rfl ?_
      refine C.callN (argsL := [(.int 2)]) (rest := [(.ref a562)]) 1 (fun zz => au11_1 l Z a0 hw n0 h563 zz a562 E564 F570 F569 F571 g568) at_19 rfl rfl (tw hw 3 rfl) (tw hw 4 rfl) (tw hw 2 rfl) (tw hw 5 rfl) (by decide) pd_0 rfl rfl rfl (Nat.le_of_eq rfl) (by decide) (by decide) (by decide) (by decide) (fun v572 h573 r574 => ?_)
      obtain ⟨a575, a576, rfl, K577, g584, gz585, g586, gz587, ne578, F579, F580, F581, F582, F583⟩ := r574
      have ne588 : a562 ≠ a575 := Nat.ne_of_lt (Nat.lt_of_lt_of_le E564.lt gz585)
      have ne589 : a562 ≠ a576 := Nat.ne_of_lt (Nat.lt_of_lt_of_le E564.lt gz587)
      have F590 : Exa Z h573 a562 "com/example/lumencast/lumencast/model/Routes$Builder" := E564.keep K577
      refine C.astore (Ls' := #[.val (.int x0), .val (.int x1), .val (.int x2), .val (.int x3), .val (.int 0), .val (.int 1), .val (.ref a562), .unset, .unset, .unset]) at_22 rfl rfl rfl ?_
      refine C.iload at_24 rfl rfl ?_
      refine C.iconst 1 at_26 rfl rfl ?_
      refine C.icmp_lt_t at_27 (by decide) rfl (by decide) ?_
      refine C.iload at_36 rfl rfl ?_
      refine C.iconst 2 at_38 rfl rfl ?_
      refine C.icmp_lt_t at_39 (by decide) rfl (by decide) ?_
      refine C.aload at_48 rfl rfl rfl ?_
      refine C.callV (argsL := []) (rest := []) 0 (fun zz => au163_3 l Z a0 hw n0 h573 zz a562 a575 a576 F590 F579 F580 F581 F582 F583 g568 g584 g586 ne588 ne589 ne578) F590 at_50 rfl (tw hw 14 rfl) (tw hw 15 rfl) (tw hw 16 rfl) (tw hw 17 rfl) (tw hw 2 rfl) (tw hw 18 rfl) (by decide) pd_1 rfl rfl rfl (Nat.le_of_eq rfl) (by decide) (by decide) (by decide) (by decide) (fun v594 h595 r596 => ?_)
      obtain ⟨rfl, K597, F598, F599, F600, F601⟩ := r596
      have F602 : Exa Z h595 a562 "com/example/lumencast/lumencast/model/Routes$Builder" := F590.keep K597
      have F606 : Av Z h595 a575 .int ([.int 0, .int 0]) := F582.keep K597 (ninS (Ne.symm ne588) (ninS ne578 nin0))
      refine C.iload at_53 rfl rfl ?_
      refine C.iconst 1 at_55 rfl rfl ?_
      refine C.icmp_ne_f at_56 rfl (by decide) ?_
      refine C.aload at_59 rfl rfl rfl ?_
      refine C.iloadN at_61 rfl rfl ?_
      refine C.callV (argsL := [(.int x3)]) (rest := []) 0 (fun zz => au608_9 l Z a0 hw n0 h595 zz a562 x3 a575 a576 F602 F598 F599 F600 F606 F601 g568 g584 g586 ne588 ne589 ne578) F602 at_62 rfl (tw hw 54 rfl) (tw hw 55 rfl) (tw hw 56 rfl) (tw hw 57 rfl) (tw hw 2 rfl) (tw hw 58 rfl) (by decide) pd_0 rfl rfl rfl (Nat.le_of_eq rfl) (by decide) (by decide) (by decide) (by decide) (fun v663 h664 r665 => ?_)
      obtain ⟨rfl, K666, F667, F668⟩ := r665
      have F669 : Exa Z h664 a562 "com/example/lumencast/lumencast/model/Routes$Builder" := F602.keep K666
      have F671 : Fld Z h664 a562 "com/example/lumencast/lumencast/model/Routes$Builder" "fibres" "[I" (.ref a575) := F598.keep K666 (ninS ne588 (ninS ne589 nin0))
      have F672 : Fld Z h664 a562 "com/example/lumencast/lumencast/model/Routes$Builder" "firstHop" "[I" (.ref a576) := F599.keep K666 (ninS ne588 (ninS ne589 nin0))
      have F673 : Fld Z h664 a562 "com/example/lumencast/lumencast/model/Routes$Builder" "pairsDone" "I" (.int 1) := F600.keep K666 (ninS ne588 (ninS ne589 nin0))
      refine C.aload at_65 rfl rfl rfl ?_
      refine C.callV (argsL := []) (rest := []) 0 (fun zz => au675_3 l Z a0 hw n0 h664 zz a562 a575 a576 x3 F669 F671 F672 F673 F667 F668 g568 g584 g586 ne588 ne589 ne578) F669 at_67 rfl (tw hw 14 rfl) (tw hw 15 rfl) (tw hw 16 rfl) (tw hw 17 rfl) (tw hw 2 rfl) (tw hw 18 rfl) (by decide) pd_1 rfl rfl rfl (Nat.le_of_eq rfl) (by decide) (by decide) (by decide) (by decide) (fun v700 h701 r702 => ?_)
      obtain ⟨rfl, K703, F704, F705, F706⟩ := r702
      have F707 : Exa Z h701 a562 "com/example/lumencast/lumencast/model/Routes$Builder" := F669.keep K703
      have F711 : Av Z h701 a575 .int ([.int x3, .int 0]) := F667.keep K703 (ninS (Ne.symm ne588) nin0)
      have F712 : Av Z h701 a576 .int ([.int 0, .int 0, .int 1]) := F668.keep K703 (ninS (Ne.symm ne589) nin0)
      refine C.aload at_70 rfl rfl rfl ?_
      refine C.callV (argsL := []) (rest := []) 0 (fun zz => au713_4 l Z a0 hw n0 h701 zz a562 a575 a576 x3 F707 F704 F705 F706 F711 F712 g568 g584 g586 ne588 ne589 ne578) F707 at_72 rfl (tw hw 21 rfl) (tw hw 22 rfl) (tw hw 23 rfl) (tw hw 24 rfl) (tw hw 2 rfl) (tw hw 25 rfl) (by decide) pd_5 rfl rfl rfl (Nat.le_of_eq rfl) (by decide) (by decide) (by decide) (by decide) (fun v971 h972 r973 => ?_)
      obtain ⟨a974, a975, rfl, K976, g982, gz983, g984, gz985, ne977, F978, F979, F980, F981⟩ := r973
      have ne986 : a562 ≠ a974 := Nat.ne_of_lt (Nat.lt_of_lt_of_le F707.lt gz983)
      have ne987 : a575 ≠ a974 := Nat.ne_of_lt (Nat.lt_of_lt_of_le F711.lt gz983)
      have ne988 : a576 ≠ a974 := Nat.ne_of_lt (Nat.lt_of_lt_of_le F712.lt gz983)
      have ne989 : a562 ≠ a975 := Nat.ne_of_lt (Nat.lt_of_lt_of_le F707.lt gz985)
      have ne990 : a575 ≠ a975 := Nat.ne_of_lt (Nat.lt_of_lt_of_le F711.lt gz985)
      have ne991 : a576 ≠ a975 := Nat.ne_of_lt (Nat.lt_of_lt_of_le F712.lt gz985)
      have F992 : Exa Z h972 a562 "com/example/lumencast/lumencast/model/Routes$Builder" := F707.keep K976
      have F993 : Av Z h972 a575 .int ([.int x3, .int 0]) := F711.keep K976 nin0
      have F994 : Av Z h972 a576 .int ([.int 0, .int 0, .int 1]) := F712.keep K976 nin0
      have F995 : Fld Z h972 a562 "com/example/lumencast/lumencast/model/Routes$Builder" "fibres" "[I" (.ref a575) := F704.keep K976 nin0
      have F996 : Fld Z h972 a562 "com/example/lumencast/lumencast/model/Routes$Builder" "firstHop" "[I" (.ref a576) := F705.keep K976 nin0
      have F997 : Fld Z h972 a562 "com/example/lumencast/lumencast/model/Routes$Builder" "pairsDone" "I" (.int 2) := F706.keep K976 nin0
      refine C.astore (Ls' := #[.val (.int x0), .val (.int x1), .val (.int x2), .val (.int x3), .val (.int 0), .val (.int 1), .val (.ref a562), .val (.ref a974), .unset, .unset]) at_75 rfl rfl rfl ?_
      refine C.aload at_77 rfl rfl rfl ?_
      refine C.iconst 0 at_79 rfl rfl ?_
      refine C.callV (argsL := [(.int 0)]) (rest := []) 0 (fun zz => au998_8 l Z a0 hw n0 h972 zz a974 a975 a576 x3 F978 F979 F980 F981 F994 g982 g984 g586 ne977 (Ne.symm ne988) (Ne.symm ne991)) F978 at_80 rfl (tw hw 49 rfl) (tw hw 50 rfl) (tw hw 51 rfl) (tw hw 52 rfl) (tw hw 28 rfl) (tw hw 53 rfl) (by decide) pd_6 rfl rfl rfl (Nat.le_of_eq rfl) (by decide) (by decide) (by decide) (by decide) (fun v999 h1000 r1001 => ?_)
      obtain ⟨rfl, rfl⟩ := r1001
      refine C.iload at_83 rfl rfl ?_
      refine C.icmp_ne_f at_85 rfl (by decide) ?_
      refine C.aload at_88 rfl rfl rfl ?_
      refine C.iconst 1 at_90 rfl rfl ?_
      refine C.callV (argsL := [(.int 1)]) (rest := []) 0 (fun zz => au1003_8 l Z a0 hw n0 h972 zz a974 a975 a576 x3 F978 F979 F980 F981 F994 g982 g984 g586 ne977 (Ne.symm ne988) (Ne.symm ne991)) F978 at_91 rfl (tw hw 49 rfl) (tw hw 50 rfl) (tw hw 51 rfl) (tw hw 52 rfl) (tw hw 28 rfl) (tw hw 53 rfl) (by decide) pd_6 rfl rfl rfl (Nat.le_of_eq rfl) (by decide) (by decide) (by decide) (by decide) (fun v1004 h1005 r1006 => ?_)
      obtain ⟨rfl, rfl⟩ := r1006
      refine C.iload at_94 rfl rfl ?_
      refine C.icmp_ne_f at_96 rfl (by decide) ?_
      refine C.iconst 1 at_99 rfl rfl ?_
      refine C.goto at_100 (by decide) rfl ?_
      refine C.istore (Ls' := #[.val (.int x0), .val (.int x1), .val (.int x2), .val (.int x3), .val (.int 0), .val (.int 1), .val (.ref a562), .val (.ref a974), .val (.int 1), .unset]) at_104 rfl rfl ?_
      refine C.iload at_106 rfl rfl ?_
      refine C.if_eq_f at_108 rfl (by decide) ?_
      refine C.iload at_111 rfl rfl ?_
      refine C.iconst 1 at_113 rfl rfl ?_
      refine C.icmp_lt_t at_114 (by decide) rfl (by decide) ?_
      refine C.iload at_152 rfl rfl ?_
      refine C.if_eq_f at_154 rfl (by decide) ?_
      refine C.iload at_157 rfl rfl ?_
      refine C.iconst 1 at_159 rfl rfl ?_
      refine C.icmp_ne_f at_160 rfl (by decide) ?_
      refine C.aload at_163 rfl rfl rfl ?_
      refine C.iconst 1 at_165 rfl rfl ?_
      refine C.iconst 0 at_166 rfl rfl ?_
      refine C.callV (argsL := [(.int 1), (.int 0)]) (rest := []) 0 (fun zz => au1008_10 l Z a0 hw n0 h972 zz a974 a975 a576 x3 F978 F979 F980 F981 F994 g982 g984 g586 ne977 (Ne.symm ne988) (Ne.symm ne991)) F978 at_167 rfl (tw hw 59 rfl) (tw hw 60 rfl) (tw hw 61 rfl) (tw hw 62 rfl) (tw hw 28 rfl) (tw hw 63 rfl) (by decide) pd_2 rfl rfl rfl (Nat.le_of_eq rfl) (by decide) (by decide) (by decide) (by decide) (fun v1009 h1010 r1011 => ?_)
      obtain ⟨rfl, rfl⟩ := r1011
      refine C.iloadN at_170 rfl rfl ?_
      refine C.icmp_ne_f at_171 rfl rfl ?_
      refine C.iconst 1 at_174 rfl rfl ?_
      refine C.goto at_175 (by decide) rfl ?_
      refine C.istore (Ls' := #[.val (.int x0), .val (.int x1), .val (.int x2), .val (.int x3), .val (.int 0), .val (.int 1), .val (.ref a562), .val (.ref a974), .val (.int 1), .unset]) at_179 rfl rfl ?_
      refine C.iload at_181 rfl rfl ?_
      exact C.retZ at_183 rfl (by decide) (by decide) ⟨rfl, trivial⟩
  · rw [qc]
    refine C.iloadN at_7 rfl rfl ?_
    refine C.iconst 2 at_8 rfl rfl ?_
    refine C.iushr at_9 rfl ?_
    refine C.iconst 1 at_10 rfl rfl ?_
    refine C.iand at_11 rfl ?_
    refine C.istore (Ls' := #[.val (.int x0), .val (.int x1), .val (.int x2), .val (.int x3), .val (.int 1), .val (.int ((XT.ushr x0 2) &&& 1)), .unset, .unset, .unset, .unset]) at_12 rfl rfl ?_
    rcases and_one (XT.ushr x0 2) with qd | qd
    · rw [qd]
      refine C.new at_14 rfl (tw hw 0 rfl) (tw hw 1 rfl) (tw hw 2 rfl) (by decide) (by decide) (fun a1013 h1014 z1018 g1019 X1016 E1015 D1017 => ?_)
      have F1020 : Fld Z h1014 a1013 "com/example/lumencast/lumencast/model/Routes$Builder" "firstHop" "[I" (.null) := D1017 (Or.inr (tw hw 11 rfl)) (ty := (.array .int)) (by decide)
      have F1021 : Fld Z h1014 a1013 "com/example/lumencast/lumencast/model/Routes$Builder" "fibres" "[I" (.null) := D1017 (Or.inl (tw hw 13 rfl)) (ty := (.array .int)) (by decide)
      have F1022 : Fld Z h1014 a1013 "com/example/lumencast/lumencast/model/Routes$Builder" "pairsDone" "I" (.int 0) := D1017 (Or.inl (tw hw 20 rfl)) (ty := .int) (by decide)
      refine C.dup at_17 rfl rfl ?_
      refine C.iconst 2 at_18 rfl rfl ?_
      refine C.callN (argsL := [(.int 2)]) (rest := [(.ref a1013)]) 1 (fun zz => au11_1 l Z a0 hw n0 h1014 zz a1013 E1015 F1021 F1020 F1022 g1019) at_19 rfl rfl (tw hw 3 rfl) (tw hw 4 rfl) (tw hw 2 rfl) (tw hw 5 rfl) (by decide) pd_0 rfl rfl rfl (Nat.le_of_eq rfl) (by decide) (by decide) (by decide) (by decide) (fun v1023 h1024 r1025 => ?_)
      obtain ⟨a1026, a1027, rfl, K1028, g1035, gz1036, g1037, gz1038, ne1029, F1030, F1031, F1032, F1033, F1034⟩ := r1025
      have ne1039 : a1013 ≠ a1026 := Nat.ne_of_lt (Nat.lt_of_lt_of_le E1015.lt gz1036)
      have ne1040 : a1013 ≠ a1027 := Nat.ne_of_lt (Nat.lt_of_lt_of_le E1015.lt gz1038)
      have F1041 : Exa Z h1024 a1013 "com/example/lumencast/lumencast/model/Routes$Builder" := E1015.keep K1028
      refine C.astore (Ls' := #[.val (.int x0), .val (.int x1), .val (.int x2), .val (.int x3), .val (.int 1), .val (.int 0), .val (.ref a1013), .unset, .unset, .unset]) at_22 rfl rfl rfl ?_
      refine C.iload at_24 rfl rfl ?_
      refine C.iconst 1 at_26 rfl rfl ?_
      refine C.icmp_lt_f at_27 rfl (by decide) ?_
      refine C.aload at_30 rfl rfl rfl ?_
      refine C.iloadN at_32 rfl rfl ?_
      refine C.callV (argsL := [(.int x1)]) (rest := []) 0 (fun zz => au1045_9 l Z a0 hw n0 h1024 zz a1013 x1 a1026 a1027 F1041 F1030 F1031 F1032 F1033 F1034 g1019 g1035 g1037 ne1039 ne1040 ne1029) F1041 at_33 rfl (tw hw 54 rfl) (tw hw 55 rfl) (tw hw 56 rfl) (tw hw 57 rfl) (tw hw 2 rfl) (tw hw 58 rfl) (by decide) pd_0 rfl rfl rfl (Nat.le_of_eq rfl) (by decide) (by decide) (by decide) (by decide) (fun v1100 h1101 r1102 => ?_)
      obtain ⟨rfl, K1103, F1104, F1105⟩ := r1102
      have F1106 : Exa Z h1101 a1013 "com/example/lumencast/lumencast/model/Routes$Builder" := F1041.keep K1103
      have F1107 : Fld Z h1101 a1013 "com/example/lumencast/lumencast/model/Routes$Builder" "fibres" "[I" (.ref a1026) := F1030.keep K1103 (ninS ne1039 (ninS ne1040 nin0))
      have F1108 : Fld Z h1101 a1013 "com/example/lumencast/lumencast/model/Routes$Builder" "firstHop" "[I" (.ref a1027) := F1031.keep K1103 (ninS ne1039 (ninS ne1040 nin0))
      have F1109 : Fld Z h1101 a1013 "com/example/lumencast/lumencast/model/Routes$Builder" "pairsDone" "I" (.int 0) := F1032.keep K1103 (ninS ne1039 (ninS ne1040 nin0))
      refine C.iload at_36 rfl rfl ?_
      refine C.iconst 2 at_38 rfl rfl ?_
      refine C.icmp_lt_t at_39 (by decide) rfl (by decide) ?_
      refine C.aload at_48 rfl rfl rfl ?_
      refine C.callV (argsL := []) (rest := []) 0 (fun zz => au1112_3 l Z a0 hw n0 h1101 zz a1013 a1026 a1027 x1 F1106 F1107 F1108 F1109 F1104 F1105 g1019 g1035 g1037 ne1039 ne1040 ne1029) F1106 at_50 rfl (tw hw 14 rfl) (tw hw 15 rfl) (tw hw 16 rfl) (tw hw 17 rfl) (tw hw 2 rfl) (tw hw 18 rfl) (by decide) pd_1 rfl rfl rfl (Nat.le_of_eq rfl) (by decide) (by decide) (by decide) (by decide) (fun v1164 h1165 r1166 => ?_)
      obtain ⟨rfl, K1167, F1168, F1169, F1170, F1171⟩ := r1166
      have F1172 : Exa Z h1165 a1013 "com/example/lumencast/lumencast/model/Routes$Builder" := F1106.keep K1167
      have F1176 : Av Z h1165 a1026 .int ([.int x1, .int 0]) := F1104.keep K1167 (ninS (Ne.symm ne1039) (ninS ne1029 nin0))
      refine C.iload at_53 rfl rfl ?_
      refine C.iconst 1 at_55 rfl rfl ?_
      refine C.icmp_ne_t at_56 (by decide) rfl (by decide) ?_
      refine C.aload at_65 rfl rfl rfl ?_
      refine C.callV (argsL := []) (rest := []) 0 (fun zz => au1178_3 l Z a0 hw n0 h1165 zz a1013 a1026 a1027 x1 F1172 F1168 F1169 F1170 F1176 F1171 g1019 g1035 g1037 ne1039 ne1040 ne1029) F1172 at_67 rfl (tw hw 14 rfl) (tw hw 15 rfl) (tw hw 16 rfl) (tw hw 17 rfl) (tw hw 2 rfl) (tw hw 18 rfl) (by decide) pd_1 rfl rfl rfl (Nat.le_of_eq rfl) (by decide) (by decide) (by decide) (by decide) (fun v1203 h1204 r1205 => ?_)
      obtain ⟨rfl, K1206, F1207, F1208, F1209⟩ := r1205
      have F1210 : Exa Z h1204 a1013 "com/example/lumencast/lumencast/model/Routes$Builder" := F1172.keep K1206
      have F1211 : Av Z h1204 a1026 .int ([.int x1, .int 0]) := F1176.keep K1206 (ninS (Ne.symm ne1039) nin0)
      have F1215 : Av Z h1204 a1027 .int ([.int 0, .int 1, .int 1]) := F1171.keep K1206 (ninS (Ne.symm ne1040) nin0)
      refine C.aload at_70 rfl rfl rfl ?_
      refine C.callV (argsL := []) (rest := []) 0 (fun zz => au1216_4 l Z a0 hw n0 h1204 zz a1013 a1026 a1027 x1 F1210 F1207 F1208 F1209 F1211 F1215 g1019 g1035 g1037 ne1039 ne1040 ne1029) F1210 at_72 rfl (tw hw 21 rfl) (tw hw 22 rfl) (tw hw 23 rfl) (tw hw 24 rfl) (tw hw 2 rfl) (tw hw 25 rfl) (by decide) pd_5 rfl rfl rfl (Nat.le_of_eq rfl) (by decide) (by decide) (by decide) (by decide) (fun v1434 h1435 r1436 => ?_)
      obtain ⟨a1437, a1438, rfl, K1439, g1445, gz1446, g1447, gz1448, ne1440, F1441, F1442, F1443, F1444⟩ := r1436
      have ne1449 : a1013 ≠ a1437 := Nat.ne_of_lt (Nat.lt_of_lt_of_le F1210.lt gz1446)
      have ne1450 : a1026 ≠ a1437 := Nat.ne_of_lt (Nat.lt_of_lt_of_le F1211.lt gz1446)
      have ne1451 : a1027 ≠ a1437 := Nat.ne_of_lt (Nat.lt_of_lt_of_le F1215.lt gz1446)
      have ne1452 : a1013 ≠ a1438 := Nat.ne_of_lt (Nat.lt_of_lt_of_le F1210.lt gz1448)
      have ne1453 : a1026 ≠ a1438 := Nat.ne_of_lt (Nat.lt_of_lt_of_le F1211.lt gz1448)
      have ne1454 : a1027 ≠ a1438 := Nat.ne_of_lt (Nat.lt_of_lt_of_le F1215.lt gz1448)
      have F1455 : Exa Z h1435 a1013 "com/example/lumencast/lumencast/model/Routes$Builder" := F1210.keep K1439
      have F1456 : Av Z h1435 a1026 .int ([.int x1, .int 0]) := F1211.keep K1439 nin0
      have F1457 : Av Z h1435 a1027 .int ([.int 0, .int 1, .int 1]) := F1215.keep K1439 nin0
      have F1458 : Fld Z h1435 a1013 "com/example/lumencast/lumencast/model/Routes$Builder" "fibres" "[I" (.ref a1026) := F1207.keep K1439 nin0
      have F1459 : Fld Z h1435 a1013 "com/example/lumencast/lumencast/model/Routes$Builder" "firstHop" "[I" (.ref a1027) := F1208.keep K1439 nin0
      have F1460 : Fld Z h1435 a1013 "com/example/lumencast/lumencast/model/Routes$Builder" "pairsDone" "I" (.int 2) := F1209.keep K1439 nin0
      refine C.astore (Ls' := #[.val (.int x0), .val (.int x1), .val (.int x2), .val (.int x3), .val (.int 1), .val (.int 0), .val (.ref a1013), .val (.ref a1437), .unset, .unset]) at_75 rfl rfl rfl ?_
      refine C.aload at_77 rfl rfl rfl ?_
      refine C.iconst 0 at_79 rfl rfl ?_
      refine C.callV (argsL := [(.int 0)]) (rest := []) 0 (fun zz => au1461_8 l Z a0 hw n0 h1435 zz a1437 a1438 a1027 x1 F1441 F1442 F1443 F1444 F1457 g1445 g1447 g1037 ne1440 (Ne.symm ne1451) (Ne.symm ne1454)) F1441 at_80 rfl (tw hw 49 rfl) (tw hw 50 rfl) (tw hw 51 rfl) (tw hw 52 rfl) (tw hw 28 rfl) (tw hw 53 rfl) (by decide) pd_6 rfl rfl rfl (Nat.le_of_eq rfl) (by decide) (by decide) (by decide) (by decide) (fun v1462 h1463 r1464 => ?_)
      obtain ⟨rfl, rfl⟩ := r1464
      refine C.iload at_83 rfl rfl ?_
      refine C.icmp_ne_f at_85 rfl (by decide) ?_
      refine C.aload at_88 rfl rfl rfl ?_
      refine C.iconst 1 at_90 rfl rfl ?_
      refine C.callV (argsL := [(.int 1)]) (rest := []) 0 (fun zz => au1466_8 l Z a0 hw n0 h1435 zz a1437 a1438 a1027 x1 F1441 F1442 F1443 F1444 F1457 g1445 g1447 g1037 ne1440 (Ne.symm ne1451) (Ne.symm ne1454)) F1441 at_91 rfl (tw hw 49 rfl) (tw hw 50 rfl) (tw hw 51 rfl) (tw hw 52 rfl) (tw hw 28 rfl) (tw hw 53 rfl) (by decide) pd_6 rfl rfl rfl (Nat.le_of_eq rfl) (by decide) (by decide) (by decide) (by decide) (fun v1467 h1468 r1469 => ?_)
      obtain ⟨rfl, rfl⟩ := r1469
      refine C.iload at_94 rfl rfl ?_
      refine C.icmp_ne_f at_96 rfl (by decide) ?_
      refine C.iconst 1 at_99 rfl rfl ?_
      refine C.goto at_100 (by decide) rfl ?_
      refine C.istore (Ls' := #[.val (.int x0), .val (.int x1), .val (.int x2), .val (.int x3), .val (.int 1), .val (.int 0), .val (.ref a1013), .val (.ref a1437), .val (.int 1), .unset]) at_104 rfl rfl ?_
      refine C.iload at_106 rfl rfl ?_
      refine C.if_eq_f at_108 rfl (by decide) ?_
      refine C.iload at_111 rfl rfl ?_
      refine C.iconst 1 at_113 rfl rfl ?_
      refine C.icmp_lt_f at_114 rfl (by decide) ?_
      refine C.iload at_117 rfl rfl ?_
      refine C.iconst 1 at_119 rfl rfl ?_
      refine C.icmp_ne_f at_120 rfl (by decide) ?_
      refine C.iloadN at_123 rfl rfl ?_
      refine C.goto at_124 (by decide) rfl ?_
      refine C.istore (Ls' := #[.val (.int x0), .val (.int x1), .val (.int x2), .val (.int x3), .val (.int 1), .val (.int 0), .val (.ref a1013), .val (.ref a1437), .val (.int 1), .val (.int x1)]) at_128 rfl rfl ?_
      refine C.aload at_130 rfl rfl rfl ?_
      refine C.iconst 0 at_132 rfl rfl ?_
      refine C.iload at_133 rfl rfl ?_
      refine C.iconst 1 at_135 rfl rfl ?_
      refine C.isub at_136 rfl ?_
      show Go p l e room_1 s m #[(.int x0), (.int x1), (.int x2), (.int x3)] below meth c n0 (FinQ s n0 (Qcon0 Z n0 h0 x0 x1 x2 x3) room_1.cells room_1.slots) h1435 5 11 137 #[.val (.int x0), .val (.int x1), .val (.int x2), .val (.int x3), .val (.int 1), .val (.int 0), .val (.ref a1013), .val (.ref a1437), .val (.int 1), .val (.int x1)] [(.int 0), (.int 0), (.ref a1437)]
      refine C.callV (argsL := [(.int 0), (.int 0)]) (rest := []) 0 (fun zz => au1471_10 l Z a0 hw n0 h1435 zz a1437 a1438 a1027 x1 F1441 F1442 F1443 F1444 F1457 g1445 g1447 g1037 ne1440 (Ne.symm ne1451) (Ne.symm ne1454)) F1441 at_137 rfl (tw hw 59 rfl) (tw hw 60 rfl) (tw hw 61 rfl) (tw hw 62 rfl) (tw hw 28 rfl) (tw hw 63 rfl) (by decide) pd_2 rfl rfl rfl (Nat.le_of_eq rfl) (by decide) (by decide) (by decide) (by decide) (fun v1472 h1473 r1474 => ?_)
      obtain ⟨rfl, rfl⟩ := r1474
      refine C.iload at_140 rfl rfl ?_
      refine C.icmp_ne_f at_142 rfl rfl ?_
      refine C.iconst 1 at_145 rfl rfl ?_
      refine C.goto at_146 (by decide) rfl ?_
      refine C.istore (Ls' := #[.val (.int x0), .val (.int x1), .val (.int x2), .val (.int x3), .val (.int 1), .val (.int 0), .val (.ref a1013), .val (.ref a1437), .val (.int 1), .val (.int x1)]) at_150 rfl rfl ?_
      refine C.iload at_152 rfl rfl ?_
      refine C.if_eq_f at_154 rfl (by decide) ?_
      refine C.iload at_157 rfl rfl ?_
      refine C.iconst 1 at_159 rfl rfl ?_
      refine C.icmp_ne_t at_160 (by decide) rfl (by decide) ?_
      refine C.iload at_181 rfl rfl ?_
      exact C.retZ at_183 rfl (by decide) (by decide) ⟨rfl, trivial⟩
    · rw [qd]
      refine C.new at_14 rfl (tw hw 0 rfl) (tw hw 1 rfl) (tw hw 2 rfl) (by decide) (by decide) (fun a1476 h1477 z1481 g1482 X1479 E1478 D1480 => ?_)
      have F1483 : Fld Z h1477 a1476 "com/example/lumencast/lumencast/model/Routes$Builder" "firstHop" "[I" (.null) := D1480 (Or.inr (tw hw 11 rfl)) (ty := (.array .int)) (by decide)
      have F1484 : Fld Z h1477 a1476 "com/example/lumencast/lumencast/model/Routes$Builder" "fibres" "[I" (.null) := D1480 (Or.inl (tw hw 13 rfl)) (ty := (.array .int)) (by decide)
      have F1485 : Fld Z h1477 a1476 "com/example/lumencast/lumencast/model/Routes$Builder" "pairsDone" "I" (.int 0) := D1480 (Or.inl (tw hw 20 rfl)) (ty := .int) (by decide)
      refine C.dup at_17 rfl rfl ?_
      refine C.iconst 2 at_18 rfl rfl ?_
      refine C.callN (argsL := [(.int 2)]) (rest := [(.ref a1476)]) 1 (fun zz => au11_1 l Z a0 hw n0 h1477 zz a1476 E1478 F1484 F1483 F1485 g1482) at_19 rfl rfl (tw hw 3 rfl) (tw hw 4 rfl) (tw hw 2 rfl) (tw hw 5 rfl) (by decide) pd_0 rfl rfl rfl (Nat.le_of_eq rfl) (by decide) (by decide) (by decide) (by decide) (fun v1486 h1487 r1488 => ?_)
      obtain ⟨a1489, a1490, rfl, K1491, g1498, gz1499, g1500, gz1501, ne1492, F1493, F1494, F1495, F1496, F1497⟩ := r1488
      have ne1502 : a1476 ≠ a1489 := Nat.ne_of_lt (Nat.lt_of_lt_of_le E1478.lt gz1499)
      have ne1503 : a1476 ≠ a1490 := Nat.ne_of_lt (Nat.lt_of_lt_of_le E1478.lt gz1501)
      have F1504 : Exa Z h1487 a1476 "com/example/lumencast/lumencast/model/Routes$Builder" := E1478.keep K1491
      refine C.astore (Ls' := #[.val (.int x0), .val (.int x1), .val (.int x2), .val (.int x3), .val (.int 1), .val (.int 1), .val (.ref a1476), .unset, .unset, .unset]) at_22 rfl rfl rfl ?_
      refine C.iload at_24 rfl rfl ?_
      refine C.iconst 1 at_26 rfl rfl ?_
      refine C.icmp_lt_f at_27 rfl (by decide) ?_
      refine C.aload at_30 rfl rfl rfl ?_
      refine C.iloadN at_32 rfl rfl ?_
      refine C.callV (argsL := [(.int x1)]) (rest := []) 0 (fun zz => au1045_9 l Z a0 hw n0 h1487 zz a1476 x1 a1489 a1490 F1504 F1493 F1494 F1495 F1496 F1497 g1482 g1498 g1500 ne1502 ne1503 ne1492) F1504 at_33 rfl (tw hw 54 rfl) (tw hw 55 rfl) (tw hw 56 rfl) (tw hw 57 rfl) (tw hw 2 rfl) (tw hw 58 rfl) (by decide) pd_0 rfl rfl rfl (Nat.le_of_eq rfl) (by decide) (by decide) (by decide) (by decide) (fun v1508 h1509 r1510 => ?_)
      obtain ⟨rfl, K1511, F1512, F1513⟩ := r1510
      have F1514 : Exa Z h1509 a1476 "com/example/lumencast/lumencast/model/Routes$Builder" := F1504.keep K1511
      have F1515 : Fld Z h1509 a1476 "com/example/lumencast/lumencast/model/Routes$Builder" "fibres" "[I" (.ref a1489) := F1493.keep K1511 (ninS ne1502 (ninS ne1503 nin0))
      have F1516 : Fld Z h1509 a1476 "com/example/lumencast/lumencast/model/Routes$Builder" "firstHop" "[I" (.ref a1490) := F1494.keep K1511 (ninS ne1502 (ninS ne1503 nin0))
      have F1517 : Fld Z h1509 a1476 "com/example/lumencast/lumencast/model/Routes$Builder" "pairsDone" "I" (.int 0) := F1495.keep K1511 (ninS ne1502 (ninS ne1503 nin0))
      refine C.iload at_36 rfl rfl ?_
      refine C.iconst 2 at_38 rfl rfl ?_
      refine C.icmp_lt_t at_39 (by decide) rfl (by decide) ?_
      refine C.aload at_48 rfl rfl rfl ?_
      refine C.callV (argsL := []) (rest := []) 0 (fun zz => au1112_3 l Z a0 hw n0 h1509 zz a1476 a1489 a1490 x1 F1514 F1515 F1516 F1517 F1512 F1513 g1482 g1498 g1500 ne1502 ne1503 ne1492) F1514 at_50 rfl (tw hw 14 rfl) (tw hw 15 rfl) (tw hw 16 rfl) (tw hw 17 rfl) (tw hw 2 rfl) (tw hw 18 rfl) (by decide) pd_1 rfl rfl rfl (Nat.le_of_eq rfl) (by decide) (by decide) (by decide) (by decide) (fun v1520 h1521 r1522 => ?_)
      obtain ⟨rfl, K1523, F1524, F1525, F1526, F1527⟩ := r1522
      have F1528 : Exa Z h1521 a1476 "com/example/lumencast/lumencast/model/Routes$Builder" := F1514.keep K1523
      have F1532 : Av Z h1521 a1489 .int ([.int x1, .int 0]) := F1512.keep K1523 (ninS (Ne.symm ne1502) (ninS ne1492 nin0))
      refine C.iload at_53 rfl rfl ?_
      refine C.iconst 1 at_55 rfl rfl ?_
      refine C.icmp_ne_f at_56 rfl (by decide) ?_
      refine C.aload at_59 rfl rfl rfl ?_
      refine C.iloadN at_61 rfl rfl ?_
      refine C.callV (argsL := [(.int x3)]) (rest := []) 0 (fun zz => au1534_9 l Z a0 hw n0 h1521 zz a1476 x3 a1489 a1490 x1 F1528 F1524 F1525 F1526 F1532 F1527 g1482 g1498 g1500 ne1502 ne1503 ne1492) F1528 at_62 rfl (tw hw 54 rfl) (tw hw 55 rfl) (tw hw 56 rfl) (tw hw 57 rfl) (tw hw 2 rfl) (tw hw 58 rfl) (by decide) pd_0 rfl rfl rfl (Nat.le_of_eq rfl) (by decide) (by decide) (by decide) (by decide) (fun v1589 h1590 r1591 => ?_)
      obtain ⟨rfl, K1592, F1593, F1594⟩ := r1591
      have F1595 : Exa Z h1590 a1476 "com/example/lumencast/lumencast/model/Routes$Builder" := F1528.keep K1592
      have F1597 : Fld Z h1590 a1476 "com/example/lumencast/lumencast/model/Routes$Builder" "fibres" "[I" (.ref a1489) := F1524.keep K1592 (ninS ne1502 (ninS ne1503 nin0))
      have F1598 : Fld Z h1590 a1476 "com/example/lumencast/lumencast/model/Routes$Builder" "firstHop" "[I" (.ref a1490) := F1525.keep K1592 (ninS ne1502 (ninS ne1503 nin0))
      have F1599 : Fld Z h1590 a1476 "com/example/lumencast/lumencast/model/Routes$Builder" "pairsDone" "I" (.int 1) := F1526.keep K1592 (ninS ne1502 (ninS ne1503 nin0))
      refine C.aload at_65 rfl rfl rfl ?_
      refine C.callV (argsL := []) (rest := []) 0 (fun zz => au1601_3 l Z a0 hw n0 h1590 zz a1476 a1489 a1490 x1 x3 F1595 F1597 F1598 F1599 F1593 F1594 g1482 g1498 g1500 ne1502 ne1503 ne1492) F1595 at_67 rfl (tw hw 14 rfl) (tw hw 15 rfl) (tw hw 16 rfl) (tw hw 17 rfl) (tw hw 2 rfl) (tw hw 18 rfl) (by decide) pd_1 rfl rfl rfl (Nat.le_of_eq rfl) (by decide) (by decide) (by decide) (by decide) (fun v1626 h1627 r1628 => ?_)
      obtain ⟨rfl, K1629, F1630, F1631, F1632⟩ := r1628
      have F1633 : Exa Z h1627 a1476 "com/example/lumencast/lumencast/model/Routes$Builder" := F1595.keep K1629
      have F1637 : Av Z h1627 a1489 .int ([.int x1, .int x3]) := F1593.keep K1629 (ninS (Ne.symm ne1502) nin0)
      have F1638 : Av Z h1627 a1490 .int ([.int 0, .int 1, .int 2]) := F1594.keep K1629 (ninS (Ne.symm ne1503) nin0)
      refine C.aload at_70 rfl rfl rfl ?_
      refine C.callV (argsL := []) (rest := []) 0 (fun zz => au1639_4 l Z a0 hw n0 h1627 zz a1476 a1489 a1490 x1 x3 F1633 F1630 F1631 F1632 F1637 F1638 g1482 g1498 g1500 ne1502 ne1503 ne1492) F1633 at_72 rfl (tw hw 21 rfl) (tw hw 22 rfl) (tw hw 23 rfl) (tw hw 24 rfl) (tw hw 2 rfl) (tw hw 25 rfl) (by decide) pd_5 rfl rfl rfl (Nat.le_of_eq rfl) (by decide) (by decide) (by decide) (by decide) (fun v1785 h1786 r1787 => ?_)
      obtain ⟨a1788, rfl, K1789, g1793, gz1794, F1790, F1791, F1792⟩ := r1787
      have ne1795 : a1476 ≠ a1788 := Nat.ne_of_lt (Nat.lt_of_lt_of_le F1633.lt gz1794)
      have ne1796 : a1489 ≠ a1788 := Nat.ne_of_lt (Nat.lt_of_lt_of_le F1637.lt gz1794)
      have ne1797 : a1490 ≠ a1788 := Nat.ne_of_lt (Nat.lt_of_lt_of_le F1638.lt gz1794)
      have F1798 : Exa Z h1786 a1476 "com/example/lumencast/lumencast/model/Routes$Builder" := F1633.keep K1789
      have F1799 : Av Z h1786 a1489 .int ([.int x1, .int x3]) := F1637.keep K1789 nin0
      have F1800 : Av Z h1786 a1490 .int ([.int 0, .int 1, .int 2]) := F1638.keep K1789 nin0
      have F1801 : Fld Z h1786 a1476 "com/example/lumencast/lumencast/model/Routes$Builder" "fibres" "[I" (.ref a1489) := F1630.keep K1789 nin0
      have F1802 : Fld Z h1786 a1476 "com/example/lumencast/lumencast/model/Routes$Builder" "firstHop" "[I" (.ref a1490) := F1631.keep K1789 nin0
      have F1803 : Fld Z h1786 a1476 "com/example/lumencast/lumencast/model/Routes$Builder" "pairsDone" "I" (.int 2) := F1632.keep K1789 nin0
      refine C.astore (Ls' := #[.val (.int x0), .val (.int x1), .val (.int x2), .val (.int x3), .val (.int 1), .val (.int 1), .val (.ref a1476), .val (.ref a1788), .unset, .unset]) at_75 rfl rfl rfl ?_
      refine C.aload at_77 rfl rfl rfl ?_
      refine C.iconst 0 at_79 rfl rfl ?_
      refine C.callV (argsL := [(.int 0)]) (rest := []) 0 (fun zz => au1804_8 l Z a0 hw n0 h1786 zz a1788 a1489 a1490 x1 x3 F1790 F1791 F1792 F1799 F1800 g1793 g1498 g1500 (Ne.symm ne1796) (Ne.symm ne1797) ne1492) F1790 at_80 rfl (tw hw 49 rfl) (tw hw 50 rfl) (tw hw 51 rfl) (tw hw 52 rfl) (tw hw 28 rfl) (tw hw 53 rfl) (by decide) pd_6 rfl rfl rfl (Nat.le_of_eq rfl) (by decide) (by decide) (by decide) (by decide) (fun v1805 h1806 r1807 => ?_)
      obtain ⟨rfl, rfl⟩ := r1807
      refine C.iload at_83 rfl rfl ?_
      refine C.icmp_ne_f at_85 rfl (by decide) ?_
      refine C.aload at_88 rfl rfl rfl ?_
      refine C.iconst 1 at_90 rfl rfl ?_
      refine C.callV (argsL := [(.int 1)]) (rest := []) 0 (fun zz => au1809_8 l Z a0 hw n0 h1786 zz a1788 a1489 a1490 x1 x3 F1790 F1791 F1792 F1799 F1800 g1793 g1498 g1500 (Ne.symm ne1796) (Ne.symm ne1797) ne1492) F1790 at_91 rfl (tw hw 49 rfl) (tw hw 50 rfl) (tw hw 51 rfl) (tw hw 52 rfl) (tw hw 28 rfl) (tw hw 53 rfl) (by decide) pd_6 rfl rfl rfl (Nat.le_of_eq rfl) (by decide) (by decide) (by decide) (by decide) (fun v1810 h1811 r1812 => ?_)
      obtain ⟨rfl, rfl⟩ := r1812
      refine C.iload at_94 rfl rfl ?_
      refine C.icmp_ne_f at_96 rfl (by decide) ?_
      refine C.iconst 1 at_99 rfl rfl ?_
      refine C.goto at_100 (by decide) rfl ?_
      refine C.istore (Ls' := #[.val (.int x0), .val (.int x1), .val (.int x2), .val (.int x3), .val (.int 1), .val (.int 1), .val (.ref a1476), .val (.ref a1788), .val (.int 1), .unset]) at_104 rfl rfl ?_
      refine C.iload at_106 rfl rfl ?_
      refine C.if_eq_f at_108 rfl (by decide) ?_
      refine C.iload at_111 rfl rfl ?_
      refine C.iconst 1 at_113 rfl rfl ?_
      refine C.icmp_lt_f at_114 rfl (by decide) ?_
      refine C.iload at_117 rfl rfl ?_
      refine C.iconst 1 at_119 rfl rfl ?_
      refine C.icmp_ne_f at_120 rfl (by decide) ?_
      refine C.iloadN at_123 rfl rfl ?_
      refine C.goto at_124 (by decide) rfl ?_
      refine C.istore (Ls' := #[.val (.int x0), .val (.int x1), .val (.int x2), .val (.int x3), .val (.int 1), .val (.int 1), .val (.ref a1476), .val (.ref a1788), .val (.int 1), .val (.int x1)]) at_128 rfl rfl ?_
      refine C.aload at_130 rfl rfl rfl ?_
      refine C.iconst 0 at_132 rfl rfl ?_
      refine C.iload at_133 rfl rfl ?_
      refine C.iconst 1 at_135 rfl rfl ?_
      refine C.isub at_136 rfl ?_
      show Go p l e room_1 s m #[(.int x0), (.int x1), (.int x2), (.int x3)] below meth c n0 (FinQ s n0 (Qcon0 Z n0 h0 x0 x1 x2 x3) room_1.cells room_1.slots) h1786 4 10 137 #[.val (.int x0), .val (.int x1), .val (.int x2), .val (.int x3), .val (.int 1), .val (.int 1), .val (.ref a1476), .val (.ref a1788), .val (.int 1), .val (.int x1)] [(.int 0), (.int 0), (.ref a1788)]
      refine C.callV (argsL := [(.int 0), (.int 0)]) (rest := []) 0 (fun zz => au1814_10 l Z a0 hw n0 h1786 zz a1788 a1489 a1490 x1 x3 F1790 F1791 F1792 F1799 F1800 g1793 g1498 g1500 (Ne.symm ne1796) (Ne.symm ne1797) ne1492) F1790 at_137 rfl (tw hw 59 rfl) (tw hw 60 rfl) (tw hw 61 rfl) (tw hw 62 rfl) (tw hw 28 rfl) (tw hw 63 rfl) (by decide) pd_2 rfl rfl rfl (Nat.le_of_eq rfl) (by decide) (by decide) (by decide) (by decide) (fun v1815 h1816 r1817 => ?_)
      obtain ⟨rfl, rfl⟩ := r1817
      refine C.iload at_140 rfl rfl ?_
      refine C.icmp_ne_f at_142 rfl rfl ?_
      refine C.iconst 1 at_145 rfl rfl ?_
      refine C.goto at_146 (by decide) rfl ?_
      refine C.istore (Ls' := #[.val (.int x0), .val (.int x1), .val (.int x2), .val (.int x3), .val (.int 1), .val (.int 1), .val (.ref a1476), .val (.ref a1788), .val (.int 1), .val (.int x1)]) at_150 rfl rfl ?_
      refine C.iload at_152 rfl rfl ?_
      refine C.if_eq_f at_154 rfl (by decide) ?_
      refine C.iload at_157 rfl rfl ?_
      refine C.iconst 1 at_159 rfl rfl ?_
      refine C.icmp_ne_f at_160 rfl (by decide) ?_
      refine C.aload at_163 rfl rfl rfl ?_
      refine C.iconst 1 at_165 rfl rfl ?_
      refine C.iconst 0 at_166 rfl rfl ?_
      refine C.callV (argsL := [(.int 1), (.int 0)]) (rest := []) 0 (fun zz => au1819_10 l Z a0 hw n0 h1786 zz a1788 a1489 a1490 x1 x3 F1790 F1791 F1792 F1799 F1800 g1793 g1498 g1500 (Ne.symm ne1796) (Ne.symm ne1797) ne1492) F1790 at_167 rfl (tw hw 59 rfl) (tw hw 60 rfl) (tw hw 61 rfl) (tw hw 62 rfl) (tw hw 28 rfl) (tw hw 63 rfl) (by decide) pd_2 rfl rfl rfl (Nat.le_of_eq rfl) (by decide) (by decide) (by decide) (by decide) (fun v1820 h1821 r1822 => ?_)
      obtain ⟨rfl, rfl⟩ := r1822
      refine C.iloadN at_170 rfl rfl ?_
      refine C.icmp_ne_f at_171 rfl rfl ?_
      refine C.iconst 1 at_174 rfl rfl ?_
      refine C.goto at_175 (by decide) rfl ?_
      refine C.istore (Ls' := #[.val (.int x0), .val (.int x1), .val (.int x2), .val (.int x3), .val (.int 1), .val (.int 1), .val (.ref a1476), .val (.ref a1788), .val (.int 1), .val (.int x1)]) at_179 rfl rfl ?_
      refine C.iload at_181 rfl rfl ?_
      exact C.retZ at_183 rfl (by decide) (by decide) ⟨rfl, trivial⟩
  · rw [qc]
    refine C.iloadN at_7 rfl rfl ?_
    refine C.iconst 2 at_8 rfl rfl ?_
    refine C.iushr at_9 rfl ?_
    refine C.iconst 1 at_10 rfl rfl ?_
    refine C.iand at_11 rfl ?_
    refine C.istore (Ls' := #[.val (.int x0), .val (.int x1), .val (.int x2), .val (.int x3), .val (.int 2), .val (.int ((XT.ushr x0 2) &&& 1)), .unset, .unset, .unset, .unset]) at_12 rfl rfl ?_
    rcases and_one (XT.ushr x0 2) with qd | qd
    · rw [qd]
      refine C.new at_14 rfl (tw hw 0 rfl) (tw hw 1 rfl) (tw hw 2 rfl) (by decide) (by decide) (fun a1824 h1825 z1829 g1830 X1827 E1826 D1828 => ?_)
      have F1831 : Fld Z h1825 a1824 "com/example/lumencast/lumencast/model/Routes$Builder" "firstHop" "[I" (.null) := D1828 (Or.inr (tw hw 11 rfl)) (ty := (.array .int)) (by decide)
      have F1832 : Fld Z h1825 a1824 "com/example/lumencast/lumencast/model/Routes$Builder" "fibres" "[I" (.null) := D1828 (Or.inl (tw hw 13 rfl)) (ty := (.array .int)) (by decide)
      have F1833 : Fld Z h1825 a1824 "com/example/lumencast/lumencast/model/Routes$Builder" "pairsDone" "I" (.int 0) := D1828 (Or.inl (tw hw 20 rfl)) (ty := .int) (by decide)
      refine C.dup at_17 rfl rfl ?_
      refine C.iconst 2 at_18 rfl rfl ?_
      refine C.callN (argsL := [(.int 2)]) (rest := [(.ref a1824)]) 1 (fun zz => au11_1 l Z a0 hw n0 h1825 zz a1824 E1826 F1832 F1831 F1833 g1830) at_19 rfl rfl (tw hw 3 rfl) (tw hw 4 rfl) (tw hw 2 rfl) (tw hw 5 rfl) (by decide) pd_0 rfl rfl rfl (Nat.le_of_eq rfl) (by decide) (by decide) (by decide) (by decide) (fun v1834 h1835 r1836 => ?_)
      obtain ⟨a1837, a1838, rfl, K1839, g1846, gz1847, g1848, gz1849, ne1840, F1841, F1842, F1843, F1844, F1845⟩ := r1836
      have ne1850 : a1824 ≠ a1837 := Nat.ne_of_lt (Nat.lt_of_lt_of_le E1826.lt gz1847)
      have ne1851 : a1824 ≠ a1838 := Nat.ne_of_lt (Nat.lt_of_lt_of_le E1826.lt gz1849)
      have F1852 : Exa Z h1835 a1824 "com/example/lumencast/lumencast/model/Routes$Builder" := E1826.keep K1839
      refine C.astore (Ls' := #[.val (.int x0), .val (.int x1), .val (.int x2), .val (.int x3), .val (.int 2), .val (.int 0), .val (.ref a1824), .unset, .unset, .unset]) at_22 rfl rfl rfl ?_
      refine C.iload at_24 rfl rfl ?_
      refine C.iconst 1 at_26 rfl rfl ?_
      refine C.icmp_lt_f at_27 rfl (by decide) ?_
      refine C.aload at_30 rfl rfl rfl ?_
      refine C.iloadN at_32 rfl rfl ?_
      refine C.callV (argsL := [(.int x1)]) (rest := []) 0 (fun zz => au1045_9 l Z a0 hw n0 h1835 zz a1824 x1 a1837 a1838 F1852 F1841 F1842 F1843 F1844 F1845 g1830 g1846 g1848 ne1850 ne1851 ne1840) F1852 at_33 rfl (tw hw 54 rfl) (tw hw 55 rfl) (tw hw 56 rfl) (tw hw 57 rfl) (tw hw 2 rfl) (tw hw 58 rfl) (by decide) pd_0 rfl rfl rfl (Nat.le_of_eq rfl) (by decide) (by decide) (by decide) (by decide) (fun v1856 h1857 r1858 => ?_)
      obtain ⟨rfl, K1859, F1860, F1861⟩ := r1858
      have F1862 : Exa Z h1857 a1824 "com/example/lumencast/lumencast/model/Routes$Builder" := F1852.keep K1859
      have F1863 : Fld Z h1857 a1824 "com/example/lumencast/lumencast/model/Routes$Builder" "fibres" "[I" (.ref a1837) := F1841.keep K1859 (ninS ne1850 (ninS ne1851 nin0))
      have F1864 : Fld Z h1857 a1824 "com/example/lumencast/lumencast/model/Routes$Builder" "firstHop" "[I" (.ref a1838) := F1842.keep K1859 (ninS ne1850 (ninS ne1851 nin0))
      have F1865 : Fld Z h1857 a1824 "com/example/lumencast/lumencast/model/Routes$Builder" "pairsDone" "I" (.int 0) := F1843.keep K1859 (ninS ne1850 (ninS ne1851 nin0))
      refine C.iload at_36 rfl rfl ?_
      refine C.iconst 2 at_38 rfl rfl ?_
      refine C.icmp_lt_f at_39 rfl (by decide) ?_
      refine C.aload at_42 rfl rfl rfl ?_
      refine C.iloadN at_44 rfl rfl ?_
      refine C.callV (argsL := [(.int x2)]) (rest := []) 0 (fun zz => au1868_9 l Z a0 hw n0 h1857 zz a1824 x2 a1837 a1838 x1 F1862 F1863 F1864 F1865 F1860 F1861 g1830 g1846 g1848 ne1850 ne1851 ne1840) F1862 at_45 rfl (tw hw 54 rfl) (tw hw 55 rfl) (tw hw 56 rfl) (tw hw 57 rfl) (tw hw 2 rfl) (tw hw 58 rfl) (by decide) pd_0 rfl rfl rfl (Nat.le_of_eq rfl) (by decide) (by decide) (by decide) (by decide) (fun v1923 h1924 r1925 => ?_)
      obtain ⟨rfl, K1926, F1927, F1928⟩ := r1925
      have F1929 : Exa Z h1924 a1824 "com/example/lumencast/lumencast/model/Routes$Builder" := F1862.keep K1926
      have F1930 : Fld Z h1924 a1824 "com/example/lumencast/lumencast/model/Routes$Builder" "fibres" "[I" (.ref a1837) := F1863.keep K1926 (ninS ne1850 (ninS ne1851 nin0))
      have F1931 : Fld Z h1924 a1824 "com/example/lumencast/lumencast/model/Routes$Builder" "firstHop" "[I" (.ref a1838) := F1864.keep K1926 (ninS ne1850 (ninS ne1851 nin0))
      have F1932 : Fld Z h1924 a1824 "com/example/lumencast/lumencast/model/Routes$Builder" "pairsDone" "I" (.int 0) := F1865.keep K1926 (ninS ne1850 (ninS ne1851 nin0))
      refine C.aload at_48 rfl rfl rfl ?_
      refine C.callV (argsL := []) (rest := []) 0 (fun zz => au1935_3 l Z a0 hw n0 h1924 zz a1824 a1837 a1838 x1 x2 F1929 F1930 F1931 F1932 F1927 F1928 g1830 g1846 g1848 ne1850 ne1851 ne1840) F1929 at_50 rfl (tw hw 14 rfl) (tw hw 15 rfl) (tw hw 16 rfl) (tw hw 17 rfl) (tw hw 2 rfl) (tw hw 18 rfl) (by decide) pd_1 rfl rfl rfl (Nat.le_of_eq rfl) (by decide) (by decide) (by decide) (by decide) (fun v1987 h1988 r1989 => ?_)
      obtain ⟨rfl, K1990, F1991, F1992, F1993, F1994⟩ := r1989
      have F1995 : Exa Z h1988 a1824 "com/example/lumencast/lumencast/model/Routes$Builder" := F1929.keep K1990
      have F1999 : Av Z h1988 a1837 .int ([.int x1, .int x2]) := F1927.keep K1990 (ninS (Ne.symm ne1850) (ninS ne1840 nin0))
      refine C.iload at_53 rfl rfl ?_
      refine C.iconst 1 at_55 rfl rfl ?_
      refine C.icmp_ne_t at_56 (by decide) rfl (by decide) ?_
      refine C.aload at_65 rfl rfl rfl ?_
      refine C.callV (argsL := []) (rest := []) 0 (fun zz => au2001_3 l Z a0 hw n0 h1988 zz a1824 a1837 a1838 x1 x2 F1995 F1991 F1992 F1993 F1999 F1994 g1830 g1846 g1848 ne1850 ne1851 ne1840) F1995 at_67 rfl (tw hw 14 rfl) (tw hw 15 rfl) (tw hw 16 rfl) (tw hw 17 rfl) (tw hw 2 rfl) (tw hw 18 rfl) (by decide) pd_1 rfl rfl rfl (Nat.le_of_eq rfl) (by decide) (by decide) (by decide) (by decide) (fun v2026 h2027 r2028 => ?_)
      obtain ⟨rfl, K2029, F2030, F2031, F2032⟩ := r2028
      have F2033 : Exa Z h2027 a1824 "com/example/lumencast/lumencast/model/Routes$Builder" := F1995.keep K2029
      have F2034 : Av Z h2027 a1837 .int ([.int x1, .int x2]) := F1999.keep K2029 (ninS (Ne.symm ne1850) nin0)
      have F2038 : Av Z h2027 a1838 .int ([.int 0, .int 2, .int 2]) := F1994.keep K2029 (ninS (Ne.symm ne1851) nin0)
      refine C.aload at_70 rfl rfl rfl ?_
      refine C.callV (argsL := []) (rest := []) 0 (fun zz => au2039_4 l Z a0 hw n0 h2027 zz a1824 a1837 a1838 x1 x2 F2033 F2030 F2031 F2032 F2034 F2038 g1830 g1846 g1848 ne1850 ne1851 ne1840) F2033 at_72 rfl (tw hw 21 rfl) (tw hw 22 rfl) (tw hw 23 rfl) (tw hw 24 rfl) (tw hw 2 rfl) (tw hw 25 rfl) (by decide) pd_5 rfl rfl rfl (Nat.le_of_eq rfl) (by decide) (by decide) (by decide) (by decide) (fun v2185 h2186 r2187 => ?_)
      obtain ⟨a2188, rfl, K2189, g2193, gz2194, F2190, F2191, F2192⟩ := r2187
      have ne2195 : a1824 ≠ a2188 := Nat.ne_of_lt (Nat.lt_of_lt_of_le F2033.lt gz2194)
      have ne2196 : a1837 ≠ a2188 := Nat.ne_of_lt (Nat.lt_of_lt_of_le F2034.lt gz2194)
      have ne2197 : a1838 ≠ a2188 := Nat.ne_of_lt (Nat.lt_of_lt_of_le F2038.lt gz2194)
      have F2198 : Exa Z h2186 a1824 "com/example/lumencast/lumencast/model/Routes$Builder" := F2033.keep K2189
      have F2199 : Av Z h2186 a1837 .int ([.int x1, .int x2]) := F2034.keep K2189 nin0
      have F2200 : Av Z h2186 a1838 .int ([.int 0, .int 2, .int 2]) := F2038.keep K2189 nin0
      have F2201 : Fld Z h2186 a1824 "com/example/lumencast/lumencast/model/Routes$Builder" "fibres" "[I" (.ref a1837) := F2030.keep K2189 nin0
      have F2202 : Fld Z h2186 a1824 "com/example/lumencast/lumencast/model/Routes$Builder" "firstHop" "[I" (.ref a1838) := F2031.keep K2189 nin0
      have F2203 : Fld Z h2186 a1824 "com/example/lumencast/lumencast/model/Routes$Builder" "pairsDone" "I" (.int 2) := F2032.keep K2189 nin0
      refine C.astore (Ls' := #[.val (.int x0), .val (.int x1), .val (.int x2), .val (.int x3), .val (.int 2), .val (.int 0), .val (.ref a1824), .val (.ref a2188), .unset, .unset]) at_75 rfl rfl rfl ?_
      refine C.aload at_77 rfl rfl rfl ?_
      refine C.iconst 0 at_79 rfl rfl ?_
      refine C.callV (argsL := [(.int 0)]) (rest := []) 0 (fun zz => au2204_8 l Z a0 hw n0 h2186 zz a2188 a1837 a1838 x1 x2 F2190 F2191 F2192 F2199 F2200 g2193 g1846 g1848 (Ne.symm ne2196) (Ne.symm ne2197) ne1840) F2190 at_80 rfl (tw hw 49 rfl) (tw hw 50 rfl) (tw hw 51 rfl) (tw hw 52 rfl) (tw hw 28 rfl) (tw hw 53 rfl) (by decide) pd_6 rfl rfl rfl (Nat.le_of_eq rfl) (by decide) (by decide) (by decide) (by decide) (fun v2205 h2206 r2207 => ?_)
      obtain ⟨rfl, rfl⟩ := r2207
      refine C.iload at_83 rfl rfl ?_
      refine C.icmp_ne_f at_85 rfl (by decide) ?_
      refine C.aload at_88 rfl rfl rfl ?_
      refine C.iconst 1 at_90 rfl rfl ?_
      refine C.callV (argsL := [(.int 1)]) (rest := []) 0 (fun zz => au2209_8 l Z a0 hw n0 h2186 zz a2188 a1837 a1838 x1 x2 F2190 F2191 F2192 F2199 F2200 g2193 g1846 g1848 (Ne.symm ne2196) (Ne.symm ne2197) ne1840) F2190 at_91 rfl (tw hw 49 rfl) (tw hw 50 rfl) (tw hw 51 rfl) (tw hw 52 rfl) (tw hw 28 rfl) (tw hw 53 rfl) (by decide) pd_6 rfl rfl rfl (Nat.le_of_eq rfl) (by decide) (by decide) (by decide) (by decide) (fun v2210 h2211 r2212 => ?_)
      obtain ⟨rfl, rfl⟩ := r2212
      refine C.iload at_94 rfl rfl ?_
      refine C.icmp_ne_f at_96 rfl (by decide) ?_
      refine C.iconst 1 at_99 rfl rfl ?_
      refine C.goto at_100 (by decide) rfl ?_
      refine C.istore (Ls' := #[.val (.int x0), .val (.int x1), .val (.int x2), .val (.int x3), .val (.int 2), .val (.int 0), .val (.ref a1824), .val (.ref a2188), .val (.int 1), .unset]) at_104 rfl rfl ?_
      refine C.iload at_106 rfl rfl ?_
      refine C.if_eq_f at_108 rfl (by decide) ?_
      refine C.iload at_111 rfl rfl ?_
      refine C.iconst 1 at_113 rfl rfl ?_
      refine C.icmp_lt_f at_114 rfl (by decide) ?_
      refine C.iload at_117 rfl rfl ?_
      refine C.iconst 1 at_119 rfl rfl ?_
      refine C.icmp_ne_t at_120 (by decide) rfl (by decide) ?_
      refine C.iloadN at_127 rfl rfl ?_
      refine C.istore (Ls' := #[.val (.int x0), .val (.int x1), .val (.int x2), .val (.int x3), .val (.int 2), .val (.int 0), .val (.ref a1824), .val (.ref a2188), .val (.int 1), .val (.int x2)]) at_128 rfl rfl ?_
      refine C.aload at_130 rfl rfl rfl ?_
      refine C.iconst 0 at_132 rfl rfl ?_
      refine C.iload at_133 rfl rfl ?_
      refine C.iconst 1 at_135 rfl rfl ?_
      refine C.isub at_136 rfl ?_
      show Go p l e room_1 s m #[(.int x0), (.int x1), (.int x2), (.int x3)] below meth c n0 (FinQ s n0 (Qcon0 Z n0 h0 x0 x1 x2 x3) room_1.cells room_1.slots) h2186 4 10 137 #[.val (.int x0), .val (.int x1), .val (.int x2), .val (.int x3), .val (.int 2), .val (.int 0), .val (.ref a1824), .val (.ref a2188), .val (.int 1), .val (.int x2)] [(.int 1), (.int 0), (.ref a2188)]
      refine C.callV (argsL := [(.int 0), (.int 1)]) (rest := []) 0 (fun zz => au2214_10 l Z a0 hw n0 h2186 zz a2188 a1837 a1838 x1 x2 F2190 F2191 F2192 F2199 F2200 g2193 g1846 g1848 (Ne.symm ne2196) (Ne.symm ne2197) ne1840) F2190 at_137 rfl (tw hw 59 rfl) (tw hw 60 rfl) (tw hw 61 rfl) (tw hw 62 rfl) (tw hw 28 rfl) (tw hw 63 rfl) (by decide) pd_2 rfl rfl rfl (Nat.le_of_eq rfl) (by decide) (by decide) (by decide) (by decide) (fun v2215 h2216 r2217 => ?_)
      obtain ⟨rfl, rfl⟩ := r2217
      refine C.iload at_140 rfl rfl ?_
      refine C.icmp_ne_f at_142 rfl rfl ?_
      refine C.iconst 1 at_145 rfl rfl ?_
      refine C.goto at_146 (by decide) rfl ?_
      refine C.istore (Ls' := #[.val (.int x0), .val (.int x1), .val (.int x2), .val (.int x3), .val (.int 2), .val (.int 0), .val (.ref a1824), .val (.ref a2188), .val (.int 1), .val (.int x2)]) at_150 rfl rfl ?_
      refine C.iload at_152 rfl rfl ?_
      refine C.if_eq_f at_154 rfl (by decide) ?_
      refine C.iload at_157 rfl rfl ?_
      refine C.iconst 1 at_159 rfl rfl ?_
      refine C.icmp_ne_t at_160 (by decide) rfl (by decide) ?_
      refine C.iload at_181 rfl rfl ?_
      exact C.retZ at_183 rfl (by decide) (by decide) ⟨rfl, trivial⟩
    · rw [qd]
      refine C.new at_14 rfl (tw hw 0 rfl) (tw hw 1 rfl) (tw hw 2 rfl) (by decide) (by decide) (fun a2219 h2220 z2224 g2225 X2222 E2221 D2223 => ?_)
      have F2226 : Fld Z h2220 a2219 "com/example/lumencast/lumencast/model/Routes$Builder" "firstHop" "[I" (.null) := D2223 (Or.inr (tw hw 11 rfl)) (ty := (.array .int)) (by decide)
      have F2227 : Fld Z h2220 a2219 "com/example/lumencast/lumencast/model/Routes$Builder" "fibres" "[I" (.null) := D2223 (Or.inl (tw hw 13 rfl)) (ty := (.array .int)) (by decide)
      have F2228 : Fld Z h2220 a2219 "com/example/lumencast/lumencast/model/Routes$Builder" "pairsDone" "I" (.int 0) := D2223 (Or.inl (tw hw 20 rfl)) (ty := .int) (by decide)
      refine C.dup at_17 rfl rfl ?_
      refine C.iconst 2 at_18 rfl rfl ?_
      refine C.callN (argsL := [(.int 2)]) (rest := [(.ref a2219)]) 1 (fun zz => au11_1 l Z a0 hw n0 h2220 zz a2219 E2221 F2227 F2226 F2228 g2225) at_19 rfl rfl (tw hw 3 rfl) (tw hw 4 rfl) (tw hw 2 rfl) (tw hw 5 rfl) (by decide) pd_0 rfl rfl rfl (Nat.le_of_eq rfl) (by decide) (by decide) (by decide) (by decide) (fun v2229 h2230 r2231 => ?_)
      obtain ⟨a2232, a2233, rfl, K2234, g2241, gz2242, g2243, gz2244, ne2235, F2236, F2237, F2238, F2239, F2240⟩ := r2231
      have ne2245 : a2219 ≠ a2232 := Nat.ne_of_lt (Nat.lt_of_lt_of_le E2221.lt gz2242)
      have ne2246 : a2219 ≠ a2233 := Nat.ne_of_lt (Nat.lt_of_lt_of_le E2221.lt gz2244)
      have F2247 : Exa Z h2230 a2219 "com/example/lumencast/lumencast/model/Routes$Builder" := E2221.keep K2234
      refine C.astore (Ls' := #[.val (.int x0), .val (.int x1), .val (.int x2), .val (.int x3), .val (.int 2), .val (.int 1), .val (.ref a2219), .unset, .unset, .unset]) at_22 rfl rfl rfl ?_
      refine C.iload at_24 rfl rfl ?_
      refine C.iconst 1 at_26 rfl rfl ?_
      refine C.icmp_lt_f at_27 rfl (by decide) ?_
      refine C.aload at_30 rfl rfl rfl ?_
      refine C.iloadN at_32 rfl rfl ?_
      refine C.callV (argsL := [(.int x1)]) (rest := []) 0 (fun zz => au1045_9 l Z a0 hw n0 h2230 zz a2219 x1 a2232 a2233 F2247 F2236 F2237 F2238 F2239 F2240 g2225 g2241 g2243 ne2245 ne2246 ne2235) F2247 at_33 rfl (tw hw 54 rfl) (tw hw 55 rfl) (tw hw 56 rfl) (tw hw 57 rfl) (tw hw 2 rfl) (tw hw 58 rfl) (by decide) pd_0 rfl rfl rfl (Nat.le_of_eq rfl) (by decide) (by decide) (by decide) (by decide) (fun v2251 h2252 r2253 => ?_)
      obtain ⟨rfl, K2254, F2255, F2256⟩ := r2253
      have F2257 : Exa Z h2252 a2219 "com/example/lumencast/lumencast/model/Routes$Builder" := F2247.keep K2254
      have F2258 : Fld Z h2252 a2219 "com/example/lumencast/lumencast/model/Routes$Builder" "fibres" "[I" (.ref a2232) := F2236.keep K2254 (ninS ne2245 (ninS ne2246 nin0))
      have F2259 : Fld Z h2252 a2219 "com/example/lumencast/lumencast/model/Routes$Builder" "firstHop" "[I" (.ref a2233) := F2237.keep K2254 (ninS ne2245 (ninS ne2246 nin0))
      have F2260 : Fld Z h2252 a2219 "com/example/lumencast/lumencast/model/Routes$Builder" "pairsDone" "I" (.int 0) := F2238.keep K2254 (ninS ne2245 (ninS ne2246 nin0))
      refine C.iload at_36 rfl rfl ?_
      refine C.iconst 2 at_38 rfl rfl ?_
      refine C.icmp_lt_f at_39 rfl (by decide) ?_
      refine C.aload at_42 rfl rfl rfl ?_
      refine C.iloadN at_44 rfl rfl ?_
      refine C.callV (argsL := [(.int x2)]) (rest := []) 0 (fun zz => au1868_9 l Z a0 hw n0 h2252 zz a2219 x2 a2232 a2233 x1 F2257 F2258 F2259 F2260 F2255 F2256 g2225 g2241 g2243 ne2245 ne2246 ne2235) F2257 at_45 rfl (tw hw 54 rfl) (tw hw 55 rfl) (tw hw 56 rfl) (tw hw 57 rfl) (tw hw 2 rfl) (tw hw 58 rfl) (by decide) pd_0 rfl rfl rfl (Nat.le_of_eq rfl) (by decide) (by decide) (by decide) (by decide) (fun v2263 h2264 r2265 => ?_)
      obtain ⟨rfl, K2266, F2267, F2268⟩ := r2265
      have F2269 : Exa Z h2264 a2219 "com/example/lumencast/lumencast/model/Routes$Builder" := F2257.keep K2266
      have F2270 : Fld Z h2264 a2219 "com/example/lumencast/lumencast/model/Routes$Builder" "fibres" "[I" (.ref a2232) := F2258.keep K2266 (ninS ne2245 (ninS ne2246 nin0))
      have F2271 : Fld Z h2264 a2219 "com/example/lumencast/lumencast/model/Routes$Builder" "firstHop" "[I" (.ref a2233) := F2259.keep K2266 (ninS ne2245 (ninS ne2246 nin0))
      have F2272 : Fld Z h2264 a2219 "com/example/lumencast/lumencast/model/Routes$Builder" "pairsDone" "I" (.int 0) := F2260.keep K2266 (ninS ne2245 (ninS ne2246 nin0))
      refine C.aload at_48 rfl rfl rfl ?_
      refine C.callV (argsL := []) (rest := []) 0 (fun zz => au1935_3 l Z a0 hw n0 h2264 zz a2219 a2232 a2233 x1 x2 F2269 F2270 F2271 F2272 F2267 F2268 g2225 g2241 g2243 ne2245 ne2246 ne2235) F2269 at_50 rfl (tw hw 14 rfl) (tw hw 15 rfl) (tw hw 16 rfl) (tw hw 17 rfl) (tw hw 2 rfl) (tw hw 18 rfl) (by decide) pd_1 rfl rfl rfl (Nat.le_of_eq rfl) (by decide) (by decide) (by decide) (by decide) (fun v2275 h2276 r2277 => ?_)
      obtain ⟨rfl, K2278, F2279, F2280, F2281, F2282⟩ := r2277
      have F2283 : Exa Z h2276 a2219 "com/example/lumencast/lumencast/model/Routes$Builder" := F2269.keep K2278
      have F2287 : Av Z h2276 a2232 .int ([.int x1, .int x2]) := F2267.keep K2278 (ninS (Ne.symm ne2245) (ninS ne2235 nin0))
      refine C.iload at_53 rfl rfl ?_
      refine C.iconst 1 at_55 rfl rfl ?_
      refine C.icmp_ne_f at_56 rfl (by decide) ?_
      refine C.aload at_59 rfl rfl rfl ?_
      refine C.iloadN at_61 rfl rfl ?_
      refine C.callV (argsL := [(.int x3)]) (rest := []) 0 (fun zz => au2289_9 l Z a0 hw n0 h2276 zz a2219 x3 a2232 a2233 x1 x2 F2283 F2279 F2280 F2281 F2287 F2282 g2225 g2241 g2243 ne2245 ne2246 ne2235) F2283 at_62 rfl (tw hw 54 rfl) (tw hw 55 rfl) (tw hw 56 rfl) (tw hw 57 rfl) (tw hw 2 rfl) (tw hw 58 rfl) (by decide) pd_0 rfl rfl rfl (Nat.le_of_eq rfl) (by decide) (by decide) (by decide) (by decide) (fun v2500 h2501 r2502 => ?_)
      obtain ⟨a2503, rfl, K2504, g2510, gz2511, F2505, F2506, F2507, F2508, F2509⟩ := r2502
      have ne2512 : a2219 ≠ a2503 := Nat.ne_of_lt (Nat.lt_of_lt_of_le F2283.lt gz2511)
      have ne2513 : a2232 ≠ a2503 := Nat.ne_of_lt (Nat.lt_of_lt_of_le F2287.lt gz2511)
      have ne2514 : a2233 ≠ a2503 := Nat.ne_of_lt (Nat.lt_of_lt_of_le F2282.lt gz2511)
      have F2515 : Exa Z h2501 a2219 "com/example/lumencast/lumencast/model/Routes$Builder" := F2283.keep K2504
      have F2516 : Av Z h2501 a2232 .int ([.int x1, .int x2]) := F2287.keep K2504 (ninS (Ne.symm ne2245) (ninS ne2235 nin0))
      refine C.aload at_65 rfl rfl rfl ?_
      refine C.callV (argsL := []) (rest := []) 0 (fun zz => au2521_3 l Z a0 hw n0 h2501 zz a2219 a2503 a2233 x1 x2 x3 F2515 F2505 F2506 F2507 F2509 F2508 g2225 g2510 g2243 ne2512 ne2246 (Ne.symm ne2514)) F2515 at_67 rfl (tw hw 14 rfl) (tw hw 15 rfl) (tw hw 16 rfl) (tw hw 17 rfl) (tw hw 2 rfl) (tw hw 18 rfl) (by decide) pd_1 rfl rfl rfl (Nat.le_of_eq rfl) (by decide) (by decide) (by decide) (by decide) (fun v2546 h2547 r2548 => ?_)
      obtain ⟨rfl, K2549, F2550, F2551, F2552⟩ := r2548
      have F2553 : Exa Z h2547 a2219 "com/example/lumencast/lumencast/model/Routes$Builder" := F2515.keep K2549
      have F2554 : Av Z h2547 a2232 .int ([.int x1, .int x2]) := F2516.keep K2549 (ninS (Ne.symm ne2245) nin0)
      have F2558 : Av Z h2547 a2233 .int ([.int 0, .int 2, .int 3]) := F2508.keep K2549 (ninS (Ne.symm ne2246) nin0)
      have F2559 : Av Z h2547 a2503 .int ([.int x1, .int x2, .int x3, .int 0, .int 0, .int 0, .int 0, .int 0, .int 0, .int 0, .int 0, .int 0, .int 0, .int 0, .int 0, .int 0]) := F2509.keep K2549 (ninS (Ne.symm ne2512) nin0)
      refine C.aload at_70 rfl rfl rfl ?_
      refine C.callV (argsL := []) (rest := []) 0 (fun zz => au2560_4 l Z a0 hw n0 h2547 zz a2219 a2503 a2233 x1 x2 x3 F2553 F2550 F2551 F2552 F2559 F2558 g2225 g2510 g2243 ne2512 ne2246 (Ne.symm ne2514)) F2553 at_72 rfl (tw hw 21 rfl) (tw hw 22 rfl) (tw hw 23 rfl) (tw hw 24 rfl) (tw hw 2 rfl) (tw hw 25 rfl) (by decide) pd_5 rfl rfl rfl (Nat.le_of_eq rfl) (by decide) (by decide) (by decide) (by decide) (fun v2818 h2819 r2820 => ?_)
      obtain ⟨a2821, a2822, rfl, K2823, g2829, gz2830, g2831, gz2832, ne2824, F2825, F2826, F2827, F2828⟩ := r2820
      have ne2833 : a2219 ≠ a2821 := Nat.ne_of_lt (Nat.lt_of_lt_of_le F2553.lt gz2830)
      have ne2834 : a2232 ≠ a2821 := Nat.ne_of_lt (Nat.lt_of_lt_of_le F2554.lt gz2830)
      have ne2835 : a2233 ≠ a2821 := Nat.ne_of_lt (Nat.lt_of_lt_of_le F2558.lt gz2830)
      have ne2836 : a2503 ≠ a2821 := Nat.ne_of_lt (Nat.lt_of_lt_of_le F2559.lt gz2830)
      have ne2837 : a2219 ≠ a2822 := Nat.ne_of_lt (Nat.lt_of_lt_of_le F2553.lt gz2832)
      have ne2838 : a2232 ≠ a2822 := Nat.ne_of_lt (Nat.lt_of_lt_of_le F2554.lt gz2832)
      have ne2839 : a2233 ≠ a2822 := Nat.ne_of_lt (Nat.lt_of_lt_of_le F2558.lt gz2832)
      have ne2840 : a2503 ≠ a2822 := Nat.ne_of_lt (Nat.lt_of_lt_of_le F2559.lt gz2832)
      have F2841 : Exa Z h2819 a2219 "com/example/lumencast/lumencast/model/Routes$Builder" := F2553.keep K2823
      have F2842 : Av Z h2819 a2232 .int ([.int x1, .int x2]) := F2554.keep K2823 nin0
      have F2843 : Av Z h2819 a2233 .int ([.int 0, .int 2, .int 3]) := F2558.keep K2823 nin0
      have F2844 : Av Z h2819 a2503 .int ([.int x1, .int x2, .int x3, .int 0, .int 0, .int 0, .int 0, .int 0, .int 0, .int 0, .int 0, .int 0, .int 0, .int 0, .int 0, .int 0]) := F2559.keep K2823 nin0
      have F2845 : Fld Z h2819 a2219 "com/example/lumencast/lumencast/model/Routes$Builder" "fibres" "[I" (.ref a2503) := F2550.keep K2823 nin0
      have F2846 : Fld Z h2819 a2219 "com/example/lumencast/lumencast/model/Routes$Builder" "firstHop" "[I" (.ref a2233) := F2551.keep K2823 nin0
      have F2847 : Fld Z h2819 a2219 "com/example/lumencast/lumencast/model/Routes$Builder" "pairsDone" "I" (.int 2) := F2552.keep K2823 nin0
      refine C.astore (Ls' := #[.val (.int x0), .val (.int x1), .val (.int x2), .val (.int x3), .val (.int 2), .val (.int 1), .val (.ref a2219), .val (.ref a2821), .unset, .unset]) at_75 rfl rfl rfl ?_
      refine C.aload at_77 rfl rfl rfl ?_
      refine C.iconst 0 at_79 rfl rfl ?_
      refine C.callV (argsL := [(.int 0)]) (rest := []) 0 (fun zz => au2848_8 l Z a0 hw n0 h2819 zz a2821 a2822 a2233 x1 x2 x3 F2825 F2826 F2827 F2828 F2843 g2829 g2831 g2243 ne2824 (Ne.symm ne2835) (Ne.symm ne2839)) F2825 at_80 rfl (tw hw 49 rfl) (tw hw 50 rfl) (tw hw 51 rfl) (tw hw 52 rfl) (tw hw 28 rfl) (tw hw 53 rfl) (by decide) pd_6 rfl rfl rfl (Nat.le_of_eq rfl) (by decide) (by decide) (by decide) (by decide) (fun v2849 h2850 r2851 => ?_)
      obtain ⟨rfl, rfl⟩ := r2851
      refine C.iload at_83 rfl rfl ?_
      refine C.icmp_ne_f at_85 rfl (by decide) ?_
      refine C.aload at_88 rfl rfl rfl ?_
      refine C.iconst 1 at_90 rfl rfl ?_
      refine C.callV (argsL := [(.int 1)]) (rest := []) 0 (fun zz => au2853_8 l Z a0 hw n0 h2819 zz a2821 a2822 a2233 x1 x2 x3 F2825 F2826 F2827 F2828 F2843 g2829 g2831 g2243 ne2824 (Ne.symm ne2835) (Ne.symm ne2839)) F2825 at_91 rfl (tw hw 49 rfl) (tw hw 50 rfl) (tw hw 51 rfl) (tw hw 52 rfl) (tw hw 28 rfl) (tw hw 53 rfl) (by decide) pd_6 rfl rfl rfl (Nat.le_of_eq rfl) (by decide) (by decide) (by decide) (by decide) (fun v2854 h2855 r2856 => ?_)
      obtain ⟨rfl, rfl⟩ := r2856
      refine C.iload at_94 rfl rfl ?_
      refine C.icmp_ne_f at_96 rfl (by decide) ?_
      refine C.iconst 1 at_99 rfl rfl ?_
      refine C.goto at_100 (by decide) rfl ?_
      refine C.istore (Ls' := #[.val (.int x0), .val (.int x1), .val (.int x2), .val (.int x3), .val (.int 2), .val (.int 1), .val (.ref a2219), .val (.ref a2821), .val (.int 1), .unset]) at_104 rfl rfl ?_
      refine C.iload at_106 rfl rfl ?_
      refine C.if_eq_f at_108 rfl (by decide) ?_
      refine C.iload at_111 rfl rfl ?_
      refine C.iconst 1 at_113 rfl rfl ?_
      refine C.icmp_lt_f at_114 rfl (by decide) ?_
      refine C.iload at_117 rfl rfl ?_
      refine C.iconst 1 at_119 rfl rfl ?_
      refine C.icmp_ne_t at_120 (by decide) rfl (by decide) ?_
      refine C.iloadN at_127 rfl rfl ?_
      refine C.istore (Ls' := #[.val (.int x0), .val (.int x1), .val (.int x2), .val (.int x3), .val (.int 2), .val (.int 1), .val (.ref a2219), .val (.ref a2821), .val (.int 1), .val (.int x2)]) at_128 rfl rfl ?_
      refine C.aload at_130 rfl rfl rfl ?_
      refine C.iconst 0 at_132 rfl rfl ?_
      refine C.iload at_133 rfl rfl ?_
      refine C.iconst 1 at_135 rfl rfl ?_
      refine C.isub at_136 rfl ?_
      show Go p l e room_1 s m #[(.int x0), (.int x1), (.int x2), (.int x3)] below meth c n0 (FinQ s n0 (Qcon0 Z n0 h0 x0 x1 x2 x3) room_1.cells room_1.slots) h2819 6 29 137 #[.val (.int x0), .val (.int x1), .val (.int x2), .val (.int x3), .val (.int 2), .val (.int 1), .val (.ref a2219), .val (.ref a2821), .val (.int 1), .val (.int x2)] [(.int 1), (.int 0), (.ref a2821)]
      refine C.callV (argsL := [(.int 0), (.int 1)]) (rest := []) 0 (fun zz => au2858_10 l Z a0 hw n0 h2819 zz a2821 a2822 a2233 x1 x2 x3 F2825 F2826 F2827 F2828 F2843 g2829 g2831 g2243 ne2824 (Ne.symm ne2835) (Ne.symm ne2839)) F2825 at_137 rfl (tw hw 59 rfl) (tw hw 60 rfl) (tw hw 61 rfl) (tw hw 62 rfl) (tw hw 28 rfl) (tw hw 63 rfl) (by decide) pd_2 rfl rfl rfl (Nat.le_of_eq rfl) (by decide) (by decide) (by decide) (by decide) (fun v2859 h2860 r2861 => ?_)
      obtain ⟨rfl, rfl⟩ := r2861
      refine C.iload at_140 rfl rfl ?_
      refine C.icmp_ne_f at_142 rfl rfl ?_
      refine C.iconst 1 at_145 rfl rfl ?_
      refine C.goto at_146 (by decide) rfl ?_
      refine C.istore (Ls' := #[.val (.int x0), .val (.int x1), .val (.int x2), .val (.int x3), .val (.int 2), .val (.int 1), .val (.ref a2219), .val (.ref a2821), .val (.int 1), .val (.int x2)]) at_150 rfl rfl ?_
      refine C.iload at_152 rfl rfl ?_
      refine C.if_eq_f at_154 rfl (by decide) ?_
      refine C.iload at_157 rfl rfl ?_
      refine C.iconst 1 at_159 rfl rfl ?_
      refine C.icmp_ne_f at_160 rfl (by decide) ?_
      refine C.aload at_163 rfl rfl rfl ?_
      refine C.iconst 1 at_165 rfl rfl ?_
      refine C.iconst 0 at_166 rfl rfl ?_
      refine C.callV (argsL := [(.int 1), (.int 0)]) (rest := []) 0 (fun zz => au2863_10 l Z a0 hw n0 h2819 zz a2821 a2822 a2233 x1 x2 x3 F2825 F2826 F2827 F2828 F2843 g2829 g2831 g2243 ne2824 (Ne.symm ne2835) (Ne.symm ne2839)) F2825 at_167 rfl (tw hw 59 rfl) (tw hw 60 rfl) (tw hw 61 rfl) (tw hw 62 rfl) (tw hw 28 rfl) (tw hw 63 rfl) (by decide) pd_2 rfl rfl rfl (Nat.le_of_eq rfl) (by decide) (by decide) (by decide) (by decide) (fun v2864 h2865 r2866 => ?_)
      obtain ⟨rfl, rfl⟩ := r2866
      refine C.iloadN at_170 rfl rfl ?_
      refine C.icmp_ne_f at_171 rfl rfl ?_
      refine C.iconst 1 at_174 rfl rfl ?_
      refine C.goto at_175 (by decide) rfl ?_
      refine C.istore (Ls' := #[.val (.int x0), .val (.int x1), .val (.int x2), .val (.int x3), .val (.int 2), .val (.int 1), .val (.ref a2219), .val (.ref a2821), .val (.int 1), .val (.int x2)]) at_179 rfl rfl ?_
      refine C.iload at_181 rfl rfl ?_
      exact C.retZ at_183 rfl (by decide) (by decide) ⟨rfl, trivial⟩
set_option maxRecDepth 65536 in
set_option maxHeartbeats 40000000 in
theorem comes_1 {Post : Tables → Env → Array Value → State → Outcome → State → Prop} (hpost : ∀ tb e args s v u, (limb_1_1.after args s (.returned v) u = true ∧ limb_1_2.after args s (.returned v) u = true ∧ True) → FrameEnd s (.returned v) u (Jvm.fieldLocs frame_1_writes args s ++ Jvm.arrayLocs frame_1_arrays args s ++ Jvm.staticLocs frame_1_statics s) 24 128 → Post tb e args s (.returned v) u) :
    ArmFor flags0 classFile x code maxLocals ret World_1 tables_1 room_1 Calls_1 rest_1 Pre_1 Post := by
  intro l hfl _ _ p e ha hc hk s m args below hf hA hF happ hP
  obtain ⟨hcalls, hrest, hpre⟩ := hP
  obtain ⟨-, -, -, hnamed, -, -, -, hat⟩ := (Spec.applies_iff hf).mp happ
  obtain ⟨hg, hn⟩ := and_e (Cond.before_iff.mp (show (Jvm.Cond.and given_1 narrow_1).before args s = true from hpre))
  obtain ⟨h1, h2⟩ := and_e hg
  obtain ⟨w0, w1, w2, w3, rfl⟩ : ∃ w0 w1 w2 w3 : Value, args = #[w0, w1, w2, w3] := by
    have hs : args.size = 4 := by simpa [Cond.value, given_1] using h1
    obtain ⟨L⟩ := args
    match L, hs with
    | [w0, w1, w2, w3], _ => exact ⟨w0, w1, w2, w3, rfl⟩
  have hw := fun d (hd : d ∈ tables_1) => atoms_spec (ws := Jvm.Cond.code x code maxLocals ret :: tables_1) hat d (List.mem_cons_of_mem _ hd)
  obtain ⟨u0, t0⟩ := and_e h2
  obtain ⟨i0, e0⟩ := is_v u0
  obtain rfl : w0 = (.int i0) := Option.some.inj e0
  obtain ⟨u1, t1⟩ := and_e t0
  obtain ⟨i1, e1⟩ := is_v u1
  obtain rfl : w1 = (.int i1) := Option.some.inj e1
  obtain ⟨u2, t2⟩ := and_e t1
  obtain ⟨i2, e2⟩ := is_v u2
  obtain rfl : w2 = (.int i2) := Option.some.inj e2
  obtain ⟨i3, e3⟩ := is_v t2
  obtain rfl : w3 = (.int i3) := Option.some.inj e3
  obtain ⟨n, o, h1, h2, h3, _, L, rfl, ⟨⟨rfl, -⟩, N⟩, hq⟩ := con0 l s _ hw s.heap.size s.heap (Nat.le_refl _) i0 i1 i2 i3 p e ha hc hk s m _ below hf ((Spec.applies_iff_loose hf).mp happ).1 ⟨rfl, State.Warmed39.refl s, rfl⟩ trivial
  refine ⟨n, _, h1, h2, h3, hpost _ _ _ _ _ _ ⟨Cond.after_iff.mpr rfl, Cond.after_iff.mpr (eq_i res_at (Term.int_eval (1)) rfl), trivial⟩ ⟨hq.1, hq.2.1, (hq.2.2.sift fun y hy => Or.inr (N y hy)).mono (by decide) (by decide)⟩⟩
theorem main_1_1 : Claimed_1_1 := comes_1 fun _ _ _ _ _ _ h hF => ⟨h.1, hF⟩
theorem main_1_2 : Claimed_1_2 := comes_1 fun _ _ _ _ _ _ h hF => ⟨h.2.1, hF⟩
end Jvm.Pilot.@@N@@
namespace Jvm.Pilot.@@N@@
open Jvm Jvm.ClassFile Sem Op Lib Jvm.Free Jvm.Stand Jvm.Pilot.@@N@@.Jvm.D
/-! MADE BY PROGRAM (witnessworld.py) out of the Statement's table words and the real class files: 13 classes; the members and pool entries that the words name. The judged class is class 1, her method 1. -/
namespace start1
open Jvm.ClassFile
def u (s : String) : CpInfo := .utf8 (stringToUtf16 s)
/-- a pool by its gaps: so many unusable entries, then the entry; so many at the end -/
def gap : Nat → List CpInfo → List CpInfo
  | 0, r => r
  | n + 1, r => .unusable :: gap n r
def poolList (es : List (Nat × CpInfo)) (last : Nat) : List CpInfo := es.foldr (fun e r => gap e.1 (e.2 :: r)) (gap last [])
def pool (es : List (Nat × CpInfo)) (last : Nat) : Array CpInfo := ⟨poolList es last⟩
def fileOf (pool : Array CpInfo) (this : Nat) (attrs : Array Attribute := #[]) (ms : Array MethodInfo := #[]) (fl : Nat := 33) (sup : Nat := 0) (ifs : Array Nat := #[]) (fds : Array FieldInfo := #[]) : ClassFile where
  minorVersion := 0
  majorVersion := 65
  constantPool := pool
  accessFlags := fl
  thisClass := this
  superClass := sup
  interfaces := ifs
  fields := fds
  methods := ms
  attributes := attrs
def plain (name : String) (sup : Option ClassId) : Class where
  name := name
  kind := .ordinary
  loader := none
  accessFlags := 33
  super := sup
  interfaces := #[]
  cf := none
  fields := #[]
  methods := #[]
  instanceTypes := #[]
  staticTypes := #[]
  resolved := #[]
  callSites := []
  init := .initialized
  statics := none
  mirror := none

def pool0 : Array CpInfo := pool [(5, u "<init>"), (0, u "()V"), (1, .class_ 10), (1, u "java/lang/Object")] 113

def k0c0 : Code := { maxStack := 0, maxLocals := 1, code := object_method_1_code, exceptionTable := #[], attributes := #[] }
def k0m0 : Method := { name := "<init>", desc := "()V", sig := { parameters := [], returnType := none }, accessFlags := 1, code := some k0c0 }
/-- java/lang/Object -/
def k0 : Class := { plain "java/lang/Object" none with
  accessFlags := 33
  interfaces := #[]
  cf := some (fileOf pool0 8 #[] #[{ accessFlags := 1, nameIndex := 5, descriptorIndex := 6, attributes := #[] }] 33 0 #[] #[])
  fields := #[]
  methods := #[k0m0]
  instanceTypes := #[]
  staticTypes := #[]
  resolved := Array.replicate 124 none
  statics := none }

def pool1 : Array CpInfo := pool [(2, .class_ 4), (1, u "java/lang/Object"), (0, u "<init>"), (0, u "()V"), (0, .class_ 8), (0, u "com/example/lumencast/lumencast/model/Routes$Builder"), (0, .methodref 7 10), (0, .nameAndType 5 11), (0, u "(I)V"), (0, .methodref 7 13), (0, .nameAndType 14 11), (0, u "addFibre"), (0, .methodref 7 16), (0, .nameAndType 17 6), (0, u "endRoute"), (0, .methodref 7 19), (0, .nameAndType 20 21), (0, u "build"), (0, u "()Lcom/example/lumencast/lumencast/model/Routes;"), (0, .methodref 23 24), (0, .class_ 25), (0, .nameAndType 26 27), (0, u "com/example/lumencast/lumencast/model/Routes"), (0, u "hops"), (0, u "(I)I"), (0, .methodref 23 29), (0, .nameAndType 30 31), (0, u "fibre"), (0, u "(II)I"), (0, .class_ 33), (0, u "com/example/lumencast/lumencast/model/BuilderEndRoutePinLaw"), (2, u "law"), (0, u "(IIII)Z")] 5

def k1m0 : Method := { name := "<init>", desc := "()V", sig := { parameters := [], returnType := none }, accessFlags := 2, code := none }
def k1c1 : Code := { maxStack := 4, maxLocals := 10, code := code, exceptionTable := #[], attributes := #[] }
def k1m1 : Method := { name := "law", desc := "(IIII)Z", sig := { parameters := [.int, .int, .int, .int], returnType := some .boolean }, accessFlags := 9, code := some k1c1 }
/-- com/example/lumencast/lumencast/model/BuilderEndRoutePinLaw -/
def k1 : Class := { plain "com/example/lumencast/lumencast/model/BuilderEndRoutePinLaw" (some 0) with
  accessFlags := 49
  interfaces := #[]
  cf := some (fileOf pool1 32 #[] #[{ accessFlags := 2, nameIndex := 5, descriptorIndex := 6, attributes := #[] }, { accessFlags := 9, nameIndex := 36, descriptorIndex := 37, attributes := #[] }] 49 2 #[] #[])
  fields := #[]
  methods := #[k1m0, k1m1]
  instanceTypes := #[]
  staticTypes := #[]
  resolved := Array.replicate 43 none
  statics := none }

def pool2 : Array CpInfo := pool [(1, .class_ 2), (0, u "com/example/lumencast/lumencast/model/Routes"), (0, .methodref 4 5), (0, .class_ 6), (0, .nameAndType 7 8), (0, u "java/lang/Object"), (0, u "<init>"), (0, u "()V"), (0, .fieldref 10 11), (0, .class_ 12), (0, .nameAndType 13 14), (0, u "com/example/lumencast/lumencast/model/Routes$Builder"), (0, u "firstHop"), (0, u "[I"), (0, .fieldref 10 16), (0, .nameAndType 17 14), (0, u "fibres"), (0, .fieldref 10 19), (0, .nameAndType 20 21), (0, u "pairsDone"), (0, u "I"), (0, .integer 2147483639), (9, .long 2147483639), (1, .long 16), (1, .long 2), (1, .methodref 39 40), (0, .class_ 41), (0, .nameAndType 42 43), (0, u "java/lang/Math"), (0, u "max"), (0, u "(JJ)J"), (0, .methodref 39 45), (0, .nameAndType 46 43), (0, u "min"), (0, .methodref 48 49), (0, .class_ 50), (0, .nameAndType 51 52), (0, u "java/util/Arrays"), (0, u "copyOf"), (0, u "([II)[I"), (4, .methodref 1 58), (0, .nameAndType 7 59), (0, u "([I[I)V"), (0, u "(I)V"), (2, u "addFibre"), (1, u "endRoute"), (0, u "build"), (0, u "()Lcom/example/lumencast/lumencast/model/Routes;")] 22

def k2c0 : Code := { maxStack := 3, maxLocals := 2, code := prog_26_method_1_code, exceptionTable := #[], attributes := #[] }
def k2m0 : Method := { name := "<init>", desc := "(I)V", sig := { parameters := [.int], returnType := none }, accessFlags := 0, code := some k2c0 }
def k2c1 : Code := { maxStack := 10, maxLocals := 3, code := prog_26_method_2_code, exceptionTable := #[], attributes := #[] }
def k2m1 : Method := { name := "addFibre", desc := "(I)V", sig := { parameters := [.int], returnType := none }, accessFlags := 0, code := some k2c1 }
def k2c2 : Code := { maxStack := 4, maxLocals := 1, code := prog_26_method_3_code, exceptionTable := #[], attributes := #[] }
def k2m2 : Method := { name := "endRoute", desc := "()V", sig := { parameters := [], returnType := none }, accessFlags := 0, code := some k2c2 }
def k2c3 : Code := { maxStack := 5, maxLocals := 2, code := prog_26_method_4_code, exceptionTable := #[], attributes := #[] }
def k2m3 : Method := { name := "build", desc := "()Lcom/example/lumencast/lumencast/model/Routes;", sig := { parameters := [], returnType := some (.object "com/example/lumencast/lumencast/model/Routes") }, accessFlags := 0, code := some k2c3 }
/-- com/example/lumencast/lumencast/model/Routes$Builder -/
def k2 : Class := { plain "com/example/lumencast/lumencast/model/Routes$Builder" (some 0) with
  accessFlags := 48
  interfaces := #[]
  cf := some (fileOf pool2 10 #[.nestHost 1] #[{ accessFlags := 0, nameIndex := 7, descriptorIndex := 60, attributes := #[] }, { accessFlags := 0, nameIndex := 63, descriptorIndex := 60, attributes := #[] }, { accessFlags := 0, nameIndex := 65, descriptorIndex := 8, attributes := #[] }, { accessFlags := 0, nameIndex := 66, descriptorIndex := 67, attributes := #[] }] 48 4 #[] #[{ accessFlags := 18, nameIndex := 13, descriptorIndex := 14, attributes := #[] }, { accessFlags := 2, nameIndex := 17, descriptorIndex := 14, attributes := #[] }, { accessFlags := 2, nameIndex := 20, descriptorIndex := 21, attributes := #[] }])
  fields := #[{ name := "firstHop", type := (.array .int), accessFlags := 18, slot := 0, constantValue := 0 }, { name := "fibres", type := (.array .int), accessFlags := 2, slot := 1, constantValue := 0 }, { name := "pairsDone", type := .int, accessFlags := 2, slot := 2, constantValue := 0 }]
  methods := #[k2m0, k2m1, k2m2, k2m3]
  instanceTypes := #[(.array .int), (.array .int), .int]
  staticTypes := #[]
  resolved := Array.replicate 90 none
  statics := none }

def pool3 : Array CpInfo := pool [(3, .methodref 4 5), (0, .class_ 6), (0, .nameAndType 7 8), (0, u "java/lang/Object"), (0, u "<init>"), (0, u "()V"), (0, .fieldref 10 11), (0, .class_ 12), (0, .nameAndType 13 14), (0, u "com/example/lumencast/lumencast/model/Routes"), (0, u "firstHop"), (0, u "[I"), (0, .fieldref 10 16), (0, .nameAndType 17 14), (0, u "fibres"), (0, u "MAX_FIBRES"), (0, u "I"), (2, u "([I[I)V"), (2, u "hops"), (0, u "(I)I"), (0, u "fibre"), (0, u "(II)I"), (3, .class_ 33), (0, u "com/example/lumencast/lumencast/model/Routes$Builder")] 2

def k3c0 : Code := { maxStack := 2, maxLocals := 3, code := prog_25_method_1_code, exceptionTable := #[], attributes := #[] }
def k3m0 : Method := { name := "<init>", desc := "([I[I)V", sig := { parameters := [(.array .int), (.array .int)], returnType := none }, accessFlags := 2, code := some k3c0 }
def k3c1 : Code := { maxStack := 3, maxLocals := 2, code := prog_25_method_2_code, exceptionTable := #[], attributes := #[] }
def k3m1 : Method := { name := "hops", desc := "(I)I", sig := { parameters := [.int], returnType := some .int }, accessFlags := 1, code := some k3c1 }
def k3c2 : Code := { maxStack := 3, maxLocals := 3, code := prog_25_method_3_code, exceptionTable := #[], attributes := #[] }
def k3m2 : Method := { name := "fibre", desc := "(II)I", sig := { parameters := [.int, .int], returnType := some .int }, accessFlags := 1, code := some k3c2 }
/-- com/example/lumencast/lumencast/model/Routes -/
def k3 : Class := { plain "com/example/lumencast/lumencast/model/Routes" (some 0) with
  accessFlags := 49
  interfaces := #[]
  cf := some (fileOf pool3 10 #[.nestMembers #[32]] #[{ accessFlags := 2, nameIndex := 7, descriptorIndex := 22, attributes := #[] }, { accessFlags := 1, nameIndex := 25, descriptorIndex := 26, attributes := #[] }, { accessFlags := 1, nameIndex := 27, descriptorIndex := 28, attributes := #[] }] 49 4 #[] #[{ accessFlags := 26, nameIndex := 18, descriptorIndex := 19, attributes := #[] }, { accessFlags := 18, nameIndex := 13, descriptorIndex := 14, attributes := #[] }, { accessFlags := 18, nameIndex := 17, descriptorIndex := 14, attributes := #[] }])
  fields := #[{ name := "MAX_FIBRES", type := .int, accessFlags := 26, slot := 0, constantValue := 0 }, { name := "firstHop", type := (.array .int), accessFlags := 18, slot := 0, constantValue := 0 }, { name := "fibres", type := (.array .int), accessFlags := 18, slot := 1, constantValue := 0 }]
  methods := #[k3m0, k3m1, k3m2]
  instanceTypes := #[(.array .int), (.array .int)]
  staticTypes := #[.int]
  resolved := Array.replicate 36 none
  statics := none }

def pool4 : Array CpInfo := pool [(2, .class_ 4), (1, u "java/lang/Object"), (0, u "<init>"), (0, u "()V"), (7, .class_ 16), (1, u "java/util/Arrays"), (57, .class_ 76), (1, u "java/util/Arrays$NaturalOrder"), (36, .class_ 115), (1, u "java/util/Arrays$LegacyMergeSort"), (1, u "Z"), (32, .methodref 151 152), (0, .class_ 153), (0, .nameAndType 154 155), (0, u "java/lang/System"), (0, u "arraycopy"), (0, u "(Ljava/lang/Object;ILjava/lang/Object;II)V"), (146, u "copyOf"), (1, .methodref 305 306), (0, .class_ 307), (0, .nameAndType 308 309), (0, u "java/lang/Math"), (0, u "min"), (0, u "(II)I"), (65, .class_ 376), (0, u "java/util/Arrays$ArrayList"), (68, u "$assertionsDisabled"), (269, u "MIN_ARRAY_SORT_GRAN"), (0, u "I"), (2, u "INSERTIONSORT_THRESHOLD"), (151, u "([II)[I"), (103, .class_ 976), (0, u "java/util/Arrays$ArrayItr")] 52

def k4m0 : Method := { name := "<init>", desc := "()V", sig := { parameters := [], returnType := none }, accessFlags := 2, code := none }
def k4c1 : Code := { maxStack := 6, maxLocals := 3, code := jdk_65_method_123_code, exceptionTable := #[], attributes := #[] }
def k4m1 : Method := { name := "copyOf", desc := "([II)[I", sig := { parameters := [(.array .int), .int], returnType := some (.array .int) }, accessFlags := 9, code := some k4c1 }
/-- java/util/Arrays -/
def k4 : Class := { plain "java/util/Arrays" (some 0) with
  accessFlags := 49
  interfaces := #[]
  cf := some (fileOf pool4 14 #[.nestMembers #[975, 375, 113, 74]] #[{ accessFlags := 2, nameIndex := 5, descriptorIndex := 6, attributes := #[] }, { accessFlags := 9, nameIndex := 302, descriptorIndex := 871, attributes := #[] }] 49 2 #[] #[{ accessFlags := 26, nameIndex := 715, descriptorIndex := 716, attributes := #[] }, { accessFlags := 26, nameIndex := 719, descriptorIndex := 716, attributes := #[] }, { accessFlags := 4120, nameIndex := 445, descriptorIndex := 117, attributes := #[] }])
  fields := #[{ name := "MIN_ARRAY_SORT_GRAN", type := .int, accessFlags := 26, slot := 0, constantValue := 0 }, { name := "INSERTIONSORT_THRESHOLD", type := .int, accessFlags := 26, slot := 1, constantValue := 0 }, { name := "$assertionsDisabled", type := .boolean, accessFlags := 4120, slot := 2, constantValue := 0 }]
  methods := #[k4m0, k4m1]
  instanceTypes := #[]
  staticTypes := #[.int, .int, .boolean]
  resolved := Array.replicate 1029 none
  statics := none }

def pool5 : Array CpInfo := pool [(1, .class_ 2), (0, u "java/lang/Math"), (1, .class_ 6), (1, u "java/lang/Object"), (0, u "<init>"), (0, u "()V"), (89, .class_ 100), (1, u "java/lang/Math$RandomNumberGeneratorHolder"), (20, u "(JJ)J"), (50, u "negativeZeroFloatBits"), (0, u "J"), (2, u "negativeZeroDoubleBits"), (21, u "max"), (2, u "min"), (43, u "$assertionsDisabled"), (0, u "Z"), (88, u "(II)I"), (2, u "twoToTheDoubleScaleDown"), (0, u "D"), (4, u "twoToTheDoubleScaleUp"), (9, u "E"), (3, u "PI"), (2, u "TAU"), (2, u "DEGREES_TO_RADIANS"), (0, u "RADIANS_TO_DEGREES")] 94

def k5m0 : Method := { name := "<init>", desc := "()V", sig := { parameters := [], returnType := none }, accessFlags := 2, code := none }
def k5c1 : Code := { maxStack := 4, maxLocals := 4, code := jdk_29_method_66_code, exceptionTable := #[], attributes := #[] }
def k5m1 : Method := { name := "max", desc := "(JJ)J", sig := { parameters := [.long, .long], returnType := some .long }, accessFlags := 9, code := some k5c1 }
def k5c2 : Code := { maxStack := 2, maxLocals := 2, code := jdk_29_method_69_code, exceptionTable := #[], attributes := #[] }
def k5m2 : Method := { name := "min", desc := "(II)I", sig := { parameters := [.int, .int], returnType := some .int }, accessFlags := 9, code := some k5c2 }
def k5c3 : Code := { maxStack := 4, maxLocals := 4, code := jdk_29_method_70_code, exceptionTable := #[], attributes := #[] }
def k5m3 : Method := { name := "min", desc := "(JJ)J", sig := { parameters := [.long, .long], returnType := some .long }, accessFlags := 9, code := some k5c3 }
/-- java/lang/Math -/
def k5 : Class := { plain "java/lang/Math" (some 0) with
  accessFlags := 49
  interfaces := #[]
  cf := some (fileOf pool5 1 #[.nestMembers #[98]] #[{ accessFlags := 2, nameIndex := 7, descriptorIndex := 8, attributes := #[] }, { accessFlags := 9, nameIndex := 198, descriptorIndex := 121, attributes := #[] }, { accessFlags := 9, nameIndex := 201, descriptorIndex := 335, attributes := #[] }, { accessFlags := 9, nameIndex := 201, descriptorIndex := 121, attributes := #[] }] 49 4 #[] #[{ accessFlags := 25, nameIndex := 354, descriptorIndex := 339, attributes := #[] }, { accessFlags := 25, nameIndex := 358, descriptorIndex := 339, attributes := #[] }, { accessFlags := 25, nameIndex := 361, descriptorIndex := 339, attributes := #[] }, { accessFlags := 26, nameIndex := 364, descriptorIndex := 339, attributes := #[] }, { accessFlags := 26, nameIndex := 365, descriptorIndex := 339, attributes := #[] }, { accessFlags := 26, nameIndex := 172, descriptorIndex := 173, attributes := #[] }, { accessFlags := 26, nameIndex := 176, descriptorIndex := 173, attributes := #[] }, { accessFlags := 8, nameIndex := 344, descriptorIndex := 339, attributes := #[] }, { accessFlags := 8, nameIndex := 338, descriptorIndex := 339, attributes := #[] }, { accessFlags := 4120, nameIndex := 245, descriptorIndex := 246, attributes := #[] }])
  fields := #[{ name := "E", type := .double, accessFlags := 25, slot := 0, constantValue := 0 }, { name := "PI", type := .double, accessFlags := 25, slot := 1, constantValue := 0 }, { name := "TAU", type := .double, accessFlags := 25, slot := 2, constantValue := 0 }, { name := "DEGREES_TO_RADIANS", type := .double, accessFlags := 26, slot := 3, constantValue := 0 }, { name := "RADIANS_TO_DEGREES", type := .double, accessFlags := 26, slot := 4, constantValue := 0 }, { name := "negativeZeroFloatBits", type := .long, accessFlags := 26, slot := 5, constantValue := 0 }, { name := "negativeZeroDoubleBits", type := .long, accessFlags := 26, slot := 6, constantValue := 0 }, { name := "twoToTheDoubleScaleUp", type := .double, accessFlags := 8, slot := 7, constantValue := 0 }, { name := "twoToTheDoubleScaleDown", type := .double, accessFlags := 8, slot := 8, constantValue := 0 }, { name := "$assertionsDisabled", type := .boolean, accessFlags := 4120, slot := 9, constantValue := 0 }]
  methods := #[k5m0, k5m1, k5m2, k5m3]
  instanceTypes := #[]
  staticTypes := #[.double, .double, .double, .double, .double, .long, .long, .double, .double, .boolean]
  resolved := Array.replicate 460 none
  statics := none }

def pool6 : Array CpInfo := pool [(2, .class_ 4), (1, u "java/lang/Object"), (0, u "<init>"), (0, u "()V"), (1, .class_ 10), (1, u "java/lang/System"), (0, u "allowSecurityManager"), (0, u "I"), (16, u "cons"), (0, u "Ljava/io/Console;"), (77, .class_ 110), (1, u "java/lang/System$CallersHolder"), (43, u "initialErrStream"), (0, u "Ljava/io/PrintStream;"), (19, u "security"), (0, u "Ljava/lang/SecurityManager;"), (31, .class_ 209), (0, u "java/lang/System$1"), (7, u "props"), (0, u "Ljava/util/Properties;"), (2, u "lineSeparator"), (0, u "Ljava/lang/String;"), (96, .class_ 321), (1, u "java/lang/System$LoggerFinder"), (5, .class_ 328), (0, u "java/lang/System$Logger"), (67, u "err"), (2, u "out"), (91, u "notSupportedJnuEncoding"), (15, u "in"), (17, u "initialIn"), (0, u "Ljava/io/InputStream;"), (35, u "bootLayer"), (0, u "Ljava/lang/ModuleLayer;"), (99, .class_ 664), (0, u "java/lang/System$2"), (9, u "NEVER"), (2, u "MAYBE"), (49, u "arraycopy"), (0, u "(Ljava/lang/Object;ILjava/lang/Object;II)V"), (72, .class_ 802), (0, u "java/lang/System$Logger$Level")] 31

def k6m0 : Method := { name := "<init>", desc := "()V", sig := { parameters := [], returnType := none }, accessFlags := 2, code := none }
def k6m1 : Method := { name := "arraycopy", desc := "(Ljava/lang/Object;ILjava/lang/Object;II)V", sig := { parameters := [(.object "java/lang/Object"), .int, (.object "java/lang/Object"), .int, .int], returnType := none }, accessFlags := 265, code := none }
/-- java/lang/System -/
def k6 : Class := { plain "java/lang/System" (some 0) with
  accessFlags := 49
  interfaces := #[]
  cf := some (fileOf pool6 8 #[.nestMembers #[319, 327, 801, 108, 663, 208]] #[{ accessFlags := 2, nameIndex := 5, descriptorIndex := 6, attributes := #[] }, { accessFlags := 265, nameIndex := 727, descriptorIndex := 728, attributes := #[] }] 49 2 #[] #[{ accessFlags := 25, nameIndex := 507, descriptorIndex := 526, attributes := #[] }, { accessFlags := 25, nameIndex := 399, descriptorIndex := 155, attributes := #[] }, { accessFlags := 25, nameIndex := 396, descriptorIndex := 155, attributes := #[] }, { accessFlags := 10, nameIndex := 525, descriptorIndex := 526, attributes := #[] }, { accessFlags := 26, nameIndex := 674, descriptorIndex := 12, attributes := #[] }, { accessFlags := 26, nameIndex := 677, descriptorIndex := 12, attributes := #[] }, { accessFlags := 10, nameIndex := 11, descriptorIndex := 12, attributes := #[] }, { accessFlags := 74, nameIndex := 175, descriptorIndex := 176, attributes := #[] }, { accessFlags := 10, nameIndex := 491, descriptorIndex := 222, attributes := #[] }, { accessFlags := 74, nameIndex := 29, descriptorIndex := 30, attributes := #[] }, { accessFlags := 74, nameIndex := 154, descriptorIndex := 155, attributes := #[] }, { accessFlags := 10, nameIndex := 217, descriptorIndex := 218, attributes := #[] }, { accessFlags := 10, nameIndex := 221, descriptorIndex := 222, attributes := #[] }, { accessFlags := 8, nameIndex := 562, descriptorIndex := 563, attributes := #[] }])
  fields := #[{ name := "in", type := (.object "java/io/InputStream"), accessFlags := 25, slot := 0, constantValue := 0 }, { name := "out", type := (.object "java/io/PrintStream"), accessFlags := 25, slot := 1, constantValue := 0 }, { name := "err", type := (.object "java/io/PrintStream"), accessFlags := 25, slot := 2, constantValue := 0 }, { name := "initialIn", type := (.object "java/io/InputStream"), accessFlags := 10, slot := 3, constantValue := 0 }, { name := "NEVER", type := .int, accessFlags := 26, slot := 4, constantValue := 0 }, { name := "MAYBE", type := .int, accessFlags := 26, slot := 5, constantValue := 0 }, { name := "allowSecurityManager", type := .int, accessFlags := 10, slot := 6, constantValue := 0 }, { name := "security", type := (.object "java/lang/SecurityManager"), accessFlags := 74, slot := 7, constantValue := 0 }, { name := "notSupportedJnuEncoding", type := (.object "java/lang/String"), accessFlags := 10, slot := 8, constantValue := 0 }, { name := "cons", type := (.object "java/io/Console"), accessFlags := 74, slot := 9, constantValue := 0 }, { name := "initialErrStream", type := (.object "java/io/PrintStream"), accessFlags := 74, slot := 10, constantValue := 0 }, { name := "props", type := (.object "java/util/Properties"), accessFlags := 10, slot := 11, constantValue := 0 }, { name := "lineSeparator", type := (.object "java/lang/String"), accessFlags := 10, slot := 12, constantValue := 0 }, { name := "bootLayer", type := (.object "java/lang/ModuleLayer"), accessFlags := 8, slot := 13, constantValue := 0 }]
  methods := #[k6m0, k6m1]
  instanceTypes := #[]
  staticTypes := #[(.object "java/io/InputStream"), (.object "java/io/PrintStream"), (.object "java/io/PrintStream"), (.object "java/io/InputStream"), .int, .int, .int, (.object "java/lang/SecurityManager"), (.object "java/lang/String"), (.object "java/io/Console"), (.object "java/io/PrintStream"), (.object "java/util/Properties"), (.object "java/lang/String"), (.object "java/lang/ModuleLayer")]
  resolved := Array.replicate 834 none
  statics := none }

def pool7 : Array CpInfo := pool [(1, u "java/lang/Cloneable"), (0, .class_ 1), (0, u "java/lang/Object"), (0, .class_ 3)] 3

/-- java/lang/Cloneable -/
def k7 : Class := { plain "java/lang/Cloneable" (some 0) with
  accessFlags := 1537
  interfaces := #[]
  cf := some (fileOf pool7 2 #[] #[] 1537 4 #[] #[])
  fields := #[]
  methods := #[]
  instanceTypes := #[]
  staticTypes := #[]
  resolved := Array.replicate 8 none
  statics := none }

def pool8 : Array CpInfo := pool [(1, u "java/io/Serializable"), (0, .class_ 1), (0, u "java/lang/Object"), (0, .class_ 3)] 3

/-- java/io/Serializable -/
def k8 : Class := { plain "java/io/Serializable" (some 0) with
  accessFlags := 1537
  interfaces := #[]
  cf := some (fileOf pool8 2 #[] #[] 1537 4 #[] #[])
  fields := #[]
  methods := #[]
  instanceTypes := #[]
  staticTypes := #[]
  resolved := Array.replicate 8 none
  statics := none }

/-- the primitive byte -/
def k9 : Class := { plain "byte" none with kind := .primitive 'B', accessFlags := 0x411 }
/-- [B -/
def k10 : Class := { plain "[B" (some 0) with kind := .array 9 .byte, interfaces := #[7, 8], accessFlags := 1041 }

/-- the primitive int -/
def k11 : Class := { plain "int" none with kind := .primitive 'I', accessFlags := 0x411 }
/-- [I -/
def k12 : Class := { plain "[I" (some 0) with kind := .array 11 .int, interfaces := #[7, 8], accessFlags := 1041 }

def heap : Heap := #[]
def classes : Array Class := #[k0, k1, k2, k3, k4, k5, k6, k7, k8, k9, k10, k11, k12]
def interned : List (Array UInt16 × Addr) := []
def slotsUsed : Nat := 0
def theMethod : MethodId := ⟨1, 1⟩
def args0 : Array Value := #[.int 0, .int 1, .int 2, .int 3]
def aboutOver (below : List Frame) : State where
  vm := { classes := classes, interned := interned.toArray }
  heap := heap
  slotsUsed := slotsUsed
  threads := #[{ frames := .invoking theMethod args0 :: below }]
def below0 : List Frame := [.native { method := ⟨0, 0⟩, args := #[] }]
def about1 : State := aboutOver below0
def p0 : Program := .bare "" "" ""
def e0 : Env := launch0.env 0 0 0
theorem w_frames : about1.frames = Frame.invoking theMethod args0 :: below0 := rfl
set_option maxRecDepth 65536 in
theorem w_args : argsFit about1.vm theMethod args0 = true := by decide +kernel
set_option maxRecDepth 65536 in
theorem w_heap : heapFits about1 = true := by decide +kernel
set_option maxRecDepth 65536 in
theorem w_runnable : about1.curStatus? = some .runnable := by decide +kernel
set_option maxRecDepth 65536 in
theorem w_alone : about1.alone = true := by decide +kernel
set_option maxRecDepth 65536 in
theorem w_named : about1.methodNamed? x = some theMethod := by decide +kernel
set_option maxRecDepth 65536 in
theorem w_hears : about1.hears theMethod below0 = true := by decide +kernel
set_option maxRecDepth 65536 in
theorem w_ripe : about1.ripe theMethod args0 below0 = true := by decide +kernel
theorem w_running : about1.status = .running := rfl
set_option maxRecDepth 65536 in
theorem w_room : about1.hasRoom e0.platform room_1 = true :=
  launch0.hasRoom_least _ room_1 (by decide +kernel) (by decide +kernel) (by decide +kernel) (by decide +kernel) (by decide +kernel) (by decide +kernel)
theorem allAtoms_all (ts : List Jvm.Cond) (a : Array Jvm.Value) (st : Jvm.State) : (allAtoms ts).before a st = ts.all (fun c => c.before a st) := by
  induction ts with
  | nil => rfl
  | cons c t ih =>
    show (Jvm.Cond.and c (allAtoms t)).before a st = _
    rw [Jvm.Cond.before_and, ih, List.all_cons]
def words1 : List Jvm.Cond := Jvm.Cond.code x code maxLocals ret :: tables_1
/-- a 'code' word, met by the world's own term for the bytes: nothing is compared byte by byte -/
theorem code_word {y : MethodName} {bytes : ByteArray} {mx : Nat} {rt : Option FieldType} {a : Array Value} {s : State} {m : MethodId} {meth : Method} {c : Code} (h1 : s.methodNamed? y = some m) (h2 : s.vm.method? m = some meth) (h3 : meth.code = some c) (h4 : c.code = bytes)
    (h5 : (c.maxLocals == mx && c.exceptionTable.isEmpty && decide (c.maxStack ≤ mostOperands) && decide (meth.sig.returnType = rt) && !meth.locks && decide (parseMethodDescriptor y.desc = some meth.sig)) = true) : (Jvm.Cond.code y bytes mx rt).before a s = true := by
  simp only [Bool.and_eq_true, beq_iff_eq, Bool.not_eq_true', decide_eq_true_eq] at h5
  obtain ⟨⟨⟨⟨⟨g1, g2⟩, g3⟩, g4⟩, g5⟩, g6⟩ := h5
  simp [Cond.before, Cond.holds, Cond.value, h1, h2, h3, h4, g1, g2, g3, g4, g5, g6]
def isCode : Jvm.Cond → Bool
  | .code _ _ _ _ => true
  | _ => false
theorem all_split {L : List Jvm.Cond} {P : Jvm.Cond → Bool} (h1 : L.all (fun c => isCode c || P c) = true) (h2 : ∀ c ∈ L.filter isCode, P c = true) : L.all P = true := by
  refine List.all_eq_true.mpr fun c hc => ?_
  have h := List.all_eq_true.mp h1 c hc
  rcases Bool.eq_false_or_eq_true (isCode c) with hi | hi
  · exact h2 c (List.mem_filter.mpr ⟨hc, hi⟩)
  · simpa [hi] using h
set_option maxRecDepth 65536 in
theorem w_c0 : (Jvm.Cond.code x code maxLocals ret).before args0 about1 = true := code_word (m := ⟨1, 1⟩) (meth := k1m1) (c := k1c1) (by decide +kernel) rfl rfl rfl (by decide +kernel)
set_option maxRecDepth 65536 in
theorem w_c1 : (Jvm.Cond.code ({ cls := "com/example/lumencast/lumencast/model/Routes$Builder", name := "<init>", desc := "(I)V" } : Jvm.MethodName) prog_26_method_1_code (2 : Nat) (Option.none : Option Jvm.ClassFile.FieldType)).before args0 about1 = true := code_word (m := ⟨2, 0⟩) (meth := k2m0) (c := k2c0) (by decide +kernel) rfl rfl rfl (by decide +kernel)
set_option maxRecDepth 65536 in
theorem w_c2 : (Jvm.Cond.code ({ cls := "java/lang/Object", name := "<init>", desc := "()V" } : Jvm.MethodName) object_method_1_code (1 : Nat) (Option.none : Option Jvm.ClassFile.FieldType)).before args0 about1 = true := code_word (m := ⟨0, 0⟩) (meth := k0m0) (c := k0c0) (by decide +kernel) rfl rfl rfl (by decide +kernel)
set_option maxRecDepth 65536 in
theorem w_c3 : (Jvm.Cond.code ({ cls := "com/example/lumencast/lumencast/model/Routes$Builder", name := "endRoute", desc := "()V" } : Jvm.MethodName) prog_26_method_3_code (1 : Nat) (Option.none : Option Jvm.ClassFile.FieldType)).before args0 about1 = true := code_word (m := ⟨2, 2⟩) (meth := k2m2) (c := k2c2) (by decide +kernel) rfl rfl rfl (by decide +kernel)
set_option maxRecDepth 65536 in
theorem w_c4 : (Jvm.Cond.code ({ cls := "com/example/lumencast/lumencast/model/Routes$Builder", name := "build", desc := "()Lcom/example/lumencast/lumencast/model/Routes;" } : Jvm.MethodName) prog_26_method_4_code (2 : Nat) (Option.some (Jvm.ClassFile.FieldType.object "com/example/lumencast/lumencast/model/Routes"))).before args0 about1 = true := code_word (m := ⟨2, 3⟩) (meth := k2m3) (c := k2c3) (by decide +kernel) rfl rfl rfl (by decide +kernel)
set_option maxRecDepth 65536 in
theorem w_c5 : (Jvm.Cond.code ({ cls := "java/util/Arrays", name := "copyOf", desc := "([II)[I" } : Jvm.MethodName) jdk_65_method_123_code (3 : Nat) (Option.some (Jvm.ClassFile.FieldType.array Jvm.ClassFile.FieldType.int))).before args0 about1 = true := code_word (m := ⟨4, 1⟩) (meth := k4m1) (c := k4c1) (by decide +kernel) rfl rfl rfl (by decide +kernel)
set_option maxRecDepth 65536 in
theorem w_c6 : (Jvm.Cond.code ({ cls := "java/lang/Math", name := "min", desc := "(II)I" } : Jvm.MethodName) jdk_29_method_69_code (2 : Nat) (Option.some Jvm.ClassFile.FieldType.int)).before args0 about1 = true := code_word (m := ⟨5, 2⟩) (meth := k5m2) (c := k5c2) (by decide +kernel) rfl rfl rfl (by decide +kernel)
set_option maxRecDepth 65536 in
theorem w_c7 : (Jvm.Cond.code ({ cls := "com/example/lumencast/lumencast/model/Routes", name := "<init>", desc := "([I[I)V" } : Jvm.MethodName) prog_25_method_1_code (3 : Nat) (Option.none : Option Jvm.ClassFile.FieldType)).before args0 about1 = true := code_word (m := ⟨3, 0⟩) (meth := k3m0) (c := k3c0) (by decide +kernel) rfl rfl rfl (by decide +kernel)
set_option maxRecDepth 65536 in
theorem w_c8 : (Jvm.Cond.code ({ cls := "com/example/lumencast/lumencast/model/Routes", name := "hops", desc := "(I)I" } : Jvm.MethodName) prog_25_method_2_code (2 : Nat) (Option.some Jvm.ClassFile.FieldType.int)).before args0 about1 = true := code_word (m := ⟨3, 1⟩) (meth := k3m1) (c := k3c1) (by decide +kernel) rfl rfl rfl (by decide +kernel)
set_option maxRecDepth 65536 in
theorem w_c9 : (Jvm.Cond.code ({ cls := "com/example/lumencast/lumencast/model/Routes$Builder", name := "addFibre", desc := "(I)V" } : Jvm.MethodName) prog_26_method_2_code (3 : Nat) (Option.none : Option Jvm.ClassFile.FieldType)).before args0 about1 = true := code_word (m := ⟨2, 1⟩) (meth := k2m1) (c := k2c1) (by decide +kernel) rfl rfl rfl (by decide +kernel)
set_option maxRecDepth 65536 in
theorem w_c10 : (Jvm.Cond.code ({ cls := "com/example/lumencast/lumencast/model/Routes", name := "fibre", desc := "(II)I" } : Jvm.MethodName) prog_25_method_3_code (3 : Nat) (Option.some Jvm.ClassFile.FieldType.int)).before args0 about1 = true := code_word (m := ⟨3, 2⟩) (meth := k3m2) (c := k3c2) (by decide +kernel) rfl rfl rfl (by decide +kernel)
set_option maxRecDepth 65536 in
theorem w_c11 : (Jvm.Cond.code ({ cls := "java/lang/Math", name := "max", desc := "(JJ)J" } : Jvm.MethodName) jdk_29_method_66_code (4 : Nat) (Option.some Jvm.ClassFile.FieldType.long)).before args0 about1 = true := code_word (m := ⟨5, 1⟩) (meth := k5m1) (c := k5c1) (by decide +kernel) rfl rfl rfl (by decide +kernel)
set_option maxRecDepth 65536 in
theorem w_c12 : (Jvm.Cond.code ({ cls := "java/lang/Math", name := "min", desc := "(JJ)J" } : Jvm.MethodName) jdk_29_method_70_code (4 : Nat) (Option.some Jvm.ClassFile.FieldType.long)).before args0 about1 = true := code_word (m := ⟨5, 3⟩) (meth := k5m3) (c := k5c3) (by decide +kernel) rfl rfl rfl (by decide +kernel)
def codes1 : List Jvm.Cond := [Jvm.Cond.code x code maxLocals ret, Jvm.Cond.code ({ cls := "com/example/lumencast/lumencast/model/Routes$Builder", name := "<init>", desc := "(I)V" } : Jvm.MethodName) prog_26_method_1_code (2 : Nat) (Option.none : Option Jvm.ClassFile.FieldType), Jvm.Cond.code ({ cls := "java/lang/Object", name := "<init>", desc := "()V" } : Jvm.MethodName) object_method_1_code (1 : Nat) (Option.none : Option Jvm.ClassFile.FieldType), Jvm.Cond.code ({ cls := "com/example/lumencast/lumencast/model/Routes$Builder", name := "endRoute", desc := "()V" } : Jvm.MethodName) prog_26_method_3_code (1 : Nat) (Option.none : Option Jvm.ClassFile.FieldType), Jvm.Cond.code ({ cls := "com/example/lumencast/lumencast/model/Routes$Builder", name := "build", desc := "()Lcom/example/lumencast/lumencast/model/Routes;" } : Jvm.MethodName) prog_26_method_4_code (2 : Nat) (Option.some (Jvm.ClassFile.FieldType.object "com/example/lumencast/lumencast/model/Routes")), Jvm.Cond.code ({ cls := "java/util/Arrays", name := "copyOf", desc := "([II)[I" } : Jvm.MethodName) jdk_65_method_123_code (3 : Nat) (Option.some (Jvm.ClassFile.FieldType.array Jvm.ClassFile.FieldType.int)), Jvm.Cond.code ({ cls := "java/lang/Math", name := "min", desc := "(II)I" } : Jvm.MethodName) jdk_29_method_69_code (2 : Nat) (Option.some Jvm.ClassFile.FieldType.int), Jvm.Cond.code ({ cls := "com/example/lumencast/lumencast/model/Routes", name := "<init>", desc := "([I[I)V" } : Jvm.MethodName) prog_25_method_1_code (3 : Nat) (Option.none : Option Jvm.ClassFile.FieldType), Jvm.Cond.code ({ cls := "com/example/lumencast/lumencast/model/Routes", name := "hops", desc := "(I)I" } : Jvm.MethodName) prog_25_method_2_code (2 : Nat) (Option.some Jvm.ClassFile.FieldType.int), Jvm.Cond.code ({ cls := "com/example/lumencast/lumencast/model/Routes$Builder", name := "addFibre", desc := "(I)V" } : Jvm.MethodName) prog_26_method_2_code (3 : Nat) (Option.none : Option Jvm.ClassFile.FieldType), Jvm.Cond.code ({ cls := "com/example/lumencast/lumencast/model/Routes", name := "fibre", desc := "(II)I" } : Jvm.MethodName) prog_25_method_3_code (3 : Nat) (Option.some Jvm.ClassFile.FieldType.int), Jvm.Cond.code ({ cls := "java/lang/Math", name := "max", desc := "(JJ)J" } : Jvm.MethodName) jdk_29_method_66_code (4 : Nat) (Option.some Jvm.ClassFile.FieldType.long), Jvm.Cond.code ({ cls := "java/lang/Math", name := "min", desc := "(JJ)J" } : Jvm.MethodName) jdk_29_method_70_code (4 : Nat) (Option.some Jvm.ClassFile.FieldType.long)]
set_option maxRecDepth 65536 in
theorem codes_eq : words1.filter isCode = codes1 := rfl
theorem w_codes : ∀ c ∈ words1.filter isCode, c.before args0 about1 = true := by
  rw [codes_eq]
  intro c hc
  simp only [codes1, List.mem_cons, List.not_mem_nil, or_false] at hc
  rcases hc with rfl | rfl | rfl | rfl | rfl | rfl | rfl | rfl | rfl | rfl | rfl | rfl | rfl
  · exact w_c0
  · exact w_c1
  · exact w_c2
  · exact w_c3
  · exact w_c4
  · exact w_c5
  · exact w_c6
  · exact w_c7
  · exact w_c8
  · exact w_c9
  · exact w_c10
  · exact w_c11
  · exact w_c12
set_option maxRecDepth 65536 in
theorem w_t1 : (words1.take 24).all (fun c => isCode c || c.before args0 about1) = true := by decide +kernel
set_option maxRecDepth 65536 in
theorem w_t2 : ((words1.drop 24).take 24).all (fun c => isCode c || c.before args0 about1) = true := by decide +kernel
set_option maxRecDepth 65536 in
theorem w_t3 : (((words1.drop 24).drop 24).take 24).all (fun c => isCode c || c.before args0 about1) = true := by decide +kernel
set_option maxRecDepth 65536 in
theorem w_t4 : (((words1.drop 24).drop 24).drop 24).all (fun c => isCode c || c.before args0 about1) = true := by decide +kernel
theorem w_tables : (allAtoms (Jvm.Cond.code x code maxLocals ret :: tables_1)).before args0 about1 = true := by
  rw [allAtoms_all]
  show words1.all (fun c => c.before args0 about1) = true
  refine all_split ?_ w_codes
  rw [← List.take_append_drop 24 words1, List.all_append, w_t1, ← List.take_append_drop 24 (words1.drop 24), List.all_append, w_t2, ← List.take_append_drop 24 ((words1.drop 24).drop 24), List.all_append, w_t3, w_t4]
  rfl
set_option maxRecDepth 65536 in
theorem w_case : (Jvm.Cond.and given_1 narrow_1).before args0 about1 = true := by decide +kernel
theorem w_applies : (headSpec (Jvm.Cond.code x code maxLocals ret :: tables_1) room_1).applies x e0.platform about1 = true :=
  (Spec.applies_iff w_frames).mpr ⟨w_running, w_runnable, w_alone, w_named, w_hears, w_ripe, w_room, w_tables⟩
theorem atStart : AtStart classFile x code maxLocals ret World_1 tables_1 room_1 Calls_1 rest_1 Pre_1 launch0 p0 e0 about1 theMethod args0 below0 :=
  ⟨lists_1, trivial, launch0.admits_env _ _ _, launch0.least_env, fairChoices_fair.cas, fairChoices_fair.clock, w_frames, w_args, w_heap, w_applies, trivial, trivial, w_case⟩
end start1
theorem witness_1 : WitnessClaimed_1 := ⟨start1.p0, start1.e0, start1.about1, start1.theMethod, start1.args0, start1.below0, start1.atStart⟩
end Jvm.Pilot.@@N@@
