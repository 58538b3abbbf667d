import JvmDerived
import JvmDerived.Pilot.@@N@@Statement
import JvmDerived.Pilot.@@N@@Code
set_option linter.unusedVariables false
set_option linter.unusedSimpArgs false
@@BLOCK:NumsL.lean.txt@@
namespace Jvm.Pilot.@@N@@
open Jvm Jvm.ClassFile Sem Op Lib Jvm.Free Jvm.Stand Jvm.LawKit Jvm.RoadKit Bundle Jvm.Pilot.@@N@@.Jvm.D
/-! ## own kit: one body's walk as a goal on the heap, the frame and the room alone -/
/-- what stays the same through one body's walk -/
def Cx (p : Program) (s : State) (m : MethodId) (meth : Method) (c : Code) (Z : State) (n0 : Nat) (own : String) (bc : ByteArray) (maxL : Nat) (ret : Option FieldType) (nm : String) : Prop :=
  p.tables.exec = Jvm.exec ∧ Z.Warmed39 s.vm ∧ s.vm.findClass own = some m.cls ∧ c.code = bc ∧ c.maxLocals = maxL ∧ meth.sig.returnType = ret ∧ meth.name = nm ∧ meth.locks = false ∧ n0 ≤ s.heap.size
/-- from every state with this heap at which the body stands: the run goes on from this frame to the end that F says -/
def Go (p : Program) (l : Launch) (e : Env) (R : Room) (s : State) (m : MethodId) (args : Array Value) (below : List Frame) (meth : Method) (c : Code) (n0 : Nat) (F : State → Outcome → Prop) (h : Heap) (k n pc : Nat) (Ls : Array Slot) (st : List Value) : Prop :=
  ∀ (T : State) (locs : List Loc), Stand p l e R s m args below meth c T locs k n → T.heap = h → Fr n0 locs →
    ∃ s₂ o, Steps p.tables e below (T.setTop (mkF m pc Ls st)) s₂ ∧ s₂.status = .running ∧ Ended s₂ below o ∧ F s₂ o
/-- the end of a body: it returned what Q says, wrote new cells alone -/
def FinQ (s : State) (n0 : Nat) (Q : Option Value → Heap → Prop) (ck cs : Nat) : State → Outcome → Prop := fun s₂ o => ∃ v L, o = .returned v ∧ (Q v s₂.heap ∧ Fr n0 L) ∧ FrameEnd s o s₂ L ck cs
/-- a body's contract at the heap h0 -/
def Con (l : Launch) (Z : State) (n0 : Nat) (ws : List Jvm.Cond) (y : MethodName) (bc : ByteArray) (maxL : Nat) (ret : Option FieldType) (R : Room) (as : Array Value) (h0 : Heap) (Q : Option Value → Heap → Prop) : Prop :=
  MetFree l y (head1 (Jvm.Cond.code y bc maxL ret :: ws) R) (fun a U => a = as ∧ Z.Warmed39 U.vm ∧ U.heap = h0) (fun _ _ _ _ _ => True) (fun _ U o U' => ∃ v L, o = .returned v ∧ (Q v U'.heap ∧ Fr n0 L) ∧ FrameEnd U o U' L R.cells R.slots)
/-- an array: its class, its values -/
def Av (Z : State) (h : Heap) (a : Addr) (ty : FieldType) (vs : List Value) : Prop := ∃ c : Cell, Arr Z h a c ty ∧ c.slots.toList = vs ∧ ∀ v ∈ vs, fits ty v = true
section Own
variable {p : Program} {l : Launch} {e : Env} {R : Room} {s : State} {m : MethodId} {args : Array Value} {below : List Frame} {meth : Method} {c : Code} {n0 : Nat} {F : State → Outcome → Prop} {h : Heap} {k n pc pc' : Nat} {Ls : Array Slot} {st : List Value} {Z : State} {own : String} {bc : ByteArray} {maxL : Nat} {ret : Option FieldType} {nm : String} {a0 : Array Value}
theorem tw {ws : List Jvm.Cond} (hw : ∀ d ∈ ws, d.before a0 Z = true) (i : Nat) {d : Jvm.Cond} (q : ws[i]? = some d) : d.before a0 Z = true := hw _ (List.mem_of_getElem? q)
theorem Av.lt {a : Addr} {ty : FieldType} {vs : List Value} (A : Av Z h a ty vs) : a < h.size := by obtain ⟨c, A, -⟩ := A; exact A.lt
theorem Av.ext {a : Addr} {ty : FieldType} {vs : List Value} {h' : Heap} (A : Av Z h a ty vs) (E : Ext h h') : Av Z h' a ty vs := by obtain ⟨c, A, q⟩ := A; exact ⟨c, A.ext E, q⟩
theorem Av.other {a b : Addr} {ty : FieldType} {vs : List Value} {h' : Heap} {sl : Nat} {v : Value} (A : Av Z h b ty vs) (W : Wr h h' a sl v) (q : b ≠ a) : Av Z h' b ty vs := by obtain ⟨c, A, r⟩ := A; exact ⟨c, A.other W q, r⟩
theorem Av.keep {a : Addr} {ty : FieldType} {vs : List Value} {h' : Heap} {ws : List Addr} (A : Av Z h a ty vs) (K : Keep h h' ws) (q : a ∉ ws) : Av Z h' a ty vs := by obtain ⟨c, A, r⟩ := A; exact ⟨c, ⟨K.2.1 a c A.1 q, A.2⟩, r⟩
theorem Av.same {a : Addr} {ty : FieldType} {vs : List Value} {h' : Heap} {j : Nat} {v : Value} (A : Av Z h a ty vs) (W : Wr h h' a j v) (hf : fits ty v = true) : Av Z h' a ty (vs.set j v) := by
  obtain ⟨c, A, rfl, r⟩ := A
  refine ⟨_, A.same W, by simp [Cell.setSlot], fun w hw => ?_⟩
  rcases List.mem_or_eq_of_mem_set hw with q | rfl
  · exact r w q
  · exact hf
theorem Av.fit {a : Addr} {ty : FieldType} {vs : List Value} {i : Nat} {v : Value} (A : Av Z h a ty vs) (q : vs[i]? = some v) : fits ty v = true := by obtain ⟨c, A, -, r⟩ := A; exact r v (List.mem_of_getElem? q)
theorem Av.new {a : Addr} {kc : ClassId} {ty : FieldType} {z : Int32} (A : Arr Z h a (newA kc ty z) ty) : Av Z h a ty (List.replicate z.toNatClampNeg (defaultValue ty)) :=
  ⟨_, A, by simp [newA], fun v hv => by rw [List.eq_of_mem_replicate hv]; cases ty <;> rfl⟩
theorem own_in {j : Int32} {cl : Cell} {v : Value} (hj : ¬ j < 0) (hv : cl.slots[j.toNatClampNeg]? = some v) : ¬ (j < 0 ∨ cl.slots.size ≤ j.toNatClampNeg) := fun q => q.elim hj fun q => absurd (Array.getElem?_eq_some_iff.mp hv).1 (Nat.not_lt.mpr q)
theorem own_in2 {j : Int32} {cl : Cell} (hj : ¬ j < 0) (hl : j.toNatClampNeg < cl.slots.size) : ¬ (j < 0 ∨ cl.slots.size ≤ j.toNatClampNeg) := fun q => q.elim hj fun q => absurd hl (Nat.not_lt.mpr q)
theorem Go.pl {Ls' : Array Slot} {st' : List Value} (q : ∀ (T : State) (locs : List Loc), Stand p l e R s m args below meth c T locs k n → T.heap = h → ∀ t, Steps p.tables e below (T.setTop (mkF m pc' Ls' st')) t → Steps p.tables e below (T.setTop (mkF m pc Ls st)) t) (hr : Go p l e R s m args below meth c n0 F h k n pc' Ls' st') : Go p l e R s m args below meth c n0 F h k n pc Ls st := fun T locs X eT N => by
  obtain ⟨s₂, o, h1, h2⟩ := hr T locs X eT N
  exact ⟨s₂, o, q T locs X eT _ h1, h2⟩
theorem Go.more {k' n' : Nat} (hr : Go p l e R s m args below meth c n0 F h k' n' pc Ls st) (h1 : k ≤ k') (h2 : n ≤ n') : Go p l e R s m args below meth c n0 F h k n pc Ls st := fun T locs X eT N => hr T locs (X.more h1 h2) eT N
theorem Cx.size (C : Cx p s m meth c Z n0 own bc maxL ret nm) {T : State} {locs : List Loc} (X : Stand p l e R s m args below meth c T locs k n) : n0 ≤ T.heap.size := Nat.le_trans C.2.2.2.2.2.2.2.2 X.same.2.1
theorem Cx.iloadN (C : Cx p s m meth c Z n0 own bc maxL ret nm) {j : Fin 4} {v : Int32} (hd : decode bc pc = .ok (.iload_n j, 1)) (hp : pc + 1 = pc') (hl : Ls[j.val]? = some (.val (.int v))) (hr : Go p l e R s m args below meth c n0 F h k n pc' Ls (.int v :: st)) : Go p l e R s m args below meth c n0 F h k n pc Ls (st) := by
  subst hp; exact Go.pl (fun T locs X eT t q => XS.iloadN X.here C.1 rfl (hb C.2.2.2.1 hd) hl q) hr
theorem Cx.iload (C : Cx p s m meth c Z n0 own bc maxL ret nm) {j : Nat} {v : Int32} (hd : decode bc pc = .ok (.iload j, 2)) (hp : pc + 2 = pc') (hl : Ls[j]? = some (.val (.int v))) (hr : Go p l e R s m args below meth c n0 F h k n pc' Ls (.int v :: st)) : Go p l e R s m args below meth c n0 F h k n pc Ls (st) := by
  subst hp; exact Go.pl (fun T locs X eT t q => XS.iload X.here C.1 rfl (hb C.2.2.2.1 hd) hl q) hr
theorem Cx.lloadN (C : Cx p s m meth c Z n0 own bc maxL ret nm) {j : Fin 4} {v : Int64} (hd : decode bc pc = .ok (.lload_n j, 1)) (hp : pc + 1 = pc') (hl : Ls[j.val]? = some (.val (.long v))) (hr : Go p l e R s m args below meth c n0 F h k n pc' Ls (.long v :: st)) : Go p l e R s m args below meth c n0 F h k n pc Ls (st) := by
  subst hp; exact Go.pl (fun T locs X eT t q => XT.lloadN X.here C.1 rfl (hb C.2.2.2.1 hd) hl q) hr
theorem Cx.lload (C : Cx p s m meth c Z n0 own bc maxL ret nm) {j : Nat} {v : Int64} (hd : decode bc pc = .ok (.lload j, 2)) (hp : pc + 2 = pc') (hl : Ls[j]? = some (.val (.long v))) (hr : Go p l e R s m args below meth c n0 F h k n pc' Ls (.long v :: st)) : Go p l e R s m args below meth c n0 F h k n pc Ls (st) := by
  subst hp; exact Go.pl (fun T locs X eT t q => XT.lload X.here C.1 rfl (hb C.2.2.2.1 hd) hl q) hr
theorem Cx.aloadN (C : Cx p s m meth c Z n0 own bc maxL ret nm) {j : Fin 4} {v : Value} (hd : decode bc pc = .ok (.aload_n j, 1)) (hp : pc + 1 = pc') (hl : Ls[j.val]? = some (.val v)) (hv : v.isRef = true) (hr : Go p l e R s m args below meth c n0 F h k n pc' Ls (v :: st)) : Go p l e R s m args below meth c n0 F h k n pc Ls (st) := by
  subst hp; exact Go.pl (fun T locs X eT t q => XS.aloadN X.here C.1 rfl (hb C.2.2.2.1 hd) hl hv q) hr
theorem Cx.aload (C : Cx p s m meth c Z n0 own bc maxL ret nm) {j : Nat} {v : Value} (hd : decode bc pc = .ok (.aload j, 2)) (hp : pc + 2 = pc') (hl : Ls[j]? = some (.val v)) (hv : v.isRef = true) (hr : Go p l e R s m args below meth c n0 F h k n pc' Ls (v :: st)) : Go p l e R s m args below meth c n0 F h k n pc Ls (st) := by
  subst hp; exact Go.pl (fun T locs X eT t q => XS.aload X.here C.1 rfl (hb C.2.2.2.1 hd) hl hv q) hr
theorem Cx.istoreN (C : Cx p s m meth c Z n0 own bc maxL ret nm) {j : Fin 4} {v : Int32} {Ls' : Array Slot} (hd : decode bc pc = .ok (.istore_n j, 1)) (hp : pc + 1 = pc') (hl : storeLocals Ls j.val (.int v) = some Ls') (hr : Go p l e R s m args below meth c n0 F h k n pc' Ls' (st)) : Go p l e R s m args below meth c n0 F h k n pc Ls (.int v :: st) := by
  subst hp; exact Go.pl (fun T locs X eT t q => XS.istoreN X.here C.1 rfl (hb C.2.2.2.1 hd) rfl hl q) hr
theorem Cx.istore (C : Cx p s m meth c Z n0 own bc maxL ret nm) {j : Nat} {v : Int32} {Ls' : Array Slot} (hd : decode bc pc = .ok (.istore j, 2)) (hp : pc + 2 = pc') (hl : storeLocals Ls j (.int v) = some Ls') (hr : Go p l e R s m args below meth c n0 F h k n pc' Ls' (st)) : Go p l e R s m args below meth c n0 F h k n pc Ls (.int v :: st) := by
  subst hp; exact Go.pl (fun T locs X eT t q => XS.istore X.here C.1 rfl (hb C.2.2.2.1 hd) rfl hl q) hr
theorem Cx.lstoreN (C : Cx p s m meth c Z n0 own bc maxL ret nm) {j : Fin 4} {v : Int64} {Ls' : Array Slot} (hd : decode bc pc = .ok (.lstore_n j, 1)) (hp : pc + 1 = pc') (hl : storeLocals Ls j.val (.long v) = some Ls') (hr : Go p l e R s m args below meth c n0 F h k n pc' Ls' (st)) : Go p l e R s m args below meth c n0 F h k n pc Ls (.long v :: st) := by
  subst hp; exact Go.pl (fun T locs X eT t q => XT.lstoreN X.here C.1 rfl (hb C.2.2.2.1 hd) rfl hl q) hr
theorem Cx.lstore (C : Cx p s m meth c Z n0 own bc maxL ret nm) {j : Nat} {v : Int64} {Ls' : Array Slot} (hd : decode bc pc = .ok (.lstore j, 2)) (hp : pc + 2 = pc') (hl : storeLocals Ls j (.long v) = some Ls') (hr : Go p l e R s m args below meth c n0 F h k n pc' Ls' (st)) : Go p l e R s m args below meth c n0 F h k n pc Ls (.long v :: st) := by
  subst hp; exact Go.pl (fun T locs X eT t q => XT.lstore X.here C.1 rfl (hb C.2.2.2.1 hd) rfl hl q) hr
theorem Cx.astoreN (C : Cx p s m meth c Z n0 own bc maxL ret nm) {j : Fin 4} {v : Value} {Ls' : Array Slot} (hd : decode bc pc = .ok (.astore_n j, 1)) (hp : pc + 1 = pc') (hv : v.isRef = true) (hl : storeLocals Ls j.val v = some Ls') (hr : Go p l e R s m args below meth c n0 F h k n pc' Ls' (st)) : Go p l e R s m args below meth c n0 F h k n pc Ls (v :: st) := by
  subst hp; exact Go.pl (fun T locs X eT t q => XS.astoreN X.here C.1 rfl (hb C.2.2.2.1 hd) rfl hv hl q) hr
theorem Cx.astore (C : Cx p s m meth c Z n0 own bc maxL ret nm) {j : Nat} {v : Value} {Ls' : Array Slot} (hd : decode bc pc = .ok (.astore j, 2)) (hp : pc + 2 = pc') (hv : v.isRef = true) (hl : storeLocals Ls j v = some Ls') (hr : Go p l e R s m args below meth c n0 F h k n pc' Ls' (st)) : Go p l e R s m args below meth c n0 F h k n pc Ls (v :: st) := by
  subst hp; exact Go.pl (fun T locs X eT t q => XS.astore X.here C.1 rfl (hb C.2.2.2.1 hd) rfl hv hl q) hr
theorem Cx.iconst (C : Cx p s m meth c Z n0 own bc maxL ret nm) {i : Int} (v : Int32) (hd : decode bc pc = .ok (.iconst i, 1)) (hp : pc + 1 = pc') (hv : Int32.ofInt i = v) (hr : Go p l e R s m args below meth c n0 F h k n pc' Ls (.int v :: st)) : Go p l e R s m args below meth c n0 F h k n pc Ls st := by
  subst hp hv; exact Go.pl (fun T locs X eT t q => XS.iconst X.here C.1 rfl (hb C.2.2.2.1 hd) q) hr
theorem Cx.bipush (C : Cx p s m meth c Z n0 own bc maxL ret nm) {i : Int} (v : Int32) (hd : decode bc pc = .ok (.bipush i, 2)) (hp : pc + 2 = pc') (hv : (Int8.ofInt i).toInt32 = v) (hr : Go p l e R s m args below meth c n0 F h k n pc' Ls (.int v :: st)) : Go p l e R s m args below meth c n0 F h k n pc Ls st := by
  subst hp hv; exact Go.pl (fun T locs X eT t q => XS.bipush X.here C.1 rfl (hb C.2.2.2.1 hd) q) hr
theorem Cx.sipush (C : Cx p s m meth c Z n0 own bc maxL ret nm) {i : Int} (v : Int32) (hd : decode bc pc = .ok (.sipush i, 3)) (hp : pc + 3 = pc') (hv : (Int16.ofInt i).toInt32 = v) (hr : Go p l e R s m args below meth c n0 F h k n pc' Ls (.int v :: st)) : Go p l e R s m args below meth c n0 F h k n pc Ls st := by
  subst hp hv; exact Go.pl (fun T locs X eT t q => XS.sipush X.here C.1 rfl (hb C.2.2.2.1 hd) q) hr
theorem Cx.lconst (C : Cx p s m meth c Z n0 own bc maxL ret nm) {i : Fin 2} (v : Int64) (hd : decode bc pc = .ok (.lconst i, 1)) (hp : pc + 1 = pc') (hv : Int64.ofNat i = v) (hr : Go p l e R s m args below meth c n0 F h k n pc' Ls (.long v :: st)) : Go p l e R s m args below meth c n0 F h k n pc Ls st := by
  subst hp hv; exact Go.pl (fun T locs X eT t q => XT.lconst X.here C.1 rfl (hb C.2.2.2.1 hd) q) hr
theorem Cx.aconst_null (C : Cx p s m meth c Z n0 own bc maxL ret nm)  (hd : decode bc pc = .ok (.aconst_null, 1)) (hp : pc + 1 = pc')  (hr : Go p l e R s m args below meth c n0 F h k n pc' Ls (.null :: st)) : Go p l e R s m args below meth c n0 F h k n pc Ls (st) := by
  subst hp; exact Go.pl (fun T locs X eT t q => XS.aconstNull X.here C.1 rfl (hb C.2.2.2.1 hd)  q) hr
theorem Cx.iadd (C : Cx p s m meth c Z n0 own bc maxL ret nm) {x y : Int32} (hd : decode bc pc = .ok (.iadd, 1)) (hp : pc + 1 = pc')  (hr : Go p l e R s m args below meth c n0 F h k n pc' Ls (.int (x + y) :: st)) : Go p l e R s m args below meth c n0 F h k n pc Ls (.int y :: .int x :: st) := by
  subst hp; exact Go.pl (fun T locs X eT t q => XS.iadd X.here C.1 rfl (hb C.2.2.2.1 hd) rfl q) hr
theorem Cx.isub (C : Cx p s m meth c Z n0 own bc maxL ret nm) {x y : Int32} (hd : decode bc pc = .ok (.isub, 1)) (hp : pc + 1 = pc')  (hr : Go p l e R s m args below meth c n0 F h k n pc' Ls (.int (x - y) :: st)) : Go p l e R s m args below meth c n0 F h k n pc Ls (.int y :: .int x :: st) := by
  subst hp; exact Go.pl (fun T locs X eT t q => XS.isub X.here C.1 rfl (hb C.2.2.2.1 hd) rfl q) hr
theorem Cx.imul (C : Cx p s m meth c Z n0 own bc maxL ret nm) {x y : Int32} (hd : decode bc pc = .ok (.imul, 1)) (hp : pc + 1 = pc')  (hr : Go p l e R s m args below meth c n0 F h k n pc' Ls (.int (x * y) :: st)) : Go p l e R s m args below meth c n0 F h k n pc Ls (.int y :: .int x :: st) := by
  subst hp; exact Go.pl (fun T locs X eT t q => XS.imul X.here C.1 rfl (hb C.2.2.2.1 hd) rfl q) hr
theorem Cx.iand (C : Cx p s m meth c Z n0 own bc maxL ret nm) {x y : Int32} (hd : decode bc pc = .ok (.iand, 1)) (hp : pc + 1 = pc')  (hr : Go p l e R s m args below meth c n0 F h k n pc' Ls (.int (x &&& y) :: st)) : Go p l e R s m args below meth c n0 F h k n pc Ls (.int y :: .int x :: st) := by
  subst hp; exact Go.pl (fun T locs X eT t q => XS.iand X.here C.1 rfl (hb C.2.2.2.1 hd) rfl q) hr
theorem Cx.ixor (C : Cx p s m meth c Z n0 own bc maxL ret nm) {x y : Int32} (hd : decode bc pc = .ok (.ixor, 1)) (hp : pc + 1 = pc')  (hr : Go p l e R s m args below meth c n0 F h k n pc' Ls (.int (x ^^^ y) :: st)) : Go p l e R s m args below meth c n0 F h k n pc Ls (.int y :: .int x :: st) := by
  subst hp; exact Go.pl (fun T locs X eT t q => XT.ixor X.here C.1 rfl (hb C.2.2.2.1 hd) rfl q) hr
theorem Cx.ior (C : Cx p s m meth c Z n0 own bc maxL ret nm) {x y : Int32} (hd : decode bc pc = .ok (.ior, 1)) (hp : pc + 1 = pc')  (hr : Go p l e R s m args below meth c n0 F h k n pc' Ls (.int (x ||| y) :: st)) : Go p l e R s m args below meth c n0 F h k n pc Ls (.int y :: .int x :: st) := by
  subst hp; exact Go.pl (fun T locs X eT t q => XT.ior X.here C.1 rfl (hb C.2.2.2.1 hd) rfl q) hr
theorem Cx.ishl (C : Cx p s m meth c Z n0 own bc maxL ret nm) {x y : Int32} (hd : decode bc pc = .ok (.ishl, 1)) (hp : pc + 1 = pc')  (hr : Go p l e R s m args below meth c n0 F h k n pc' Ls (.int (x <<< (y &&& 31)) :: st)) : Go p l e R s m args below meth c n0 F h k n pc Ls (.int y :: .int x :: st) := by
  subst hp; exact Go.pl (fun T locs X eT t q => XT.ishl X.here C.1 rfl (hb C.2.2.2.1 hd) rfl q) hr
theorem Cx.ishr (C : Cx p s m meth c Z n0 own bc maxL ret nm) {x y : Int32} (hd : decode bc pc = .ok (.ishr, 1)) (hp : pc + 1 = pc')  (hr : Go p l e R s m args below meth c n0 F h k n pc' Ls (.int (x >>> (y &&& 31)) :: st)) : Go p l e R s m args below meth c n0 F h k n pc Ls (.int y :: .int x :: st) := by
  subst hp; exact Go.pl (fun T locs X eT t q => XT.ishr X.here C.1 rfl (hb C.2.2.2.1 hd) rfl q) hr
theorem Cx.iushr (C : Cx p s m meth c Z n0 own bc maxL ret nm) {x y : Int32} (hd : decode bc pc = .ok (.iushr, 1)) (hp : pc + 1 = pc')  (hr : Go p l e R s m args below meth c n0 F h k n pc' Ls (.int (XT.ushr x y) :: st)) : Go p l e R s m args below meth c n0 F h k n pc Ls (.int y :: .int x :: st) := by
  subst hp; exact Go.pl (fun T locs X eT t q => XT.iushr X.here C.1 rfl (hb C.2.2.2.1 hd) rfl q) hr
theorem Cx.idiv (C : Cx p s m meth c Z n0 own bc maxL ret nm) {x y : Int32} (hd : decode bc pc = .ok (.idiv, 1)) (hp : pc + 1 = pc') (hy : y ≠ 0) (hr : Go p l e R s m args below meth c n0 F h k n pc' Ls (.int (x / y) :: st)) : Go p l e R s m args below meth c n0 F h k n pc Ls (.int y :: .int x :: st) := by
  subst hp; exact Go.pl (fun T locs X eT t q => XS.idiv X.here C.1 rfl (hb C.2.2.2.1 hd) rfl hy q) hr
theorem Cx.irem (C : Cx p s m meth c Z n0 own bc maxL ret nm) {x y : Int32} (hd : decode bc pc = .ok (.irem, 1)) (hp : pc + 1 = pc') (hy : y ≠ 0) (hr : Go p l e R s m args below meth c n0 F h k n pc' Ls (.int (x % y) :: st)) : Go p l e R s m args below meth c n0 F h k n pc Ls (.int y :: .int x :: st) := by
  subst hp; exact Go.pl (fun T locs X eT t q => iremM X C.1 rfl (hb C.2.2.2.1 hd) rfl hy q) hr
theorem Cx.ineg (C : Cx p s m meth c Z n0 own bc maxL ret nm) {x : Int32} (hd : decode bc pc = .ok (.ineg, 1)) (hp : pc + 1 = pc')  (hr : Go p l e R s m args below meth c n0 F h k n pc' Ls (.int (-x) :: st)) : Go p l e R s m args below meth c n0 F h k n pc Ls (.int x :: st) := by
  subst hp; exact Go.pl (fun T locs X eT t q => XS.ineg X.here C.1 rfl (hb C.2.2.2.1 hd) rfl q) hr
theorem Cx.ladd (C : Cx p s m meth c Z n0 own bc maxL ret nm) {x y : Int64} (hd : decode bc pc = .ok (.ladd, 1)) (hp : pc + 1 = pc')  (hr : Go p l e R s m args below meth c n0 F h k n pc' Ls (.long (x + y) :: st)) : Go p l e R s m args below meth c n0 F h k n pc Ls (.long y :: .long x :: st) := by
  subst hp; exact Go.pl (fun T locs X eT t q => XT.ladd X.here C.1 rfl (hb C.2.2.2.1 hd) rfl q) hr
theorem Cx.lsub (C : Cx p s m meth c Z n0 own bc maxL ret nm) {x y : Int64} (hd : decode bc pc = .ok (.lsub, 1)) (hp : pc + 1 = pc')  (hr : Go p l e R s m args below meth c n0 F h k n pc' Ls (.long (x - y) :: st)) : Go p l e R s m args below meth c n0 F h k n pc Ls (.long y :: .long x :: st) := by
  subst hp; exact Go.pl (fun T locs X eT t q => XT.lsub X.here C.1 rfl (hb C.2.2.2.1 hd) rfl q) hr
theorem Cx.lmul (C : Cx p s m meth c Z n0 own bc maxL ret nm) {x y : Int64} (hd : decode bc pc = .ok (.lmul, 1)) (hp : pc + 1 = pc')  (hr : Go p l e R s m args below meth c n0 F h k n pc' Ls (.long (x * y) :: st)) : Go p l e R s m args below meth c n0 F h k n pc Ls (.long y :: .long x :: st) := by
  subst hp; exact Go.pl (fun T locs X eT t q => XT.lmul X.here C.1 rfl (hb C.2.2.2.1 hd) rfl q) hr
theorem Cx.land (C : Cx p s m meth c Z n0 own bc maxL ret nm) {x y : Int64} (hd : decode bc pc = .ok (.land, 1)) (hp : pc + 1 = pc')  (hr : Go p l e R s m args below meth c n0 F h k n pc' Ls (.long (x &&& y) :: st)) : Go p l e R s m args below meth c n0 F h k n pc Ls (.long y :: .long x :: st) := by
  subst hp; exact Go.pl (fun T locs X eT t q => XT.land X.here C.1 rfl (hb C.2.2.2.1 hd) rfl q) hr
theorem Cx.lor (C : Cx p s m meth c Z n0 own bc maxL ret nm) {x y : Int64} (hd : decode bc pc = .ok (.lor, 1)) (hp : pc + 1 = pc')  (hr : Go p l e R s m args below meth c n0 F h k n pc' Ls (.long (x ||| y) :: st)) : Go p l e R s m args below meth c n0 F h k n pc Ls (.long y :: .long x :: st) := by
  subst hp; exact Go.pl (fun T locs X eT t q => XT.lor X.here C.1 rfl (hb C.2.2.2.1 hd) rfl q) hr
theorem Cx.lxor (C : Cx p s m meth c Z n0 own bc maxL ret nm) {x y : Int64} (hd : decode bc pc = .ok (.lxor, 1)) (hp : pc + 1 = pc')  (hr : Go p l e R s m args below meth c n0 F h k n pc' Ls (.long (x ^^^ y) :: st)) : Go p l e R s m args below meth c n0 F h k n pc Ls (.long y :: .long x :: st) := by
  subst hp; exact Go.pl (fun T locs X eT t q => XT.lxor X.here C.1 rfl (hb C.2.2.2.1 hd) rfl q) hr
theorem Cx.ldiv (C : Cx p s m meth c Z n0 own bc maxL ret nm) {x y : Int64} (hd : decode bc pc = .ok (.ldiv, 1)) (hp : pc + 1 = pc') (hy : y ≠ 0) (hr : Go p l e R s m args below meth c n0 F h k n pc' Ls (.long (x / y) :: st)) : Go p l e R s m args below meth c n0 F h k n pc Ls (.long y :: .long x :: st) := by
  subst hp; exact Go.pl (fun T locs X eT t q => XT.ldiv X.here C.1 rfl (hb C.2.2.2.1 hd) rfl hy q) hr
theorem Cx.lrem (C : Cx p s m meth c Z n0 own bc maxL ret nm) {x y : Int64} (hd : decode bc pc = .ok (.lrem, 1)) (hp : pc + 1 = pc') (hy : y ≠ 0) (hr : Go p l e R s m args below meth c n0 F h k n pc' Ls (.long (x - (x / y) * y) :: st)) : Go p l e R s m args below meth c n0 F h k n pc Ls (.long y :: .long x :: st) := by
  subst hp; exact Go.pl (fun T locs X eT t q => XT.lrem X.here C.1 rfl (hb C.2.2.2.1 hd) rfl hy q) hr
theorem Cx.lshl (C : Cx p s m meth c Z n0 own bc maxL ret nm) {x : Int64} {y : Int32} (hd : decode bc pc = .ok (.lshl, 1)) (hp : pc + 1 = pc')  (hr : Go p l e R s m args below meth c n0 F h k n pc' Ls (.long (x <<< (y.toInt64 &&& 63)) :: st)) : Go p l e R s m args below meth c n0 F h k n pc Ls (.int y :: .long x :: st) := by
  subst hp; exact Go.pl (fun T locs X eT t q => XT.lshl X.here C.1 rfl (hb C.2.2.2.1 hd) rfl q) hr
theorem Cx.lshr (C : Cx p s m meth c Z n0 own bc maxL ret nm) {x : Int64} {y : Int32} (hd : decode bc pc = .ok (.lshr, 1)) (hp : pc + 1 = pc')  (hr : Go p l e R s m args below meth c n0 F h k n pc' Ls (.long (x >>> (y.toInt64 &&& 63)) :: st)) : Go p l e R s m args below meth c n0 F h k n pc Ls (.int y :: .long x :: st) := by
  subst hp; exact Go.pl (fun T locs X eT t q => XT.lshr X.here C.1 rfl (hb C.2.2.2.1 hd) rfl q) hr
theorem Cx.lushr (C : Cx p s m meth c Z n0 own bc maxL ret nm) {x : Int64} {y : Int32} (hd : decode bc pc = .ok (.lushr, 1)) (hp : pc + 1 = pc')  (hr : Go p l e R s m args below meth c n0 F h k n pc' Ls (.long (XT.ushrL x y) :: st)) : Go p l e R s m args below meth c n0 F h k n pc Ls (.int y :: .long x :: st) := by
  subst hp; exact Go.pl (fun T locs X eT t q => XT.lushr X.here C.1 rfl (hb C.2.2.2.1 hd) rfl q) hr
theorem Cx.lneg (C : Cx p s m meth c Z n0 own bc maxL ret nm) {x : Int64} (hd : decode bc pc = .ok (.lneg, 1)) (hp : pc + 1 = pc')  (hr : Go p l e R s m args below meth c n0 F h k n pc' Ls (.long (-x) :: st)) : Go p l e R s m args below meth c n0 F h k n pc Ls (.long x :: st) := by
  subst hp; exact Go.pl (fun T locs X eT t q => XT.lneg X.here C.1 rfl (hb C.2.2.2.1 hd) rfl q) hr
theorem Cx.i2l (C : Cx p s m meth c Z n0 own bc maxL ret nm) {x : Int32} (hd : decode bc pc = .ok (.i2l, 1)) (hp : pc + 1 = pc')  (hr : Go p l e R s m args below meth c n0 F h k n pc' Ls (.long x.toInt64 :: st)) : Go p l e R s m args below meth c n0 F h k n pc Ls (.int x :: st) := by
  subst hp; exact Go.pl (fun T locs X eT t q => XT.i2l X.here C.1 rfl (hb C.2.2.2.1 hd) rfl q) hr
theorem Cx.l2i (C : Cx p s m meth c Z n0 own bc maxL ret nm) {x : Int64} (hd : decode bc pc = .ok (.l2i, 1)) (hp : pc + 1 = pc')  (hr : Go p l e R s m args below meth c n0 F h k n pc' Ls (.int x.toInt32 :: st)) : Go p l e R s m args below meth c n0 F h k n pc Ls (.long x :: st) := by
  subst hp; exact Go.pl (fun T locs X eT t q => XT.l2i X.here C.1 rfl (hb C.2.2.2.1 hd) rfl q) hr
theorem Cx.i2b (C : Cx p s m meth c Z n0 own bc maxL ret nm) {x : Int32} (hd : decode bc pc = .ok (.i2b, 1)) (hp : pc + 1 = pc')  (hr : Go p l e R s m args below meth c n0 F h k n pc' Ls (.int x.toInt8.toInt32 :: st)) : Go p l e R s m args below meth c n0 F h k n pc Ls (.int x :: st) := by
  subst hp; exact Go.pl (fun T locs X eT t q => XT.i2b X.here C.1 rfl (hb C.2.2.2.1 hd) rfl q) hr
theorem Cx.i2c (C : Cx p s m meth c Z n0 own bc maxL ret nm) {x : Int32} (hd : decode bc pc = .ok (.i2c, 1)) (hp : pc + 1 = pc')  (hr : Go p l e R s m args below meth c n0 F h k n pc' Ls (.int x.toUInt32.toUInt16.toUInt32.toInt32 :: st)) : Go p l e R s m args below meth c n0 F h k n pc Ls (.int x :: st) := by
  subst hp; exact Go.pl (fun T locs X eT t q => XT.i2c X.here C.1 rfl (hb C.2.2.2.1 hd) rfl q) hr
theorem Cx.lcmp (C : Cx p s m meth c Z n0 own bc maxL ret nm) {x y : Int64} (hd : decode bc pc = .ok (.lcmp, 1)) (hp : pc + 1 = pc')  (hr : Go p l e R s m args below meth c n0 F h k n pc' Ls (.int (XT.cmpL x y) :: st)) : Go p l e R s m args below meth c n0 F h k n pc Ls (.long y :: .long x :: st) := by
  subst hp; exact Go.pl (fun T locs X eT t q => XT.lcmp X.here C.1 rfl (hb C.2.2.2.1 hd) rfl q) hr
theorem Cx.iinc (C : Cx p s m meth c Z n0 own bc maxL ret nm) {j : Nat} {i : Int} {x : Int32} {Ls' : Array Slot} (v : Int32) (hd : decode bc pc = .ok (.iinc j i, 3)) (hp : pc + 3 = pc') (hv : Int32.ofInt i = v) (hl : Ls[j]? = some (.val (.int x))) (hl' : storeLocals Ls j (.int (x + v)) = some Ls') (hr : Go p l e R s m args below meth c n0 F h k n pc' Ls' st) : Go p l e R s m args below meth c n0 F h k n pc Ls st := by
  subst hp hv; exact Go.pl (fun T locs X eT t q => XS.iinc X.here C.1 rfl (hb C.2.2.2.1 hd) hl hl' q) hr
theorem Cx.dup (C : Cx p s m meth c Z n0 own bc maxL ret nm) {x : Value} (hd : decode bc pc = .ok (.dup, 1)) (hp : pc + 1 = pc') (hc : x.category = 1) (hr : Go p l e R s m args below meth c n0 F h k n pc' Ls (x :: x :: st)) : Go p l e R s m args below meth c n0 F h k n pc Ls (x :: st) := by
  subst hp; exact Go.pl (fun T locs X eT t q => XS.dup X.here C.1 rfl (hb C.2.2.2.1 hd) rfl hc q) hr
theorem Cx.pop (C : Cx p s m meth c Z n0 own bc maxL ret nm) {x : Value} (hd : decode bc pc = .ok (.pop, 1)) (hp : pc + 1 = pc') (hc : x.category = 1) (hr : Go p l e R s m args below meth c n0 F h k n pc' Ls (st)) : Go p l e R s m args below meth c n0 F h k n pc Ls (x :: st) := by
  subst hp; exact Go.pl (fun T locs X eT t q => XT.pop X.here C.1 rfl (hb C.2.2.2.1 hd) rfl hc q) hr
theorem Cx.dupX1 (C : Cx p s m meth c Z n0 own bc maxL ret nm) {x y : Value} (hd : decode bc pc = .ok (.dup_x1, 1)) (hp : pc + 1 = pc') (hc : x.category = 1) (hc' : y.category = 1) (hr : Go p l e R s m args below meth c n0 F h k n pc' Ls (x :: y :: x :: st)) : Go p l e R s m args below meth c n0 F h k n pc Ls (x :: y :: st) := by
  subst hp; exact Go.pl (fun T locs X eT t q => XT.dupX1 X.here C.1 rfl (hb C.2.2.2.1 hd) rfl hc hc' q) hr
theorem Cx.dup2 (C : Cx p s m meth c Z n0 own bc maxL ret nm) {x y : Value} (hd : decode bc pc = .ok (.dup2, 1)) (hp : pc + 1 = pc') (hc : x.category = 1) (hc' : y.category = 1) (hr : Go p l e R s m args below meth c n0 F h k n pc' Ls (x :: y :: x :: y :: st)) : Go p l e R s m args below meth c n0 F h k n pc Ls (x :: y :: st) := by
  subst hp; exact Go.pl (fun T locs X eT t q => XT.dup2 X.here C.1 rfl (hb C.2.2.2.1 hd) rfl hc hc' q) hr
theorem Cx.dup2L (C : Cx p s m meth c Z n0 own bc maxL ret nm) {x : Int64} (hd : decode bc pc = .ok (.dup2, 1)) (hp : pc + 1 = pc')  (hr : Go p l e R s m args below meth c n0 F h k n pc' Ls (.long x :: .long x :: st)) : Go p l e R s m args below meth c n0 F h k n pc Ls (.long x :: st) := by
  subst hp; exact Go.pl (fun T locs X eT t q => XT.dup2L X.here C.1 rfl (hb C.2.2.2.1 hd) rfl q) hr
theorem Cx.goto (C : Cx p s m meth c Z n0 own bc maxL ret nm) {o : Int} (hd : decode bc pc = .ok (.goto o, 3)) (ho : 0 ≤ (pc : Int) + o) (hp : ((pc : Int) + o).toNat = pc') (hr : Go p l e R s m args below meth c n0 F h k n pc' Ls st) : Go p l e R s m args below meth c n0 F h k n pc Ls st := by
  exact Go.pl (fun T locs X eT t q => XS.goto X.here C.1 rfl rfl (hb C.2.2.2.1 hd) ho hp q) hr
theorem Cx.if_eq_t (C : Cx p s m meth c Z n0 own bc maxL ret nm) {x : Int32} {o : Int} (hd : decode bc pc = .ok (.ifCond .eq o, 3)) (ho : 0 ≤ (pc : Int) + o) (hp : ((pc : Int) + o).toNat = pc') (hq : x = 0) (hr : Go p l e R s m args below meth c n0 F h k n pc' Ls st) : Go p l e R s m args below meth c n0 F h k n pc Ls (.int x :: st) :=
  Go.pl (fun T locs X eT t q => XS.ifYes X.here C.1 rfl rfl (hb C.2.2.2.1 hd) rfl (XT.i0_eq_t hq) ho hp q) hr
theorem Cx.if_eq_f (C : Cx p s m meth c Z n0 own bc maxL ret nm) {x : Int32} {o : Int} (hd : decode bc pc = .ok (.ifCond .eq o, 3)) (hp : pc + 3 = pc') (hq : ¬ x = 0) (hr : Go p l e R s m args below meth c n0 F h k n pc' Ls st) : Go p l e R s m args below meth c n0 F h k n pc Ls (.int x :: st) := by
  subst hp; exact Go.pl (fun T locs X eT t q => XS.ifNo X.here C.1 rfl (hb C.2.2.2.1 hd) rfl (XT.i0_eq_f hq) q) hr
theorem Cx.if_eq (C : Cx p s m meth c Z n0 own bc maxL ret nm) {x : Int32} {o : Int} {pc'' : Nat} (hd : decode bc pc = .ok (.ifCond .eq o, 3)) (ho : 0 ≤ (pc : Int) + o) (hp : ((pc : Int) + o).toNat = pc') (hp' : pc + 3 = pc'') (hy : x = 0 → Go p l e R s m args below meth c n0 F h k n pc' Ls st) (hn : ¬ x = 0 → Go p l e R s m args below meth c n0 F h k n pc'' Ls st) : Go p l e R s m args below meth c n0 F h k n pc Ls (.int x :: st) := by
  by_cases q : x = 0
  · exact C.if_eq_t hd ho hp q (hy q)
  · exact C.if_eq_f hd hp' q (hn q)
theorem Cx.icmp_eq_t (C : Cx p s m meth c Z n0 own bc maxL ret nm) {x y : Int32} {o : Int} (hd : decode bc pc = .ok (.if_icmp .eq o, 3)) (ho : 0 ≤ (pc : Int) + o) (hp : ((pc : Int) + o).toNat = pc') (hq : x = y) (hr : Go p l e R s m args below meth c n0 F h k n pc' Ls st) : Go p l e R s m args below meth c n0 F h k n pc Ls (.int y :: .int x :: st) :=
  Go.pl (fun T locs X eT t q => XS.icmpYes X.here C.1 rfl rfl (hb C.2.2.2.1 hd) rfl (XT.ii_eq_t hq) ho hp q) hr
theorem Cx.icmp_eq_f (C : Cx p s m meth c Z n0 own bc maxL ret nm) {x y : Int32} {o : Int} (hd : decode bc pc = .ok (.if_icmp .eq o, 3)) (hp : pc + 3 = pc') (hq : ¬ x = y) (hr : Go p l e R s m args below meth c n0 F h k n pc' Ls st) : Go p l e R s m args below meth c n0 F h k n pc Ls (.int y :: .int x :: st) := by
  subst hp; exact Go.pl (fun T locs X eT t q => XS.icmpNo X.here C.1 rfl (hb C.2.2.2.1 hd) rfl (XT.ii_eq_f hq) q) hr
theorem Cx.icmp_eq (C : Cx p s m meth c Z n0 own bc maxL ret nm) {x y : Int32} {o : Int} {pc'' : Nat} (hd : decode bc pc = .ok (.if_icmp .eq o, 3)) (ho : 0 ≤ (pc : Int) + o) (hp : ((pc : Int) + o).toNat = pc') (hp' : pc + 3 = pc'') (hy : x = y → Go p l e R s m args below meth c n0 F h k n pc' Ls st) (hn : ¬ x = y → Go p l e R s m args below meth c n0 F h k n pc'' Ls st) : Go p l e R s m args below meth c n0 F h k n pc Ls (.int y :: .int x :: st) := by
  by_cases q : x = y
  · exact C.icmp_eq_t hd ho hp q (hy q)
  · exact C.icmp_eq_f hd hp' q (hn q)
theorem Cx.lif_eq_t (C : Cx p s m meth c Z n0 own bc maxL ret nm) {x y : Int64} {o : Int} (hd : decode bc pc = .ok (.ifCond .eq o, 3)) (ho : 0 ≤ (pc : Int) + o) (hp : ((pc : Int) + o).toNat = pc') (hq : x = y) (hr : Go p l e R s m args below meth c n0 F h k n pc' Ls st) : Go p l e R s m args below meth c n0 F h k n pc Ls (.int (XT.cmpL x y) :: st) :=
  Go.pl (fun T locs X eT t q => XS.ifYes X.here C.1 rfl rfl (hb C.2.2.2.1 hd) rfl (XT.ll_eq_t hq) ho hp q) hr
theorem Cx.lif_eq_f (C : Cx p s m meth c Z n0 own bc maxL ret nm) {x y : Int64} {o : Int} (hd : decode bc pc = .ok (.ifCond .eq o, 3)) (hp : pc + 3 = pc') (hq : ¬ x = y) (hr : Go p l e R s m args below meth c n0 F h k n pc' Ls st) : Go p l e R s m args below meth c n0 F h k n pc Ls (.int (XT.cmpL x y) :: st) := by
  subst hp; exact Go.pl (fun T locs X eT t q => XS.ifNo X.here C.1 rfl (hb C.2.2.2.1 hd) rfl (XT.ll_eq_f hq) q) hr
theorem Cx.lif_eq (C : Cx p s m meth c Z n0 own bc maxL ret nm) {x y : Int64} {o : Int} {pc'' : Nat} (hd : decode bc pc = .ok (.ifCond .eq o, 3)) (ho : 0 ≤ (pc : Int) + o) (hp : ((pc : Int) + o).toNat = pc') (hp' : pc + 3 = pc'') (hy : x = y → Go p l e R s m args below meth c n0 F h k n pc' Ls st) (hn : ¬ x = y → Go p l e R s m args below meth c n0 F h k n pc'' Ls st) : Go p l e R s m args below meth c n0 F h k n pc Ls (.int (XT.cmpL x y) :: st) := by
  by_cases q : x = y
  · exact C.lif_eq_t hd ho hp q (hy q)
  · exact C.lif_eq_f hd hp' q (hn q)
theorem Cx.if_ne_t (C : Cx p s m meth c Z n0 own bc maxL ret nm) {x : Int32} {o : Int} (hd : decode bc pc = .ok (.ifCond .ne o, 3)) (ho : 0 ≤ (pc : Int) + o) (hp : ((pc : Int) + o).toNat = pc') (hq : ¬ x = 0) (hr : Go p l e R s m args below meth c n0 F h k n pc' Ls st) : Go p l e R s m args below meth c n0 F h k n pc Ls (.int x :: st) :=
  Go.pl (fun T locs X eT t q => XS.ifYes X.here C.1 rfl rfl (hb C.2.2.2.1 hd) rfl (XT.i0_ne_t hq) ho hp q) hr
theorem Cx.if_ne_f (C : Cx p s m meth c Z n0 own bc maxL ret nm) {x : Int32} {o : Int} (hd : decode bc pc = .ok (.ifCond .ne o, 3)) (hp : pc + 3 = pc') (hq : x = 0) (hr : Go p l e R s m args below meth c n0 F h k n pc' Ls st) : Go p l e R s m args below meth c n0 F h k n pc Ls (.int x :: st) := by
  subst hp; exact Go.pl (fun T locs X eT t q => XS.ifNo X.here C.1 rfl (hb C.2.2.2.1 hd) rfl (XT.i0_ne_f hq) q) hr
theorem Cx.if_ne (C : Cx p s m meth c Z n0 own bc maxL ret nm) {x : Int32} {o : Int} {pc'' : Nat} (hd : decode bc pc = .ok (.ifCond .ne o, 3)) (ho : 0 ≤ (pc : Int) + o) (hp : ((pc : Int) + o).toNat = pc') (hp' : pc + 3 = pc'') (hy : ¬ x = 0 → Go p l e R s m args below meth c n0 F h k n pc' Ls st) (hn : x = 0 → Go p l e R s m args below meth c n0 F h k n pc'' Ls st) : Go p l e R s m args below meth c n0 F h k n pc Ls (.int x :: st) := by
  by_cases q : x = 0
  · exact C.if_ne_f hd hp' q (hn q)
  · exact C.if_ne_t hd ho hp q (hy q)
theorem Cx.icmp_ne_t (C : Cx p s m meth c Z n0 own bc maxL ret nm) {x y : Int32} {o : Int} (hd : decode bc pc = .ok (.if_icmp .ne o, 3)) (ho : 0 ≤ (pc : Int) + o) (hp : ((pc : Int) + o).toNat = pc') (hq : ¬ x = y) (hr : Go p l e R s m args below meth c n0 F h k n pc' Ls st) : Go p l e R s m args below meth c n0 F h k n pc Ls (.int y :: .int x :: st) :=
  Go.pl (fun T locs X eT t q => XS.icmpYes X.here C.1 rfl rfl (hb C.2.2.2.1 hd) rfl (XT.ii_ne_t hq) ho hp q) hr
theorem Cx.icmp_ne_f (C : Cx p s m meth c Z n0 own bc maxL ret nm) {x y : Int32} {o : Int} (hd : decode bc pc = .ok (.if_icmp .ne o, 3)) (hp : pc + 3 = pc') (hq : x = y) (hr : Go p l e R s m args below meth c n0 F h k n pc' Ls st) : Go p l e R s m args below meth c n0 F h k n pc Ls (.int y :: .int x :: st) := by
  subst hp; exact Go.pl (fun T locs X eT t q => XS.icmpNo X.here C.1 rfl (hb C.2.2.2.1 hd) rfl (XT.ii_ne_f hq) q) hr
theorem Cx.icmp_ne (C : Cx p s m meth c Z n0 own bc maxL ret nm) {x y : Int32} {o : Int} {pc'' : Nat} (hd : decode bc pc = .ok (.if_icmp .ne o, 3)) (ho : 0 ≤ (pc : Int) + o) (hp : ((pc : Int) + o).toNat = pc') (hp' : pc + 3 = pc'') (hy : ¬ x = y → Go p l e R s m args below meth c n0 F h k n pc' Ls st) (hn : x = y → Go p l e R s m args below meth c n0 F h k n pc'' Ls st) : Go p l e R s m args below meth c n0 F h k n pc Ls (.int y :: .int x :: st) := by
  by_cases q : x = y
  · exact C.icmp_ne_f hd hp' q (hn q)
  · exact C.icmp_ne_t hd ho hp q (hy q)
theorem Cx.lif_ne_t (C : Cx p s m meth c Z n0 own bc maxL ret nm) {x y : Int64} {o : Int} (hd : decode bc pc = .ok (.ifCond .ne o, 3)) (ho : 0 ≤ (pc : Int) + o) (hp : ((pc : Int) + o).toNat = pc') (hq : ¬ x = y) (hr : Go p l e R s m args below meth c n0 F h k n pc' Ls st) : Go p l e R s m args below meth c n0 F h k n pc Ls (.int (XT.cmpL x y) :: st) :=
  Go.pl (fun T locs X eT t q => XS.ifYes X.here C.1 rfl rfl (hb C.2.2.2.1 hd) rfl (XT.ll_ne_t hq) ho hp q) hr
theorem Cx.lif_ne_f (C : Cx p s m meth c Z n0 own bc maxL ret nm) {x y : Int64} {o : Int} (hd : decode bc pc = .ok (.ifCond .ne o, 3)) (hp : pc + 3 = pc') (hq : x = y) (hr : Go p l e R s m args below meth c n0 F h k n pc' Ls st) : Go p l e R s m args below meth c n0 F h k n pc Ls (.int (XT.cmpL x y) :: st) := by
  subst hp; exact Go.pl (fun T locs X eT t q => XS.ifNo X.here C.1 rfl (hb C.2.2.2.1 hd) rfl (XT.ll_ne_f hq) q) hr
theorem Cx.lif_ne (C : Cx p s m meth c Z n0 own bc maxL ret nm) {x y : Int64} {o : Int} {pc'' : Nat} (hd : decode bc pc = .ok (.ifCond .ne o, 3)) (ho : 0 ≤ (pc : Int) + o) (hp : ((pc : Int) + o).toNat = pc') (hp' : pc + 3 = pc'') (hy : ¬ x = y → Go p l e R s m args below meth c n0 F h k n pc' Ls st) (hn : x = y → Go p l e R s m args below meth c n0 F h k n pc'' Ls st) : Go p l e R s m args below meth c n0 F h k n pc Ls (.int (XT.cmpL x y) :: st) := by
  by_cases q : x = y
  · exact C.lif_ne_f hd hp' q (hn q)
  · exact C.lif_ne_t hd ho hp q (hy q)
theorem Cx.if_lt_t (C : Cx p s m meth c Z n0 own bc maxL ret nm) {x : Int32} {o : Int} (hd : decode bc pc = .ok (.ifCond .lt o, 3)) (ho : 0 ≤ (pc : Int) + o) (hp : ((pc : Int) + o).toNat = pc') (hq : x < 0) (hr : Go p l e R s m args below meth c n0 F h k n pc' Ls st) : Go p l e R s m args below meth c n0 F h k n pc Ls (.int x :: st) :=
  Go.pl (fun T locs X eT t q => XS.ifYes X.here C.1 rfl rfl (hb C.2.2.2.1 hd) rfl (XT.i0_lt_t hq) ho hp q) hr
theorem Cx.if_lt_f (C : Cx p s m meth c Z n0 own bc maxL ret nm) {x : Int32} {o : Int} (hd : decode bc pc = .ok (.ifCond .lt o, 3)) (hp : pc + 3 = pc') (hq : ¬ x < 0) (hr : Go p l e R s m args below meth c n0 F h k n pc' Ls st) : Go p l e R s m args below meth c n0 F h k n pc Ls (.int x :: st) := by
  subst hp; exact Go.pl (fun T locs X eT t q => XS.ifNo X.here C.1 rfl (hb C.2.2.2.1 hd) rfl (XT.i0_lt_f hq) q) hr
theorem Cx.if_lt (C : Cx p s m meth c Z n0 own bc maxL ret nm) {x : Int32} {o : Int} {pc'' : Nat} (hd : decode bc pc = .ok (.ifCond .lt o, 3)) (ho : 0 ≤ (pc : Int) + o) (hp : ((pc : Int) + o).toNat = pc') (hp' : pc + 3 = pc'') (hy : x < 0 → Go p l e R s m args below meth c n0 F h k n pc' Ls st) (hn : ¬ x < 0 → Go p l e R s m args below meth c n0 F h k n pc'' Ls st) : Go p l e R s m args below meth c n0 F h k n pc Ls (.int x :: st) := by
  by_cases q : x < 0
  · exact C.if_lt_t hd ho hp q (hy q)
  · exact C.if_lt_f hd hp' q (hn q)
theorem Cx.icmp_lt_t (C : Cx p s m meth c Z n0 own bc maxL ret nm) {x y : Int32} {o : Int} (hd : decode bc pc = .ok (.if_icmp .lt o, 3)) (ho : 0 ≤ (pc : Int) + o) (hp : ((pc : Int) + o).toNat = pc') (hq : x < y) (hr : Go p l e R s m args below meth c n0 F h k n pc' Ls st) : Go p l e R s m args below meth c n0 F h k n pc Ls (.int y :: .int x :: st) :=
  Go.pl (fun T locs X eT t q => XS.icmpYes X.here C.1 rfl rfl (hb C.2.2.2.1 hd) rfl (XT.ii_lt_t hq) ho hp q) hr
theorem Cx.icmp_lt_f (C : Cx p s m meth c Z n0 own bc maxL ret nm) {x y : Int32} {o : Int} (hd : decode bc pc = .ok (.if_icmp .lt o, 3)) (hp : pc + 3 = pc') (hq : ¬ x < y) (hr : Go p l e R s m args below meth c n0 F h k n pc' Ls st) : Go p l e R s m args below meth c n0 F h k n pc Ls (.int y :: .int x :: st) := by
  subst hp; exact Go.pl (fun T locs X eT t q => XS.icmpNo X.here C.1 rfl (hb C.2.2.2.1 hd) rfl (XT.ii_lt_f hq) q) hr
theorem Cx.icmp_lt (C : Cx p s m meth c Z n0 own bc maxL ret nm) {x y : Int32} {o : Int} {pc'' : Nat} (hd : decode bc pc = .ok (.if_icmp .lt o, 3)) (ho : 0 ≤ (pc : Int) + o) (hp : ((pc : Int) + o).toNat = pc') (hp' : pc + 3 = pc'') (hy : x < y → Go p l e R s m args below meth c n0 F h k n pc' Ls st) (hn : ¬ x < y → Go p l e R s m args below meth c n0 F h k n pc'' Ls st) : Go p l e R s m args below meth c n0 F h k n pc Ls (.int y :: .int x :: st) := by
  by_cases q : x < y
  · exact C.icmp_lt_t hd ho hp q (hy q)
  · exact C.icmp_lt_f hd hp' q (hn q)
theorem Cx.lif_lt_t (C : Cx p s m meth c Z n0 own bc maxL ret nm) {x y : Int64} {o : Int} (hd : decode bc pc = .ok (.ifCond .lt o, 3)) (ho : 0 ≤ (pc : Int) + o) (hp : ((pc : Int) + o).toNat = pc') (hq : x < y) (hr : Go p l e R s m args below meth c n0 F h k n pc' Ls st) : Go p l e R s m args below meth c n0 F h k n pc Ls (.int (XT.cmpL x y) :: st) :=
  Go.pl (fun T locs X eT t q => XS.ifYes X.here C.1 rfl rfl (hb C.2.2.2.1 hd) rfl (XT.ll_lt_t hq) ho hp q) hr
theorem Cx.lif_lt_f (C : Cx p s m meth c Z n0 own bc maxL ret nm) {x y : Int64} {o : Int} (hd : decode bc pc = .ok (.ifCond .lt o, 3)) (hp : pc + 3 = pc') (hq : ¬ x < y) (hr : Go p l e R s m args below meth c n0 F h k n pc' Ls st) : Go p l e R s m args below meth c n0 F h k n pc Ls (.int (XT.cmpL x y) :: st) := by
  subst hp; exact Go.pl (fun T locs X eT t q => XS.ifNo X.here C.1 rfl (hb C.2.2.2.1 hd) rfl (XT.ll_lt_f hq) q) hr
theorem Cx.lif_lt (C : Cx p s m meth c Z n0 own bc maxL ret nm) {x y : Int64} {o : Int} {pc'' : Nat} (hd : decode bc pc = .ok (.ifCond .lt o, 3)) (ho : 0 ≤ (pc : Int) + o) (hp : ((pc : Int) + o).toNat = pc') (hp' : pc + 3 = pc'') (hy : x < y → Go p l e R s m args below meth c n0 F h k n pc' Ls st) (hn : ¬ x < y → Go p l e R s m args below meth c n0 F h k n pc'' Ls st) : Go p l e R s m args below meth c n0 F h k n pc Ls (.int (XT.cmpL x y) :: st) := by
  by_cases q : x < y
  · exact C.lif_lt_t hd ho hp q (hy q)
  · exact C.lif_lt_f hd hp' q (hn q)
theorem Cx.if_ge_t (C : Cx p s m meth c Z n0 own bc maxL ret nm) {x : Int32} {o : Int} (hd : decode bc pc = .ok (.ifCond .ge o, 3)) (ho : 0 ≤ (pc : Int) + o) (hp : ((pc : Int) + o).toNat = pc') (hq : ¬ x < 0) (hr : Go p l e R s m args below meth c n0 F h k n pc' Ls st) : Go p l e R s m args below meth c n0 F h k n pc Ls (.int x :: st) :=
  Go.pl (fun T locs X eT t q => XS.ifYes X.here C.1 rfl rfl (hb C.2.2.2.1 hd) rfl (XT.i0_ge_t hq) ho hp q) hr
theorem Cx.if_ge_f (C : Cx p s m meth c Z n0 own bc maxL ret nm) {x : Int32} {o : Int} (hd : decode bc pc = .ok (.ifCond .ge o, 3)) (hp : pc + 3 = pc') (hq : x < 0) (hr : Go p l e R s m args below meth c n0 F h k n pc' Ls st) : Go p l e R s m args below meth c n0 F h k n pc Ls (.int x :: st) := by
  subst hp; exact Go.pl (fun T locs X eT t q => XS.ifNo X.here C.1 rfl (hb C.2.2.2.1 hd) rfl (XT.i0_ge_f hq) q) hr
theorem Cx.if_ge (C : Cx p s m meth c Z n0 own bc maxL ret nm) {x : Int32} {o : Int} {pc'' : Nat} (hd : decode bc pc = .ok (.ifCond .ge o, 3)) (ho : 0 ≤ (pc : Int) + o) (hp : ((pc : Int) + o).toNat = pc') (hp' : pc + 3 = pc'') (hy : ¬ x < 0 → Go p l e R s m args below meth c n0 F h k n pc' Ls st) (hn : x < 0 → Go p l e R s m args below meth c n0 F h k n pc'' Ls st) : Go p l e R s m args below meth c n0 F h k n pc Ls (.int x :: st) := by
  by_cases q : x < 0
  · exact C.if_ge_f hd hp' q (hn q)
  · exact C.if_ge_t hd ho hp q (hy q)
theorem Cx.icmp_ge_t (C : Cx p s m meth c Z n0 own bc maxL ret nm) {x y : Int32} {o : Int} (hd : decode bc pc = .ok (.if_icmp .ge o, 3)) (ho : 0 ≤ (pc : Int) + o) (hp : ((pc : Int) + o).toNat = pc') (hq : ¬ x < y) (hr : Go p l e R s m args below meth c n0 F h k n pc' Ls st) : Go p l e R s m args below meth c n0 F h k n pc Ls (.int y :: .int x :: st) :=
  Go.pl (fun T locs X eT t q => XS.icmpYes X.here C.1 rfl rfl (hb C.2.2.2.1 hd) rfl (XT.ii_ge_t hq) ho hp q) hr
theorem Cx.icmp_ge_f (C : Cx p s m meth c Z n0 own bc maxL ret nm) {x y : Int32} {o : Int} (hd : decode bc pc = .ok (.if_icmp .ge o, 3)) (hp : pc + 3 = pc') (hq : x < y) (hr : Go p l e R s m args below meth c n0 F h k n pc' Ls st) : Go p l e R s m args below meth c n0 F h k n pc Ls (.int y :: .int x :: st) := by
  subst hp; exact Go.pl (fun T locs X eT t q => XS.icmpNo X.here C.1 rfl (hb C.2.2.2.1 hd) rfl (XT.ii_ge_f hq) q) hr
theorem Cx.icmp_ge (C : Cx p s m meth c Z n0 own bc maxL ret nm) {x y : Int32} {o : Int} {pc'' : Nat} (hd : decode bc pc = .ok (.if_icmp .ge o, 3)) (ho : 0 ≤ (pc : Int) + o) (hp : ((pc : Int) + o).toNat = pc') (hp' : pc + 3 = pc'') (hy : ¬ x < y → Go p l e R s m args below meth c n0 F h k n pc' Ls st) (hn : x < y → Go p l e R s m args below meth c n0 F h k n pc'' Ls st) : Go p l e R s m args below meth c n0 F h k n pc Ls (.int y :: .int x :: st) := by
  by_cases q : x < y
  · exact C.icmp_ge_f hd hp' q (hn q)
  · exact C.icmp_ge_t hd ho hp q (hy q)
theorem Cx.lif_ge_t (C : Cx p s m meth c Z n0 own bc maxL ret nm) {x y : Int64} {o : Int} (hd : decode bc pc = .ok (.ifCond .ge o, 3)) (ho : 0 ≤ (pc : Int) + o) (hp : ((pc : Int) + o).toNat = pc') (hq : ¬ x < y) (hr : Go p l e R s m args below meth c n0 F h k n pc' Ls st) : Go p l e R s m args below meth c n0 F h k n pc Ls (.int (XT.cmpL x y) :: st) :=
  Go.pl (fun T locs X eT t q => XS.ifYes X.here C.1 rfl rfl (hb C.2.2.2.1 hd) rfl (XT.ll_ge_t hq) ho hp q) hr
theorem Cx.lif_ge_f (C : Cx p s m meth c Z n0 own bc maxL ret nm) {x y : Int64} {o : Int} (hd : decode bc pc = .ok (.ifCond .ge o, 3)) (hp : pc + 3 = pc') (hq : x < y) (hr : Go p l e R s m args below meth c n0 F h k n pc' Ls st) : Go p l e R s m args below meth c n0 F h k n pc Ls (.int (XT.cmpL x y) :: st) := by
  subst hp; exact Go.pl (fun T locs X eT t q => XS.ifNo X.here C.1 rfl (hb C.2.2.2.1 hd) rfl (XT.ll_ge_f hq) q) hr
theorem Cx.lif_ge (C : Cx p s m meth c Z n0 own bc maxL ret nm) {x y : Int64} {o : Int} {pc'' : Nat} (hd : decode bc pc = .ok (.ifCond .ge o, 3)) (ho : 0 ≤ (pc : Int) + o) (hp : ((pc : Int) + o).toNat = pc') (hp' : pc + 3 = pc'') (hy : ¬ x < y → Go p l e R s m args below meth c n0 F h k n pc' Ls st) (hn : x < y → Go p l e R s m args below meth c n0 F h k n pc'' Ls st) : Go p l e R s m args below meth c n0 F h k n pc Ls (.int (XT.cmpL x y) :: st) := by
  by_cases q : x < y
  · exact C.lif_ge_f hd hp' q (hn q)
  · exact C.lif_ge_t hd ho hp q (hy q)
theorem Cx.if_gt_t (C : Cx p s m meth c Z n0 own bc maxL ret nm) {x : Int32} {o : Int} (hd : decode bc pc = .ok (.ifCond .gt o, 3)) (ho : 0 ≤ (pc : Int) + o) (hp : ((pc : Int) + o).toNat = pc') (hq : 0 < x) (hr : Go p l e R s m args below meth c n0 F h k n pc' Ls st) : Go p l e R s m args below meth c n0 F h k n pc Ls (.int x :: st) :=
  Go.pl (fun T locs X eT t q => XS.ifYes X.here C.1 rfl rfl (hb C.2.2.2.1 hd) rfl (XT.i0_gt_t hq) ho hp q) hr
theorem Cx.if_gt_f (C : Cx p s m meth c Z n0 own bc maxL ret nm) {x : Int32} {o : Int} (hd : decode bc pc = .ok (.ifCond .gt o, 3)) (hp : pc + 3 = pc') (hq : ¬ 0 < x) (hr : Go p l e R s m args below meth c n0 F h k n pc' Ls st) : Go p l e R s m args below meth c n0 F h k n pc Ls (.int x :: st) := by
  subst hp; exact Go.pl (fun T locs X eT t q => XS.ifNo X.here C.1 rfl (hb C.2.2.2.1 hd) rfl (XT.i0_gt_f hq) q) hr
theorem Cx.if_gt (C : Cx p s m meth c Z n0 own bc maxL ret nm) {x : Int32} {o : Int} {pc'' : Nat} (hd : decode bc pc = .ok (.ifCond .gt o, 3)) (ho : 0 ≤ (pc : Int) + o) (hp : ((pc : Int) + o).toNat = pc') (hp' : pc + 3 = pc'') (hy : 0 < x → Go p l e R s m args below meth c n0 F h k n pc' Ls st) (hn : ¬ 0 < x → Go p l e R s m args below meth c n0 F h k n pc'' Ls st) : Go p l e R s m args below meth c n0 F h k n pc Ls (.int x :: st) := by
  by_cases q : 0 < x
  · exact C.if_gt_t hd ho hp q (hy q)
  · exact C.if_gt_f hd hp' q (hn q)
theorem Cx.icmp_gt_t (C : Cx p s m meth c Z n0 own bc maxL ret nm) {x y : Int32} {o : Int} (hd : decode bc pc = .ok (.if_icmp .gt o, 3)) (ho : 0 ≤ (pc : Int) + o) (hp : ((pc : Int) + o).toNat = pc') (hq : y < x) (hr : Go p l e R s m args below meth c n0 F h k n pc' Ls st) : Go p l e R s m args below meth c n0 F h k n pc Ls (.int y :: .int x :: st) :=
  Go.pl (fun T locs X eT t q => XS.icmpYes X.here C.1 rfl rfl (hb C.2.2.2.1 hd) rfl (XT.ii_gt_t hq) ho hp q) hr
theorem Cx.icmp_gt_f (C : Cx p s m meth c Z n0 own bc maxL ret nm) {x y : Int32} {o : Int} (hd : decode bc pc = .ok (.if_icmp .gt o, 3)) (hp : pc + 3 = pc') (hq : ¬ y < x) (hr : Go p l e R s m args below meth c n0 F h k n pc' Ls st) : Go p l e R s m args below meth c n0 F h k n pc Ls (.int y :: .int x :: st) := by
  subst hp; exact Go.pl (fun T locs X eT t q => XS.icmpNo X.here C.1 rfl (hb C.2.2.2.1 hd) rfl (XT.ii_gt_f hq) q) hr
theorem Cx.icmp_gt (C : Cx p s m meth c Z n0 own bc maxL ret nm) {x y : Int32} {o : Int} {pc'' : Nat} (hd : decode bc pc = .ok (.if_icmp .gt o, 3)) (ho : 0 ≤ (pc : Int) + o) (hp : ((pc : Int) + o).toNat = pc') (hp' : pc + 3 = pc'') (hy : y < x → Go p l e R s m args below meth c n0 F h k n pc' Ls st) (hn : ¬ y < x → Go p l e R s m args below meth c n0 F h k n pc'' Ls st) : Go p l e R s m args below meth c n0 F h k n pc Ls (.int y :: .int x :: st) := by
  by_cases q : y < x
  · exact C.icmp_gt_t hd ho hp q (hy q)
  · exact C.icmp_gt_f hd hp' q (hn q)
theorem Cx.lif_gt_t (C : Cx p s m meth c Z n0 own bc maxL ret nm) {x y : Int64} {o : Int} (hd : decode bc pc = .ok (.ifCond .gt o, 3)) (ho : 0 ≤ (pc : Int) + o) (hp : ((pc : Int) + o).toNat = pc') (hq : y < x) (hr : Go p l e R s m args below meth c n0 F h k n pc' Ls st) : Go p l e R s m args below meth c n0 F h k n pc Ls (.int (XT.cmpL x y) :: st) :=
  Go.pl (fun T locs X eT t q => XS.ifYes X.here C.1 rfl rfl (hb C.2.2.2.1 hd) rfl (XT.ll_gt_t hq) ho hp q) hr
theorem Cx.lif_gt_f (C : Cx p s m meth c Z n0 own bc maxL ret nm) {x y : Int64} {o : Int} (hd : decode bc pc = .ok (.ifCond .gt o, 3)) (hp : pc + 3 = pc') (hq : ¬ y < x) (hr : Go p l e R s m args below meth c n0 F h k n pc' Ls st) : Go p l e R s m args below meth c n0 F h k n pc Ls (.int (XT.cmpL x y) :: st) := by
  subst hp; exact Go.pl (fun T locs X eT t q => XS.ifNo X.here C.1 rfl (hb C.2.2.2.1 hd) rfl (XT.ll_gt_f hq) q) hr
theorem Cx.lif_gt (C : Cx p s m meth c Z n0 own bc maxL ret nm) {x y : Int64} {o : Int} {pc'' : Nat} (hd : decode bc pc = .ok (.ifCond .gt o, 3)) (ho : 0 ≤ (pc : Int) + o) (hp : ((pc : Int) + o).toNat = pc') (hp' : pc + 3 = pc'') (hy : y < x → Go p l e R s m args below meth c n0 F h k n pc' Ls st) (hn : ¬ y < x → Go p l e R s m args below meth c n0 F h k n pc'' Ls st) : Go p l e R s m args below meth c n0 F h k n pc Ls (.int (XT.cmpL x y) :: st) := by
  by_cases q : y < x
  · exact C.lif_gt_t hd ho hp q (hy q)
  · exact C.lif_gt_f hd hp' q (hn q)
theorem Cx.if_le_t (C : Cx p s m meth c Z n0 own bc maxL ret nm) {x : Int32} {o : Int} (hd : decode bc pc = .ok (.ifCond .le o, 3)) (ho : 0 ≤ (pc : Int) + o) (hp : ((pc : Int) + o).toNat = pc') (hq : ¬ 0 < x) (hr : Go p l e R s m args below meth c n0 F h k n pc' Ls st) : Go p l e R s m args below meth c n0 F h k n pc Ls (.int x :: st) :=
  Go.pl (fun T locs X eT t q => XS.ifYes X.here C.1 rfl rfl (hb C.2.2.2.1 hd) rfl (XT.i0_le_t hq) ho hp q) hr
theorem Cx.if_le_f (C : Cx p s m meth c Z n0 own bc maxL ret nm) {x : Int32} {o : Int} (hd : decode bc pc = .ok (.ifCond .le o, 3)) (hp : pc + 3 = pc') (hq : 0 < x) (hr : Go p l e R s m args below meth c n0 F h k n pc' Ls st) : Go p l e R s m args below meth c n0 F h k n pc Ls (.int x :: st) := by
  subst hp; exact Go.pl (fun T locs X eT t q => XS.ifNo X.here C.1 rfl (hb C.2.2.2.1 hd) rfl (XT.i0_le_f hq) q) hr
theorem Cx.if_le (C : Cx p s m meth c Z n0 own bc maxL ret nm) {x : Int32} {o : Int} {pc'' : Nat} (hd : decode bc pc = .ok (.ifCond .le o, 3)) (ho : 0 ≤ (pc : Int) + o) (hp : ((pc : Int) + o).toNat = pc') (hp' : pc + 3 = pc'') (hy : ¬ 0 < x → Go p l e R s m args below meth c n0 F h k n pc' Ls st) (hn : 0 < x → Go p l e R s m args below meth c n0 F h k n pc'' Ls st) : Go p l e R s m args below meth c n0 F h k n pc Ls (.int x :: st) := by
  by_cases q : 0 < x
  · exact C.if_le_f hd hp' q (hn q)
  · exact C.if_le_t hd ho hp q (hy q)
theorem Cx.icmp_le_t (C : Cx p s m meth c Z n0 own bc maxL ret nm) {x y : Int32} {o : Int} (hd : decode bc pc = .ok (.if_icmp .le o, 3)) (ho : 0 ≤ (pc : Int) + o) (hp : ((pc : Int) + o).toNat = pc') (hq : ¬ y < x) (hr : Go p l e R s m args below meth c n0 F h k n pc' Ls st) : Go p l e R s m args below meth c n0 F h k n pc Ls (.int y :: .int x :: st) :=
  Go.pl (fun T locs X eT t q => XS.icmpYes X.here C.1 rfl rfl (hb C.2.2.2.1 hd) rfl (XT.ii_le_t hq) ho hp q) hr
theorem Cx.icmp_le_f (C : Cx p s m meth c Z n0 own bc maxL ret nm) {x y : Int32} {o : Int} (hd : decode bc pc = .ok (.if_icmp .le o, 3)) (hp : pc + 3 = pc') (hq : y < x) (hr : Go p l e R s m args below meth c n0 F h k n pc' Ls st) : Go p l e R s m args below meth c n0 F h k n pc Ls (.int y :: .int x :: st) := by
  subst hp; exact Go.pl (fun T locs X eT t q => XS.icmpNo X.here C.1 rfl (hb C.2.2.2.1 hd) rfl (XT.ii_le_f hq) q) hr
theorem Cx.icmp_le (C : Cx p s m meth c Z n0 own bc maxL ret nm) {x y : Int32} {o : Int} {pc'' : Nat} (hd : decode bc pc = .ok (.if_icmp .le o, 3)) (ho : 0 ≤ (pc : Int) + o) (hp : ((pc : Int) + o).toNat = pc') (hp' : pc + 3 = pc'') (hy : ¬ y < x → Go p l e R s m args below meth c n0 F h k n pc' Ls st) (hn : y < x → Go p l e R s m args below meth c n0 F h k n pc'' Ls st) : Go p l e R s m args below meth c n0 F h k n pc Ls (.int y :: .int x :: st) := by
  by_cases q : y < x
  · exact C.icmp_le_f hd hp' q (hn q)
  · exact C.icmp_le_t hd ho hp q (hy q)
theorem Cx.lif_le_t (C : Cx p s m meth c Z n0 own bc maxL ret nm) {x y : Int64} {o : Int} (hd : decode bc pc = .ok (.ifCond .le o, 3)) (ho : 0 ≤ (pc : Int) + o) (hp : ((pc : Int) + o).toNat = pc') (hq : ¬ y < x) (hr : Go p l e R s m args below meth c n0 F h k n pc' Ls st) : Go p l e R s m args below meth c n0 F h k n pc Ls (.int (XT.cmpL x y) :: st) :=
  Go.pl (fun T locs X eT t q => XS.ifYes X.here C.1 rfl rfl (hb C.2.2.2.1 hd) rfl (XT.ll_le_t hq) ho hp q) hr
theorem Cx.lif_le_f (C : Cx p s m meth c Z n0 own bc maxL ret nm) {x y : Int64} {o : Int} (hd : decode bc pc = .ok (.ifCond .le o, 3)) (hp : pc + 3 = pc') (hq : y < x) (hr : Go p l e R s m args below meth c n0 F h k n pc' Ls st) : Go p l e R s m args below meth c n0 F h k n pc Ls (.int (XT.cmpL x y) :: st) := by
  subst hp; exact Go.pl (fun T locs X eT t q => XS.ifNo X.here C.1 rfl (hb C.2.2.2.1 hd) rfl (XT.ll_le_f hq) q) hr
theorem Cx.lif_le (C : Cx p s m meth c Z n0 own bc maxL ret nm) {x y : Int64} {o : Int} {pc'' : Nat} (hd : decode bc pc = .ok (.ifCond .le o, 3)) (ho : 0 ≤ (pc : Int) + o) (hp : ((pc : Int) + o).toNat = pc') (hp' : pc + 3 = pc'') (hy : ¬ y < x → Go p l e R s m args below meth c n0 F h k n pc' Ls st) (hn : y < x → Go p l e R s m args below meth c n0 F h k n pc'' Ls st) : Go p l e R s m args below meth c n0 F h k n pc Ls (.int (XT.cmpL x y) :: st) := by
  by_cases q : y < x
  · exact C.lif_le_f hd hp' q (hn q)
  · exact C.lif_le_t hd ho hp q (hy q)
theorem Cx.ifnull_ref (C : Cx p s m meth c Z n0 own bc maxL ret nm) {o : Int} {b : Addr} (hd : decode bc pc = .ok (.ifnull o, 3)) (hp : pc + 3 = pc')  (hr : Go p l e R s m args below meth c n0 F h k n pc' Ls (st)) : Go p l e R s m args below meth c n0 F h k n pc Ls (.ref b :: st) := by
  subst hp; exact Go.pl (fun T locs X eT t q => XS.ifnullNo X.here C.1 rfl (hb C.2.2.2.1 hd) rfl q) hr
theorem Cx.ifnonnull_null (C : Cx p s m meth c Z n0 own bc maxL ret nm) {o : Int} (hd : decode bc pc = .ok (.ifnonnull o, 3)) (hp : pc + 3 = pc')  (hr : Go p l e R s m args below meth c n0 F h k n pc' Ls (st)) : Go p l e R s m args below meth c n0 F h k n pc Ls (.null :: st) := by
  subst hp; exact Go.pl (fun T locs X eT t q => XT.ifnonnullNo X.here C.1 rfl (hb C.2.2.2.1 hd) rfl q) hr
theorem Cx.ifnull_null (C : Cx p s m meth c Z n0 own bc maxL ret nm) {b : Addr} {o : Int} (hd : decode bc pc = .ok (.ifnull o, 3)) (ho : 0 ≤ (pc : Int) + o) (hp : ((pc : Int) + o).toNat = pc') (hr : Go p l e R s m args below meth c n0 F h k n pc' Ls st) : Go p l e R s m args below meth c n0 F h k n pc Ls (.null :: st) := by
  exact Go.pl (fun T locs X eT t q => XS.ifnullYes X.here C.1 rfl rfl (hb C.2.2.2.1 hd) rfl ho hp q) hr
theorem Cx.ifnonnull_ref (C : Cx p s m meth c Z n0 own bc maxL ret nm) {b : Addr} {o : Int} (hd : decode bc pc = .ok (.ifnonnull o, 3)) (ho : 0 ≤ (pc : Int) + o) (hp : ((pc : Int) + o).toNat = pc') (hr : Go p l e R s m args below meth c n0 F h k n pc' Ls st) : Go p l e R s m args below meth c n0 F h k n pc Ls (.ref b :: st) := by
  exact Go.pl (fun T locs X eT t q => XT.ifnonnullYes X.here C.1 rfl rfl (hb C.2.2.2.1 hd) rfl ho hp q) hr
theorem Cx.ldcI (C : Cx p s m meth c Z n0 own bc maxL ret nm) {j : Nat} {v : Int32} (hd : decode bc pc = .ok (.ldc j, 2)) (hp : pc + 2 = pc') (w : (Jvm.Cond.constant own j v).before a0 Z = true) (hr : Go p l e R s m args below meth c n0 F h k n pc' Ls (.int v :: st)) : Go p l e R s m args below meth c n0 F h k n pc Ls st := by
  subst hp; exact Go.pl (fun T locs X eT t q => X.ldcI C.1 C.2.2.1 (mv C.2.1 w) rfl (hb C.2.2.2.1 hd) q) hr
theorem Cx.ldcWI (C : Cx p s m meth c Z n0 own bc maxL ret nm) {j : Nat} {v : Int32} (hd : decode bc pc = .ok (.ldc_w j, 3)) (hp : pc + 3 = pc') (w : (Jvm.Cond.constant own j v).before a0 Z = true) (hr : Go p l e R s m args below meth c n0 F h k n pc' Ls (.int v :: st)) : Go p l e R s m args below meth c n0 F h k n pc Ls st := by
  subst hp; exact Go.pl (fun T locs X eT t q => X.ldcWI C.1 C.2.2.1 (mv C.2.1 w) rfl (hb C.2.2.2.1 hd) q) hr
theorem Cx.ldc2J (C : Cx p s m meth c Z n0 own bc maxL ret nm) {j : Nat} {v : Int64} (hd : decode bc pc = .ok (.ldc2_w j, 3)) (hp : pc + 3 = pc') (w : (Jvm.Cond.constantLong own j v).before a0 Z = true) (hr : Go p l e R s m args below meth c n0 F h k n pc' Ls (.long v :: st)) : Go p l e R s m args below meth c n0 F h k n pc Ls st := by
  subst hp; exact Go.pl (fun T locs X eT t q => X.ldc2J C.1 C.2.2.1 (mv C.2.1 w) rfl (hb C.2.2.2.1 hd) q) hr
theorem Cx.alen (C : Cx p s m meth c Z n0 own bc maxL ret nm) {a : Addr} {ty : FieldType} {vs : List Value} (hd : decode bc pc = .ok (.arraylength, 1)) (hp : pc + 1 = pc') (A : Av Z h a ty vs) (hr : Go p l e R s m args below meth c n0 F h k n pc' Ls (.int vs.length.toInt32 :: st)) : Go p l e R s m args below meth c n0 F h k n pc Ls (.ref a :: st) := by
  obtain ⟨cl, A, rfl, -⟩ := A; subst hp; refine Go.pl (fun T locs X eT t q => X.arraylength C.1 (cell := cl) (by rw [eT]; exact A.1) (State.isArrayOf_alike C.2.1.alike A.2.1) (g := mkF m pc Ls (.ref a :: st)) rfl rfl (hb C.2.2.2.1 hd) t q) (by simpa using hr)
theorem Cx.iaload (C : Cx p s m meth c Z n0 own bc maxL ret nm) {a : Addr} {vs : List Value} {j : Int32} (v : Value) (hd : decode bc pc = .ok (.iaload, 1)) (hp : pc + 1 = pc') (A : Av Z h a .int vs) (hj : ¬ j < 0) (hv : vs[j.toNatClampNeg]? = some v) (hr : Go p l e R s m args below meth c n0 F h k n pc' Ls (v :: st)) : Go p l e R s m args below meth c n0 F h k n pc Ls (.int j :: .ref a :: st) := by
  obtain ⟨cl, A, rfl, -⟩ := A; subst hp; rw [Array.getElem?_toList] at hv; exact Go.pl (fun T locs X eT t q => X.iaload C.1 (by rw [eT]; exact A.1) (State.isArrayOf_alike C.2.1.alike A.2.1) A.2.2 (own_in hj hv) hv (g := mkF m pc Ls (.int j :: .ref a :: st)) rfl rfl (hb C.2.2.2.1 hd) t q) hr
theorem Cx.laload (C : Cx p s m meth c Z n0 own bc maxL ret nm) {a : Addr} {vs : List Value} {j : Int32} (v : Value) (hd : decode bc pc = .ok (.laload, 1)) (hp : pc + 1 = pc') (A : Av Z h a .long vs) (hj : ¬ j < 0) (hv : vs[j.toNatClampNeg]? = some v) (hr : Go p l e R s m args below meth c n0 F h k n pc' Ls (v :: st)) : Go p l e R s m args below meth c n0 F h k n pc Ls (.int j :: .ref a :: st) := by
  obtain ⟨cl, A, rfl, -⟩ := A; subst hp; rw [Array.getElem?_toList] at hv; exact Go.pl (fun T locs X eT t q => X.laload C.1 (by rw [eT]; exact A.1) (State.isArrayOf_alike C.2.1.alike A.2.1) A.2.2 (own_in hj hv) hv (g := mkF m pc Ls (.int j :: .ref a :: st)) rfl rfl (hb C.2.2.2.1 hd) t q) hr
theorem Cx.caload (C : Cx p s m meth c Z n0 own bc maxL ret nm) {a : Addr} {vs : List Value} {j : Int32} (v : Value) (hd : decode bc pc = .ok (.caload, 1)) (hp : pc + 1 = pc') (A : Av Z h a .char vs) (hj : ¬ j < 0) (hv : vs[j.toNatClampNeg]? = some v) (hr : Go p l e R s m args below meth c n0 F h k n pc' Ls (v :: st)) : Go p l e R s m args below meth c n0 F h k n pc Ls (.int j :: .ref a :: st) := by
  obtain ⟨cl, A, rfl, -⟩ := A; subst hp; rw [Array.getElem?_toList] at hv; exact Go.pl (fun T locs X eT t q => X.caload C.1 (by rw [eT]; exact A.1) (State.isArrayOf_alike C.2.1.alike A.2.1) A.2.2 (own_in hj hv) hv (g := mkF m pc Ls (.int j :: .ref a :: st)) rfl rfl (hb C.2.2.2.1 hd) t q) hr
theorem Cx.baload (C : Cx p s m meth c Z n0 own bc maxL ret nm) {a : Addr} {vs : List Value} {j : Int32} (v : Value) (hd : decode bc pc = .ok (.baload, 1)) (hp : pc + 1 = pc') (A : Av Z h a .byte vs) (hj : ¬ j < 0) (hv : vs[j.toNatClampNeg]? = some v) (hr : Go p l e R s m args below meth c n0 F h k n pc' Ls (v :: st)) : Go p l e R s m args below meth c n0 F h k n pc Ls (.int j :: .ref a :: st) := by
  obtain ⟨cl, A, rfl, -⟩ := A; subst hp; rw [Array.getElem?_toList] at hv; exact Go.pl (fun T locs X eT t q => X.baloadBytes C.1 (by rw [eT]; exact A.1) (State.isArrayOf_alike C.2.1.alike A.2.1) A.2.2 (own_in hj hv) hv (g := mkF m pc Ls (.int j :: .ref a :: st)) rfl rfl (hb C.2.2.2.1 hd) t q) hr
theorem Cx.zaload (C : Cx p s m meth c Z n0 own bc maxL ret nm) {a : Addr} {vs : List Value} {j : Int32} (v : Value) (hd : decode bc pc = .ok (.baload, 1)) (hp : pc + 1 = pc') (A : Av Z h a .boolean vs) (hj : ¬ j < 0) (hv : vs[j.toNatClampNeg]? = some v) (hr : Go p l e R s m args below meth c n0 F h k n pc' Ls (v :: st)) : Go p l e R s m args below meth c n0 F h k n pc Ls (.int j :: .ref a :: st) := by
  obtain ⟨cl, A, rfl, -⟩ := A; subst hp; rw [Array.getElem?_toList] at hv; exact Go.pl (fun T locs X eT t q => X.baloadBooleans C.1 (by rw [eT]; exact A.1) (State.isArrayOf_alike C.2.1.alike A.2.1) A.2.2 (own_in hj hv) hv (g := mkF m pc Ls (.int j :: .ref a :: st)) rfl rfl (hb C.2.2.2.1 hd) t q) hr
theorem Cx.iastore (C : Cx p s m meth c Z n0 own bc maxL ret nm) {a : Addr} {vs : List Value} {j : Int32} {x : Int32} (hd : decode bc pc = .ok (.iastore, 1)) (hp : pc + 1 = pc') (A : Av Z h a .int vs) (ha : n0 ≤ a) (hj : ¬ j < 0) (hl : j.toNatClampNeg < vs.length) (hr : ∀ h', Wr h h' a j.toNatClampNeg (.int x) → Av Z h' a .int (vs.set j.toNatClampNeg (.int x)) → Go p l e R s m args below meth c n0 F h' k n pc' Ls st) : Go p l e R s m args below meth c n0 F h k n pc Ls (.int x :: .int j :: .ref a :: st) := by
  intro T locs X eT N; have A0 := A; obtain ⟨cl, A, rfl, -⟩ := A; subst hp; rw [Array.length_toList] at hl
  obtain ⟨T', h', X', e', W, stp⟩ := stI X C.1 C.2.1 eT A (own_in2 hj hl) (g := mkF m pc Ls (.int x :: .int j :: .ref a :: st)) rfl rfl (hb C.2.2.2.1 hd)
  obtain ⟨s₂, o, q1, q2⟩ := hr h' W (A0.same W rfl) T' _ X' e' (Fr.snoc X' N ha)
  exact ⟨s₂, o, stp _ q1, q2⟩
theorem Cx.lastore (C : Cx p s m meth c Z n0 own bc maxL ret nm) {a : Addr} {vs : List Value} {j : Int32} {x : Int64} (hd : decode bc pc = .ok (.lastore, 1)) (hp : pc + 1 = pc') (A : Av Z h a .long vs) (ha : n0 ≤ a) (hj : ¬ j < 0) (hl : j.toNatClampNeg < vs.length) (hr : ∀ h', Wr h h' a j.toNatClampNeg (.long x) → Av Z h' a .long (vs.set j.toNatClampNeg (.long x)) → Go p l e R s m args below meth c n0 F h' k n pc' Ls st) : Go p l e R s m args below meth c n0 F h k n pc Ls (.long x :: .int j :: .ref a :: st) := by
  intro T locs X eT N; have A0 := A; obtain ⟨cl, A, rfl, -⟩ := A; subst hp; rw [Array.length_toList] at hl
  obtain ⟨T', h', X', e', W, stp⟩ := stJ X C.1 C.2.1 eT A (own_in2 hj hl) (g := mkF m pc Ls (.long x :: .int j :: .ref a :: st)) rfl rfl (hb C.2.2.2.1 hd)
  obtain ⟨s₂, o, q1, q2⟩ := hr h' W (A0.same W rfl) T' _ X' e' (Fr.snoc X' N ha)
  exact ⟨s₂, o, stp _ q1, q2⟩
theorem Cx.castore (C : Cx p s m meth c Z n0 own bc maxL ret nm) {a : Addr} {vs : List Value} {j : Int32} {x : Int32} (hd : decode bc pc = .ok (.castore, 1)) (hp : pc + 1 = pc') (A : Av Z h a .char vs) (ha : n0 ≤ a) (hj : ¬ j < 0) (hl : j.toNatClampNeg < vs.length) (hr : ∀ h', Wr h h' a j.toNatClampNeg (.int (nar .char x)) → Av Z h' a .char (vs.set j.toNatClampNeg (.int (nar .char x))) → Go p l e R s m args below meth c n0 F h' k n pc' Ls st) : Go p l e R s m args below meth c n0 F h k n pc Ls (.int x :: .int j :: .ref a :: st) := by
  intro T locs X eT N; have A0 := A; obtain ⟨cl, A, rfl, -⟩ := A; subst hp; rw [Array.length_toList] at hl
  obtain ⟨T', h', X', e', W, stp⟩ := stC X C.1 C.2.1 eT A (own_in2 hj hl) (g := mkF m pc Ls (.int x :: .int j :: .ref a :: st)) rfl rfl (hb C.2.2.2.1 hd)
  obtain ⟨s₂, o, q1, q2⟩ := hr h' W (A0.same W (fits_nar_char x)) T' _ X' e' (Fr.snoc X' N ha)
  exact ⟨s₂, o, stp _ q1, q2⟩
theorem Cx.bastore (C : Cx p s m meth c Z n0 own bc maxL ret nm) {a : Addr} {vs : List Value} {j : Int32} {x : Int32} (hd : decode bc pc = .ok (.bastore, 1)) (hp : pc + 1 = pc') (A : Av Z h a .byte vs) (ha : n0 ≤ a) (hj : ¬ j < 0) (hl : j.toNatClampNeg < vs.length) (hr : ∀ h', Wr h h' a j.toNatClampNeg (.int (nar .byte x)) → Av Z h' a .byte (vs.set j.toNatClampNeg (.int (nar .byte x))) → Go p l e R s m args below meth c n0 F h' k n pc' Ls st) : Go p l e R s m args below meth c n0 F h k n pc Ls (.int x :: .int j :: .ref a :: st) := by
  intro T locs X eT N; have A0 := A; obtain ⟨cl, A, rfl, -⟩ := A; subst hp; rw [Array.length_toList] at hl
  obtain ⟨T', h', X', e', W, stp⟩ := stB X C.1 C.2.1 eT A (own_in2 hj hl) (g := mkF m pc Ls (.int x :: .int j :: .ref a :: st)) rfl rfl (hb C.2.2.2.1 hd)
  obtain ⟨s₂, o, q1, q2⟩ := hr h' W (A0.same W (fits_nar_byte x)) T' _ X' e' (Fr.snoc X' N ha)
  exact ⟨s₂, o, stp _ q1, q2⟩
theorem Cx.zastore (C : Cx p s m meth c Z n0 own bc maxL ret nm) {a : Addr} {vs : List Value} {j : Int32} {x : Int32} (hd : decode bc pc = .ok (.bastore, 1)) (hp : pc + 1 = pc') (A : Av Z h a .boolean vs) (ha : n0 ≤ a) (hj : ¬ j < 0) (hl : j.toNatClampNeg < vs.length) (hr : ∀ h', Wr h h' a j.toNatClampNeg (.int (nar .boolean x)) → Av Z h' a .boolean (vs.set j.toNatClampNeg (.int (nar .boolean x))) → Go p l e R s m args below meth c n0 F h' k n pc' Ls st) : Go p l e R s m args below meth c n0 F h k n pc Ls (.int x :: .int j :: .ref a :: st) := by
  intro T locs X eT N; have A0 := A; obtain ⟨cl, A, rfl, -⟩ := A; subst hp; rw [Array.length_toList] at hl
  obtain ⟨T', h', X', e', W, stp⟩ := stZ X C.1 C.2.1 eT A (own_in2 hj hl) (g := mkF m pc Ls (.int x :: .int j :: .ref a :: st)) rfl rfl (hb C.2.2.2.1 hd)
  obtain ⟨s₂, o, q1, q2⟩ := hr h' W (A0.same W (fits_nar_bool x)) T' _ X' e' (Fr.snoc X' N ha)
  exact ⟨s₂, o, stp _ q1, q2⟩
theorem Cx.new (C : Cx p s m meth c Z n0 own bc maxL ret nm) {cls : String} {j nn : Nat} (hd : decode bc pc = .ok (.new j, 3)) (hp : pc + 3 = pc') (w1 : (Jvm.Cond.classLink own j cls).before a0 Z = true) (w2 : (Jvm.Cond.instantiable cls nn).before a0 Z = true) (w3 : (Jvm.Cond.initialized cls).before a0 Z = true) (hk : k + 1 ≤ R.cells) (hn : n + nn ≤ R.slots)
    (hr : ∀ (a : Addr) (h' : Heap), a = h.size → n0 ≤ a → Ext h h' → Exa Z h' a cls → (∀ {O f d : String} {ty : FieldType}, Laid Z a0 cls O f d → parseFieldDescriptor d = some ty → Fld Z h' a O f d (defaultValue ty)) → Go p l e R s m args below meth c n0 F h' (k + 1) (n + nn) pc' Ls (.ref a :: st)) : Go p l e R s m args below meth c n0 F h k n pc Ls st := by
  intro T locs X eT N
  subst hp
  obtain ⟨T', h', X', e', E', A', D', -, stp⟩ := newO X C.1 C.2.1 C.2.2.1 w1 w2 w3 eT (g := mkF m pc Ls st) rfl (hb C.2.2.2.1 hd) hk hn
  obtain ⟨s₂, o, q1, q2⟩ := hr h.size h' rfl (by rw [← eT]; exact C.size X) E' A' D' T' _ X' e' N
  exact ⟨s₂, o, stp _ q1, q2⟩
theorem Cx.newarr (C : Cx p s m meth c Z n0 own bc maxL ret nm) {aty : ArrayType} {ty : FieldType} {z : Int32} (cap : Nat) (hd : decode bc pc = .ok (.newarray aty, 2)) (hp : pc + 2 = pc') (hty : newarray.typeOf aty = ty) (w : (Jvm.Cond.arrayClass ty).before a0 Z = true) (hz : ¬ z < 0) (hcap : z.toNatClampNeg ≤ cap) (hb8 : cap * 8 ≤ 536870912) (hk : k + 1 ≤ R.cells) (hn : n + cap ≤ R.slots)
    (hr : ∀ (a : Addr) (h' : Heap), a = h.size → n0 ≤ a → Ext h h' → Av Z h' a ty (List.replicate z.toNatClampNeg (defaultValue ty)) → Go p l e R s m args below meth c n0 F h' (k + 1) (n + cap) pc' Ls (.ref a :: st)) : Go p l e R s m args below meth c n0 F h k n pc Ls (.int z :: st) := by
  intro T locs X eT N
  subst hp hty
  obtain ⟨T', h', cA, X', e', E', A', stp⟩ := newP X C.1 C.2.1 w eT (g := mkF m pc Ls (.int z :: st)) rfl (hb C.2.2.2.1 hd) rfl hz hcap hb8 hk hn
  obtain ⟨s₂, o, q1, q2⟩ := hr h.size h' rfl (by rw [← eT]; exact C.size X) E' (Av.new A') T' _ X' e' N
  exact ⟨s₂, o, stp _ q1, q2⟩
theorem Cx.initO (C : Cx p s m meth c Z n0 own bc maxL ret nm) {j : Nat} {a : Addr} (W : Nat) (hd : decode bc pc = .ok (.invokespecial j, 3)) (hp : pc + 3 = pc') (w1 : (Jvm.Cond.methodLink own j Lib.objectInit).before a0 Z = true) (w2 : (Jvm.Cond.instanceMethod Lib.objectInit).before a0 Z = true) (w3 : (Jvm.Cond.code Lib.objectInit ⟨#[0xb1]⟩ 1 none).before a0 Z = true) (hsz : Ls.size = maxL) (hf : 1 ≤ R.frames) (hW : (st.map fun v => v.category).sum ≤ W) (hl : W + 12 ≤ R.locals)
    (hr : Go p l e R s m args below meth c n0 F h k n pc' Ls st) : Go p l e R s m args below meth c n0 F h k n pc Ls (.ref a :: st) := by
  intro T locs X eT N
  subst hp
  obtain ⟨T', X', e', stp⟩ := RoadKit.initO X C.1 C.2.1 C.2.2.1 w1 w2 w3 eT (g := mkF m pc Ls (.ref a :: st)) rfl (hsz.trans C.2.2.2.2.1.symm) rfl (hb C.2.2.2.1 hd) hf (W := W) (by show 2 * 0 + _ ≤ W; omega) hl
  obtain ⟨s₂, o, q1, q2⟩ := hr T' _ X' e' N
  exact ⟨s₂, o, stp _ q1, q2⟩
theorem Cx.getF (C : Cx p s m meth c Z n0 own bc maxL ret nm) {O f d : String} {j : Nat} {a : Addr} {v : Value} (hd : decode bc pc = .ok (.getfield j, 3)) (hp : pc + 3 = pc') (w : (Jvm.Cond.fieldLink own j O f d).before a0 Z = true) (F' : Fld Z h a O f d v)
    (hr : Go p l e R s m args below meth c n0 F h k n pc' Ls (v :: st)) : Go p l e R s m args below meth c n0 F h k n pc Ls (.ref a :: st) := by
  intro T locs X eT N
  subst hp
  obtain ⟨T', X', e', stp⟩ := RoadKit.getF X C.1 C.2.1 C.2.2.1 (host := "") (Or.inl w) Via.refl eT F' (g := mkF m pc Ls (.ref a :: st)) rfl rfl (hb C.2.2.2.1 hd)
  obtain ⟨s₂, o, q1, q2⟩ := hr T' _ X' e' N
  exact ⟨s₂, o, stp _ q1, q2⟩
theorem Cx.putF (C : Cx p s m meth c Z n0 own bc maxL ret nm) {O f d cls : String} {j kk : Nat} {ty : FieldType} {a : Addr} {v old : Value} (hd : decode bc pc = .ok (.putfield j, 3)) (hp : pc + 3 = pc') (w : (Jvm.Cond.fieldLink own j O f d).before a0 Z = true) (F' : Fld Z h a O f d old) (E : Exa Z h a cls)
    (L : (Jvm.Cond.lays cls O f d).before a0 Z = true ∨ ((Jvm.Cond.laysFinal cls O f d).before a0 Z = true ∧ own = O ∧ nm = "<init>")) (wi : (Jvm.Cond.instantiable cls kk).before a0 Z = true) (hty : parseFieldDescriptor d = some ty) (hnr : narrow ty v = v) (hf : fits ty v = true) (ha : n0 ≤ a)
    (hr : ∀ h', Wr h h' a (Jvm.RoadKit.slotOf Z O f d) v → Fld Z h' a O f d v → Go p l e R s m args below meth c n0 F h' k n pc' Ls st) : Go p l e R s m args below meth c n0 F h k n pc Ls (v :: .ref a :: st) := by
  intro T locs X eT N
  subst hp
  obtain ⟨T', h', X', e', W, stp⟩ := RoadKit.putF X C.1 C.2.1 C.2.2.1 (host := "") (Or.inl w) Via.refl eT F' E (L.imp id fun q => ⟨q.1, q.2.1, C.2.2.2.2.2.2.1.trans q.2.2⟩) wi hty hnr hf (g := mkF m pc Ls (v :: .ref a :: st)) rfl rfl (hb C.2.2.2.1 hd)
  obtain ⟨s₂, o, q1, q2⟩ := hr h' W (F'.same W) T' _ X' e' (Fr.snoc X' N ha)
  exact ⟨s₂, o, stp _ q1, q2⟩
/-! the end of a body -/
theorem Cx.ret0 {Q : Option Value → Heap → Prop} {ck cs : Nat} (C : Cx p s m meth c Z n0 own bc maxL none nm) (hd : decode bc pc = .ok (.return_, 1)) (hk : k ≤ ck) (hn : n ≤ cs) (hq : Q none h) : Go p l e R s m args below meth c n0 (FinQ s n0 Q ck cs) h k n pc Ls [] := by
  intro T locs X eT N
  have hlk := C.2.2.2.2.2.2.2.1
  obtain ⟨fs, hr, hrun, hended, hW, hsame⟩ := X.leave (v := none) (fun _ => rfl) hlk
  exact ⟨_, _, X.returnOut C.1 C.2.2.2.2.2.1 (hb C.2.2.2.1 hd) hr, hrun, hended, _, _, rfl, ⟨by show Q none T.heap; rw [eT]; exact hq, N⟩, ⟨_, rfl⟩, hW, hsame.mono hk hn⟩
theorem Cx.retW {Q : Option Value → Heap → Prop} {ck cs : Nat} {t : FieldType} {w : Value} {i : Instr} (C : Cx p s m meth c Z n0 own bc maxL (some t) nm) (hd : decode bc pc = .ok (i, 1)) (hnr : narrow t w = w)
    (hi : (i = .ireturn ∧ (t = .int ∨ t = .boolean ∨ t = .byte ∨ t = .char ∨ t = .short) ∧ ∃ z, w = .int z) ∨ (i = .lreturn ∧ t = .long ∧ ∃ z, w = .long z) ∨ (i = .dreturn ∧ t = .double ∧ ∃ z, w = .double z) ∨ (i = .freturn ∧ t = .float ∧ ∃ z, w = .float z) ∨ (i = .areturn ∧ t.isReference = true ∧ w.isRef = true))
    (hk : k ≤ ck) (hn : n ≤ cs) (hq : Q (some w) h) : Go p l e R s m args below meth c n0 (FinQ s n0 Q ck cs) h k n pc Ls (w :: st) := by
  intro T locs X eT N
  have hlk := C.2.2.2.2.2.2.2.1
  have hrt := C.2.2.2.2.2.1
  obtain ⟨fs, hr, hrun, hended, hW, hsame⟩ := X.leave (v := some w) (fun q => by rw [hrt] at q; cases q) hlk
  exact ⟨_, _, retOut X C.1 hrt hnr hi (hb C.2.2.2.1 hd) hr, hrun, hended, _, _, rfl, ⟨by show Q (some w) T.heap; rw [eT]; exact hq, N⟩, ⟨_, rfl⟩, hW, hsame.mono hk hn⟩
theorem Cx.retI {Q : Option Value → Heap → Prop} {ck cs : Nat} {z : Int32} (C : Cx p s m meth c Z n0 own bc maxL (some .int) nm) (hd : decode bc pc = .ok (.ireturn, 1)) (hk : k ≤ ck) (hn : n ≤ cs) (hq : Q (some (.int z)) h) : Go p l e R s m args below meth c n0 (FinQ s n0 Q ck cs) h k n pc Ls (.int z :: st) :=
  C.retW hd rfl (Or.inl ⟨rfl, Or.inl rfl, z, rfl⟩) hk hn hq
theorem Cx.retZ {Q : Option Value → Heap → Prop} {ck cs : Nat} {z : Int32} (C : Cx p s m meth c Z n0 own bc maxL (some .boolean) nm) (hd : decode bc pc = .ok (.ireturn, 1)) (hz : narrow .boolean (.int z) = .int z) (hk : k ≤ ck) (hn : n ≤ cs) (hq : Q (some (.int z)) h) : Go p l e R s m args below meth c n0 (FinQ s n0 Q ck cs) h k n pc Ls (.int z :: st) :=
  C.retW hd hz (Or.inl ⟨rfl, Or.inr (Or.inl rfl), z, rfl⟩) hk hn hq
theorem Cx.retC {Q : Option Value → Heap → Prop} {ck cs : Nat} {z : Int32} (C : Cx p s m meth c Z n0 own bc maxL (some .char) nm) (hd : decode bc pc = .ok (.ireturn, 1)) (hz : narrow .char (.int z) = .int z) (hk : k ≤ ck) (hn : n ≤ cs) (hq : Q (some (.int z)) h) : Go p l e R s m args below meth c n0 (FinQ s n0 Q ck cs) h k n pc Ls (.int z :: st) :=
  C.retW hd hz (Or.inl ⟨rfl, Or.inr (Or.inr (Or.inr (Or.inl rfl))), z, rfl⟩) hk hn hq
theorem Cx.retJ {Q : Option Value → Heap → Prop} {ck cs : Nat} {z : Int64} (C : Cx p s m meth c Z n0 own bc maxL (some .long) nm) (hd : decode bc pc = .ok (.lreturn, 1)) (hk : k ≤ ck) (hn : n ≤ cs) (hq : Q (some (.long z)) h) : Go p l e R s m args below meth c n0 (FinQ s n0 Q ck cs) h k n pc Ls (.long z :: st) :=
  C.retW hd rfl (Or.inr (Or.inl ⟨rfl, rfl, z, rfl⟩)) hk hn hq
theorem Cx.retA {Q : Option Value → Heap → Prop} {ck cs : Nat} {t : FieldType} {a : Addr} (C : Cx p s m meth c Z n0 own bc maxL (some t) nm) (hd : decode bc pc = .ok (.areturn, 1)) (ht : t.isReference = true) (hnr : narrow t (.ref a) = .ref a) (hk : k ≤ ck) (hn : n ≤ cs) (hq : Q (some (.ref a)) h) : Go p l e R s m args below meth c n0 (FinQ s n0 Q ck cs) h k n pc Ls (.ref a :: st) :=
  C.retW hd hnr (Or.inr (Or.inr (Or.inr (Or.inr ⟨rfl, ht, rfl⟩)))) hk hn hq
/-! a body's contract out of its walk -/
theorem Con.of {ws : List Jvm.Cond} {y : MethodName} {as : Array Value} {h0 : Heap} {Q : Option Value → Heap → Prop} (hn : plainFor y = true) (ef : ∀ m, entryFrame m as maxL = mkF m 0 Ls []) (hn0 : n0 ≤ h0.size)
    (body : ∀ p e s m below meth c, Cx p s m meth c Z n0 y.cls bc maxL ret y.name → Go p l e R s m as below meth c n0 (FinQ s n0 Q R.cells R.slots) h0 0 0 0 Ls []) : Con l Z n0 ws y bc maxL ret R as h0 Q := by
  refine MetFree.of_bodySF hn hisR ?_
  intro p e s m args below meth c s₁ Bd hml0 hP hK
  obtain ⟨rfl, hZ, hh⟩ := hP
  have e0 : s₁.heap = h0 := by rw [← hh, Bd.state]; rfl
  have X0 : Stand p l e R s m args below meth c s₁ [] 0 0 := Stand.of_body Bd
  obtain ⟨s₂, o, q1, q2, q3, q4⟩ := body p e s m below meth c ⟨Bd.exec, hZ, findClass_of_methodNamed Bd.named, Bd.bytes, hml0, Bd.returns, (name_of_methodNamed Bd.named Bd.method).1, Bd.notSynchronized, by rw [hh]; exact hn0⟩ s₁ [] X0 e0 (Fr.nil n0)
  exact ⟨s₂, o, castTop (ef m) q1, q2, q3, q4⟩
theorem Con.imp {ws : List Jvm.Cond} {y : MethodName} {as : Array Value} {h0 : Heap} {Q Q' : Option Value → Heap → Prop} (H : Con l Z n0 ws y bc maxL ret R as h0 Q) (q : ∀ v h, Q v h → Q' v h) : Con l Z n0 ws y bc maxL ret R as h0 Q' := by
  intro p e ha hc hk s m args below hf happ hP hK
  obtain ⟨n, o, h1, h2, h3, v, L, r1, ⟨r2, r3⟩, r4⟩ := H p e ha hc hk s m args below hf happ hP hK
  exact ⟨n, o, h1, h2, h3, v, L, r1, ⟨q _ _ r2, r3⟩, r4⟩
/-! calls by contract -/
theorem Cx.callS (C : Cx p s m meth c Z n0 own bc maxL ret nm) {y : MethodName} {bc' : ByteArray} {maxL' j : Nat} {ret' : Option FieldType} {R' : Room} {argsL rest : List Value} {Q : Option Value → Heap → Prop} (W : Nat) (hC : n0 ≤ h.size → Con l Z n0 [] y bc' maxL' ret' R' argsL.toArray h Q) (hd : decode bc pc = .ok (.invokestatic j, 3)) (hp : pc + 3 = pc')
    (w1 : (Jvm.Cond.methodLink own j y).before a0 Z = true) (w2 : (Jvm.Cond.static y).before a0 Z = true) (w3 : (Jvm.Cond.initialized y.cls).before a0 Z = true) (w4 : (Jvm.Cond.code y bc' maxL' ret').before a0 Z = true) (hy : y.cls ≠ "java/lang/invoke/MethodHandle" ∧ y.cls ≠ "java/lang/invoke/VarHandle") {ps : List FieldType} {r : Option FieldType} (hpd : parseMethodDescriptor y.desc = some ⟨ps, r⟩) (hlen : argsL.length = ps.length)
    (hst : st = argsL.reverse ++ rest) (hsz : Ls.size = maxL) (hW : (rest.map fun v => v.category).sum ≤ W) (hf : R'.frames + 1 ≤ R.frames) (hl : W + (maxL' + 11) + R'.locals ≤ R.locals) (hk : k + R'.cells ≤ R.cells) (hn : n + R'.slots ≤ R.slots)
    (hr : ∀ v h', Q v h' → Go p l e R s m args below meth c n0 F h' (k + R'.cells) (n + R'.slots) pc' Ls (v.toList ++ rest)) : Go p l e R s m args below meth c n0 F h k n pc Ls st := by
  intro T locs X eT N
  subst hp hst
  obtain ⟨v, _, ⟨T', L', k', n'⟩, -, X', ⟨Lc, hQ, l1, y1, z1⟩, stp⟩ := Jvm.LawKit.callS X C.1 (y := y) C.2.2.1 (mvT C.2.1 w1) (mvT C.2.1 w2) (mvT C.2.1 w3) (mvT C.2.1 w4) hy (backOf (Z := Z) (h := h) (bytes := bc') (maxL := maxL') (ret := ret') (rm := R') (as' := argsL.toArray) (Q := fun v h' L => Q v h' ∧ Fr n0 L) (W := W) (hC (by rw [← eT]; exact C.size X)) C.2.1 w4 w3 hf hl) (g := mkF m pc Ls (argsL.reverse ++ rest)) rfl (hsz.trans C.2.2.2.2.1.symm) (argsL := argsL) (rest := rest) (lenOf hpd hlen) rfl (by show 2 * 0 + _ ≤ W; omega) (hb C.2.2.2.1 hd) (fun _ _ => ⟨rfl, eT, hk, hn⟩)
  dsimp only [Pt.U, Pt.locs, Pt.cells, Pt.slots] at X' l1 y1 z1 stp hQ
  subst l1 y1 z1
  obtain ⟨s₂, o, q1, q2⟩ := hr v T'.heap hQ.1 T' _ X' rfl (Fr.app N hQ.2)
  exact ⟨s₂, o, stp _ q1, q2⟩
theorem Cx.callN (C : Cx p s m meth c Z n0 own bc maxL ret nm) {y : MethodName} {bc' : ByteArray} {maxL' j : Nat} {R' : Room} {a : Addr} {argsL rest : List Value} {Q : Option Value → Heap → Prop} (W : Nat) (hC : n0 ≤ h.size → Con l Z n0 [] y bc' maxL' none R' (.ref a :: argsL).toArray h Q) (hd : decode bc pc = .ok (.invokespecial j, 3)) (hp : pc + 3 = pc') (hy1 : y.name = "<init>")
    (w1 : (Jvm.Cond.methodLink own j y).before a0 Z = true) (w2 : (Jvm.Cond.instanceMethod y).before a0 Z = true) (w3 : (Jvm.Cond.initialized y.cls).before a0 Z = true) (w4 : (Jvm.Cond.code y bc' maxL' none).before a0 Z = true) (hy : y.cls ≠ "java/lang/invoke/MethodHandle" ∧ y.cls ≠ "java/lang/invoke/VarHandle") {ps : List FieldType} {r : Option FieldType} (hpd : parseMethodDescriptor y.desc = some ⟨ps, r⟩) (hlen : argsL.length = ps.length)
    (hst : st = argsL.reverse ++ .ref a :: rest) (hsz : Ls.size = maxL) (hW : (rest.map fun v => v.category).sum ≤ W) (hf : R'.frames + 1 ≤ R.frames) (hl : W + (maxL' + 11) + R'.locals ≤ R.locals) (hk : k + R'.cells ≤ R.cells) (hn : n + R'.slots ≤ R.slots)
    (hr : ∀ v h', Q v h' → Go p l e R s m args below meth c n0 F h' (k + R'.cells) (n + R'.slots) pc' Ls (v.toList ++ rest)) : Go p l e R s m args below meth c n0 F h k n pc Ls st := by
  intro T locs X eT N
  subst hp hst
  obtain ⟨v, _, ⟨T', L', k', n'⟩, -, X', ⟨Lc, hQ, l1, y1, z1⟩, stp⟩ := X.specialBack C.1 (y := y) hy1 C.2.2.1 (mvT C.2.1 w1) (mvT C.2.1 w2) (mvT C.2.1 w4) hy (backOf (Z := Z) (h := h) (bytes := bc') (maxL := maxL') (ret := none) (rm := R') (as' := (Value.ref a :: argsL).toArray) (Q := fun v h' L => Q v h' ∧ Fr n0 L) (W := W) (hC (by rw [← eT]; exact C.size X)) C.2.1 w4 w3 hf hl) (g := mkF m pc Ls (argsL.reverse ++ .ref a :: rest)) rfl (hsz.trans C.2.2.2.2.1.symm) (Steps.refl _) (a := a) (argsL := argsL) (rest := rest) (lenOf hpd hlen) rfl (by show 2 * 0 + _ ≤ W; omega) (hb C.2.2.2.1 hd) (fun _ _ => ⟨rfl, eT, hk, hn⟩)
  dsimp only [Pt.U, Pt.locs, Pt.cells, Pt.slots] at X' l1 y1 z1 stp hQ
  subst l1 y1 z1
  obtain ⟨s₂, o, q1, q2⟩ := hr v T'.heap hQ.1 T' _ X' rfl (Fr.app N hQ.2)
  exact ⟨s₂, o, stp.trans q1, q2⟩
theorem Cx.callV (C : Cx p s m meth c Z n0 own bc maxL ret nm) {y : MethodName} {cls : String} {bc' : ByteArray} {maxL' j : Nat} {ret' : Option FieldType} {R' : Room} {a : Addr} {argsL rest : List Value} {Q : Option Value → Heap → Prop} (W : Nat) (hC : n0 ≤ h.size → Con l Z n0 [] y bc' maxL' ret' R' (.ref a :: argsL).toArray h Q) (E : Exa Z h a cls) (hd : decode bc pc = .ok (.invokevirtual j, 3)) (hp : pc + 3 = pc')
    (w1 : (Jvm.Cond.methodLink own j y).before a0 Z = true) (w2 : (Jvm.Cond.declares y).before a0 Z = true) (w3 : (Jvm.Cond.instanceMethod y).before a0 Z = true) (w4 : (Jvm.Cond.selects cls y y).before a0 Z = true) (w5 : (Jvm.Cond.initialized y.cls).before a0 Z = true) (w6 : (Jvm.Cond.code y bc' maxL' ret').before a0 Z = true) (hy : y.cls ≠ "java/lang/invoke/MethodHandle" ∧ y.cls ≠ "java/lang/invoke/VarHandle") {ps : List FieldType} {r : Option FieldType} (hpd : parseMethodDescriptor y.desc = some ⟨ps, r⟩) (hlen : argsL.length = ps.length)
    (hst : st = argsL.reverse ++ .ref a :: rest) (hsz : Ls.size = maxL) (hW : (rest.map fun v => v.category).sum ≤ W) (hf : R'.frames + 1 ≤ R.frames) (hl : W + (maxL' + 11) + R'.locals ≤ R.locals) (hk : k + R'.cells ≤ R.cells) (hn : n + R'.slots ≤ R.slots)
    (hr : ∀ v h', Q v h' → Go p l e R s m args below meth c n0 F h' (k + R'.cells) (n + R'.slots) pc' Ls (v.toList ++ rest)) : Go p l e R s m args below meth c n0 F h k n pc Ls st := by
  intro T locs X eT N
  subst hp hst
  obtain ⟨cq, kq, qa, qb, qc⟩ := isOf (T := T) C.2.1 eT E
  obtain ⟨v, _, ⟨T', L', k', n'⟩, -, X', ⟨Lc, hQ, l1, y1, z1⟩, stp⟩ := X.virtualBack C.1 (y := y) (z := y) C.2.2.1 (mvT C.2.1 w1) (mvT C.2.1 w2) (notFace_of_selects (args := #[]) (mvT C.2.1 w4)) (mvT C.2.1 w4) (mvT C.2.1 w3) hy (backOf (Z := Z) (h := h) (bytes := bc') (maxL := maxL') (ret := ret') (rm := R') (as' := (Value.ref a :: argsL).toArray) (Q := fun v h' L => Q v h' ∧ Fr n0 L) (W := W) (hC (by rw [← eT]; exact C.size X)) C.2.1 w6 w5 hf hl) qa qc (g := mkF m pc Ls (argsL.reverse ++ .ref a :: rest)) rfl (hsz.trans C.2.2.2.2.1.symm) (Steps.refl _) (argsL := argsL) (rest := rest) (lenOf hpd hlen) rfl (by show 2 * 0 + _ ≤ W; omega) (hb C.2.2.2.1 hd) (fun _ _ => ⟨rfl, eT, hk, hn⟩)
  dsimp only [Pt.U, Pt.locs, Pt.cells, Pt.slots] at X' l1 y1 z1 stp hQ
  subst l1 y1 z1
  obtain ⟨s₂, o, q1, q2⟩ := hr v T'.heap hQ.1 T' _ X' rfl (Fr.app N hQ.2)
  exact ⟨s₂, o, stp.trans q1, q2⟩
end Own
theorem own_or_l {a b : Int64} (q : ¬ a = 0) : ¬ a ||| b = 0 := fun e => q (by
  have f := congrArg Int64.toBitVec e
  rw [Int64.toBitVec_or] at f
  exact Int64.toBitVec_inj.1 (BitVec.or_eq_zero_iff.mp f).1)
theorem own_or_r {a b : Int64} (q : ¬ b = 0) : ¬ a ||| b = 0 := fun e => q (by
  have f := congrArg Int64.toBitVec e
  rw [Int64.toBitVec_or] at f
  exact Int64.toBitVec_inj.1 (BitVec.or_eq_zero_iff.mp f).2)
section OwnArr
variable {p : Program} {l : Launch} {e : Env} {R : Room} {s : State} {m : MethodId} {args : Array Value} {below : List Frame} {meth : Method} {c : Code} {n0 : Nat} {F : State → Outcome → Prop} {h : Heap} {k n pc pc' : Nat} {Ls : Array Slot} {st : List Value} {Z : State} {own : String} {bc : ByteArray} {maxL : Nat} {ret : Option FieldType} {nm : String} {a0 : Array Value}
theorem own_clamp {j : Nat} (q : j < 2 ^ 31) : j.toInt32.toNatClampNeg = j ∧ ¬ j.toInt32 < 0 := by
  have e := len_toInt q
  constructor
  · simp only [Int32.toNatClampNeg, e]; omega
  · rw [Int32.lt_iff_toInt_lt, e]; simp only [Int32.reduceToInt]; omega
theorem Av.arv {a : Addr} {ty : FieldType} {vs : List Value} (A : Av Z h a ty vs) (q : vs.length < 2 ^ 31) (dv : Value) : ∃ kc, Arv Z h a kc ty vs.length.toInt32 vs dv := by
  obtain ⟨cl, A, rfl, r⟩ := A
  obtain ⟨e1, e2⟩ := own_clamp q
  rw [Array.length_toList] at q e1 e2 ⊢
  refine ⟨cl.cls, cl, A, rfl, e1.symm, e2, fun i hi => ?_, fun i hi => ?_⟩
  · simp [List.getD_eq_getElem?_getD, hi]
  · have : cl.slots.toList.getD i dv = cl.slots[i] := by simp [List.getD_eq_getElem?_getD, hi]
    rw [this]; exact r _ (by simp)
theorem Arv.av {a : Addr} {kc : ClassId} {ty : FieldType} {z : Int32} {vs : List Value} {dv : Value} (A : Arv Z h a kc ty z vs dv) (q : z.toNatClampNeg = vs.length) : Av Z h a ty vs := by
  obtain ⟨cl, A, -, S, -, H, G⟩ := A
  have e : cl.slots.toList = vs := by
    apply List.ext_getElem?
    intro i
    by_cases hi : i < cl.slots.size
    · have := H i hi
      rw [Array.getElem?_toList, this]
      have h2 : i < vs.length := by omega
      simp [List.getD_eq_getElem?_getD, h2]
    · rw [List.getElem?_eq_none (by simpa using hi), List.getElem?_eq_none (by omega)]
  refine ⟨cl, A, e, fun v hv => ?_⟩
  obtain ⟨i, hi, rfl⟩ := List.getElem_of_mem hv
  have := G i (by omega)
  simpa [List.getD_eq_getElem?_getD, hi] using this
theorem own_range (vs : List Value) (sp nn : Nat) (q : sp + nn ≤ vs.length) (d : Value) : (List.range nn).map (fun i => vs.getD (sp + i) d) = (vs.drop sp).take nn := by
  apply List.ext_getElem?
  intro i
  by_cases hi : i < nn
  · simp [hi, List.getElem?_take, List.getD_eq_getElem?_getD, show sp + i < vs.length by omega]
  · rw [List.getElem?_eq_none (by simpa using hi), List.getElem?_eq_none (by simp; omega)]
theorem Cx.acopy (C : Cx p s m meth c Z n0 own bc maxL ret nm) {j : Nat} {a b : Addr} {ty : FieldType} {sp dp nn : Int32} {vs vd : List Value} (W : Nat) (hd : decode bc pc = .ok (.invokestatic j, 3)) (hp : pc + 3 = pc') (w1 : (Jvm.Cond.methodLink own j Jvm.Stand.acN).before a0 Z = true) (w2 : (Jvm.Cond.native Jvm.Stand.acN).before a0 Z = true) (w3 : (Jvm.Cond.static Jvm.Stand.acN).before a0 Z = true) (w4 : (Jvm.Cond.initialized "java/lang/System").before a0 Z = true)
    (A : Av Z h a ty vs) (B : Av Z h b ty vd) (hty : refKind ty = false) (l1 : vs.length < 2 ^ 31) (l2 : vd.length < 2 ^ 31) (h1 : ¬ sp < 0) (h2 : ¬ dp < 0) (h3 : ¬ nn < 0) (h4 : sp.toNatClampNeg + nn.toNatClampNeg ≤ vs.length) (h5 : dp.toNatClampNeg + nn.toNatClampNeg ≤ vd.length) (ge : n0 ≤ b) (hsz : Ls.size = maxL) (hf : 1 ≤ R.frames) (hW : (st.map fun v => v.category).sum ≤ W) (hlo : W + (nativeFrameWords "java/lang/System" "arraycopy" 5 + 11) ≤ R.locals)
    (hr : ∀ h', Keep h h' [b] → Av Z h' b ty (vd.take dp.toNatClampNeg ++ (vs.drop sp.toNatClampNeg).take nn.toNatClampNeg ++ vd.drop (dp.toNatClampNeg + nn.toNatClampNeg)) → Go p l e R s m args below meth c n0 F h' k n pc' Ls st) : Go p l e R s m args below meth c n0 F h k n pc Ls (.int nn :: .int dp :: .ref b :: .int sp :: .ref a :: st) := by
  intro T locs X eT N
  subst hp
  obtain ⟨ka, A'⟩ := A.arv l1 (.int 0)
  obtain ⟨kb, B'⟩ := B.arv l2 (.int 0)
  have c1 := (own_clamp l1).1
  have c2 := (own_clamp l2).1
  obtain ⟨T', h', L', X', e', N', K', V', stp⟩ := cpA X C.1 C.2.1 C.2.2.1 w1 w2 w3 w4 eT A' B' (Or.inl ⟨rfl, hty⟩) h1 h2 h3 (by rw [c1]; exact h4) (by rw [c2]; exact h5) rfl h5 N ge (g := mkF m pc Ls (.int nn :: .int dp :: .ref b :: .int sp :: .ref a :: st)) rfl (hsz.trans C.2.2.2.2.1.symm) rfl (hb C.2.2.2.1 hd) hf (W := W) (by show 2 * 0 + _ ≤ W; omega) hlo
  rw [own_range vs _ _ h4] at V'
  have V2 := Arv.av V' (by rw [c2]; simp; omega)
  obtain ⟨s₂, o, q1, q2⟩ := hr h' K' V2 T' _ X' e' N'
  exact ⟨s₂, o, stp _ q1, q2⟩
end OwnArr
section OwnCalls
variable {p : Program} {l : Launch} {e : Env} {R : Room} {s : State} {m : MethodId} {args : Array Value} {below : List Frame} {meth : Method} {c : Code} {n0 : Nat} {F : State → Outcome → Prop} {h : Heap} {k n pc pc' : Nat} {Ls : Array Slot} {st : List Value} {Z : State} {own : String} {bc : ByteArray} {maxL : Nat} {ret : Option FieldType} {nm : String} {a0 : Array Value}
theorem Cx.callNN (C : Cx p s m meth c Z n0 own bc maxL ret nm) {y : MethodName} {host : String} {bc' : ByteArray} {maxL' j : Nat} {R' : Room} {a : Addr} {argsL rest : List Value} {Q : Option Value → Heap → Prop} (W : Nat) (hC : n0 ≤ h.size → Con l Z n0 [] y bc' maxL' none R' (.ref a :: argsL).toArray h Q) (hd : decode bc pc = .ok (.invokespecial j, 3)) (hp : pc + 3 = pc') (hy1 : y.name = "<init>")
    (w1 : (Jvm.Cond.methodLinkNest own j y host).before a0 Z = true) (w2 : (Jvm.Cond.instanceMethod y).before a0 Z = true) (w3 : (Jvm.Cond.initialized y.cls).before a0 Z = true) (w4 : (Jvm.Cond.code y bc' maxL' none).before a0 Z = true) (hy : y.cls ≠ "java/lang/invoke/MethodHandle" ∧ y.cls ≠ "java/lang/invoke/VarHandle") {ps : List FieldType} {r : Option FieldType} (hpd : parseMethodDescriptor y.desc = some ⟨ps, r⟩) (hlen : argsL.length = ps.length)
    (hst : st = argsL.reverse ++ .ref a :: rest) (hsz : Ls.size = maxL) (hW : (rest.map fun v => v.category).sum ≤ W) (hf : R'.frames + 1 ≤ R.frames) (hl : W + (maxL' + 11) + R'.locals ≤ R.locals) (hk : k + R'.cells ≤ R.cells) (hn : n + R'.slots ≤ R.slots)
    (hr : ∀ v h', Q v h' → Go p l e R s m args below meth c n0 F h' (k + R'.cells) (n + R'.slots) pc' Ls (v.toList ++ rest)) : Go p l e R s m args below meth c n0 F h k n pc Ls st := by
  intro T locs X eT N
  subst hp hst
  obtain ⟨v, _, ⟨T', L', k', n'⟩, -, X', ⟨Lc, hQ, l1, y1, z1⟩, stp⟩ := X.specialBackNest C.1 (y := y) hy1 C.2.2.1 (Cond.methodLinkNest_wide C.2.1 w1 :) (mvT C.2.1 w2) (mvT C.2.1 w4) hy (backOf (Z := Z) (h := h) (bytes := bc') (maxL := maxL') (ret := none) (rm := R') (as' := (Value.ref a :: argsL).toArray) (Q := fun v h' L => Q v h' ∧ Fr n0 L) (W := W) (hC (by rw [← eT]; exact C.size X)) C.2.1 w4 w3 hf hl) (g := mkF m pc Ls (argsL.reverse ++ .ref a :: rest)) rfl (hsz.trans C.2.2.2.2.1.symm) (Steps.refl _) (a := a) (argsL := argsL) (rest := rest) (lenOf hpd hlen) rfl (by show 2 * 0 + _ ≤ W; omega) (hb C.2.2.2.1 hd) (fun _ _ => ⟨rfl, eT, hk, hn⟩)
  dsimp only [Pt.U, Pt.locs, Pt.cells, Pt.slots] at X' l1 y1 z1 stp hQ
  subst l1 y1 z1
  obtain ⟨s₂, o, q1, q2⟩ := hr v T'.heap hQ.1 T' _ X' rfl (Fr.app N hQ.2)
  exact ⟨s₂, o, stp.trans q1, q2⟩
end OwnCalls
section OwnPriv
variable {p : Program} {l : Launch} {e : Env} {R : Room} {s : State} {m : MethodId} {args : Array Value} {below : List Frame} {meth : Method} {c : Code} {n0 : Nat} {F : State → Outcome → Prop} {h : Heap} {k n pc pc' : Nat} {Ls : Array Slot} {st : List Value} {Z : State} {own : String} {bc : ByteArray} {maxL : Nat} {ret : Option FieldType} {nm : String} {a0 : Array Value}
theorem Cx.callP (C : Cx p s m meth c Z n0 own bc maxL ret nm) {y : MethodName} {cls : String} {bc' : ByteArray} {maxL' j : Nat} {ret' : Option FieldType} {R' : Room} {a : Addr} {argsL rest : List Value} {Q : Option Value → Heap → Prop} (W : Nat) (hC : n0 ≤ h.size → Con l Z n0 [] y bc' maxL' ret' R' (.ref a :: argsL).toArray h Q) (E : Exa Z h a cls) (hd : decode bc pc = .ok (.invokevirtual j, 3)) (hp : pc + 3 = pc')
    (w1 : (Jvm.Cond.methodLink own j y).before a0 Z = true) (w2 : (Jvm.Cond.privateMethod y).before a0 Z = true) (w3 : (Jvm.Cond.instanceMethod y).before a0 Z = true) (w4 : (Jvm.Cond.selects y.cls y y).before a0 Z = true) (w5 : (Jvm.Cond.initialized y.cls).before a0 Z = true) (w6 : (Jvm.Cond.code y bc' maxL' ret').before a0 Z = true) (hy : y.cls ≠ "java/lang/invoke/MethodHandle" ∧ y.cls ≠ "java/lang/invoke/VarHandle") {ps : List FieldType} {r : Option FieldType} (hpd : parseMethodDescriptor y.desc = some ⟨ps, r⟩) (hlen : argsL.length = ps.length)
    (hst : st = argsL.reverse ++ .ref a :: rest) (hsz : Ls.size = maxL) (hW : (rest.map fun v => v.category).sum ≤ W) (hf : R'.frames + 1 ≤ R.frames) (hl : W + (maxL' + 11) + R'.locals ≤ R.locals) (hk : k + R'.cells ≤ R.cells) (hn : n + R'.slots ≤ R.slots)
    (hr : ∀ v h', Q v h' → Go p l e R s m args below meth c n0 F h' (k + R'.cells) (n + R'.slots) pc' Ls (v.toList ++ rest)) : Go p l e R s m args below meth c n0 F h k n pc Ls st := by
  intro T locs X eT N
  subst hp hst
  obtain ⟨cell, hc1, hc2⟩ := E.cell
  obtain ⟨v, _, ⟨T', L', k', n'⟩, -, X', ⟨Lc, hQ, l1, y1, z1⟩, stp⟩ := X.privateBack C.1 (y := y) C.2.2.1 (mvT C.2.1 w1) (mvT C.2.1 w3) (mvT C.2.1 w4) (Cond.privateMethod_at (args := #[]) (mvP C.2.1 w2)) (mvT C.2.1 w6) hy (backOf (Z := Z) (h := h) (bytes := bc') (maxL := maxL') (ret := ret') (rm := R') (as' := (Value.ref a :: argsL).toArray) (Q := fun v h' L => Q v h' ∧ Fr n0 L) (W := W) (hC (by rw [← eT]; exact C.size X)) C.2.1 w6 w5 hf hl) (g := mkF m pc Ls (argsL.reverse ++ .ref a :: rest)) rfl (hsz.trans C.2.2.2.2.1.symm) (Steps.refl _) (by rw [eT]; exact hc1) hc2 (argsL := argsL) (rest := rest) (lenOf hpd hlen) rfl (by show 2 * 0 + _ ≤ W; omega) (hb C.2.2.2.1 hd) (fun _ _ => ⟨rfl, eT, hk, hn⟩)
  dsimp only [Pt.U, Pt.locs, Pt.cells, Pt.slots] at X' l1 y1 z1 stp hQ
  subst l1 y1 z1
  obtain ⟨s₂, o, q1, q2⟩ := hr v T'.heap hQ.1 T' _ X' rfl (Fr.app N hQ.2)
  exact ⟨s₂, o, stp.trans q1, q2⟩
end OwnPriv
theorem own_nelen {z : Int32} {vs : List Value} (hn : ¬ z < 0) (hl : z.toNatClampNeg < vs.length) (h31 : vs.length < 2 ^ 31) : ¬ z = vs.length.toInt32 := fun q => by
  rw [q, (own_clamp h31).1] at hl; exact Nat.lt_irrefl _ hl
theorem own_narb (b : Int32) : narrow .boolean (.int (nar .boolean b)) = .int (nar .boolean b) := by show Value.int ((b &&& 1) &&& 1) = _; rw [Int32.and_assoc]; rfl
theorem d1_0 : decode prog_34_method_1_code 0 = .ok (.aload_n 0, 1) := by decide +kernel
theorem d1_1 : decode prog_34_method_1_code 1 = .ok (.invokespecial 1, 3) := by decide +kernel
theorem d1_4 : decode prog_34_method_1_code 4 = .ok (.aload_n 0, 1) := by decide +kernel
theorem d1_5 : decode prog_34_method_1_code 5 = .ok (.iload_n 1, 1) := by decide +kernel
theorem d1_6 : decode prog_34_method_1_code 6 = .ok (.newarray .long, 2) := by decide +kernel
theorem d1_8 : decode prog_34_method_1_code 8 = .ok (.putfield 7, 3) := by decide +kernel
theorem d1_11 : decode prog_34_method_1_code 11 = .ok (.aload_n 0, 1) := by decide +kernel
theorem d1_12 : decode prog_34_method_1_code 12 = .ok (.iload_n 1, 1) := by decide +kernel
theorem d1_13 : decode prog_34_method_1_code 13 = .ok (.newarray .long, 2) := by decide +kernel
theorem d1_15 : decode prog_34_method_1_code 15 = .ok (.putfield 13, 3) := by decide +kernel
theorem d1_18 : decode prog_34_method_1_code 18 = .ok (.aload_n 0, 1) := by decide +kernel
theorem d1_19 : decode prog_34_method_1_code 19 = .ok (.iload_n 1, 1) := by decide +kernel
theorem d1_20 : decode prog_34_method_1_code 20 = .ok (.newarray .long, 2) := by decide +kernel
theorem d1_22 : decode prog_34_method_1_code 22 = .ok (.putfield 16, 3) := by decide +kernel
theorem d1_25 : decode prog_34_method_1_code 25 = .ok (.aload_n 0, 1) := by decide +kernel
theorem d1_26 : decode prog_34_method_1_code 26 = .ok (.iload_n 1, 1) := by decide +kernel
theorem d1_27 : decode prog_34_method_1_code 27 = .ok (.newarray .long, 2) := by decide +kernel
theorem d1_29 : decode prog_34_method_1_code 29 = .ok (.putfield 19, 3) := by decide +kernel
theorem d1_32 : decode prog_34_method_1_code 32 = .ok (.aload_n 0, 1) := by decide +kernel
theorem d1_33 : decode prog_34_method_1_code 33 = .ok (.iload_n 1, 1) := by decide +kernel
theorem d1_34 : decode prog_34_method_1_code 34 = .ok (.newarray .int, 2) := by decide +kernel
theorem d1_36 : decode prog_34_method_1_code 36 = .ok (.putfield 22, 3) := by decide +kernel
theorem d1_39 : decode prog_34_method_1_code 39 = .ok (.aload_n 0, 1) := by decide +kernel
theorem d1_40 : decode prog_34_method_1_code 40 = .ok (.iload_n 1, 1) := by decide +kernel
theorem d1_41 : decode prog_34_method_1_code 41 = .ok (.newarray .boolean, 2) := by decide +kernel
theorem d1_43 : decode prog_34_method_1_code 43 = .ok (.putfield 26, 3) := by decide +kernel
theorem d1_46 : decode prog_34_method_1_code 46 = .ok (.return_, 1) := by decide +kernel
theorem pf_0 : plainFor (⟨"com/example/tierline/tierline/sim/RecordBuffer", "<init>", "(I)V"⟩ : MethodName) = true := by first | exact plainFor_of_name (by first | (simp [plainName, overriddenIn]; done) | decide +kernel) | decide +kernel
def Qcon_ini (Z : State) (n0 : Nat) (h0 : Heap) (a : Addr) (v : Option Value) (h' : Heap) : Prop := ∃ (tk : Addr) (sq : Addr) (ti : Addr) (xp : Addr) (zs : Addr) (tb : Addr), (v = none) ∧ (Keep h0 h' [a]) ∧ (n0 ≤ tk) ∧ (h0.size ≤ tk) ∧ (n0 ≤ sq) ∧ (h0.size ≤ sq) ∧ (n0 ≤ ti) ∧ (h0.size ≤ ti) ∧ (n0 ≤ xp) ∧ (h0.size ≤ xp) ∧ (n0 ≤ zs) ∧ (h0.size ≤ zs) ∧ (n0 ≤ tb) ∧ (h0.size ≤ tb) ∧ (tk ≠ sq) ∧ (tk ≠ ti) ∧ (tk ≠ xp) ∧ (tk ≠ zs) ∧ (tk ≠ tb) ∧ (sq ≠ ti) ∧ (sq ≠ xp) ∧ (sq ≠ zs) ∧ (sq ≠ tb) ∧ (ti ≠ xp) ∧ (ti ≠ zs) ∧ (ti ≠ tb) ∧ (xp ≠ zs) ∧ (xp ≠ tb) ∧ (zs ≠ tb) ∧ (Fld Z h' a "com/example/tierline/tierline/sim/RecordBuffer" "tokens" "[J" (.ref tk)) ∧ (Fld Z h' a "com/example/tierline/tierline/sim/RecordBuffer" "sequences" "[J" (.ref sq)) ∧ (Fld Z h' a "com/example/tierline/tierline/sim/RecordBuffer" "times" "[J" (.ref ti)) ∧ (Fld Z h' a "com/example/tierline/tierline/sim/RecordBuffer" "expiries" "[J" (.ref xp)) ∧ (Fld Z h' a "com/example/tierline/tierline/sim/RecordBuffer" "sizes" "[I" (.ref zs)) ∧ (Fld Z h' a "com/example/tierline/tierline/sim/RecordBuffer" "tombstones" "[Z" (.ref tb)) ∧ (Fld Z h' a "com/example/tierline/tierline/sim/RecordBuffer" "count" "I" (.int 0)) ∧ (Av Z h' tk .long ([.long 0, .long 0])) ∧ (Av Z h' sq .long ([.long 0, .long 0])) ∧ (Av Z h' ti .long ([.long 0, .long 0])) ∧ (Av Z h' xp .long ([.long 0, .long 0])) ∧ (Av Z h' zs .int ([.int 0, .int 0])) ∧ (Av Z h' tb .boolean ([.int 0, .int 0]))
theorem ef_con_ini (m : MethodId) (a : Addr) : entryFrame m #[(.ref a), (.int 2)] 2 = mkF m 0 #[.val (.ref a), .val (.int 2)] [] := by first | (simp [entryFrame, mkF, argsToLocals, Value.category]; done) | rfl
set_option maxRecDepth 65536 in
set_option maxHeartbeats 40000000 in
theorem con_ini (l : Launch) (Z : State) (a0 : Array Value) (hw : ∀ d ∈ tables_1, d.before a0 Z = true) (n0 : Nat) (h0 : Heap) (hn0 : n0 ≤ h0.size) (a : Addr) (P0 : Exa Z h0 a "com/example/tierline/tierline/sim/RecordBuffer") (P1 : Fld Z h0 a "com/example/tierline/tierline/sim/RecordBuffer" "tokens" "[J" (.null)) (P2 : Fld Z h0 a "com/example/tierline/tierline/sim/RecordBuffer" "sequences" "[J" (.null)) (P3 : Fld Z h0 a "com/example/tierline/tierline/sim/RecordBuffer" "times" "[J" (.null)) (P4 : Fld Z h0 a "com/example/tierline/tierline/sim/RecordBuffer" "expiries" "[J" (.null)) (P5 : Fld Z h0 a "com/example/tierline/tierline/sim/RecordBuffer" "sizes" "[I" (.null)) (P6 : Fld Z h0 a "com/example/tierline/tierline/sim/RecordBuffer" "tombstones" "[Z" (.null)) (P7 : Fld Z h0 a "com/example/tierline/tierline/sim/RecordBuffer" "count" "I" (.int 0)) (g_a : n0 ≤ a) :
    Con l Z n0 [] (⟨"com/example/tierline/tierline/sim/RecordBuffer", "<init>", "(I)V"⟩ : MethodName) prog_34_method_1_code 2 none ({ frames := 1, cells := 6, slots := 12, locals := 12 } : Room) #[(.ref a), (.int 2)] h0 (Qcon_ini Z n0 h0 a) := by
  refine Con.of pf_0 (fun m => ef_con_ini m a) hn0 ?_
  intro p e s m below meth c C
  refine C.aloadN d1_0 rfl rfl rfl ?_
  refine C.initO 0 d1_1 rfl (tw hw 7 rfl) (tw hw 8 rfl) (tw hw 9 rfl) rfl (by decide) (Nat.le_of_eq rfl) (by decide) ?_
  refine C.aloadN d1_4 rfl rfl rfl ?_
  refine C.iloadN d1_5 rfl rfl ?_
  refine C.newarr 2 d1_6 rfl rfl (tw hw 10 rfl) (by decide) (by decide) (by decide) (by decide) (by decide) (fun a214 h215 z218 g219 X216 F217 => ?_)
  have gz220 : h0.size ≤ a214 := by rw [z218]; exact (Keep.refl h0 [a]).1
  have ne221 : a ≠ a214 := by rw [z218]; exact Nat.ne_of_lt P0.lt
  have F222 : Exa Z h215 a "com/example/tierline/tierline/sim/RecordBuffer" := Exa.ext X216 P0
  have F223 : Fld Z h215 a "com/example/tierline/tierline/sim/RecordBuffer" "tokens" "[J" (.null) := Fld.ext X216 P1
  have F224 : Fld Z h215 a "com/example/tierline/tierline/sim/RecordBuffer" "sequences" "[J" (.null) := Fld.ext X216 P2
  have F225 : Fld Z h215 a "com/example/tierline/tierline/sim/RecordBuffer" "times" "[J" (.null) := Fld.ext X216 P3
  have F226 : Fld Z h215 a "com/example/tierline/tierline/sim/RecordBuffer" "expiries" "[J" (.null) := Fld.ext X216 P4
  have F227 : Fld Z h215 a "com/example/tierline/tierline/sim/RecordBuffer" "sizes" "[I" (.null) := Fld.ext X216 P5
  have F228 : Fld Z h215 a "com/example/tierline/tierline/sim/RecordBuffer" "tombstones" "[Z" (.null) := Fld.ext X216 P6
  have F229 : Fld Z h215 a "com/example/tierline/tierline/sim/RecordBuffer" "count" "I" (.int 0) := Fld.ext X216 P7
  have F230 : Av Z h215 a214 .long ([.long 0, .long 0]) := F217
  refine C.putF d1_8 rfl (tw hw 11 rfl) F223 F222 (Or.inl (tw hw 12 rfl)) (tw hw 2 rfl) (ty := (.array .long)) (by decide) rfl rfl g_a (fun h231 W232 F233 => ?_)
  have F234 : Exa Z h231 a "com/example/tierline/tierline/sim/RecordBuffer" := Exa.wr W232 F222
  have F235 : Fld Z h231 a "com/example/tierline/tierline/sim/RecordBuffer" "sequences" "[J" (.null) := Fld.other W232 F224 (Or.inr (slot_ne (C := "com/example/tierline/tierline/sim/RecordBuffer") (t := (.array .long)) (t' := (.array .long)) (Or.inl (tw hw 14 rfl)) (Or.inl (tw hw 12 rfl)) (by decide) (by decide) (by decide)))
  have F236 : Fld Z h231 a "com/example/tierline/tierline/sim/RecordBuffer" "times" "[J" (.null) := Fld.other W232 F225 (Or.inr (slot_ne (C := "com/example/tierline/tierline/sim/RecordBuffer") (t := (.array .long)) (t' := (.array .long)) (Or.inl (tw hw 16 rfl)) (Or.inl (tw hw 12 rfl)) (by decide) (by decide) (by decide)))
  have F237 : Fld Z h231 a "com/example/tierline/tierline/sim/RecordBuffer" "expiries" "[J" (.null) := Fld.other W232 F226 (Or.inr (slot_ne (C := "com/example/tierline/tierline/sim/RecordBuffer") (t := (.array .long)) (t' := (.array .long)) (Or.inl (tw hw 18 rfl)) (Or.inl (tw hw 12 rfl)) (by decide) (by decide) (by decide)))
  have F238 : Fld Z h231 a "com/example/tierline/tierline/sim/RecordBuffer" "sizes" "[I" (.null) := Fld.other W232 F227 (Or.inr (slot_ne (C := "com/example/tierline/tierline/sim/RecordBuffer") (t := (.array .int)) (t' := (.array .long)) (Or.inl (tw hw 21 rfl)) (Or.inl (tw hw 12 rfl)) (by decide) (by decide) (by decide)))
  have F239 : Fld Z h231 a "com/example/tierline/tierline/sim/RecordBuffer" "tombstones" "[Z" (.null) := Fld.other W232 F228 (Or.inr (slot_ne (C := "com/example/tierline/tierline/sim/RecordBuffer") (t := (.array .boolean)) (t' := (.array .long)) (Or.inl (tw hw 24 rfl)) (Or.inl (tw hw 12 rfl)) (by decide) (by decide) (by decide)))
  have F240 : Fld Z h231 a "com/example/tierline/tierline/sim/RecordBuffer" "count" "I" (.int 0) := Fld.other W232 F229 (Or.inr (slot_ne (C := "com/example/tierline/tierline/sim/RecordBuffer") (t := .int) (t' := (.array .long)) (Or.inl (tw hw 31 rfl)) (Or.inl (tw hw 12 rfl)) (by decide) (by decide) (by decide)))
  have F241 : Av Z h231 a214 .long ([.long 0, .long 0]) := F230.other W232 (Ne.symm ne221)
  refine C.aloadN d1_11 rfl rfl rfl ?_
  refine C.iloadN d1_12 rfl rfl ?_
  refine C.newarr 2 d1_13 rfl rfl (tw hw 10 rfl) (by decide) (by decide) (by decide) (by decide) (by decide) (fun a242 h243 z246 g247 X244 F245 => ?_)
  have gz248 : h0.size ≤ a242 := by rw [z246]; exact (((Keep.refl h0 [a]).ext X216).wr W232 (Or.inl (List.mem_of_getElem? (i := 0) rfl))).1
  have ne249 : a ≠ a242 := by rw [z246]; exact Nat.ne_of_lt F234.lt
  have ne250 : a214 ≠ a242 := by rw [z246]; exact Nat.ne_of_lt F241.lt
  have F251 : Exa Z h243 a "com/example/tierline/tierline/sim/RecordBuffer" := Exa.ext X244 F234
  have F252 : Fld Z h243 a "com/example/tierline/tierline/sim/RecordBuffer" "sequences" "[J" (.null) := Fld.ext X244 F235
  have F253 : Fld Z h243 a "com/example/tierline/tierline/sim/RecordBuffer" "times" "[J" (.null) := Fld.ext X244 F236
  have F254 : Fld Z h243 a "com/example/tierline/tierline/sim/RecordBuffer" "expiries" "[J" (.null) := Fld.ext X244 F237
  have F255 : Fld Z h243 a "com/example/tierline/tierline/sim/RecordBuffer" "sizes" "[I" (.null) := Fld.ext X244 F238
  have F256 : Fld Z h243 a "com/example/tierline/tierline/sim/RecordBuffer" "tombstones" "[Z" (.null) := Fld.ext X244 F239
  have F257 : Fld Z h243 a "com/example/tierline/tierline/sim/RecordBuffer" "count" "I" (.int 0) := Fld.ext X244 F240
  have F258 : Av Z h243 a214 .long ([.long 0, .long 0]) := F241.ext X244
  have F259 : Fld Z h243 a "com/example/tierline/tierline/sim/RecordBuffer" "tokens" "[J" (.ref a214) := Fld.ext X244 F233
  have F260 : Av Z h243 a242 .long ([.long 0, .long 0]) := F245
  refine C.putF d1_15 rfl (tw hw 13 rfl) F252 F251 (Or.inl (tw hw 14 rfl)) (tw hw 2 rfl) (ty := (.array .long)) (by decide) rfl rfl g_a (fun h261 W262 F263 => ?_)
  have F264 : Exa Z h261 a "com/example/tierline/tierline/sim/RecordBuffer" := Exa.wr W262 F251
  have F265 : Fld Z h261 a "com/example/tierline/tierline/sim/RecordBuffer" "times" "[J" (.null) := Fld.other W262 F253 (Or.inr (slot_ne (C := "com/example/tierline/tierline/sim/RecordBuffer") (t := (.array .long)) (t' := (.array .long)) (Or.inl (tw hw 16 rfl)) (Or.inl (tw hw 14 rfl)) (by decide) (by decide) (by decide)))
  have F266 : Fld Z h261 a "com/example/tierline/tierline/sim/RecordBuffer" "expiries" "[J" (.null) := Fld.other W262 F254 (Or.inr (slot_ne (C := "com/example/tierline/tierline/sim/RecordBuffer") (t := (.array .long)) (t' := (.array .long)) (Or.inl (tw hw 18 rfl)) (Or.inl (tw hw 14 rfl)) (by decide) (by decide) (by decide)))
  have F267 : Fld Z h261 a "com/example/tierline/tierline/sim/RecordBuffer" "sizes" "[I" (.null) := Fld.other W262 F255 (Or.inr (slot_ne (C := "com/example/tierline/tierline/sim/RecordBuffer") (t := (.array .int)) (t' := (.array .long)) (Or.inl (tw hw 21 rfl)) (Or.inl (tw hw 14 rfl)) (by decide) (by decide) (by decide)))
  have F268 : Fld Z h261 a "com/example/tierline/tierline/sim/RecordBuffer" "tombstones" "[Z" (.null) := Fld.other W262 F256 (Or.inr (slot_ne (C := "com/example/tierline/tierline/sim/RecordBuffer") (t := (.array .boolean)) (t' := (.array .long)) (Or.inl (tw hw 24 rfl)) (Or.inl (tw hw 14 rfl)) (by decide) (by decide) (by decide)))
  have F269 : Fld Z h261 a "com/example/tierline/tierline/sim/RecordBuffer" "count" "I" (.int 0) := Fld.other W262 F257 (Or.inr (slot_ne (C := "com/example/tierline/tierline/sim/RecordBuffer") (t := .int) (t' := (.array .long)) (Or.inl (tw hw 31 rfl)) (Or.inl (tw hw 14 rfl)) (by decide) (by decide) (by decide)))
  have F270 : Av Z h261 a214 .long ([.long 0, .long 0]) := F258.other W262 (Ne.symm ne221)
  have F271 : Fld Z h261 a "com/example/tierline/tierline/sim/RecordBuffer" "tokens" "[J" (.ref a214) := Fld.other W262 F259 (Or.inr (slot_ne (C := "com/example/tierline/tierline/sim/RecordBuffer") (t := (.array .long)) (t' := (.array .long)) (Or.inl (tw hw 12 rfl)) (Or.inl (tw hw 14 rfl)) (by decide) (by decide) (by decide)))
  have F272 : Av Z h261 a242 .long ([.long 0, .long 0]) := F260.other W262 (Ne.symm ne249)
  refine C.aloadN d1_18 rfl rfl rfl ?_
  refine C.iloadN d1_19 rfl rfl ?_
  refine C.newarr 2 d1_20 rfl rfl (tw hw 10 rfl) (by decide) (by decide) (by decide) (by decide) (by decide) (fun a273 h274 z277 g278 X275 F276 => ?_)
  have gz279 : h0.size ≤ a273 := by rw [z277]; exact (((((Keep.refl h0 [a]).ext X216).wr W232 (Or.inl (List.mem_of_getElem? (i := 0) rfl))).ext X244).wr W262 (Or.inl (List.mem_of_getElem? (i := 0) rfl))).1
  have ne280 : a ≠ a273 := by rw [z277]; exact Nat.ne_of_lt F264.lt
  have ne281 : a214 ≠ a273 := by rw [z277]; exact Nat.ne_of_lt F270.lt
  have ne282 : a242 ≠ a273 := by rw [z277]; exact Nat.ne_of_lt F272.lt
  have F283 : Exa Z h274 a "com/example/tierline/tierline/sim/RecordBuffer" := Exa.ext X275 F264
  have F284 : Fld Z h274 a "com/example/tierline/tierline/sim/RecordBuffer" "times" "[J" (.null) := Fld.ext X275 F265
  have F285 : Fld Z h274 a "com/example/tierline/tierline/sim/RecordBuffer" "expiries" "[J" (.null) := Fld.ext X275 F266
  have F286 : Fld Z h274 a "com/example/tierline/tierline/sim/RecordBuffer" "sizes" "[I" (.null) := Fld.ext X275 F267
  have F287 : Fld Z h274 a "com/example/tierline/tierline/sim/RecordBuffer" "tombstones" "[Z" (.null) := Fld.ext X275 F268
  have F288 : Fld Z h274 a "com/example/tierline/tierline/sim/RecordBuffer" "count" "I" (.int 0) := Fld.ext X275 F269
  have F289 : Av Z h274 a214 .long ([.long 0, .long 0]) := F270.ext X275
  have F290 : Fld Z h274 a "com/example/tierline/tierline/sim/RecordBuffer" "tokens" "[J" (.ref a214) := Fld.ext X275 F271
  have F291 : Av Z h274 a242 .long ([.long 0, .long 0]) := F272.ext X275
  have F292 : Fld Z h274 a "com/example/tierline/tierline/sim/RecordBuffer" "sequences" "[J" (.ref a242) := Fld.ext X275 F263
  have F293 : Av Z h274 a273 .long ([.long 0, .long 0]) := F276
  refine C.putF d1_22 rfl (tw hw 15 rfl) F284 F283 (Or.inl (tw hw 16 rfl)) (tw hw 2 rfl) (ty := (.array .long)) (by decide) rfl rfl g_a (fun h294 W295 F296 => ?_)
  have F297 : Exa Z h294 a "com/example/tierline/tierline/sim/RecordBuffer" := Exa.wr W295 F283
  have F298 : Fld Z h294 a "com/example/tierline/tierline/sim/RecordBuffer" "expiries" "[J" (.null) := Fld.other W295 F285 (Or.inr (slot_ne (C := "com/example/tierline/tierline/sim/RecordBuffer") (t := (.array .long)) (t' := (.array .long)) (Or.inl (tw hw 18 rfl)) (Or.inl (tw hw 16 rfl)) (by decide) (by decide) (by decide)))
  have F299 : Fld Z h294 a "com/example/tierline/tierline/sim/RecordBuffer" "sizes" "[I" (.null) := Fld.other W295 F286 (Or.inr (slot_ne (C := "com/example/tierline/tierline/sim/RecordBuffer") (t := (.array .int)) (t' := (.array .long)) (Or.inl (tw hw 21 rfl)) (Or.inl (tw hw 16 rfl)) (by decide) (by decide) (by decide)))
  have F300 : Fld Z h294 a "com/example/tierline/tierline/sim/RecordBuffer" "tombstones" "[Z" (.null) := Fld.other W295 F287 (Or.inr (slot_ne (C := "com/example/tierline/tierline/sim/RecordBuffer") (t := (.array .boolean)) (t' := (.array .long)) (Or.inl (tw hw 24 rfl)) (Or.inl (tw hw 16 rfl)) (by decide) (by decide) (by decide)))
  have F301 : Fld Z h294 a "com/example/tierline/tierline/sim/RecordBuffer" "count" "I" (.int 0) := Fld.other W295 F288 (Or.inr (slot_ne (C := "com/example/tierline/tierline/sim/RecordBuffer") (t := .int) (t' := (.array .long)) (Or.inl (tw hw 31 rfl)) (Or.inl (tw hw 16 rfl)) (by decide) (by decide) (by decide)))
  have F302 : Av Z h294 a214 .long ([.long 0, .long 0]) := F289.other W295 (Ne.symm ne221)
  have F303 : Fld Z h294 a "com/example/tierline/tierline/sim/RecordBuffer" "tokens" "[J" (.ref a214) := Fld.other W295 F290 (Or.inr (slot_ne (C := "com/example/tierline/tierline/sim/RecordBuffer") (t := (.array .long)) (t' := (.array .long)) (Or.inl (tw hw 12 rfl)) (Or.inl (tw hw 16 rfl)) (by decide) (by decide) (by decide)))
  have F304 : Av Z h294 a242 .long ([.long 0, .long 0]) := F291.other W295 (Ne.symm ne249)
  have F305 : Fld Z h294 a "com/example/tierline/tierline/sim/RecordBuffer" "sequences" "[J" (.ref a242) := Fld.other W295 F292 (Or.inr (slot_ne (C := "com/example/tierline/tierline/sim/RecordBuffer") (t := (.array .long)) (t' := (.array .long)) (Or.inl (tw hw 14 rfl)) (Or.inl (tw hw 16 rfl)) (by decide) (by decide) (by decide)))
  have F306 : Av Z h294 a273 .long ([.long 0, .long 0]) := F293.other W295 (Ne.symm ne280)
  refine C.aloadN d1_25 rfl rfl rfl ?_
  refine C.iloadN d1_26 rfl rfl ?_
  refine C.newarr 2 d1_27 rfl rfl (tw hw 10 rfl) (by decide) (by decide) (by decide) (by decide) (by decide) (fun a307 h308 z311 g312 X309 F310 => ?_)
  have gz313 : h0.size ≤ a307 := by rw [z311]; exact (((((((Keep.refl h0 [a]).ext X216).wr W232 (Or.inl (List.mem_of_getElem? (i := 0) rfl))).ext X244).wr W262 (Or.inl (List.mem_of_getElem? (i := 0) rfl))).ext X275).wr W295 (Or.inl (List.mem_of_getElem? (i := 0) rfl))).1
  have ne314 : a ≠ a307 := by rw [z311]; exact Nat.ne_of_lt F297.lt
  have ne315 : a214 ≠ a307 := by rw [z311]; exact Nat.ne_of_lt F302.lt
  have ne316 : a242 ≠ a307 := by rw [z311]; exact Nat.ne_of_lt F304.lt
  have ne317 : a273 ≠ a307 := by rw [z311]; exact Nat.ne_of_lt F306.lt
  have F318 : Exa Z h308 a "com/example/tierline/tierline/sim/RecordBuffer" := Exa.ext X309 F297
  have F319 : Fld Z h308 a "com/example/tierline/tierline/sim/RecordBuffer" "expiries" "[J" (.null) := Fld.ext X309 F298
  have F320 : Fld Z h308 a "com/example/tierline/tierline/sim/RecordBuffer" "sizes" "[I" (.null) := Fld.ext X309 F299
  have F321 : Fld Z h308 a "com/example/tierline/tierline/sim/RecordBuffer" "tombstones" "[Z" (.null) := Fld.ext X309 F300
  have F322 : Fld Z h308 a "com/example/tierline/tierline/sim/RecordBuffer" "count" "I" (.int 0) := Fld.ext X309 F301
  have F323 : Av Z h308 a214 .long ([.long 0, .long 0]) := F302.ext X309
  have F324 : Fld Z h308 a "com/example/tierline/tierline/sim/RecordBuffer" "tokens" "[J" (.ref a214) := Fld.ext X309 F303
  have F325 : Av Z h308 a242 .long ([.long 0, .long 0]) := F304.ext X309
  have F326 : Fld Z h308 a "com/example/tierline/tierline/sim/RecordBuffer" "sequences" "[J" (.ref a242) := Fld.ext X309 F305
  have F327 : Av Z h308 a273 .long ([.long 0, .long 0]) := F306.ext X309
  have F328 : Fld Z h308 a "com/example/tierline/tierline/sim/RecordBuffer" "times" "[J" (.ref a273) := Fld.ext X309 F296
  have F329 : Av Z h308 a307 .long ([.long 0, .long 0]) := F310
  refine C.putF d1_29 rfl (tw hw 17 rfl) F319 F318 (Or.inl (tw hw 18 rfl)) (tw hw 2 rfl) (ty := (.array .long)) (by decide) rfl rfl g_a (fun h330 W331 F332 => ?_)
  have F333 : Exa Z h330 a "com/example/tierline/tierline/sim/RecordBuffer" := Exa.wr W331 F318
  have F334 : Fld Z h330 a "com/example/tierline/tierline/sim/RecordBuffer" "sizes" "[I" (.null) := Fld.other W331 F320 (Or.inr (slot_ne (C := "com/example/tierline/tierline/sim/RecordBuffer") (t := (.array .int)) (t' := (.array .long)) (Or.inl (tw hw 21 rfl)) (Or.inl (tw hw 18 rfl)) (by decide) (by decide) (by decide)))
  have F335 : Fld Z h330 a "com/example/tierline/tierline/sim/RecordBuffer" "tombstones" "[Z" (.null) := Fld.other W331 F321 (Or.inr (slot_ne (C := "com/example/tierline/tierline/sim/RecordBuffer") (t := (.array .boolean)) (t' := (.array .long)) (Or.inl (tw hw 24 rfl)) (Or.inl (tw hw 18 rfl)) (by decide) (by decide) (by decide)))
  have F336 : Fld Z h330 a "com/example/tierline/tierline/sim/RecordBuffer" "count" "I" (.int 0) := Fld.other W331 F322 (Or.inr (slot_ne (C := "com/example/tierline/tierline/sim/RecordBuffer") (t := .int) (t' := (.array .long)) (Or.inl (tw hw 31 rfl)) (Or.inl (tw hw 18 rfl)) (by decide) (by decide) (by decide)))
  have F337 : Av Z h330 a214 .long ([.long 0, .long 0]) := F323.other W331 (Ne.symm ne221)
  have F338 : Fld Z h330 a "com/example/tierline/tierline/sim/RecordBuffer" "tokens" "[J" (.ref a214) := Fld.other W331 F324 (Or.inr (slot_ne (C := "com/example/tierline/tierline/sim/RecordBuffer") (t := (.array .long)) (t' := (.array .long)) (Or.inl (tw hw 12 rfl)) (Or.inl (tw hw 18 rfl)) (by decide) (by decide) (by decide)))
  have F339 : Av Z h330 a242 .long ([.long 0, .long 0]) := F325.other W331 (Ne.symm ne249)
  have F340 : Fld Z h330 a "com/example/tierline/tierline/sim/RecordBuffer" "sequences" "[J" (.ref a242) := Fld.other W331 F326 (Or.inr (slot_ne (C := "com/example/tierline/tierline/sim/RecordBuffer") (t := (.array .long)) (t' := (.array .long)) (Or.inl (tw hw 14 rfl)) (Or.inl (tw hw 18 rfl)) (by decide) (by decide) (by decide)))
  have F341 : Av Z h330 a273 .long ([.long 0, .long 0]) := F327.other W331 (Ne.symm ne280)
  have F342 : Fld Z h330 a "com/example/tierline/tierline/sim/RecordBuffer" "times" "[J" (.ref a273) := Fld.other W331 F328 (Or.inr (slot_ne (C := "com/example/tierline/tierline/sim/RecordBuffer") (t := (.array .long)) (t' := (.array .long)) (Or.inl (tw hw 16 rfl)) (Or.inl (tw hw 18 rfl)) (by decide) (by decide) (by decide)))
  have F343 : Av Z h330 a307 .long ([.long 0, .long 0]) := F329.other W331 (Ne.symm ne314)
  refine C.aloadN d1_32 rfl rfl rfl ?_
  refine C.iloadN d1_33 rfl rfl ?_
  refine C.newarr 2 d1_34 rfl rfl (tw hw 19 rfl) (by decide) (by decide) (by decide) (by decide) (by decide) (fun a344 h345 z348 g349 X346 F347 => ?_)
  have gz350 : h0.size ≤ a344 := by rw [z348]; exact (((((((((Keep.refl h0 [a]).ext X216).wr W232 (Or.inl (List.mem_of_getElem? (i := 0) rfl))).ext X244).wr W262 (Or.inl (List.mem_of_getElem? (i := 0) rfl))).ext X275).wr W295 (Or.inl (List.mem_of_getElem? (i := 0) rfl))).ext X309).wr W331 (Or.inl (List.mem_of_getElem? (i := 0) rfl))).1
  have ne351 : a ≠ a344 := by rw [z348]; exact Nat.ne_of_lt F333.lt
  have ne352 : a214 ≠ a344 := by rw [z348]; exact Nat.ne_of_lt F337.lt
  have ne353 : a242 ≠ a344 := by rw [z348]; exact Nat.ne_of_lt F339.lt
  have ne354 : a273 ≠ a344 := by rw [z348]; exact Nat.ne_of_lt F341.lt
  have ne355 : a307 ≠ a344 := by rw [z348]; exact Nat.ne_of_lt F343.lt
  have F356 : Exa Z h345 a "com/example/tierline/tierline/sim/RecordBuffer" := Exa.ext X346 F333
  have F357 : Fld Z h345 a "com/example/tierline/tierline/sim/RecordBuffer" "sizes" "[I" (.null) := Fld.ext X346 F334
  have F358 : Fld Z h345 a "com/example/tierline/tierline/sim/RecordBuffer" "tombstones" "[Z" (.null) := Fld.ext X346 F335
  have F359 : Fld Z h345 a "com/example/tierline/tierline/sim/RecordBuffer" "count" "I" (.int 0) := Fld.ext X346 F336
  have F360 : Av Z h345 a214 .long ([.long 0, .long 0]) := F337.ext X346
  have F361 : Fld Z h345 a "com/example/tierline/tierline/sim/RecordBuffer" "tokens" "[J" (.ref a214) := Fld.ext X346 F338
  have F362 : Av Z h345 a242 .long ([.long 0, .long 0]) := F339.ext X346
  have F363 : Fld Z h345 a "com/example/tierline/tierline/sim/RecordBuffer" "sequences" "[J" (.ref a242) := Fld.ext X346 F340
  have F364 : Av Z h345 a273 .long ([.long 0, .long 0]) := F341.ext X346
  have F365 : Fld Z h345 a "com/example/tierline/tierline/sim/RecordBuffer" "times" "[J" (.ref a273) := Fld.ext X346 F342
  have F366 : Av Z h345 a307 .long ([.long 0, .long 0]) := F343.ext X346
  have F367 : Fld Z h345 a "com/example/tierline/tierline/sim/RecordBuffer" "expiries" "[J" (.ref a307) := Fld.ext X346 F332
  have F368 : Av Z h345 a344 .int ([.int 0, .int 0]) := F347
  refine C.putF d1_36 rfl (tw hw 20 rfl) F357 F356 (Or.inl (tw hw 21 rfl)) (tw hw 2 rfl) (ty := (.array .int)) (by decide) rfl rfl g_a (fun h369 W370 F371 => ?_)
  have F372 : Exa Z h369 a "com/example/tierline/tierline/sim/RecordBuffer" := Exa.wr W370 F356
  have F373 : Fld Z h369 a "com/example/tierline/tierline/sim/RecordBuffer" "tombstones" "[Z" (.null) := Fld.other W370 F358 (Or.inr (slot_ne (C := "com/example/tierline/tierline/sim/RecordBuffer") (t := (.array .boolean)) (t' := (.array .int)) (Or.inl (tw hw 24 rfl)) (Or.inl (tw hw 21 rfl)) (by decide) (by decide) (by decide)))
  have F374 : Fld Z h369 a "com/example/tierline/tierline/sim/RecordBuffer" "count" "I" (.int 0) := Fld.other W370 F359 (Or.inr (slot_ne (C := "com/example/tierline/tierline/sim/RecordBuffer") (t := .int) (t' := (.array .int)) (Or.inl (tw hw 31 rfl)) (Or.inl (tw hw 21 rfl)) (by decide) (by decide) (by decide)))
  have F375 : Av Z h369 a214 .long ([.long 0, .long 0]) := F360.other W370 (Ne.symm ne221)
  have F376 : Fld Z h369 a "com/example/tierline/tierline/sim/RecordBuffer" "tokens" "[J" (.ref a214) := Fld.other W370 F361 (Or.inr (slot_ne (C := "com/example/tierline/tierline/sim/RecordBuffer") (t := (.array .long)) (t' := (.array .int)) (Or.inl (tw hw 12 rfl)) (Or.inl (tw hw 21 rfl)) (by decide) (by decide) (by decide)))
  have F377 : Av Z h369 a242 .long ([.long 0, .long 0]) := F362.other W370 (Ne.symm ne249)
  have F378 : Fld Z h369 a "com/example/tierline/tierline/sim/RecordBuffer" "sequences" "[J" (.ref a242) := Fld.other W370 F363 (Or.inr (slot_ne (C := "com/example/tierline/tierline/sim/RecordBuffer") (t := (.array .long)) (t' := (.array .int)) (Or.inl (tw hw 14 rfl)) (Or.inl (tw hw 21 rfl)) (by decide) (by decide) (by decide)))
  have F379 : Av Z h369 a273 .long ([.long 0, .long 0]) := F364.other W370 (Ne.symm ne280)
  have F380 : Fld Z h369 a "com/example/tierline/tierline/sim/RecordBuffer" "times" "[J" (.ref a273) := Fld.other W370 F365 (Or.inr (slot_ne (C := "com/example/tierline/tierline/sim/RecordBuffer") (t := (.array .long)) (t' := (.array .int)) (Or.inl (tw hw 16 rfl)) (Or.inl (tw hw 21 rfl)) (by decide) (by decide) (by decide)))
  have F381 : Av Z h369 a307 .long ([.long 0, .long 0]) := F366.other W370 (Ne.symm ne314)
  have F382 : Fld Z h369 a "com/example/tierline/tierline/sim/RecordBuffer" "expiries" "[J" (.ref a307) := Fld.other W370 F367 (Or.inr (slot_ne (C := "com/example/tierline/tierline/sim/RecordBuffer") (t := (.array .long)) (t' := (.array .int)) (Or.inl (tw hw 18 rfl)) (Or.inl (tw hw 21 rfl)) (by decide) (by decide) (by decide)))
  have F383 : Av Z h369 a344 .int ([.int 0, .int 0]) := F368.other W370 (Ne.symm ne351)
  refine C.aloadN d1_39 rfl rfl rfl ?_
  refine C.iloadN d1_40 rfl rfl ?_
  refine C.newarr 2 d1_41 rfl rfl (tw hw 22 rfl) (by decide) (by decide) (by decide) (by decide) (by decide) (fun a384 h385 z388 g389 X386 F387 => ?_)
  have gz390 : h0.size ≤ a384 := by rw [z388]; exact (((((((((((Keep.refl h0 [a]).ext X216).wr W232 (Or.inl (List.mem_of_getElem? (i := 0) rfl))).ext X244).wr W262 (Or.inl (List.mem_of_getElem? (i := 0) rfl))).ext X275).wr W295 (Or.inl (List.mem_of_getElem? (i := 0) rfl))).ext X309).wr W331 (Or.inl (List.mem_of_getElem? (i := 0) rfl))).ext X346).wr W370 (Or.inl (List.mem_of_getElem? (i := 0) rfl))).1
  have ne391 : a ≠ a384 := by rw [z388]; exact Nat.ne_of_lt F372.lt
  have ne392 : a214 ≠ a384 := by rw [z388]; exact Nat.ne_of_lt F375.lt
  have ne393 : a242 ≠ a384 := by rw [z388]; exact Nat.ne_of_lt F377.lt
  have ne394 : a273 ≠ a384 := by rw [z388]; exact Nat.ne_of_lt F379.lt
  have ne395 : a307 ≠ a384 := by rw [z388]; exact Nat.ne_of_lt F381.lt
  have ne396 : a344 ≠ a384 := by rw [z388]; exact Nat.ne_of_lt F383.lt
  have F397 : Exa Z h385 a "com/example/tierline/tierline/sim/RecordBuffer" := Exa.ext X386 F372
  have F398 : Fld Z h385 a "com/example/tierline/tierline/sim/RecordBuffer" "tombstones" "[Z" (.null) := Fld.ext X386 F373
  have F399 : Fld Z h385 a "com/example/tierline/tierline/sim/RecordBuffer" "count" "I" (.int 0) := Fld.ext X386 F374
  have F400 : Av Z h385 a214 .long ([.long 0, .long 0]) := F375.ext X386
  have F401 : Fld Z h385 a "com/example/tierline/tierline/sim/RecordBuffer" "tokens" "[J" (.ref a214) := Fld.ext X386 F376
  have F402 : Av Z h385 a242 .long ([.long 0, .long 0]) := F377.ext X386
  have F403 : Fld Z h385 a "com/example/tierline/tierline/sim/RecordBuffer" "sequences" "[J" (.ref a242) := Fld.ext X386 F378
  have F404 : Av Z h385 a273 .long ([.long 0, .long 0]) := F379.ext X386
  have F405 : Fld Z h385 a "com/example/tierline/tierline/sim/RecordBuffer" "times" "[J" (.ref a273) := Fld.ext X386 F380
  have F406 : Av Z h385 a307 .long ([.long 0, .long 0]) := F381.ext X386
  have F407 : Fld Z h385 a "com/example/tierline/tierline/sim/RecordBuffer" "expiries" "[J" (.ref a307) := Fld.ext X386 F382
  have F408 : Av Z h385 a344 .int ([.int 0, .int 0]) := F383.ext X386
  have F409 : Fld Z h385 a "com/example/tierline/tierline/sim/RecordBuffer" "sizes" "[I" (.ref a344) := Fld.ext X386 F371
  have F410 : Av Z h385 a384 .boolean ([.int 0, .int 0]) := F387
  refine C.putF d1_43 rfl (tw hw 23 rfl) F398 F397 (Or.inl (tw hw 24 rfl)) (tw hw 2 rfl) (ty := (.array .boolean)) (by decide) rfl rfl g_a (fun h411 W412 F413 => ?_)
  have F414 : Exa Z h411 a "com/example/tierline/tierline/sim/RecordBuffer" := Exa.wr W412 F397
  have F415 : Fld Z h411 a "com/example/tierline/tierline/sim/RecordBuffer" "count" "I" (.int 0) := Fld.other W412 F399 (Or.inr (slot_ne (C := "com/example/tierline/tierline/sim/RecordBuffer") (t := .int) (t' := (.array .boolean)) (Or.inl (tw hw 31 rfl)) (Or.inl (tw hw 24 rfl)) (by decide) (by decide) (by decide)))
  have F416 : Av Z h411 a214 .long ([.long 0, .long 0]) := F400.other W412 (Ne.symm ne221)
  have F417 : Fld Z h411 a "com/example/tierline/tierline/sim/RecordBuffer" "tokens" "[J" (.ref a214) := Fld.other W412 F401 (Or.inr (slot_ne (C := "com/example/tierline/tierline/sim/RecordBuffer") (t := (.array .long)) (t' := (.array .boolean)) (Or.inl (tw hw 12 rfl)) (Or.inl (tw hw 24 rfl)) (by decide) (by decide) (by decide)))
  have F418 : Av Z h411 a242 .long ([.long 0, .long 0]) := F402.other W412 (Ne.symm ne249)
  have F419 : Fld Z h411 a "com/example/tierline/tierline/sim/RecordBuffer" "sequences" "[J" (.ref a242) := Fld.other W412 F403 (Or.inr (slot_ne (C := "com/example/tierline/tierline/sim/RecordBuffer") (t := (.array .long)) (t' := (.array .boolean)) (Or.inl (tw hw 14 rfl)) (Or.inl (tw hw 24 rfl)) (by decide) (by decide) (by decide)))
  have F420 : Av Z h411 a273 .long ([.long 0, .long 0]) := F404.other W412 (Ne.symm ne280)
  have F421 : Fld Z h411 a "com/example/tierline/tierline/sim/RecordBuffer" "times" "[J" (.ref a273) := Fld.other W412 F405 (Or.inr (slot_ne (C := "com/example/tierline/tierline/sim/RecordBuffer") (t := (.array .long)) (t' := (.array .boolean)) (Or.inl (tw hw 16 rfl)) (Or.inl (tw hw 24 rfl)) (by decide) (by decide) (by decide)))
  have F422 : Av Z h411 a307 .long ([.long 0, .long 0]) := F406.other W412 (Ne.symm ne314)
  have F423 : Fld Z h411 a "com/example/tierline/tierline/sim/RecordBuffer" "expiries" "[J" (.ref a307) := Fld.other W412 F407 (Or.inr (slot_ne (C := "com/example/tierline/tierline/sim/RecordBuffer") (t := (.array .long)) (t' := (.array .boolean)) (Or.inl (tw hw 18 rfl)) (Or.inl (tw hw 24 rfl)) (by decide) (by decide) (by decide)))
  have F424 : Av Z h411 a344 .int ([.int 0, .int 0]) := F408.other W412 (Ne.symm ne351)
  have F425 : Fld Z h411 a "com/example/tierline/tierline/sim/RecordBuffer" "sizes" "[I" (.ref a344) := Fld.other W412 F409 (Or.inr (slot_ne (C := "com/example/tierline/tierline/sim/RecordBuffer") (t := (.array .int)) (t' := (.array .boolean)) (Or.inl (tw hw 21 rfl)) (Or.inl (tw hw 24 rfl)) (by decide) (by decide) (by decide)))
  have F426 : Av Z h411 a384 .boolean ([.int 0, .int 0]) := F410.other W412 (Ne.symm ne391)
  exact C.ret0 d1_46 (by decide) (by decide) ⟨a214, a242, a273, a307, a344, a384, rfl, (((((((((((((Keep.refl h0 [a]).ext X216).wr W232 (Or.inl (List.mem_of_getElem? (i := 0) rfl))).ext X244).wr W262 (Or.inl (List.mem_of_getElem? (i := 0) rfl))).ext X275).wr W295 (Or.inl (List.mem_of_getElem? (i := 0) rfl))).ext X309).wr W331 (Or.inl (List.mem_of_getElem? (i := 0) rfl))).ext X346).wr W370 (Or.inl (List.mem_of_getElem? (i := 0) rfl))).ext X386).wr W412 (Or.inl (List.mem_of_getElem? (i := 0) rfl))), g219, gz220, g247, gz248, g278, gz279, g312, gz313, g349, gz350, g389, gz390, ne250, ne281, ne315, ne352, ne392, ne282, ne316, ne353, ne393, ne317, ne354, ne394, ne355, ne395, ne396, F417, F419, F421, F423, F425, F413, F415, F416, F418, F420, F422, F424, F426⟩
theorem d4_0 : decode prog_34_method_4_code 0 = .ok (.aload_n 0, 1) := by decide +kernel
theorem d4_1 : decode prog_34_method_4_code 1 = .ok (.getfield 13, 3) := by decide +kernel
theorem d4_4 : decode prog_34_method_4_code 4 = .ok (.iload_n 1, 1) := by decide +kernel
theorem d4_5 : decode prog_34_method_4_code 5 = .ok (.lload_n 2, 1) := by decide +kernel
theorem d4_6 : decode prog_34_method_4_code 6 = .ok (.lastore, 1) := by decide +kernel
theorem d4_7 : decode prog_34_method_4_code 7 = .ok (.aload_n 0, 1) := by decide +kernel
theorem d4_8 : decode prog_34_method_4_code 8 = .ok (.getfield 16, 3) := by decide +kernel
theorem d4_11 : decode prog_34_method_4_code 11 = .ok (.iload_n 1, 1) := by decide +kernel
theorem d4_12 : decode prog_34_method_4_code 12 = .ok (.lload 4, 2) := by decide +kernel
theorem d4_14 : decode prog_34_method_4_code 14 = .ok (.lastore, 1) := by decide +kernel
theorem d4_15 : decode prog_34_method_4_code 15 = .ok (.aload_n 0, 1) := by decide +kernel
theorem d4_16 : decode prog_34_method_4_code 16 = .ok (.getfield 19, 3) := by decide +kernel
theorem d4_19 : decode prog_34_method_4_code 19 = .ok (.iload_n 1, 1) := by decide +kernel
theorem d4_20 : decode prog_34_method_4_code 20 = .ok (.lload 6, 2) := by decide +kernel
theorem d4_22 : decode prog_34_method_4_code 22 = .ok (.lastore, 1) := by decide +kernel
theorem d4_23 : decode prog_34_method_4_code 23 = .ok (.aload_n 0, 1) := by decide +kernel
theorem d4_24 : decode prog_34_method_4_code 24 = .ok (.getfield 22, 3) := by decide +kernel
theorem d4_27 : decode prog_34_method_4_code 27 = .ok (.iload_n 1, 1) := by decide +kernel
theorem d4_28 : decode prog_34_method_4_code 28 = .ok (.iload 8, 2) := by decide +kernel
theorem d4_30 : decode prog_34_method_4_code 30 = .ok (.iastore, 1) := by decide +kernel
theorem d4_31 : decode prog_34_method_4_code 31 = .ok (.aload_n 0, 1) := by decide +kernel
theorem d4_32 : decode prog_34_method_4_code 32 = .ok (.getfield 26, 3) := by decide +kernel
theorem d4_35 : decode prog_34_method_4_code 35 = .ok (.iload_n 1, 1) := by decide +kernel
theorem d4_36 : decode prog_34_method_4_code 36 = .ok (.iload 9, 2) := by decide +kernel
theorem d4_38 : decode prog_34_method_4_code 38 = .ok (.bastore, 1) := by decide +kernel
theorem d4_39 : decode prog_34_method_4_code 39 = .ok (.return_, 1) := by decide +kernel
theorem pf_1 : plainFor (⟨"com/example/tierline/tierline/sim/RecordBuffer", "replace", "(IJJJIZ)V"⟩ : MethodName) = true := by first | exact plainFor_of_name (by first | (simp [plainName, overriddenIn]; done) | decide +kernel) | decide +kernel
def Qcon_rep (Z : State) (n0 : Nat) (h0 : Heap) (a : Addr) (sq : Addr) (ti : Addr) (xp : Addr) (zs : Addr) (tb : Addr) (i : Int32) (w1 : Int64) (w2 : Int64) (w3 : Int64) (w4 : Int32) (w5 : Int32) (vsq : List Value) (vti : List Value) (vxp : List Value) (vzs : List Value) (vtb : List Value) (v : Option Value) (h' : Heap) : Prop := (v = none) ∧ (Keep h0 h' [sq, ti, xp, zs, tb]) ∧ (Av Z h' sq .long (vsq.set (Int32.toNatClampNeg i) (.long w1))) ∧ (Av Z h' ti .long (vti.set (Int32.toNatClampNeg i) (.long w2))) ∧ (Av Z h' xp .long (vxp.set (Int32.toNatClampNeg i) (.long w3))) ∧ (Av Z h' zs .int (vzs.set (Int32.toNatClampNeg i) (.int w4))) ∧ (Av Z h' tb .boolean (vtb.set (Int32.toNatClampNeg i) (.int (nar .boolean w5))))
theorem ef_con_rep (m : MethodId) (a : Addr) (i : Int32) (w1 : Int64) (w2 : Int64) (w3 : Int64) (w4 : Int32) (w5 : Int32) : entryFrame m #[(.ref a), (.int i), (.long w1), (.long w2), (.long w3), (.int w4), (.int w5)] 10 = mkF m 0 #[.val (.ref a), .val (.int i), .val (.long w1), .second, .val (.long w2), .second, .val (.long w3), .second, .val (.int w4), .val (.int w5)] [] := by first | (simp [entryFrame, mkF, argsToLocals, Value.category]; done) | rfl
set_option maxRecDepth 65536 in
set_option maxHeartbeats 40000000 in
theorem con_rep (l : Launch) (Z : State) (a0 : Array Value) (hw : ∀ d ∈ tables_1, d.before a0 Z = true) (n0 : Nat) (h0 : Heap) (hn0 : n0 ≤ h0.size) (a : Addr) (sq : Addr) (ti : Addr) (xp : Addr) (zs : Addr) (tb : Addr) (i : Int32) (w1 : Int64) (w2 : Int64) (w3 : Int64) (w4 : Int32) (w5 : Int32) (vsq : List Value) (vti : List Value) (vxp : List Value) (vzs : List Value) (vtb : List Value) (P0 : Fld Z h0 a "com/example/tierline/tierline/sim/RecordBuffer" "sequences" "[J" (.ref sq)) (P1 : Fld Z h0 a "com/example/tierline/tierline/sim/RecordBuffer" "times" "[J" (.ref ti)) (P2 : Fld Z h0 a "com/example/tierline/tierline/sim/RecordBuffer" "expiries" "[J" (.ref xp)) (P3 : Fld Z h0 a "com/example/tierline/tierline/sim/RecordBuffer" "sizes" "[I" (.ref zs)) (P4 : Fld Z h0 a "com/example/tierline/tierline/sim/RecordBuffer" "tombstones" "[Z" (.ref tb)) (P5 : Av Z h0 sq .long vsq) (P6 : Av Z h0 ti .long vti) (P7 : Av Z h0 xp .long vxp) (P8 : Av Z h0 zs .int vzs) (P9 : Av Z h0 tb .boolean vtb) (g_sq : n0 ≤ sq) (g_ti : n0 ≤ ti) (g_xp : n0 ≤ xp) (g_zs : n0 ≤ zs) (g_tb : n0 ≤ tb) (ne_a_sq : a ≠ sq) (ne_a_ti : a ≠ ti) (ne_a_xp : a ≠ xp) (ne_a_zs : a ≠ zs) (ne_a_tb : a ≠ tb) (ne_sq_ti : sq ≠ ti) (ne_sq_xp : sq ≠ xp) (ne_sq_zs : sq ≠ zs) (ne_sq_tb : sq ≠ tb) (ne_ti_xp : ti ≠ xp) (ne_ti_zs : ti ≠ zs) (ne_ti_tb : ti ≠ tb) (ne_xp_zs : xp ≠ zs) (ne_xp_tb : xp ≠ tb) (ne_zs_tb : zs ≠ tb) (hi : ¬ i < 0) (lsq : i.toNatClampNeg < vsq.length) (lti : i.toNatClampNeg < vti.length) (lxp : i.toNatClampNeg < vxp.length) (lzs : i.toNatClampNeg < vzs.length) (ltb : i.toNatClampNeg < vtb.length) :
    Con l Z n0 [] (⟨"com/example/tierline/tierline/sim/RecordBuffer", "replace", "(IJJJIZ)V"⟩ : MethodName) prog_34_method_4_code 10 none ({ frames := 0, cells := 0, slots := 0, locals := 0 } : Room) #[(.ref a), (.int i), (.long w1), (.long w2), (.long w3), (.int w4), (.int w5)] h0 (Qcon_rep Z n0 h0 a sq ti xp zs tb i w1 w2 w3 w4 w5 vsq vti vxp vzs vtb) := by
  refine Con.of pf_1 (fun m => ef_con_rep m a i w1 w2 w3 w4 w5) hn0 ?_
  intro p e s m below meth c C
  refine C.aloadN d4_0 rfl rfl rfl ?_
  refine C.getF d4_1 rfl (tw hw 13 rfl) P0 ?_
  refine C.iloadN d4_4 rfl rfl ?_
  refine C.lloadN d4_5 rfl rfl ?_
  refine C.lastore d4_6 rfl P5 g_sq hi lsq (fun h487 W488 F489 => ?_)
  have F490 : Fld Z h487 a "com/example/tierline/tierline/sim/RecordBuffer" "sequences" "[J" (.ref sq) := Fld.other W488 P0 (Or.inl ne_a_sq)
  have F491 : Fld Z h487 a "com/example/tierline/tierline/sim/RecordBuffer" "times" "[J" (.ref ti) := Fld.other W488 P1 (Or.inl ne_a_sq)
  have F492 : Fld Z h487 a "com/example/tierline/tierline/sim/RecordBuffer" "expiries" "[J" (.ref xp) := Fld.other W488 P2 (Or.inl ne_a_sq)
  have F493 : Fld Z h487 a "com/example/tierline/tierline/sim/RecordBuffer" "sizes" "[I" (.ref zs) := Fld.other W488 P3 (Or.inl ne_a_sq)
  have F494 : Fld Z h487 a "com/example/tierline/tierline/sim/RecordBuffer" "tombstones" "[Z" (.ref tb) := Fld.other W488 P4 (Or.inl ne_a_sq)
  have F495 : Av Z h487 ti .long vti := P6.other W488 (Ne.symm ne_sq_ti)
  have F496 : Av Z h487 xp .long vxp := P7.other W488 (Ne.symm ne_sq_xp)
  have F497 : Av Z h487 zs .int vzs := P8.other W488 (Ne.symm ne_sq_zs)
  have F498 : Av Z h487 tb .boolean vtb := P9.other W488 (Ne.symm ne_sq_tb)
  refine C.aloadN d4_7 rfl rfl rfl ?_
  refine C.getF d4_8 rfl (tw hw 15 rfl) F491 ?_
  refine C.iloadN d4_11 rfl rfl ?_
  refine C.lload d4_12 rfl rfl ?_
  refine C.lastore d4_14 rfl F495 g_ti hi lti (fun h499 W500 F501 => ?_)
  have F502 : Fld Z h499 a "com/example/tierline/tierline/sim/RecordBuffer" "sequences" "[J" (.ref sq) := Fld.other W500 F490 (Or.inl ne_a_ti)
  have F503 : Fld Z h499 a "com/example/tierline/tierline/sim/RecordBuffer" "times" "[J" (.ref ti) := Fld.other W500 F491 (Or.inl ne_a_ti)
  have F504 : Fld Z h499 a "com/example/tierline/tierline/sim/RecordBuffer" "expiries" "[J" (.ref xp) := Fld.other W500 F492 (Or.inl ne_a_ti)
  have F505 : Fld Z h499 a "com/example/tierline/tierline/sim/RecordBuffer" "sizes" "[I" (.ref zs) := Fld.other W500 F493 (Or.inl ne_a_ti)
  have F506 : Fld Z h499 a "com/example/tierline/tierline/sim/RecordBuffer" "tombstones" "[Z" (.ref tb) := Fld.other W500 F494 (Or.inl ne_a_ti)
  have F507 : Av Z h499 xp .long vxp := F496.other W500 (Ne.symm ne_ti_xp)
  have F508 : Av Z h499 zs .int vzs := F497.other W500 (Ne.symm ne_ti_zs)
  have F509 : Av Z h499 tb .boolean vtb := F498.other W500 (Ne.symm ne_ti_tb)
  have F510 : Av Z h499 sq .long (vsq.set (Int32.toNatClampNeg i) (.long w1)) := F489.other W500 ne_sq_ti
  refine C.aloadN d4_15 rfl rfl rfl ?_
  refine C.getF d4_16 rfl (tw hw 17 rfl) F504 ?_
  refine C.iloadN d4_19 rfl rfl ?_
  refine C.lload d4_20 rfl rfl ?_
  refine C.lastore d4_22 rfl F507 g_xp hi lxp (fun h511 W512 F513 => ?_)
  have F514 : Fld Z h511 a "com/example/tierline/tierline/sim/RecordBuffer" "sequences" "[J" (.ref sq) := Fld.other W512 F502 (Or.inl ne_a_xp)
  have F515 : Fld Z h511 a "com/example/tierline/tierline/sim/RecordBuffer" "times" "[J" (.ref ti) := Fld.other W512 F503 (Or.inl ne_a_xp)
  have F516 : Fld Z h511 a "com/example/tierline/tierline/sim/RecordBuffer" "expiries" "[J" (.ref xp) := Fld.other W512 F504 (Or.inl ne_a_xp)
  have F517 : Fld Z h511 a "com/example/tierline/tierline/sim/RecordBuffer" "sizes" "[I" (.ref zs) := Fld.other W512 F505 (Or.inl ne_a_xp)
  have F518 : Fld Z h511 a "com/example/tierline/tierline/sim/RecordBuffer" "tombstones" "[Z" (.ref tb) := Fld.other W512 F506 (Or.inl ne_a_xp)
  have F519 : Av Z h511 zs .int vzs := F508.other W512 (Ne.symm ne_xp_zs)
  have F520 : Av Z h511 tb .boolean vtb := F509.other W512 (Ne.symm ne_xp_tb)
  have F521 : Av Z h511 sq .long (vsq.set (Int32.toNatClampNeg i) (.long w1)) := F510.other W512 ne_sq_xp
  have F522 : Av Z h511 ti .long (vti.set (Int32.toNatClampNeg i) (.long w2)) := F501.other W512 ne_ti_xp
  refine C.aloadN d4_23 rfl rfl rfl ?_
  refine C.getF d4_24 rfl (tw hw 20 rfl) F517 ?_
  refine C.iloadN d4_27 rfl rfl ?_
  refine C.iload d4_28 rfl rfl ?_
  refine C.iastore d4_30 rfl F519 g_zs hi lzs (fun h523 W524 F525 => ?_)
  have F526 : Fld Z h523 a "com/example/tierline/tierline/sim/RecordBuffer" "sequences" "[J" (.ref sq) := Fld.other W524 F514 (Or.inl ne_a_zs)
  have F527 : Fld Z h523 a "com/example/tierline/tierline/sim/RecordBuffer" "times" "[J" (.ref ti) := Fld.other W524 F515 (Or.inl ne_a_zs)
  have F528 : Fld Z h523 a "com/example/tierline/tierline/sim/RecordBuffer" "expiries" "[J" (.ref xp) := Fld.other W524 F516 (Or.inl ne_a_zs)
  have F529 : Fld Z h523 a "com/example/tierline/tierline/sim/RecordBuffer" "sizes" "[I" (.ref zs) := Fld.other W524 F517 (Or.inl ne_a_zs)
  have F530 : Fld Z h523 a "com/example/tierline/tierline/sim/RecordBuffer" "tombstones" "[Z" (.ref tb) := Fld.other W524 F518 (Or.inl ne_a_zs)
  have F531 : Av Z h523 tb .boolean vtb := F520.other W524 (Ne.symm ne_zs_tb)
  have F532 : Av Z h523 sq .long (vsq.set (Int32.toNatClampNeg i) (.long w1)) := F521.other W524 ne_sq_zs
  have F533 : Av Z h523 ti .long (vti.set (Int32.toNatClampNeg i) (.long w2)) := F522.other W524 ne_ti_zs
  have F534 : Av Z h523 xp .long (vxp.set (Int32.toNatClampNeg i) (.long w3)) := F513.other W524 ne_xp_zs
  refine C.aloadN d4_31 rfl rfl rfl ?_
  refine C.getF d4_32 rfl (tw hw 23 rfl) F530 ?_
  refine C.iloadN d4_35 rfl rfl ?_
  refine C.iload d4_36 rfl rfl ?_
  refine C.zastore d4_38 rfl F531 g_tb hi ltb (fun h535 W536 F537 => ?_)
  have F538 : Fld Z h535 a "com/example/tierline/tierline/sim/RecordBuffer" "sequences" "[J" (.ref sq) := Fld.other W536 F526 (Or.inl ne_a_tb)
  have F539 : Fld Z h535 a "com/example/tierline/tierline/sim/RecordBuffer" "times" "[J" (.ref ti) := Fld.other W536 F527 (Or.inl ne_a_tb)
  have F540 : Fld Z h535 a "com/example/tierline/tierline/sim/RecordBuffer" "expiries" "[J" (.ref xp) := Fld.other W536 F528 (Or.inl ne_a_tb)
  have F541 : Fld Z h535 a "com/example/tierline/tierline/sim/RecordBuffer" "sizes" "[I" (.ref zs) := Fld.other W536 F529 (Or.inl ne_a_tb)
  have F542 : Fld Z h535 a "com/example/tierline/tierline/sim/RecordBuffer" "tombstones" "[Z" (.ref tb) := Fld.other W536 F530 (Or.inl ne_a_tb)
  have F543 : Av Z h535 sq .long (vsq.set (Int32.toNatClampNeg i) (.long w1)) := F532.other W536 ne_sq_tb
  have F544 : Av Z h535 ti .long (vti.set (Int32.toNatClampNeg i) (.long w2)) := F533.other W536 ne_ti_tb
  have F545 : Av Z h535 xp .long (vxp.set (Int32.toNatClampNeg i) (.long w3)) := F534.other W536 ne_xp_tb
  have F546 : Av Z h535 zs .int (vzs.set (Int32.toNatClampNeg i) (.int w4)) := F525.other W536 ne_zs_tb
  exact C.ret0 d4_39 (by decide) (by decide) ⟨rfl, ((((((Keep.refl h0 [sq, ti, xp, zs, tb]).wr W488 (Or.inl (List.mem_of_getElem? (i := 0) rfl))).wr W500 (Or.inl (List.mem_of_getElem? (i := 1) rfl))).wr W512 (Or.inl (List.mem_of_getElem? (i := 2) rfl))).wr W524 (Or.inl (List.mem_of_getElem? (i := 3) rfl))).wr W536 (Or.inl (List.mem_of_getElem? (i := 4) rfl))), F543, F544, F545, F546, F537⟩
theorem d3_0 : decode prog_34_method_2_code 0 = .ok (.aload_n 0, 1) := by decide +kernel
theorem d3_1 : decode prog_34_method_2_code 1 = .ok (.getfield 30, 3) := by decide +kernel
theorem d3_4 : decode prog_34_method_2_code 4 = .ok (.aload_n 0, 1) := by decide +kernel
theorem d3_5 : decode prog_34_method_2_code 5 = .ok (.getfield 7, 3) := by decide +kernel
theorem d3_8 : decode prog_34_method_2_code 8 = .ok (.arraylength, 1) := by decide +kernel
theorem d3_9 : decode prog_34_method_2_code 9 = .ok (.if_icmp .ne 95, 3) := by decide +kernel
theorem d3_12 : decode prog_34_method_2_code 12 = .ok (.iconst 1, 1) := by decide +kernel
theorem d3_13 : decode prog_34_method_2_code 13 = .ok (.aload_n 0, 1) := by decide +kernel
theorem d3_14 : decode prog_34_method_2_code 14 = .ok (.getfield 30, 3) := by decide +kernel
theorem d3_17 : decode prog_34_method_2_code 17 = .ok (.iconst 2, 1) := by decide +kernel
theorem d3_18 : decode prog_34_method_2_code 18 = .ok (.invokestatic 34, 3) := by decide +kernel
theorem d3_21 : decode prog_34_method_2_code 21 = .ok (.invokestatic 40, 3) := by decide +kernel
theorem d3_24 : decode prog_34_method_2_code 24 = .ok (.istore 11, 2) := by decide +kernel
theorem d3_26 : decode prog_34_method_2_code 26 = .ok (.aload_n 0, 1) := by decide +kernel
theorem d3_27 : decode prog_34_method_2_code 27 = .ok (.aload_n 0, 1) := by decide +kernel
theorem d3_28 : decode prog_34_method_2_code 28 = .ok (.getfield 7, 3) := by decide +kernel
theorem d3_31 : decode prog_34_method_2_code 31 = .ok (.iload 11, 2) := by decide +kernel
theorem d3_33 : decode prog_34_method_2_code 33 = .ok (.invokestatic 43, 3) := by decide +kernel
theorem d3_36 : decode prog_34_method_2_code 36 = .ok (.putfield 7, 3) := by decide +kernel
theorem d3_39 : decode prog_34_method_2_code 39 = .ok (.aload_n 0, 1) := by decide +kernel
theorem d3_40 : decode prog_34_method_2_code 40 = .ok (.aload_n 0, 1) := by decide +kernel
theorem d3_41 : decode prog_34_method_2_code 41 = .ok (.getfield 13, 3) := by decide +kernel
theorem d3_44 : decode prog_34_method_2_code 44 = .ok (.iload 11, 2) := by decide +kernel
theorem d3_46 : decode prog_34_method_2_code 46 = .ok (.invokestatic 43, 3) := by decide +kernel
theorem d3_49 : decode prog_34_method_2_code 49 = .ok (.putfield 13, 3) := by decide +kernel
theorem d3_52 : decode prog_34_method_2_code 52 = .ok (.aload_n 0, 1) := by decide +kernel
theorem d3_53 : decode prog_34_method_2_code 53 = .ok (.aload_n 0, 1) := by decide +kernel
theorem d3_54 : decode prog_34_method_2_code 54 = .ok (.getfield 16, 3) := by decide +kernel
theorem d3_57 : decode prog_34_method_2_code 57 = .ok (.iload 11, 2) := by decide +kernel
theorem d3_59 : decode prog_34_method_2_code 59 = .ok (.invokestatic 43, 3) := by decide +kernel
theorem d3_62 : decode prog_34_method_2_code 62 = .ok (.putfield 16, 3) := by decide +kernel
theorem d3_65 : decode prog_34_method_2_code 65 = .ok (.aload_n 0, 1) := by decide +kernel
theorem d3_66 : decode prog_34_method_2_code 66 = .ok (.aload_n 0, 1) := by decide +kernel
theorem d3_67 : decode prog_34_method_2_code 67 = .ok (.getfield 19, 3) := by decide +kernel
theorem d3_70 : decode prog_34_method_2_code 70 = .ok (.iload 11, 2) := by decide +kernel
theorem d3_72 : decode prog_34_method_2_code 72 = .ok (.invokestatic 43, 3) := by decide +kernel
theorem d3_75 : decode prog_34_method_2_code 75 = .ok (.putfield 19, 3) := by decide +kernel
theorem d3_78 : decode prog_34_method_2_code 78 = .ok (.aload_n 0, 1) := by decide +kernel
theorem d3_79 : decode prog_34_method_2_code 79 = .ok (.aload_n 0, 1) := by decide +kernel
theorem d3_80 : decode prog_34_method_2_code 80 = .ok (.getfield 22, 3) := by decide +kernel
theorem d3_83 : decode prog_34_method_2_code 83 = .ok (.iload 11, 2) := by decide +kernel
theorem d3_85 : decode prog_34_method_2_code 85 = .ok (.invokestatic 49, 3) := by decide +kernel
theorem d3_88 : decode prog_34_method_2_code 88 = .ok (.putfield 22, 3) := by decide +kernel
theorem d3_91 : decode prog_34_method_2_code 91 = .ok (.aload_n 0, 1) := by decide +kernel
theorem d3_92 : decode prog_34_method_2_code 92 = .ok (.aload_n 0, 1) := by decide +kernel
theorem d3_93 : decode prog_34_method_2_code 93 = .ok (.getfield 26, 3) := by decide +kernel
theorem d3_96 : decode prog_34_method_2_code 96 = .ok (.iload 11, 2) := by decide +kernel
theorem d3_98 : decode prog_34_method_2_code 98 = .ok (.invokestatic 52, 3) := by decide +kernel
theorem d3_101 : decode prog_34_method_2_code 101 = .ok (.putfield 26, 3) := by decide +kernel
theorem d3_104 : decode prog_34_method_2_code 104 = .ok (.aload_n 0, 1) := by decide +kernel
theorem d3_105 : decode prog_34_method_2_code 105 = .ok (.getfield 7, 3) := by decide +kernel
theorem d3_108 : decode prog_34_method_2_code 108 = .ok (.aload_n 0, 1) := by decide +kernel
theorem d3_109 : decode prog_34_method_2_code 109 = .ok (.getfield 30, 3) := by decide +kernel
theorem d3_112 : decode prog_34_method_2_code 112 = .ok (.lload_n 1, 1) := by decide +kernel
theorem d3_113 : decode prog_34_method_2_code 113 = .ok (.lastore, 1) := by decide +kernel
theorem d3_114 : decode prog_34_method_2_code 114 = .ok (.aload_n 0, 1) := by decide +kernel
theorem d3_115 : decode prog_34_method_2_code 115 = .ok (.aload_n 0, 1) := by decide +kernel
theorem d3_116 : decode prog_34_method_2_code 116 = .ok (.getfield 30, 3) := by decide +kernel
theorem d3_119 : decode prog_34_method_2_code 119 = .ok (.lload_n 3, 1) := by decide +kernel
theorem d3_120 : decode prog_34_method_2_code 120 = .ok (.lload 5, 2) := by decide +kernel
theorem d3_122 : decode prog_34_method_2_code 122 = .ok (.lload 7, 2) := by decide +kernel
theorem d3_124 : decode prog_34_method_2_code 124 = .ok (.iload 9, 2) := by decide +kernel
theorem d3_126 : decode prog_34_method_2_code 126 = .ok (.iload 10, 2) := by decide +kernel
theorem d3_128 : decode prog_34_method_2_code 128 = .ok (.invokevirtual 55, 3) := by decide +kernel
theorem d3_131 : decode prog_34_method_2_code 131 = .ok (.aload_n 0, 1) := by decide +kernel
theorem d3_132 : decode prog_34_method_2_code 132 = .ok (.dup, 1) := by decide +kernel
theorem d3_133 : decode prog_34_method_2_code 133 = .ok (.getfield 30, 3) := by decide +kernel
theorem d3_136 : decode prog_34_method_2_code 136 = .ok (.iconst 1, 1) := by decide +kernel
theorem d3_137 : decode prog_34_method_2_code 137 = .ok (.iadd, 1) := by decide +kernel
theorem d3_138 : decode prog_34_method_2_code 138 = .ok (.putfield 30, 3) := by decide +kernel
theorem d3_141 : decode prog_34_method_2_code 141 = .ok (.return_, 1) := by decide +kernel
theorem pf_2 : plainFor (⟨"com/example/tierline/tierline/sim/RecordBuffer", "add", "(JJJJIZ)V"⟩ : MethodName) = true := by first | exact plainFor_of_name (by first | (simp [plainName, overriddenIn]; done) | decide +kernel) | decide +kernel
theorem pd_0 : parseMethodDescriptor "(IJJJIZ)V" = some ⟨[.int, .long, .long, .long, .int, .boolean], none⟩ := by decide +kernel
def Qcon_add (Z : State) (n0 : Nat) (h0 : Heap) (a : Addr) (tk : Addr) (sq : Addr) (ti : Addr) (xp : Addr) (zs : Addr) (tb : Addr) (i : Int32) (w0 : Int64) (w1 : Int64) (w2 : Int64) (w3 : Int64) (w4 : Int32) (w5 : Int32) (vtk : List Value) (vsq : List Value) (vti : List Value) (vxp : List Value) (vzs : List Value) (vtb : List Value) (v : Option Value) (h' : Heap) : Prop := (v = none) ∧ (Keep h0 h' [a, tk, sq, ti, xp, zs, tb]) ∧ (Fld Z h' a "com/example/tierline/tierline/sim/RecordBuffer" "tokens" "[J" (.ref tk)) ∧ (Fld Z h' a "com/example/tierline/tierline/sim/RecordBuffer" "sequences" "[J" (.ref sq)) ∧ (Fld Z h' a "com/example/tierline/tierline/sim/RecordBuffer" "times" "[J" (.ref ti)) ∧ (Fld Z h' a "com/example/tierline/tierline/sim/RecordBuffer" "expiries" "[J" (.ref xp)) ∧ (Fld Z h' a "com/example/tierline/tierline/sim/RecordBuffer" "sizes" "[I" (.ref zs)) ∧ (Fld Z h' a "com/example/tierline/tierline/sim/RecordBuffer" "tombstones" "[Z" (.ref tb)) ∧ (Fld Z h' a "com/example/tierline/tierline/sim/RecordBuffer" "count" "I" (.int (i + 1))) ∧ (Av Z h' tk .long (vtk.set (Int32.toNatClampNeg i) (.long w0))) ∧ (Av Z h' sq .long (vsq.set (Int32.toNatClampNeg i) (.long w1))) ∧ (Av Z h' ti .long (vti.set (Int32.toNatClampNeg i) (.long w2))) ∧ (Av Z h' xp .long (vxp.set (Int32.toNatClampNeg i) (.long w3))) ∧ (Av Z h' zs .int (vzs.set (Int32.toNatClampNeg i) (.int w4))) ∧ (Av Z h' tb .boolean (vtb.set (Int32.toNatClampNeg i) (.int (nar .boolean w5))))
theorem ef_con_add (m : MethodId) (a : Addr) (w0 : Int64) (w1 : Int64) (w2 : Int64) (w3 : Int64) (w4 : Int32) (w5 : Int32) : entryFrame m #[(.ref a), (.long w0), (.long w1), (.long w2), (.long w3), (.int w4), (.int w5)] 12 = mkF m 0 #[.val (.ref a), .val (.long w0), .second, .val (.long w1), .second, .val (.long w2), .second, .val (.long w3), .second, .val (.int w4), .val (.int w5), .unset] [] := by first | (simp [entryFrame, mkF, argsToLocals, Value.category]; done) | rfl
set_option maxRecDepth 65536 in
set_option maxHeartbeats 40000000 in
theorem con_add (l : Launch) (Z : State) (a0 : Array Value) (hw : ∀ d ∈ tables_1, d.before a0 Z = true) (n0 : Nat) (h0 : Heap) (hn0 : n0 ≤ h0.size) (a : Addr) (tk : Addr) (sq : Addr) (ti : Addr) (xp : Addr) (zs : Addr) (tb : Addr) (i : Int32) (w0 : Int64) (w1 : Int64) (w2 : Int64) (w3 : Int64) (w4 : Int32) (w5 : Int32) (vtk : List Value) (vsq : List Value) (vti : List Value) (vxp : List Value) (vzs : List Value) (vtb : List Value) (P0 : Exa Z h0 a "com/example/tierline/tierline/sim/RecordBuffer") (P1 : Fld Z h0 a "com/example/tierline/tierline/sim/RecordBuffer" "tokens" "[J" (.ref tk)) (P2 : Fld Z h0 a "com/example/tierline/tierline/sim/RecordBuffer" "sequences" "[J" (.ref sq)) (P3 : Fld Z h0 a "com/example/tierline/tierline/sim/RecordBuffer" "times" "[J" (.ref ti)) (P4 : Fld Z h0 a "com/example/tierline/tierline/sim/RecordBuffer" "expiries" "[J" (.ref xp)) (P5 : Fld Z h0 a "com/example/tierline/tierline/sim/RecordBuffer" "sizes" "[I" (.ref zs)) (P6 : Fld Z h0 a "com/example/tierline/tierline/sim/RecordBuffer" "tombstones" "[Z" (.ref tb)) (P7 : Fld Z h0 a "com/example/tierline/tierline/sim/RecordBuffer" "count" "I" (.int i)) (P8 : Av Z h0 tk .long vtk) (P9 : Av Z h0 sq .long vsq) (P10 : Av Z h0 ti .long vti) (P11 : Av Z h0 xp .long vxp) (P12 : Av Z h0 zs .int vzs) (P13 : Av Z h0 tb .boolean vtb) (g_a : n0 ≤ a) (g_tk : n0 ≤ tk) (g_sq : n0 ≤ sq) (g_ti : n0 ≤ ti) (g_xp : n0 ≤ xp) (g_zs : n0 ≤ zs) (g_tb : n0 ≤ tb) (ne_a_tk : a ≠ tk) (ne_a_sq : a ≠ sq) (ne_a_ti : a ≠ ti) (ne_a_xp : a ≠ xp) (ne_a_zs : a ≠ zs) (ne_a_tb : a ≠ tb) (ne_tk_sq : tk ≠ sq) (ne_tk_ti : tk ≠ ti) (ne_tk_xp : tk ≠ xp) (ne_tk_zs : tk ≠ zs) (ne_tk_tb : tk ≠ tb) (ne_sq_ti : sq ≠ ti) (ne_sq_xp : sq ≠ xp) (ne_sq_zs : sq ≠ zs) (ne_sq_tb : sq ≠ tb) (ne_ti_xp : ti ≠ xp) (ne_ti_zs : ti ≠ zs) (ne_ti_tb : ti ≠ tb) (ne_xp_zs : xp ≠ zs) (ne_xp_tb : xp ≠ tb) (ne_zs_tb : zs ≠ tb) (hi : ¬ i < 0) (ltk : i.toNatClampNeg < vtk.length) (lsq : i.toNatClampNeg < vsq.length) (lti : i.toNatClampNeg < vti.length) (lxp : i.toNatClampNeg < vxp.length) (lzs : i.toNatClampNeg < vzs.length) (ltb : i.toNatClampNeg < vtb.length) (h31 : vtk.length < 2 ^ 31) :
    Con l Z n0 [] (⟨"com/example/tierline/tierline/sim/RecordBuffer", "add", "(JJJJIZ)V"⟩ : MethodName) prog_34_method_2_code 12 none ({ frames := 1, cells := 0, slots := 0, locals := 21 } : Room) #[(.ref a), (.long w0), (.long w1), (.long w2), (.long w3), (.int w4), (.int w5)] h0 (Qcon_add Z n0 h0 a tk sq ti xp zs tb i w0 w1 w2 w3 w4 w5 vtk vsq vti vxp vzs vtb) := by
  refine Con.of pf_2 (fun m => ef_con_add m a w0 w1 w2 w3 w4 w5) hn0 ?_
  intro p e s m below meth c C
  refine C.aloadN d3_0 rfl rfl rfl ?_
  refine C.getF d3_1 rfl (tw hw 30 rfl) P7 ?_
  refine C.aloadN d3_4 rfl rfl rfl ?_
  refine C.getF d3_5 rfl (tw hw 11 rfl) P1 ?_
  refine C.alen d3_8 rfl P8 ?_
  refine C.icmp_ne_t d3_9 (by decide) rfl (own_nelen hi ltk h31) ?_
  refine C.aloadN d3_104 rfl rfl rfl ?_
  refine C.getF d3_105 rfl (tw hw 11 rfl) P1 ?_
  refine C.aloadN d3_108 rfl rfl rfl ?_
  refine C.getF d3_109 rfl (tw hw 30 rfl) P7 ?_
  refine C.lloadN d3_112 rfl rfl ?_
  refine C.lastore d3_113 rfl P8 g_tk hi ltk (fun h602 W603 F604 => ?_)
  have F605 : Exa Z h602 a "com/example/tierline/tierline/sim/RecordBuffer" := Exa.wr W603 P0
  have F606 : Fld Z h602 a "com/example/tierline/tierline/sim/RecordBuffer" "tokens" "[J" (.ref tk) := Fld.other W603 P1 (Or.inl ne_a_tk)
  have F607 : Fld Z h602 a "com/example/tierline/tierline/sim/RecordBuffer" "sequences" "[J" (.ref sq) := Fld.other W603 P2 (Or.inl ne_a_tk)
  have F608 : Fld Z h602 a "com/example/tierline/tierline/sim/RecordBuffer" "times" "[J" (.ref ti) := Fld.other W603 P3 (Or.inl ne_a_tk)
  have F609 : Fld Z h602 a "com/example/tierline/tierline/sim/RecordBuffer" "expiries" "[J" (.ref xp) := Fld.other W603 P4 (Or.inl ne_a_tk)
  have F610 : Fld Z h602 a "com/example/tierline/tierline/sim/RecordBuffer" "sizes" "[I" (.ref zs) := Fld.other W603 P5 (Or.inl ne_a_tk)
  have F611 : Fld Z h602 a "com/example/tierline/tierline/sim/RecordBuffer" "tombstones" "[Z" (.ref tb) := Fld.other W603 P6 (Or.inl ne_a_tk)
  have F612 : Fld Z h602 a "com/example/tierline/tierline/sim/RecordBuffer" "count" "I" (.int i) := Fld.other W603 P7 (Or.inl ne_a_tk)
  have F613 : Av Z h602 sq .long vsq := P9.other W603 (Ne.symm ne_tk_sq)
  have F614 : Av Z h602 ti .long vti := P10.other W603 (Ne.symm ne_tk_ti)
  have F615 : Av Z h602 xp .long vxp := P11.other W603 (Ne.symm ne_tk_xp)
  have F616 : Av Z h602 zs .int vzs := P12.other W603 (Ne.symm ne_tk_zs)
  have F617 : Av Z h602 tb .boolean vtb := P13.other W603 (Ne.symm ne_tk_tb)
  refine C.aloadN d3_114 rfl rfl rfl ?_
  refine C.aloadN d3_115 rfl rfl rfl ?_
  refine C.getF d3_116 rfl (tw hw 30 rfl) F612 ?_
  refine C.lloadN d3_119 rfl rfl ?_
  refine C.lload d3_120 rfl rfl ?_
  refine C.lload d3_122 rfl rfl ?_
  refine C.iload d3_124 rfl rfl ?_
  refine C.iload d3_126 rfl rfl ?_
  refine C.callV (argsL := [(.int i), (.long w1), (.long w2), (.long w3), (.int w4), (.int w5)]) (rest := []) 0 (fun zz => con_rep l Z a0 hw n0 h602 zz a sq ti xp zs tb i w1 w2 w3 w4 w5 vsq vti vxp vzs vtb F607 F608 F609 F610 F611 F613 F614 F615 F616 F617 g_sq g_ti g_xp g_zs g_tb ne_a_sq ne_a_ti ne_a_xp ne_a_zs ne_a_tb ne_sq_ti ne_sq_xp ne_sq_zs ne_sq_tb ne_ti_xp ne_ti_zs ne_ti_tb ne_xp_zs ne_xp_tb ne_zs_tb hi lsq lti lxp lzs ltb) F605 d3_128 rfl (tw hw 32 rfl) (tw hw 33 rfl) (tw hw 34 rfl) (tw hw 35 rfl) (tw hw 3 rfl) (tw hw 36 rfl) (by decide) pd_0 rfl rfl rfl (Nat.le_of_eq rfl) (by decide) (by decide) (by decide) (by decide) (fun v618 h619 r620 => ?_)
  obtain ⟨rfl, K621, F622, F623, F624, F625, F626⟩ := r620
  have F627 : Exa Z h619 a "com/example/tierline/tierline/sim/RecordBuffer" := F605.keep K621
  have F628 : Fld Z h619 a "com/example/tierline/tierline/sim/RecordBuffer" "tokens" "[J" (.ref tk) := F606.keep K621 (ninS ne_a_sq (ninS ne_a_ti (ninS ne_a_xp (ninS ne_a_zs (ninS ne_a_tb nin0)))))
  have F629 : Fld Z h619 a "com/example/tierline/tierline/sim/RecordBuffer" "sequences" "[J" (.ref sq) := F607.keep K621 (ninS ne_a_sq (ninS ne_a_ti (ninS ne_a_xp (ninS ne_a_zs (ninS ne_a_tb nin0)))))
  have F630 : Fld Z h619 a "com/example/tierline/tierline/sim/RecordBuffer" "times" "[J" (.ref ti) := F608.keep K621 (ninS ne_a_sq (ninS ne_a_ti (ninS ne_a_xp (ninS ne_a_zs (ninS ne_a_tb nin0)))))
  have F631 : Fld Z h619 a "com/example/tierline/tierline/sim/RecordBuffer" "expiries" "[J" (.ref xp) := F609.keep K621 (ninS ne_a_sq (ninS ne_a_ti (ninS ne_a_xp (ninS ne_a_zs (ninS ne_a_tb nin0)))))
  have F632 : Fld Z h619 a "com/example/tierline/tierline/sim/RecordBuffer" "sizes" "[I" (.ref zs) := F610.keep K621 (ninS ne_a_sq (ninS ne_a_ti (ninS ne_a_xp (ninS ne_a_zs (ninS ne_a_tb nin0)))))
  have F633 : Fld Z h619 a "com/example/tierline/tierline/sim/RecordBuffer" "tombstones" "[Z" (.ref tb) := F611.keep K621 (ninS ne_a_sq (ninS ne_a_ti (ninS ne_a_xp (ninS ne_a_zs (ninS ne_a_tb nin0)))))
  have F634 : Fld Z h619 a "com/example/tierline/tierline/sim/RecordBuffer" "count" "I" (.int i) := F612.keep K621 (ninS ne_a_sq (ninS ne_a_ti (ninS ne_a_xp (ninS ne_a_zs (ninS ne_a_tb nin0)))))
  have F640 : Av Z h619 tk .long (vtk.set (Int32.toNatClampNeg i) (.long w0)) := F604.keep K621 (ninS ne_tk_sq (ninS ne_tk_ti (ninS ne_tk_xp (ninS ne_tk_zs (ninS ne_tk_tb nin0)))))
  refine C.aloadN d3_131 rfl rfl rfl ?_
  refine C.dup d3_132 rfl rfl ?_
  refine C.getF d3_133 rfl (tw hw 30 rfl) F634 ?_
  refine C.iconst 1 d3_136 rfl rfl ?_
  refine C.iadd d3_137 rfl ?_
  refine C.putF d3_138 rfl (tw hw 30 rfl) F634 F627 (Or.inl (tw hw 31 rfl)) (tw hw 2 rfl) (ty := .int) (by decide) rfl rfl g_a (fun h641 W642 F643 => ?_)
  have F644 : Exa Z h641 a "com/example/tierline/tierline/sim/RecordBuffer" := Exa.wr W642 F627
  have F645 : Fld Z h641 a "com/example/tierline/tierline/sim/RecordBuffer" "tokens" "[J" (.ref tk) := Fld.other W642 F628 (Or.inr (slot_ne (C := "com/example/tierline/tierline/sim/RecordBuffer") (t := (.array .long)) (t' := .int) (Or.inl (tw hw 12 rfl)) (Or.inl (tw hw 31 rfl)) (by decide) (by decide) (by decide)))
  have F646 : Fld Z h641 a "com/example/tierline/tierline/sim/RecordBuffer" "sequences" "[J" (.ref sq) := Fld.other W642 F629 (Or.inr (slot_ne (C := "com/example/tierline/tierline/sim/RecordBuffer") (t := (.array .long)) (t' := .int) (Or.inl (tw hw 14 rfl)) (Or.inl (tw hw 31 rfl)) (by decide) (by decide) (by decide)))
  have F647 : Fld Z h641 a "com/example/tierline/tierline/sim/RecordBuffer" "times" "[J" (.ref ti) := Fld.other W642 F630 (Or.inr (slot_ne (C := "com/example/tierline/tierline/sim/RecordBuffer") (t := (.array .long)) (t' := .int) (Or.inl (tw hw 16 rfl)) (Or.inl (tw hw 31 rfl)) (by decide) (by decide) (by decide)))
  have F648 : Fld Z h641 a "com/example/tierline/tierline/sim/RecordBuffer" "expiries" "[J" (.ref xp) := Fld.other W642 F631 (Or.inr (slot_ne (C := "com/example/tierline/tierline/sim/RecordBuffer") (t := (.array .long)) (t' := .int) (Or.inl (tw hw 18 rfl)) (Or.inl (tw hw 31 rfl)) (by decide) (by decide) (by decide)))
  have F649 : Fld Z h641 a "com/example/tierline/tierline/sim/RecordBuffer" "sizes" "[I" (.ref zs) := Fld.other W642 F632 (Or.inr (slot_ne (C := "com/example/tierline/tierline/sim/RecordBuffer") (t := (.array .int)) (t' := .int) (Or.inl (tw hw 21 rfl)) (Or.inl (tw hw 31 rfl)) (by decide) (by decide) (by decide)))
  have F650 : Fld Z h641 a "com/example/tierline/tierline/sim/RecordBuffer" "tombstones" "[Z" (.ref tb) := Fld.other W642 F633 (Or.inr (slot_ne (C := "com/example/tierline/tierline/sim/RecordBuffer") (t := (.array .boolean)) (t' := .int) (Or.inl (tw hw 24 rfl)) (Or.inl (tw hw 31 rfl)) (by decide) (by decide) (by decide)))
  have F651 : Av Z h641 tk .long (vtk.set (Int32.toNatClampNeg i) (.long w0)) := F640.other W642 (Ne.symm ne_a_tk)
  have F652 : Av Z h641 sq .long (vsq.set (Int32.toNatClampNeg i) (.long w1)) := F622.other W642 (Ne.symm ne_a_sq)
  have F653 : Av Z h641 ti .long (vti.set (Int32.toNatClampNeg i) (.long w2)) := F623.other W642 (Ne.symm ne_a_ti)
  have F654 : Av Z h641 xp .long (vxp.set (Int32.toNatClampNeg i) (.long w3)) := F624.other W642 (Ne.symm ne_a_xp)
  have F655 : Av Z h641 zs .int (vzs.set (Int32.toNatClampNeg i) (.int w4)) := F625.other W642 (Ne.symm ne_a_zs)
  have F656 : Av Z h641 tb .boolean (vtb.set (Int32.toNatClampNeg i) (.int (nar .boolean w5))) := F626.other W642 (Ne.symm ne_a_tb)
  exact C.ret0 d3_141 (by decide) (by decide) ⟨rfl, ((((Keep.refl h0 [a, tk, sq, ti, xp, zs, tb]).wr W603 (Or.inl (List.mem_of_getElem? (i := 1) rfl))).trans K621 (allS (Or.inl (List.mem_of_getElem? (i := 2) rfl)) (allS (Or.inl (List.mem_of_getElem? (i := 3) rfl)) (allS (Or.inl (List.mem_of_getElem? (i := 4) rfl)) (allS (Or.inl (List.mem_of_getElem? (i := 5) rfl)) (allS (Or.inl (List.mem_of_getElem? (i := 6) rfl)) all0)))))).wr W642 (Or.inl (List.mem_of_getElem? (i := 0) rfl))), F645, F646, F647, F648, F649, F650, F643, F651, F652, F653, F654, F655, F656⟩
theorem d5_0 : decode prog_34_method_8_code 0 = .ok (.aload_n 0, 1) := by decide +kernel
theorem d5_1 : decode prog_34_method_8_code 1 = .ok (.getfield 30, 3) := by decide +kernel
theorem d5_4 : decode prog_34_method_8_code 4 = .ok (.ireturn, 1) := by decide +kernel
theorem pf_3 : plainFor (⟨"com/example/tierline/tierline/sim/RecordBuffer", "count", "()I"⟩ : MethodName) = true := by first | exact plainFor_of_name (by first | (simp [plainName, overriddenIn]; done) | decide +kernel) | decide +kernel
def Qcon_cnt (Z : State) (n0 : Nat) (h0 : Heap) (a : Addr) (n : Int32) (v : Option Value) (h' : Heap) : Prop := (v = some (.int n)) ∧ (h0 = h')
theorem ef_con_cnt (m : MethodId) (a : Addr) : entryFrame m #[(.ref a)] 1 = mkF m 0 #[.val (.ref a)] [] := by first | (simp [entryFrame, mkF, argsToLocals, Value.category]; done) | rfl
set_option maxRecDepth 65536 in
set_option maxHeartbeats 40000000 in
theorem con_cnt (l : Launch) (Z : State) (a0 : Array Value) (hw : ∀ d ∈ tables_1, d.before a0 Z = true) (n0 : Nat) (h0 : Heap) (hn0 : n0 ≤ h0.size) (a : Addr) (n : Int32) (P0 : Fld Z h0 a "com/example/tierline/tierline/sim/RecordBuffer" "count" "I" (.int n)) :
    Con l Z n0 [] (⟨"com/example/tierline/tierline/sim/RecordBuffer", "count", "()I"⟩ : MethodName) prog_34_method_8_code 1 (some .int) ({ frames := 0, cells := 0, slots := 0, locals := 0 } : Room) #[(.ref a)] h0 (Qcon_cnt Z n0 h0 a n) := by
  refine Con.of pf_3 (fun m => ef_con_cnt m a) hn0 ?_
  intro p e s m below meth c C
  refine C.aloadN d5_0 rfl rfl rfl ?_
  refine C.getF d5_1 rfl (tw hw 30 rfl) P0 ?_
  exact C.retI d5_4 (by decide) (by decide) ⟨rfl, rfl⟩
theorem d6_0 : decode prog_34_method_9_code 0 = .ok (.aload_n 0, 1) := by decide +kernel
theorem d6_1 : decode prog_34_method_9_code 1 = .ok (.getfield 7, 3) := by decide +kernel
theorem d6_4 : decode prog_34_method_9_code 4 = .ok (.iload_n 1, 1) := by decide +kernel
theorem d6_5 : decode prog_34_method_9_code 5 = .ok (.laload, 1) := by decide +kernel
theorem d6_6 : decode prog_34_method_9_code 6 = .ok (.lreturn, 1) := by decide +kernel
theorem pf_4 : plainFor (⟨"com/example/tierline/tierline/sim/RecordBuffer", "token", "(I)J"⟩ : MethodName) = true := by first | exact plainFor_of_name (by first | (simp [plainName, overriddenIn]; done) | decide +kernel) | decide +kernel
def Qcon_token (Z : State) (n0 : Nat) (h0 : Heap) (a : Addr) (b : Addr) (i : Int32) (w : Int64) (vs : List Value) (v : Option Value) (h' : Heap) : Prop := (v = some (.long w)) ∧ (h0 = h')
theorem ef_con_token (m : MethodId) (a : Addr) (i : Int32) : entryFrame m #[(.ref a), (.int i)] 2 = mkF m 0 #[.val (.ref a), .val (.int i)] [] := by first | (simp [entryFrame, mkF, argsToLocals, Value.category]; done) | rfl
set_option maxRecDepth 65536 in
set_option maxHeartbeats 40000000 in
theorem con_token (l : Launch) (Z : State) (a0 : Array Value) (hw : ∀ d ∈ tables_1, d.before a0 Z = true) (n0 : Nat) (h0 : Heap) (hn0 : n0 ≤ h0.size) (a : Addr) (b : Addr) (i : Int32) (w : Int64) (vs : List Value) (P0 : Fld Z h0 a "com/example/tierline/tierline/sim/RecordBuffer" "tokens" "[J" (.ref b)) (P1 : Av Z h0 b .long vs) (hi : ¬ i < 0) (hg : vs[i.toNatClampNeg]? = some (.long w)) :
    Con l Z n0 [] (⟨"com/example/tierline/tierline/sim/RecordBuffer", "token", "(I)J"⟩ : MethodName) prog_34_method_9_code 2 (some .long) ({ frames := 0, cells := 0, slots := 0, locals := 0 } : Room) #[(.ref a), (.int i)] h0 (Qcon_token Z n0 h0 a b i w vs) := by
  refine Con.of pf_4 (fun m => ef_con_token m a i) hn0 ?_
  intro p e s m below meth c C
  refine C.aloadN d6_0 rfl rfl rfl ?_
  refine C.getF d6_1 rfl (tw hw 11 rfl) P0 ?_
  refine C.iloadN d6_4 rfl rfl ?_
  refine C.laload (.long w) d6_5 rfl P1 hi hg ?_
  exact C.retJ d6_6 (by decide) (by decide) ⟨rfl, rfl⟩
theorem d7_0 : decode prog_34_method_10_code 0 = .ok (.aload_n 0, 1) := by decide +kernel
theorem d7_1 : decode prog_34_method_10_code 1 = .ok (.getfield 13, 3) := by decide +kernel
theorem d7_4 : decode prog_34_method_10_code 4 = .ok (.iload_n 1, 1) := by decide +kernel
theorem d7_5 : decode prog_34_method_10_code 5 = .ok (.laload, 1) := by decide +kernel
theorem d7_6 : decode prog_34_method_10_code 6 = .ok (.lreturn, 1) := by decide +kernel
theorem pf_5 : plainFor (⟨"com/example/tierline/tierline/sim/RecordBuffer", "sequence", "(I)J"⟩ : MethodName) = true := by first | exact plainFor_of_name (by first | (simp [plainName, overriddenIn]; done) | decide +kernel) | decide +kernel
def Qcon_sequence (Z : State) (n0 : Nat) (h0 : Heap) (a : Addr) (b : Addr) (i : Int32) (w : Int64) (vs : List Value) (v : Option Value) (h' : Heap) : Prop := (v = some (.long w)) ∧ (h0 = h')
theorem ef_con_sequence (m : MethodId) (a : Addr) (i : Int32) : entryFrame m #[(.ref a), (.int i)] 2 = mkF m 0 #[.val (.ref a), .val (.int i)] [] := by first | (simp [entryFrame, mkF, argsToLocals, Value.category]; done) | rfl
set_option maxRecDepth 65536 in
set_option maxHeartbeats 40000000 in
theorem con_sequence (l : Launch) (Z : State) (a0 : Array Value) (hw : ∀ d ∈ tables_1, d.before a0 Z = true) (n0 : Nat) (h0 : Heap) (hn0 : n0 ≤ h0.size) (a : Addr) (b : Addr) (i : Int32) (w : Int64) (vs : List Value) (P0 : Fld Z h0 a "com/example/tierline/tierline/sim/RecordBuffer" "sequences" "[J" (.ref b)) (P1 : Av Z h0 b .long vs) (hi : ¬ i < 0) (hg : vs[i.toNatClampNeg]? = some (.long w)) :
    Con l Z n0 [] (⟨"com/example/tierline/tierline/sim/RecordBuffer", "sequence", "(I)J"⟩ : MethodName) prog_34_method_10_code 2 (some .long) ({ frames := 0, cells := 0, slots := 0, locals := 0 } : Room) #[(.ref a), (.int i)] h0 (Qcon_sequence Z n0 h0 a b i w vs) := by
  refine Con.of pf_5 (fun m => ef_con_sequence m a i) hn0 ?_
  intro p e s m below meth c C
  refine C.aloadN d7_0 rfl rfl rfl ?_
  refine C.getF d7_1 rfl (tw hw 13 rfl) P0 ?_
  refine C.iloadN d7_4 rfl rfl ?_
  refine C.laload (.long w) d7_5 rfl P1 hi hg ?_
  exact C.retJ d7_6 (by decide) (by decide) ⟨rfl, rfl⟩
theorem d8_0 : decode prog_34_method_11_code 0 = .ok (.aload_n 0, 1) := by decide +kernel
theorem d8_1 : decode prog_34_method_11_code 1 = .ok (.getfield 16, 3) := by decide +kernel
theorem d8_4 : decode prog_34_method_11_code 4 = .ok (.iload_n 1, 1) := by decide +kernel
theorem d8_5 : decode prog_34_method_11_code 5 = .ok (.laload, 1) := by decide +kernel
theorem d8_6 : decode prog_34_method_11_code 6 = .ok (.lreturn, 1) := by decide +kernel
theorem pf_6 : plainFor (⟨"com/example/tierline/tierline/sim/RecordBuffer", "time", "(I)J"⟩ : MethodName) = true := by first | exact plainFor_of_name (by first | (simp [plainName, overriddenIn]; done) | decide +kernel) | decide +kernel
def Qcon_time (Z : State) (n0 : Nat) (h0 : Heap) (a : Addr) (b : Addr) (i : Int32) (w : Int64) (vs : List Value) (v : Option Value) (h' : Heap) : Prop := (v = some (.long w)) ∧ (h0 = h')
theorem ef_con_time (m : MethodId) (a : Addr) (i : Int32) : entryFrame m #[(.ref a), (.int i)] 2 = mkF m 0 #[.val (.ref a), .val (.int i)] [] := by first | (simp [entryFrame, mkF, argsToLocals, Value.category]; done) | rfl
set_option maxRecDepth 65536 in
set_option maxHeartbeats 40000000 in
theorem con_time (l : Launch) (Z : State) (a0 : Array Value) (hw : ∀ d ∈ tables_1, d.before a0 Z = true) (n0 : Nat) (h0 : Heap) (hn0 : n0 ≤ h0.size) (a : Addr) (b : Addr) (i : Int32) (w : Int64) (vs : List Value) (P0 : Fld Z h0 a "com/example/tierline/tierline/sim/RecordBuffer" "times" "[J" (.ref b)) (P1 : Av Z h0 b .long vs) (hi : ¬ i < 0) (hg : vs[i.toNatClampNeg]? = some (.long w)) :
    Con l Z n0 [] (⟨"com/example/tierline/tierline/sim/RecordBuffer", "time", "(I)J"⟩ : MethodName) prog_34_method_11_code 2 (some .long) ({ frames := 0, cells := 0, slots := 0, locals := 0 } : Room) #[(.ref a), (.int i)] h0 (Qcon_time Z n0 h0 a b i w vs) := by
  refine Con.of pf_6 (fun m => ef_con_time m a i) hn0 ?_
  intro p e s m below meth c C
  refine C.aloadN d8_0 rfl rfl rfl ?_
  refine C.getF d8_1 rfl (tw hw 15 rfl) P0 ?_
  refine C.iloadN d8_4 rfl rfl ?_
  refine C.laload (.long w) d8_5 rfl P1 hi hg ?_
  exact C.retJ d8_6 (by decide) (by decide) ⟨rfl, rfl⟩
theorem d9_0 : decode prog_34_method_12_code 0 = .ok (.aload_n 0, 1) := by decide +kernel
theorem d9_1 : decode prog_34_method_12_code 1 = .ok (.getfield 19, 3) := by decide +kernel
theorem d9_4 : decode prog_34_method_12_code 4 = .ok (.iload_n 1, 1) := by decide +kernel
theorem d9_5 : decode prog_34_method_12_code 5 = .ok (.laload, 1) := by decide +kernel
theorem d9_6 : decode prog_34_method_12_code 6 = .ok (.lreturn, 1) := by decide +kernel
theorem pf_7 : plainFor (⟨"com/example/tierline/tierline/sim/RecordBuffer", "expiry", "(I)J"⟩ : MethodName) = true := by first | exact plainFor_of_name (by first | (simp [plainName, overriddenIn]; done) | decide +kernel) | decide +kernel
def Qcon_expiry (Z : State) (n0 : Nat) (h0 : Heap) (a : Addr) (b : Addr) (i : Int32) (w : Int64) (vs : List Value) (v : Option Value) (h' : Heap) : Prop := (v = some (.long w)) ∧ (h0 = h')
theorem ef_con_expiry (m : MethodId) (a : Addr) (i : Int32) : entryFrame m #[(.ref a), (.int i)] 2 = mkF m 0 #[.val (.ref a), .val (.int i)] [] := by first | (simp [entryFrame, mkF, argsToLocals, Value.category]; done) | rfl
set_option maxRecDepth 65536 in
set_option maxHeartbeats 40000000 in
theorem con_expiry (l : Launch) (Z : State) (a0 : Array Value) (hw : ∀ d ∈ tables_1, d.before a0 Z = true) (n0 : Nat) (h0 : Heap) (hn0 : n0 ≤ h0.size) (a : Addr) (b : Addr) (i : Int32) (w : Int64) (vs : List Value) (P0 : Fld Z h0 a "com/example/tierline/tierline/sim/RecordBuffer" "expiries" "[J" (.ref b)) (P1 : Av Z h0 b .long vs) (hi : ¬ i < 0) (hg : vs[i.toNatClampNeg]? = some (.long w)) :
    Con l Z n0 [] (⟨"com/example/tierline/tierline/sim/RecordBuffer", "expiry", "(I)J"⟩ : MethodName) prog_34_method_12_code 2 (some .long) ({ frames := 0, cells := 0, slots := 0, locals := 0 } : Room) #[(.ref a), (.int i)] h0 (Qcon_expiry Z n0 h0 a b i w vs) := by
  refine Con.of pf_7 (fun m => ef_con_expiry m a i) hn0 ?_
  intro p e s m below meth c C
  refine C.aloadN d9_0 rfl rfl rfl ?_
  refine C.getF d9_1 rfl (tw hw 17 rfl) P0 ?_
  refine C.iloadN d9_4 rfl rfl ?_
  refine C.laload (.long w) d9_5 rfl P1 hi hg ?_
  exact C.retJ d9_6 (by decide) (by decide) ⟨rfl, rfl⟩
theorem d10_0 : decode prog_34_method_13_code 0 = .ok (.aload_n 0, 1) := by decide +kernel
theorem d10_1 : decode prog_34_method_13_code 1 = .ok (.getfield 22, 3) := by decide +kernel
theorem d10_4 : decode prog_34_method_13_code 4 = .ok (.iload_n 1, 1) := by decide +kernel
theorem d10_5 : decode prog_34_method_13_code 5 = .ok (.iaload, 1) := by decide +kernel
theorem d10_6 : decode prog_34_method_13_code 6 = .ok (.ireturn, 1) := by decide +kernel
theorem pf_8 : plainFor (⟨"com/example/tierline/tierline/sim/RecordBuffer", "size", "(I)I"⟩ : MethodName) = true := by first | exact plainFor_of_name (by first | (simp [plainName, overriddenIn]; done) | decide +kernel) | decide +kernel
def Qcon_size (Z : State) (n0 : Nat) (h0 : Heap) (a : Addr) (b : Addr) (i : Int32) (w : Int32) (vs : List Value) (v : Option Value) (h' : Heap) : Prop := (v = some (.int w)) ∧ (h0 = h')
theorem ef_con_size (m : MethodId) (a : Addr) (i : Int32) : entryFrame m #[(.ref a), (.int i)] 2 = mkF m 0 #[.val (.ref a), .val (.int i)] [] := by first | (simp [entryFrame, mkF, argsToLocals, Value.category]; done) | rfl
set_option maxRecDepth 65536 in
set_option maxHeartbeats 40000000 in
theorem con_size (l : Launch) (Z : State) (a0 : Array Value) (hw : ∀ d ∈ tables_1, d.before a0 Z = true) (n0 : Nat) (h0 : Heap) (hn0 : n0 ≤ h0.size) (a : Addr) (b : Addr) (i : Int32) (w : Int32) (vs : List Value) (P0 : Fld Z h0 a "com/example/tierline/tierline/sim/RecordBuffer" "sizes" "[I" (.ref b)) (P1 : Av Z h0 b .int vs) (hi : ¬ i < 0) (hg : vs[i.toNatClampNeg]? = some (.int w)) :
    Con l Z n0 [] (⟨"com/example/tierline/tierline/sim/RecordBuffer", "size", "(I)I"⟩ : MethodName) prog_34_method_13_code 2 (some .int) ({ frames := 0, cells := 0, slots := 0, locals := 0 } : Room) #[(.ref a), (.int i)] h0 (Qcon_size Z n0 h0 a b i w vs) := by
  refine Con.of pf_8 (fun m => ef_con_size m a i) hn0 ?_
  intro p e s m below meth c C
  refine C.aloadN d10_0 rfl rfl rfl ?_
  refine C.getF d10_1 rfl (tw hw 20 rfl) P0 ?_
  refine C.iloadN d10_4 rfl rfl ?_
  refine C.iaload (.int w) d10_5 rfl P1 hi hg ?_
  exact C.retI d10_6 (by decide) (by decide) ⟨rfl, rfl⟩
theorem d11_0 : decode prog_34_method_14_code 0 = .ok (.aload_n 0, 1) := by decide +kernel
theorem d11_1 : decode prog_34_method_14_code 1 = .ok (.getfield 26, 3) := by decide +kernel
theorem d11_4 : decode prog_34_method_14_code 4 = .ok (.iload_n 1, 1) := by decide +kernel
theorem d11_5 : decode prog_34_method_14_code 5 = .ok (.baload, 1) := by decide +kernel
theorem d11_6 : decode prog_34_method_14_code 6 = .ok (.ireturn, 1) := by decide +kernel
theorem pf_9 : plainFor (⟨"com/example/tierline/tierline/sim/RecordBuffer", "isTombstone", "(I)Z"⟩ : MethodName) = true := by first | exact plainFor_of_name (by first | (simp [plainName, overriddenIn]; done) | decide +kernel) | decide +kernel
def Qcon_isTombstone (Z : State) (n0 : Nat) (h0 : Heap) (a : Addr) (b : Addr) (i : Int32) (w : Int32) (vs : List Value) (v : Option Value) (h' : Heap) : Prop := (v = some (.int w)) ∧ (h0 = h')
theorem ef_con_isTombstone (m : MethodId) (a : Addr) (i : Int32) : entryFrame m #[(.ref a), (.int i)] 2 = mkF m 0 #[.val (.ref a), .val (.int i)] [] := by first | (simp [entryFrame, mkF, argsToLocals, Value.category]; done) | rfl
set_option maxRecDepth 65536 in
set_option maxHeartbeats 40000000 in
theorem con_isTombstone (l : Launch) (Z : State) (a0 : Array Value) (hw : ∀ d ∈ tables_1, d.before a0 Z = true) (n0 : Nat) (h0 : Heap) (hn0 : n0 ≤ h0.size) (a : Addr) (b : Addr) (i : Int32) (w : Int32) (vs : List Value) (P0 : Fld Z h0 a "com/example/tierline/tierline/sim/RecordBuffer" "tombstones" "[Z" (.ref b)) (P1 : Av Z h0 b .boolean vs) (hi : ¬ i < 0) (hg : vs[i.toNatClampNeg]? = some (.int w)) (hb : narrow .boolean (.int w) = .int w) :
    Con l Z n0 [] (⟨"com/example/tierline/tierline/sim/RecordBuffer", "isTombstone", "(I)Z"⟩ : MethodName) prog_34_method_14_code 2 (some .boolean) ({ frames := 0, cells := 0, slots := 0, locals := 0 } : Room) #[(.ref a), (.int i)] h0 (Qcon_isTombstone Z n0 h0 a b i w vs) := by
  refine Con.of pf_9 (fun m => ef_con_isTombstone m a i) hn0 ?_
  intro p e s m below meth c C
  refine C.aloadN d11_0 rfl rfl rfl ?_
  refine C.getF d11_1 rfl (tw hw 23 rfl) P0 ?_
  refine C.iloadN d11_4 rfl rfl ?_
  refine C.zaload (.int w) d11_5 rfl P1 hi hg ?_
  exact C.retZ d11_6 hb (by decide) (by decide) ⟨rfl, rfl⟩
theorem pf_10 : plainFor x = true := by first | exact plainFor_of_name (by first | (simp [plainName, overriddenIn]; done) | decide +kernel) | decide +kernel
theorem pd_1 : parseMethodDescriptor "(I)V" = some ⟨[.int], none⟩ := by decide +kernel
theorem pd_2 : parseMethodDescriptor "(JJJJIZ)V" = some ⟨[.long, .long, .long, .long, .int, .boolean], none⟩ := by decide +kernel
theorem pd_3 : parseMethodDescriptor "()I" = some ⟨[], some .int⟩ := by decide +kernel
theorem pd_4 : parseMethodDescriptor "(I)J" = some ⟨[.int], some .long⟩ := by decide +kernel
theorem pd_5 : parseMethodDescriptor "(I)I" = some ⟨[.int], some .int⟩ := by decide +kernel
theorem pd_6 : parseMethodDescriptor "(I)Z" = some ⟨[.int], some .boolean⟩ := by decide +kernel
def Qcon0 (Z : State) (n0 : Nat) (h0 : Heap) (x0 : Int32) (x1 : Int64) (x2 : Int64) (x3 : Int64) (x4 : Int32) (x5 : Int64) (v : Option Value) (h' : Heap) : Prop := v = some (.int 1) ∧ True
theorem ef_con0 (m : MethodId) (x0 : Int32) (x1 : Int64) (x2 : Int64) (x3 : Int64) (x4 : Int32) (x5 : Int64) : entryFrame m #[(.int x0), (.long x1), (.long x2), (.long x3), (.int x4), (.long x5)] maxLocals = mkF m 0 #[.val (.int x0), .val (.long x1), .second, .val (.long x2), .second, .val (.long x3), .second, .val (.int x4), .val (.long x5), .second, .unset, .unset, .unset, .unset, .unset, .unset, .unset, .unset, .unset, .unset, .unset, .unset, .unset, .unset, .unset] [] := by first | (simp [entryFrame, mkF, argsToLocals, Value.category, maxLocals]; done) | rfl
set_option maxRecDepth 65536 in
set_option maxHeartbeats 40000000 in
theorem con0 (l : Launch) (Z : State) (a0 : Array Value) (hw : ∀ d ∈ tables_1, d.before a0 Z = true) (n0 : Nat) (h0 : Heap) (hn0 : n0 ≤ h0.size) (x0 : Int32) (x1 : Int64) (x2 : Int64) (x3 : Int64) (x4 : Int32) (x5 : Int64) :
    Con l Z n0 tables_1 x code maxLocals ret room_1 #[(.int x0), (.long x1), (.long x2), (.long x3), (.int x4), (.long x5)] h0 (Qcon0 Z n0 h0 x0 x1 x2 x3 x4 x5) := by
  refine Con.of pf_10 (fun m => ef_con0 m x0 x1 x2 x3 x4 x5) hn0 ?_
  intro p e s m below meth c C
  refine C.iloadN at_0 rfl rfl ?_
  refine C.iconst 1 at_1 rfl rfl ?_
  refine C.iand at_2 rfl ?_
  refine C.istore (Ls' := #[.val (.int x0), .val (.long x1), .second, .val (.long x2), .second, .val (.long x3), .second, .val (.int x4), .val (.long x5), .second, .val (.int (x0 &&& 1)), .unset, .unset, .unset, .unset, .unset, .unset, .unset, .unset, .unset, .unset, .unset, .unset, .unset, .unset]) at_3 rfl rfl ?_
  rcases and_one x0 with qc | qc
  · rw [qc]
    refine C.iconst 1 at_5 rfl rfl ?_
    refine C.iload at_6 rfl rfl ?_
    refine C.isub at_8 rfl ?_
    show Go p l e room_1 s m #[(.int x0), (.long x1), (.long x2), (.long x3), (.int x4), (.long x5)] below meth c n0 (FinQ s n0 (Qcon0 Z n0 h0 x0 x1 x2 x3 x4 x5) room_1.cells room_1.slots) h0 0 0 9 #[.val (.int x0), .val (.long x1), .second, .val (.long x2), .second, .val (.long x3), .second, .val (.int x4), .val (.long x5), .second, .val (.int 0), .unset, .unset, .unset, .unset, .unset, .unset, .unset, .unset, .unset, .unset, .unset, .unset, .unset, .unset] [(.int 1)]
    refine C.istore (Ls' := #[.val (.int x0), .val (.long x1), .second, .val (.long x2), .second, .val (.long x3), .second, .val (.int x4), .val (.long x5), .second, .val (.int 0), .val (.int 1), .unset, .unset, .unset, .unset, .unset, .unset, .unset, .unset, .unset, .unset, .unset, .unset, .unset]) at_9 rfl rfl ?_
    refine C.iloadN at_11 rfl rfl ?_
    refine C.iconst 1 at_12 rfl rfl ?_
    refine C.iushr at_13 rfl ?_
    refine C.iconst 1 at_14 rfl rfl ?_
    refine C.iand at_15 rfl ?_
    have J24_657 : ∀ (b12 : Int32) (hb12 : nar .boolean b12 = b12), Go p l e room_1 s m #[(.int x0), (.long x1), (.long x2), (.long x3), (.int x4), (.long x5)] below meth c n0 (FinQ s n0 (Qcon0 Z n0 h0 x0 x1 x2 x3 x4 x5) room_1.cells room_1.slots) h0 0 0 24 #[.val (.int x0), .val (.long x1), .second, .val (.long x2), .second, .val (.long x3), .second, .val (.int x4), .val (.long x5), .second, .val (.int 0), .val (.int 1), .unset, .unset, .unset, .unset, .unset, .unset, .unset, .unset, .unset, .unset, .unset, .unset, .unset] [(.int b12)] := by
      intro b12 hb12
      refine C.istore (Ls' := #[.val (.int x0), .val (.long x1), .second, .val (.long x2), .second, .val (.long x3), .second, .val (.int x4), .val (.long x5), .second, .val (.int 0), .val (.int 1), .val (.int b12), .unset, .unset, .unset, .unset, .unset, .unset, .unset, .unset, .unset, .unset, .unset, .unset]) at_24 rfl rfl ?_
      refine C.iloadN at_26 rfl rfl ?_
      refine C.iconst 2 at_27 rfl rfl ?_
      refine C.iushr at_28 rfl ?_
      refine C.iconst 1 at_29 rfl rfl ?_
      refine C.iand at_30 rfl ?_
      have J39_658 : ∀ (b13 : Int32) (hb13 : nar .boolean b13 = b13), Go p l e room_1 s m #[(.int x0), (.long x1), (.long x2), (.long x3), (.int x4), (.long x5)] below meth c n0 (FinQ s n0 (Qcon0 Z n0 h0 x0 x1 x2 x3 x4 x5) room_1.cells room_1.slots) h0 0 0 39 #[.val (.int x0), .val (.long x1), .second, .val (.long x2), .second, .val (.long x3), .second, .val (.int x4), .val (.long x5), .second, .val (.int 0), .val (.int 1), .val (.int b12), .unset, .unset, .unset, .unset, .unset, .unset, .unset, .unset, .unset, .unset, .unset, .unset] [(.int b13)] := by
        intro b13 hb13
        refine C.istore (Ls' := #[.val (.int x0), .val (.long x1), .second, .val (.long x2), .second, .val (.long x3), .second, .val (.int x4), .val (.long x5), .second, .val (.int 0), .val (.int 1), .val (.int b12), .val (.int b13), .unset, .unset, .unset, .unset, .unset, .unset, .unset, .unset, .unset, .unset, .unset]) at_39 rfl rfl ?_
        refine C.iloadN at_41 rfl rfl ?_
        refine C.iconst 3 at_42 rfl rfl ?_
        refine C.iushr at_43 rfl ?_
        refine C.iconst 1 at_44 rfl rfl ?_
        refine C.iand at_45 rfl ?_
        have J54_659 : ∀ (b14 : Int32) (hb14 : nar .boolean b14 = b14), Go p l e room_1 s m #[(.int x0), (.long x1), (.long x2), (.long x3), (.int x4), (.long x5)] below meth c n0 (FinQ s n0 (Qcon0 Z n0 h0 x0 x1 x2 x3 x4 x5) room_1.cells room_1.slots) h0 0 0 54 #[.val (.int x0), .val (.long x1), .second, .val (.long x2), .second, .val (.long x3), .second, .val (.int x4), .val (.long x5), .second, .val (.int 0), .val (.int 1), .val (.int b12), .val (.int b13), .unset, .unset, .unset, .unset, .unset, .unset, .unset, .unset, .unset, .unset, .unset] [(.int b14)] := by
          intro b14 hb14
          refine C.istore (Ls' := #[.val (.int x0), .val (.long x1), .second, .val (.long x2), .second, .val (.long x3), .second, .val (.int x4), .val (.long x5), .second, .val (.int 0), .val (.int 1), .val (.int b12), .val (.int b13), .val (.int b14), .unset, .unset, .unset, .unset, .unset, .unset, .unset, .unset, .unset, .unset]) at_54 rfl rfl ?_
          refine C.lload at_56 rfl rfl ?_
          refine C.lstore (Ls' := #[.val (.int x0), .val (.long x1), .second, .val (.long x2), .second, .val (.long x3), .second, .val (.int x4), .val (.long x5), .second, .val (.int 0), .val (.int 1), .val (.int b12), .val (.int b13), .val (.int b14), .val (.long x5), .second, .unset, .unset, .unset, .unset, .unset, .unset, .unset, .unset]) at_58 rfl rfl ?_
          refine C.lload at_60 rfl rfl ?_
          refine C.ldc2J at_62 rfl (tw hw 0 rfl) ?_
          refine C.lxor at_65 rfl ?_
          refine C.lstore (Ls' := #[.val (.int x0), .val (.long x1), .second, .val (.long x2), .second, .val (.long x3), .second, .val (.int x4), .val (.long x5), .second, .val (.int 0), .val (.int 1), .val (.int b12), .val (.int b13), .val (.int b14), .val (.long x5), .second, .val (.long (x5 ^^^ (-1 : Int64))), .second, .unset, .unset, .unset, .unset, .unset, .unset]) at_66 rfl rfl ?_
          refine C.new at_68 rfl (tw hw 1 rfl) (tw hw 2 rfl) (tw hw 3 rfl) (by decide) (by decide) (fun a660 h661 z665 g666 X663 E662 D664 => ?_)
          have F667 : Fld Z h661 a660 "com/example/tierline/tierline/sim/RecordBuffer" "tokens" "[J" (.null) := D664 (Or.inl (tw hw 12 rfl)) (ty := (.array .long)) (by decide)
          have F668 : Fld Z h661 a660 "com/example/tierline/tierline/sim/RecordBuffer" "sequences" "[J" (.null) := D664 (Or.inl (tw hw 14 rfl)) (ty := (.array .long)) (by decide)
          have F669 : Fld Z h661 a660 "com/example/tierline/tierline/sim/RecordBuffer" "times" "[J" (.null) := D664 (Or.inl (tw hw 16 rfl)) (ty := (.array .long)) (by decide)
          have F670 : Fld Z h661 a660 "com/example/tierline/tierline/sim/RecordBuffer" "expiries" "[J" (.null) := D664 (Or.inl (tw hw 18 rfl)) (ty := (.array .long)) (by decide)
          have F671 : Fld Z h661 a660 "com/example/tierline/tierline/sim/RecordBuffer" "sizes" "[I" (.null) := D664 (Or.inl (tw hw 21 rfl)) (ty := (.array .int)) (by decide)
          have F672 : Fld Z h661 a660 "com/example/tierline/tierline/sim/RecordBuffer" "tombstones" "[Z" (.null) := D664 (Or.inl (tw hw 24 rfl)) (ty := (.array .boolean)) (by decide)
          have F673 : Fld Z h661 a660 "com/example/tierline/tierline/sim/RecordBuffer" "count" "I" (.int 0) := D664 (Or.inl (tw hw 31 rfl)) (ty := .int) (by decide)
          refine C.dup at_71 rfl rfl ?_
          refine C.iconst 2 at_72 rfl rfl ?_
          refine C.callN (argsL := [(.int 2)]) (rest := [(.ref a660)]) 1 (fun zz => con_ini l Z a0 hw n0 h661 zz a660 E662 F667 F668 F669 F670 F671 F672 F673 g666) at_73 rfl rfl (tw hw 4 rfl) (tw hw 5 rfl) (tw hw 3 rfl) (tw hw 6 rfl) (by decide) pd_1 rfl rfl rfl (Nat.le_of_eq rfl) (by decide) (by decide) (by decide) (by decide) (fun v674 h675 r676 => ?_)
          obtain ⟨a677, a678, a679, a680, a681, a682, rfl, K683, g712, gz713, g714, gz715, g716, gz717, g718, gz719, g720, gz721, g722, gz723, ne684, ne685, ne686, ne687, ne688, ne689, ne690, ne691, ne692, ne693, ne694, ne695, ne696, ne697, ne698, F699, F700, F701, F702, F703, F704, F705, F706, F707, F708, F709, F710, F711⟩ := r676
          have ne724 : a660 ≠ a677 := Nat.ne_of_lt (Nat.lt_of_lt_of_le E662.lt gz713)
          have ne725 : a660 ≠ a678 := Nat.ne_of_lt (Nat.lt_of_lt_of_le E662.lt gz715)
          have ne726 : a660 ≠ a679 := Nat.ne_of_lt (Nat.lt_of_lt_of_le E662.lt gz717)
          have ne727 : a660 ≠ a680 := Nat.ne_of_lt (Nat.lt_of_lt_of_le E662.lt gz719)
          have ne728 : a660 ≠ a681 := Nat.ne_of_lt (Nat.lt_of_lt_of_le E662.lt gz721)
          have ne729 : a660 ≠ a682 := Nat.ne_of_lt (Nat.lt_of_lt_of_le E662.lt gz723)
          have F730 : Exa Z h675 a660 "com/example/tierline/tierline/sim/RecordBuffer" := E662.keep K683
          have F738 : Av Z h675 a677 .long ([.long 0, .long 0]) := F706
          have F739 : Av Z h675 a678 .long ([.long 0, .long 0]) := F707
          have F740 : Av Z h675 a679 .long ([.long 0, .long 0]) := F708
          have F741 : Av Z h675 a680 .long ([.long 0, .long 0]) := F709
          have F742 : Av Z h675 a681 .int ([.int 0, .int 0]) := F710
          have F743 : Av Z h675 a682 .boolean ([.int 0, .int 0]) := F711
          refine C.astore (Ls' := #[.val (.int x0), .val (.long x1), .second, .val (.long x2), .second, .val (.long x3), .second, .val (.int x4), .val (.long x5), .second, .val (.int 0), .val (.int 1), .val (.int b12), .val (.int b13), .val (.int b14), .val (.long x5), .second, .val (.long (x5 ^^^ (-1 : Int64))), .second, .val (.ref a660), .unset, .unset, .unset, .unset, .unset]) at_76 rfl rfl rfl ?_
          refine C.aload at_78 rfl rfl rfl ?_
          refine C.lload at_80 rfl rfl ?_
          refine C.lload at_82 rfl rfl ?_
          refine C.lload at_84 rfl rfl ?_
          refine C.lload at_86 rfl rfl ?_
          refine C.lload at_88 rfl rfl ?_
          refine C.l2i at_90 rfl ?_
          refine C.iload at_91 rfl rfl ?_
          refine C.callV (argsL := [(.long x5), (.long x5), (.long x5), (.long x5), (.int (Int64.toInt32 x5)), (.int b13)]) (rest := []) 0 (fun zz => con_add l Z a0 hw n0 h675 zz a660 a677 a678 a679 a680 a681 a682 0 x5 x5 x5 x5 (Int64.toInt32 x5) b13 ([.long 0, .long 0]) ([.long 0, .long 0]) ([.long 0, .long 0]) ([.long 0, .long 0]) ([.int 0, .int 0]) ([.int 0, .int 0]) F730 F699 F700 F701 F702 F703 F704 F705 F738 F739 F740 F741 F742 F743 g666 g712 g714 g716 g718 g720 g722 ne724 ne725 ne726 ne727 ne728 ne729 ne684 ne685 ne686 ne687 ne688 ne689 ne690 ne691 ne692 ne693 ne694 ne695 ne696 ne697 ne698 (by decide) (Nat.le_of_ble_eq_true rfl) (Nat.le_of_ble_eq_true rfl) (Nat.le_of_ble_eq_true rfl) (Nat.le_of_ble_eq_true rfl) (Nat.le_of_ble_eq_true rfl) (Nat.le_of_ble_eq_true rfl) (Nat.le_of_ble_eq_true rfl)) F730 at_93 rfl (tw hw 25 rfl) (tw hw 26 rfl) (tw hw 27 rfl) (tw hw 28 rfl) (tw hw 3 rfl) (tw hw 29 rfl) (by decide) pd_2 rfl rfl rfl (Nat.le_of_eq rfl) (by decide) (by decide) (by decide) (by decide) (fun v744 h745 r746 => ?_)
          obtain ⟨rfl, K747, F748, F749, F750, F751, F752, F753, F754, F755, F756, F757, F758, F759, F760⟩ := r746
          have F761 : Exa Z h745 a660 "com/example/tierline/tierline/sim/RecordBuffer" := F730.keep K747
          have F775 : Fld Z h745 a660 "com/example/tierline/tierline/sim/RecordBuffer" "count" "I" (.int 1) := F754
          have F776 : Av Z h745 a677 .long ([.long x5, .long 0]) := F755
          have F777 : Av Z h745 a678 .long ([.long x5, .long 0]) := F756
          have F778 : Av Z h745 a679 .long ([.long x5, .long 0]) := F757
          have F779 : Av Z h745 a680 .long ([.long x5, .long 0]) := F758
          have F780 : Av Z h745 a681 .int ([.int (Int64.toInt32 x5), .int 0]) := F759
          have F781 : Av Z h745 a682 .boolean ([.int (nar .boolean b13), .int 0]) := F760
          refine C.aload at_96 rfl rfl rfl ?_
          refine C.lload at_98 rfl rfl ?_
          refine C.lload at_100 rfl rfl ?_
          refine C.lload at_102 rfl rfl ?_
          refine C.lload at_104 rfl rfl ?_
          refine C.lload at_106 rfl rfl ?_
          refine C.l2i at_108 rfl ?_
          refine C.iload at_109 rfl rfl ?_
          refine C.callV (argsL := [(.long (x5 ^^^ (-1 : Int64))), (.long (x5 ^^^ (-1 : Int64))), (.long (x5 ^^^ (-1 : Int64))), (.long (x5 ^^^ (-1 : Int64))), (.int (Int64.toInt32 (x5 ^^^ (-1 : Int64)))), (.int b14)]) (rest := []) 0 (fun zz => con_add l Z a0 hw n0 h745 zz a660 a677 a678 a679 a680 a681 a682 1 (x5 ^^^ (-1 : Int64)) (x5 ^^^ (-1 : Int64)) (x5 ^^^ (-1 : Int64)) (x5 ^^^ (-1 : Int64)) (Int64.toInt32 (x5 ^^^ (-1 : Int64))) b14 ([.long x5, .long 0]) ([.long x5, .long 0]) ([.long x5, .long 0]) ([.long x5, .long 0]) ([.int (Int64.toInt32 x5), .int 0]) ([.int (nar .boolean b13), .int 0]) F761 F748 F749 F750 F751 F752 F753 F775 F776 F777 F778 F779 F780 F781 g666 g712 g714 g716 g718 g720 g722 ne724 ne725 ne726 ne727 ne728 ne729 ne684 ne685 ne686 ne687 ne688 ne689 ne690 ne691 ne692 ne693 ne694 ne695 ne696 ne697 ne698 (by decide) (Nat.le_of_ble_eq_true rfl) (Nat.le_of_ble_eq_true rfl) (Nat.le_of_ble_eq_true rfl) (Nat.le_of_ble_eq_true rfl) (Nat.le_of_ble_eq_true rfl) (Nat.le_of_ble_eq_true rfl) (Nat.le_of_ble_eq_true rfl)) F761 at_111 rfl (tw hw 25 rfl) (tw hw 26 rfl) (tw hw 27 rfl) (tw hw 28 rfl) (tw hw 3 rfl) (tw hw 29 rfl) (by decide) pd_2 rfl rfl rfl (Nat.le_of_eq rfl) (by decide) (by decide) (by decide) (by decide) (fun v782 h783 r784 => ?_)
          obtain ⟨rfl, K785, F786, F787, F788, F789, F790, F791, F792, F793, F794, F795, F796, F797, F798⟩ := r784
          have F799 : Exa Z h783 a660 "com/example/tierline/tierline/sim/RecordBuffer" := F761.keep K785
          have F813 : Fld Z h783 a660 "com/example/tierline/tierline/sim/RecordBuffer" "count" "I" (.int 2) := F792
          have F814 : Av Z h783 a677 .long ([.long x5, .long (x5 ^^^ (-1 : Int64))]) := F793
          have F815 : Av Z h783 a678 .long ([.long x5, .long (x5 ^^^ (-1 : Int64))]) := F794
          have F816 : Av Z h783 a679 .long ([.long x5, .long (x5 ^^^ (-1 : Int64))]) := F795
          have F817 : Av Z h783 a680 .long ([.long x5, .long (x5 ^^^ (-1 : Int64))]) := F796
          have F818 : Av Z h783 a681 .int ([.int (Int64.toInt32 x5), .int (Int64.toInt32 (x5 ^^^ (-1 : Int64)))]) := F797
          have F819 : Av Z h783 a682 .boolean ([.int (nar .boolean b13), .int (nar .boolean b14)]) := F798
          refine C.aload at_114 rfl rfl rfl ?_
          refine C.iload at_116 rfl rfl ?_
          refine C.lloadN at_118 rfl rfl ?_
          refine C.lloadN at_119 rfl rfl ?_
          refine C.lload at_120 rfl rfl ?_
          refine C.iload at_122 rfl rfl ?_
          refine C.iload at_124 rfl rfl ?_
          refine C.callV (argsL := [(.int 0), (.long x1), (.long x2), (.long x3), (.int x4), (.int b12)]) (rest := []) 0 (fun zz => con_rep l Z a0 hw n0 h783 zz a660 a678 a679 a680 a681 a682 0 x1 x2 x3 x4 b12 ([.long x5, .long (x5 ^^^ (-1 : Int64))]) ([.long x5, .long (x5 ^^^ (-1 : Int64))]) ([.long x5, .long (x5 ^^^ (-1 : Int64))]) ([.int (Int64.toInt32 x5), .int (Int64.toInt32 (x5 ^^^ (-1 : Int64)))]) ([.int (nar .boolean b13), .int (nar .boolean b14)]) F787 F788 F789 F790 F791 F815 F816 F817 F818 F819 g714 g716 g718 g720 g722 ne725 ne726 ne727 ne728 ne729 ne689 ne690 ne691 ne692 ne693 ne694 ne695 ne696 ne697 ne698 (by decide) (Nat.le_of_ble_eq_true rfl) (Nat.le_of_ble_eq_true rfl) (Nat.le_of_ble_eq_true rfl) (Nat.le_of_ble_eq_true rfl) (Nat.le_of_ble_eq_true rfl)) F799 at_126 rfl (tw hw 37 rfl) (tw hw 33 rfl) (tw hw 34 rfl) (tw hw 35 rfl) (tw hw 3 rfl) (tw hw 36 rfl) (by decide) pd_0 rfl rfl rfl (Nat.le_of_eq rfl) (by decide) (by decide) (by decide) (by decide) (fun v820 h821 r822 => ?_)
          obtain ⟨rfl, K823, F824, F825, F826, F827, F828⟩ := r822
          have F829 : Exa Z h821 a660 "com/example/tierline/tierline/sim/RecordBuffer" := F799.keep K823
          have F830 : Fld Z h821 a660 "com/example/tierline/tierline/sim/RecordBuffer" "tokens" "[J" (.ref a677) := F786.keep K823 (ninS ne725 (ninS ne726 (ninS ne727 (ninS ne728 (ninS ne729 nin0)))))
          have F831 : Fld Z h821 a660 "com/example/tierline/tierline/sim/RecordBuffer" "sequences" "[J" (.ref a678) := F787.keep K823 (ninS ne725 (ninS ne726 (ninS ne727 (ninS ne728 (ninS ne729 nin0)))))
          have F832 : Fld Z h821 a660 "com/example/tierline/tierline/sim/RecordBuffer" "times" "[J" (.ref a679) := F788.keep K823 (ninS ne725 (ninS ne726 (ninS ne727 (ninS ne728 (ninS ne729 nin0)))))
          have F833 : Fld Z h821 a660 "com/example/tierline/tierline/sim/RecordBuffer" "expiries" "[J" (.ref a680) := F789.keep K823 (ninS ne725 (ninS ne726 (ninS ne727 (ninS ne728 (ninS ne729 nin0)))))
          have F834 : Fld Z h821 a660 "com/example/tierline/tierline/sim/RecordBuffer" "sizes" "[I" (.ref a681) := F790.keep K823 (ninS ne725 (ninS ne726 (ninS ne727 (ninS ne728 (ninS ne729 nin0)))))
          have F835 : Fld Z h821 a660 "com/example/tierline/tierline/sim/RecordBuffer" "tombstones" "[Z" (.ref a682) := F791.keep K823 (ninS ne725 (ninS ne726 (ninS ne727 (ninS ne728 (ninS ne729 nin0)))))
          have F836 : Fld Z h821 a660 "com/example/tierline/tierline/sim/RecordBuffer" "count" "I" (.int 2) := F813.keep K823 (ninS ne725 (ninS ne726 (ninS ne727 (ninS ne728 (ninS ne729 nin0)))))
          have F837 : Av Z h821 a677 .long ([.long x5, .long (x5 ^^^ (-1 : Int64))]) := F814.keep K823 (ninS ne684 (ninS ne685 (ninS ne686 (ninS ne687 (ninS ne688 nin0)))))
          have F843 : Av Z h821 a678 .long ([.long x1, .long (x5 ^^^ (-1 : Int64))]) := F824
          have F844 : Av Z h821 a679 .long ([.long x2, .long (x5 ^^^ (-1 : Int64))]) := F825
          have F845 : Av Z h821 a680 .long ([.long x3, .long (x5 ^^^ (-1 : Int64))]) := F826
          have F846 : Av Z h821 a681 .int ([.int x4, .int (Int64.toInt32 (x5 ^^^ (-1 : Int64)))]) := F827
          have F847 : Av Z h821 a682 .boolean ([.int (nar .boolean b12), .int (nar .boolean b14)]) := F828
          refine C.iload at_129 rfl rfl ?_
          refine C.if_ne_f at_131 rfl (by decide) ?_
          refine C.lload at_134 rfl rfl ?_
          refine C.goto at_136 (by decide) rfl ?_
          refine C.lstore (Ls' := #[.val (.int x0), .val (.long x1), .second, .val (.long x2), .second, .val (.long x3), .second, .val (.int x4), .val (.long x5), .second, .val (.int 0), .val (.int 1), .val (.int b12), .val (.int b13), .val (.int b14), .val (.long x5), .second, .val (.long (x5 ^^^ (-1 : Int64))), .second, .val (.ref a660), .val (.long x5), .second, .unset, .unset, .unset]) at_141 rfl rfl ?_
          refine C.iload at_143 rfl rfl ?_
          refine C.if_ne_f at_145 rfl (by decide) ?_
          refine C.lload at_148 rfl rfl ?_
          refine C.goto at_150 (by decide) rfl ?_
          refine C.lstore (Ls' := #[.val (.int x0), .val (.long x1), .second, .val (.long x2), .second, .val (.long x3), .second, .val (.int x4), .val (.long x5), .second, .val (.int 0), .val (.int 1), .val (.int b12), .val (.int b13), .val (.int b14), .val (.long x5), .second, .val (.long (x5 ^^^ (-1 : Int64))), .second, .val (.ref a660), .val (.long x5), .second, .val (.long (x5 ^^^ (-1 : Int64))), .second, .unset]) at_155 rfl rfl ?_
          refine C.iload at_157 rfl rfl ?_
          refine C.if_ne_f at_159 rfl (by decide) ?_
          refine C.iload at_162 rfl rfl ?_
          refine C.goto at_164 (by decide) rfl ?_
          refine C.istore (Ls' := #[.val (.int x0), .val (.long x1), .second, .val (.long x2), .second, .val (.long x3), .second, .val (.int x4), .val (.long x5), .second, .val (.int 0), .val (.int 1), .val (.int b12), .val (.int b13), .val (.int b14), .val (.long x5), .second, .val (.long (x5 ^^^ (-1 : Int64))), .second, .val (.ref a660), .val (.long x5), .second, .val (.long (x5 ^^^ (-1 : Int64))), .second, .val (.int b14)]) at_169 rfl rfl ?_
          refine C.aload at_171 rfl rfl rfl ?_
          refine C.callV (argsL := []) (rest := []) 0 (fun zz => con_cnt l Z a0 hw n0 h821 zz a660 2 F836) F829 at_173 rfl (tw hw 38 rfl) (tw hw 39 rfl) (tw hw 40 rfl) (tw hw 41 rfl) (tw hw 3 rfl) (tw hw 42 rfl) (by decide) pd_3 rfl rfl rfl (Nat.le_of_eq rfl) (by decide) (by decide) (by decide) (by decide) (fun v848 h849 r850 => ?_)
          obtain ⟨rfl, rfl⟩ := r850
          refine C.iconst 2 at_176 rfl rfl ?_
          refine C.icmp_ne_f at_177 rfl (by decide) ?_
          refine C.aload at_180 rfl rfl rfl ?_
          refine C.iload at_182 rfl rfl ?_
          refine C.callV (argsL := [(.int 0)]) (rest := []) 0 (fun zz => con_token l Z a0 hw n0 h821 zz a660 a677 0 x5 ([.long x5, .long (x5 ^^^ (-1 : Int64))]) F830 F837 (by decide) rfl) F829 at_184 rfl (tw hw 43 rfl) (tw hw 44 rfl) (tw hw 45 rfl) (tw hw 46 rfl) (tw hw 3 rfl) (tw hw 47 rfl) (by decide) pd_4 rfl rfl rfl (Nat.le_of_eq rfl) (by decide) (by decide) (by decide) (by decide) (fun v852 h853 r854 => ?_)
          obtain ⟨rfl, rfl⟩ := r854
          refine C.lload at_187 rfl rfl ?_
          refine C.lcmp at_189 rfl ?_
          refine C.lif_ne_f at_190 rfl rfl ?_
          refine C.aload at_193 rfl rfl rfl ?_
          refine C.iload at_195 rfl rfl ?_
          refine C.callV (argsL := [(.int 0)]) (rest := []) 0 (fun zz => con_sequence l Z a0 hw n0 h821 zz a660 a678 0 x1 ([.long x1, .long (x5 ^^^ (-1 : Int64))]) F831 F843 (by decide) rfl) F829 at_197 rfl (tw hw 48 rfl) (tw hw 49 rfl) (tw hw 50 rfl) (tw hw 51 rfl) (tw hw 3 rfl) (tw hw 52 rfl) (by decide) pd_4 rfl rfl rfl (Nat.le_of_eq rfl) (by decide) (by decide) (by decide) (by decide) (fun v856 h857 r858 => ?_)
          obtain ⟨rfl, rfl⟩ := r858
          refine C.lloadN at_200 rfl rfl ?_
          refine C.lcmp at_201 rfl ?_
          refine C.lif_ne_f at_202 rfl rfl ?_
          refine C.aload at_205 rfl rfl rfl ?_
          refine C.iload at_207 rfl rfl ?_
          refine C.callV (argsL := [(.int 0)]) (rest := []) 0 (fun zz => con_time l Z a0 hw n0 h821 zz a660 a679 0 x2 ([.long x2, .long (x5 ^^^ (-1 : Int64))]) F832 F844 (by decide) rfl) F829 at_209 rfl (tw hw 53 rfl) (tw hw 54 rfl) (tw hw 55 rfl) (tw hw 56 rfl) (tw hw 3 rfl) (tw hw 57 rfl) (by decide) pd_4 rfl rfl rfl (Nat.le_of_eq rfl) (by decide) (by decide) (by decide) (by decide) (fun v860 h861 r862 => ?_)
          obtain ⟨rfl, rfl⟩ := r862
          refine C.lloadN at_212 rfl rfl ?_
          refine C.lcmp at_213 rfl ?_
          refine C.lif_ne_f at_214 rfl rfl ?_
          refine C.aload at_217 rfl rfl rfl ?_
          refine C.iload at_219 rfl rfl ?_
          refine C.callV (argsL := [(.int 0)]) (rest := []) 0 (fun zz => con_expiry l Z a0 hw n0 h821 zz a660 a680 0 x3 ([.long x3, .long (x5 ^^^ (-1 : Int64))]) F833 F845 (by decide) rfl) F829 at_221 rfl (tw hw 58 rfl) (tw hw 59 rfl) (tw hw 60 rfl) (tw hw 61 rfl) (tw hw 3 rfl) (tw hw 62 rfl) (by decide) pd_4 rfl rfl rfl (Nat.le_of_eq rfl) (by decide) (by decide) (by decide) (by decide) (fun v864 h865 r866 => ?_)
          obtain ⟨rfl, rfl⟩ := r866
          refine C.lload at_224 rfl rfl ?_
          refine C.lcmp at_226 rfl ?_
          refine C.lif_ne_f at_227 rfl rfl ?_
          refine C.aload at_230 rfl rfl rfl ?_
          refine C.iload at_232 rfl rfl ?_
          refine C.callV (argsL := [(.int 0)]) (rest := []) 0 (fun zz => con_size l Z a0 hw n0 h821 zz a660 a681 0 x4 ([.int x4, .int (Int64.toInt32 (x5 ^^^ (-1 : Int64)))]) F834 F846 (by decide) rfl) F829 at_234 rfl (tw hw 63 rfl) (tw hw 64 rfl) (tw hw 65 rfl) (tw hw 66 rfl) (tw hw 3 rfl) (tw hw 67 rfl) (by decide) pd_5 rfl rfl rfl (Nat.le_of_eq rfl) (by decide) (by decide) (by decide) (by decide) (fun v868 h869 r870 => ?_)
          obtain ⟨rfl, rfl⟩ := r870
          refine C.iload at_237 rfl rfl ?_
          refine C.icmp_ne_f at_239 rfl rfl ?_
          refine C.aload at_242 rfl rfl rfl ?_
          refine C.iload at_244 rfl rfl ?_
          refine C.callV (argsL := [(.int 0)]) (rest := []) 0 (fun zz => con_isTombstone l Z a0 hw n0 h821 zz a660 a682 0 (nar .boolean b12) ([.int (nar .boolean b12), .int (nar .boolean b14)]) F835 F847 (by decide) rfl (own_narb _)) F829 at_246 rfl (tw hw 68 rfl) (tw hw 69 rfl) (tw hw 70 rfl) (tw hw 71 rfl) (tw hw 3 rfl) (tw hw 72 rfl) (by decide) pd_6 rfl rfl rfl (Nat.le_of_eq rfl) (by decide) (by decide) (by decide) (by decide) (fun v872 h873 r874 => ?_)
          obtain ⟨rfl, rfl⟩ := r874
          refine C.iload at_249 rfl rfl ?_
          refine C.icmp_ne_f at_251 rfl hb12 ?_
          refine C.aload at_254 rfl rfl rfl ?_
          refine C.iload at_256 rfl rfl ?_
          refine C.callV (argsL := [(.int 1)]) (rest := []) 0 (fun zz => con_token l Z a0 hw n0 h821 zz a660 a677 1 (x5 ^^^ (-1 : Int64)) ([.long x5, .long (x5 ^^^ (-1 : Int64))]) F830 F837 (by decide) rfl) F829 at_258 rfl (tw hw 43 rfl) (tw hw 44 rfl) (tw hw 45 rfl) (tw hw 46 rfl) (tw hw 3 rfl) (tw hw 47 rfl) (by decide) pd_4 rfl rfl rfl (Nat.le_of_eq rfl) (by decide) (by decide) (by decide) (by decide) (fun v876 h877 r878 => ?_)
          obtain ⟨rfl, rfl⟩ := r878
          refine C.lload at_261 rfl rfl ?_
          refine C.lcmp at_263 rfl ?_
          refine C.lif_ne_f at_264 rfl rfl ?_
          refine C.aload at_267 rfl rfl rfl ?_
          refine C.iload at_269 rfl rfl ?_
          refine C.callV (argsL := [(.int 1)]) (rest := []) 0 (fun zz => con_sequence l Z a0 hw n0 h821 zz a660 a678 1 (x5 ^^^ (-1 : Int64)) ([.long x1, .long (x5 ^^^ (-1 : Int64))]) F831 F843 (by decide) rfl) F829 at_271 rfl (tw hw 48 rfl) (tw hw 49 rfl) (tw hw 50 rfl) (tw hw 51 rfl) (tw hw 3 rfl) (tw hw 52 rfl) (by decide) pd_4 rfl rfl rfl (Nat.le_of_eq rfl) (by decide) (by decide) (by decide) (by decide) (fun v880 h881 r882 => ?_)
          obtain ⟨rfl, rfl⟩ := r882
          refine C.lload at_274 rfl rfl ?_
          refine C.lcmp at_276 rfl ?_
          refine C.lif_ne_f at_277 rfl rfl ?_
          refine C.aload at_280 rfl rfl rfl ?_
          refine C.iload at_282 rfl rfl ?_
          refine C.callV (argsL := [(.int 1)]) (rest := []) 0 (fun zz => con_time l Z a0 hw n0 h821 zz a660 a679 1 (x5 ^^^ (-1 : Int64)) ([.long x2, .long (x5 ^^^ (-1 : Int64))]) F832 F844 (by decide) rfl) F829 at_284 rfl (tw hw 53 rfl) (tw hw 54 rfl) (tw hw 55 rfl) (tw hw 56 rfl) (tw hw 3 rfl) (tw hw 57 rfl) (by decide) pd_4 rfl rfl rfl (Nat.le_of_eq rfl) (by decide) (by decide) (by decide) (by decide) (fun v884 h885 r886 => ?_)
          obtain ⟨rfl, rfl⟩ := r886
          refine C.lload at_287 rfl rfl ?_
          refine C.lcmp at_289 rfl ?_
          refine C.lif_ne_f at_290 rfl rfl ?_
          refine C.aload at_293 rfl rfl rfl ?_
          refine C.iload at_295 rfl rfl ?_
          refine C.callV (argsL := [(.int 1)]) (rest := []) 0 (fun zz => con_expiry l Z a0 hw n0 h821 zz a660 a680 1 (x5 ^^^ (-1 : Int64)) ([.long x3, .long (x5 ^^^ (-1 : Int64))]) F833 F845 (by decide) rfl) F829 at_297 rfl (tw hw 58 rfl) (tw hw 59 rfl) (tw hw 60 rfl) (tw hw 61 rfl) (tw hw 3 rfl) (tw hw 62 rfl) (by decide) pd_4 rfl rfl rfl (Nat.le_of_eq rfl) (by decide) (by decide) (by decide) (by decide) (fun v888 h889 r890 => ?_)
          obtain ⟨rfl, rfl⟩ := r890
          refine C.lload at_300 rfl rfl ?_
          refine C.lcmp at_302 rfl ?_
          refine C.lif_ne_f at_303 rfl rfl ?_
          refine C.aload at_306 rfl rfl rfl ?_
          refine C.iload at_308 rfl rfl ?_
          refine C.callV (argsL := [(.int 1)]) (rest := []) 0 (fun zz => con_size l Z a0 hw n0 h821 zz a660 a681 1 (Int64.toInt32 (x5 ^^^ (-1 : Int64))) ([.int x4, .int (Int64.toInt32 (x5 ^^^ (-1 : Int64)))]) F834 F846 (by decide) rfl) F829 at_310 rfl (tw hw 63 rfl) (tw hw 64 rfl) (tw hw 65 rfl) (tw hw 66 rfl) (tw hw 3 rfl) (tw hw 67 rfl) (by decide) pd_5 rfl rfl rfl (Nat.le_of_eq rfl) (by decide) (by decide) (by decide) (by decide) (fun v892 h893 r894 => ?_)
          obtain ⟨rfl, rfl⟩ := r894
          refine C.lload at_313 rfl rfl ?_
          refine C.l2i at_315 rfl ?_
          refine C.icmp_ne_f at_316 rfl rfl ?_
          refine C.aload at_319 rfl rfl rfl ?_
          refine C.iload at_321 rfl rfl ?_
          refine C.callV (argsL := [(.int 1)]) (rest := []) 0 (fun zz => con_isTombstone l Z a0 hw n0 h821 zz a660 a682 1 (nar .boolean b14) ([.int (nar .boolean b12), .int (nar .boolean b14)]) F835 F847 (by decide) rfl (own_narb _)) F829 at_323 rfl (tw hw 68 rfl) (tw hw 69 rfl) (tw hw 70 rfl) (tw hw 71 rfl) (tw hw 3 rfl) (tw hw 72 rfl) (by decide) pd_6 rfl rfl rfl (Nat.le_of_eq rfl) (by decide) (by decide) (by decide) (by decide) (fun v896 h897 r898 => ?_)
          obtain ⟨rfl, rfl⟩ := r898
          refine C.iload at_326 rfl rfl ?_
          refine C.icmp_ne_f at_328 rfl hb14 ?_
          refine C.iconst 1 at_331 rfl rfl ?_
          refine C.goto at_332 (by decide) rfl ?_
          exact C.retZ at_336 rfl (by decide) (by decide) ⟨rfl, trivial⟩
        refine C.if_eq at_46 (by decide) rfl rfl (fun q46 => ?_) (fun q46 => ?_)
        · refine C.iconst 0 at_53 rfl rfl ?_
          exact (J54_659 0 rfl).more (by decide) (by decide)
        · refine C.iconst 1 at_49 rfl rfl ?_
          refine C.goto at_50 (by decide) rfl ?_
          exact (J54_659 1 rfl).more (by decide) (by decide)
      refine C.if_eq at_31 (by decide) rfl rfl (fun q31 => ?_) (fun q31 => ?_)
      · refine C.iconst 0 at_38 rfl rfl ?_
        exact J39_658 0 rfl
      · refine C.iconst 1 at_34 rfl rfl ?_
        refine C.goto at_35 (by decide) rfl ?_
        exact J39_658 1 rfl
    refine C.if_eq at_16 (by decide) rfl rfl (fun q16 => ?_) (fun q16 => ?_)
    · refine C.iconst 0 at_23 rfl rfl ?_
      exact J24_657 0 rfl
    · refine C.iconst 1 at_19 rfl rfl ?_
      refine C.goto at_20 (by decide) rfl ?_
      exact J24_657 1 rfl
  · rw [qc]
    refine C.iconst 1 at_5 rfl rfl ?_
    refine C.iload at_6 rfl rfl ?_
    refine C.isub at_8 rfl ?_
    show Go p l e room_1 s m #[(.int x0), (.long x1), (.long x2), (.long x3), (.int x4), (.long x5)] below meth c n0 (FinQ s n0 (Qcon0 Z n0 h0 x0 x1 x2 x3 x4 x5) room_1.cells room_1.slots) h0 0 0 9 #[.val (.int x0), .val (.long x1), .second, .val (.long x2), .second, .val (.long x3), .second, .val (.int x4), .val (.long x5), .second, .val (.int 1), .unset, .unset, .unset, .unset, .unset, .unset, .unset, .unset, .unset, .unset, .unset, .unset, .unset, .unset] [(.int 0)]
    refine C.istore (Ls' := #[.val (.int x0), .val (.long x1), .second, .val (.long x2), .second, .val (.long x3), .second, .val (.int x4), .val (.long x5), .second, .val (.int 1), .val (.int 0), .unset, .unset, .unset, .unset, .unset, .unset, .unset, .unset, .unset, .unset, .unset, .unset, .unset]) at_9 rfl rfl ?_
    refine C.iloadN at_11 rfl rfl ?_
    refine C.iconst 1 at_12 rfl rfl ?_
    refine C.iushr at_13 rfl ?_
    refine C.iconst 1 at_14 rfl rfl ?_
    refine C.iand at_15 rfl ?_
    have J24_900 : ∀ (b12 : Int32) (hb12 : nar .boolean b12 = b12), Go p l e room_1 s m #[(.int x0), (.long x1), (.long x2), (.long x3), (.int x4), (.long x5)] below meth c n0 (FinQ s n0 (Qcon0 Z n0 h0 x0 x1 x2 x3 x4 x5) room_1.cells room_1.slots) h0 0 0 24 #[.val (.int x0), .val (.long x1), .second, .val (.long x2), .second, .val (.long x3), .second, .val (.int x4), .val (.long x5), .second, .val (.int 1), .val (.int 0), .unset, .unset, .unset, .unset, .unset, .unset, .unset, .unset, .unset, .unset, .unset, .unset, .unset] [(.int b12)] := by
      intro b12 hb12
      refine C.istore (Ls' := #[.val (.int x0), .val (.long x1), .second, .val (.long x2), .second, .val (.long x3), .second, .val (.int x4), .val (.long x5), .second, .val (.int 1), .val (.int 0), .val (.int b12), .unset, .unset, .unset, .unset, .unset, .unset, .unset, .unset, .unset, .unset, .unset, .unset]) at_24 rfl rfl ?_
      refine C.iloadN at_26 rfl rfl ?_
      refine C.iconst 2 at_27 rfl rfl ?_
      refine C.iushr at_28 rfl ?_
      refine C.iconst 1 at_29 rfl rfl ?_
      refine C.iand at_30 rfl ?_
      have J39_901 : ∀ (b13 : Int32) (hb13 : nar .boolean b13 = b13), Go p l e room_1 s m #[(.int x0), (.long x1), (.long x2), (.long x3), (.int x4), (.long x5)] below meth c n0 (FinQ s n0 (Qcon0 Z n0 h0 x0 x1 x2 x3 x4 x5) room_1.cells room_1.slots) h0 0 0 39 #[.val (.int x0), .val (.long x1), .second, .val (.long x2), .second, .val (.long x3), .second, .val (.int x4), .val (.long x5), .second, .val (.int 1), .val (.int 0), .val (.int b12), .unset, .unset, .unset, .unset, .unset, .unset, .unset, .unset, .unset, .unset, .unset, .unset] [(.int b13)] := by
        intro b13 hb13
        refine C.istore (Ls' := #[.val (.int x0), .val (.long x1), .second, .val (.long x2), .second, .val (.long x3), .second, .val (.int x4), .val (.long x5), .second, .val (.int 1), .val (.int 0), .val (.int b12), .val (.int b13), .unset, .unset, .unset, .unset, .unset, .unset, .unset, .unset, .unset, .unset, .unset]) at_39 rfl rfl ?_
        refine C.iloadN at_41 rfl rfl ?_
        refine C.iconst 3 at_42 rfl rfl ?_
        refine C.iushr at_43 rfl ?_
        refine C.iconst 1 at_44 rfl rfl ?_
        refine C.iand at_45 rfl ?_
        have J54_902 : ∀ (b14 : Int32) (hb14 : nar .boolean b14 = b14), Go p l e room_1 s m #[(.int x0), (.long x1), (.long x2), (.long x3), (.int x4), (.long x5)] below meth c n0 (FinQ s n0 (Qcon0 Z n0 h0 x0 x1 x2 x3 x4 x5) room_1.cells room_1.slots) h0 0 0 54 #[.val (.int x0), .val (.long x1), .second, .val (.long x2), .second, .val (.long x3), .second, .val (.int x4), .val (.long x5), .second, .val (.int 1), .val (.int 0), .val (.int b12), .val (.int b13), .unset, .unset, .unset, .unset, .unset, .unset, .unset, .unset, .unset, .unset, .unset] [(.int b14)] := by
          intro b14 hb14
          refine C.istore (Ls' := #[.val (.int x0), .val (.long x1), .second, .val (.long x2), .second, .val (.long x3), .second, .val (.int x4), .val (.long x5), .second, .val (.int 1), .val (.int 0), .val (.int b12), .val (.int b13), .val (.int b14), .unset, .unset, .unset, .unset, .unset, .unset, .unset, .unset, .unset, .unset]) at_54 rfl rfl ?_
          refine C.lload at_56 rfl rfl ?_
          refine C.lstore (Ls' := #[.val (.int x0), .val (.long x1), .second, .val (.long x2), .second, .val (.long x3), .second, .val (.int x4), .val (.long x5), .second, .val (.int 1), .val (.int 0), .val (.int b12), .val (.int b13), .val (.int b14), .val (.long x5), .second, .unset, .unset, .unset, .unset, .unset, .unset, .unset, .unset]) at_58 rfl rfl ?_
          refine C.lload at_60 rfl rfl ?_
          refine C.ldc2J at_62 rfl (tw hw 0 rfl) ?_
          refine C.lxor at_65 rfl ?_
          refine C.lstore (Ls' := #[.val (.int x0), .val (.long x1), .second, .val (.long x2), .second, .val (.long x3), .second, .val (.int x4), .val (.long x5), .second, .val (.int 1), .val (.int 0), .val (.int b12), .val (.int b13), .val (.int b14), .val (.long x5), .second, .val (.long (x5 ^^^ (-1 : Int64))), .second, .unset, .unset, .unset, .unset, .unset, .unset]) at_66 rfl rfl ?_
          refine C.new at_68 rfl (tw hw 1 rfl) (tw hw 2 rfl) (tw hw 3 rfl) (by decide) (by decide) (fun a903 h904 z908 g909 X906 E905 D907 => ?_)
          have F910 : Fld Z h904 a903 "com/example/tierline/tierline/sim/RecordBuffer" "tokens" "[J" (.null) := D907 (Or.inl (tw hw 12 rfl)) (ty := (.array .long)) (by decide)
          have F911 : Fld Z h904 a903 "com/example/tierline/tierline/sim/RecordBuffer" "sequences" "[J" (.null) := D907 (Or.inl (tw hw 14 rfl)) (ty := (.array .long)) (by decide)
          have F912 : Fld Z h904 a903 "com/example/tierline/tierline/sim/RecordBuffer" "times" "[J" (.null) := D907 (Or.inl (tw hw 16 rfl)) (ty := (.array .long)) (by decide)
          have F913 : Fld Z h904 a903 "com/example/tierline/tierline/sim/RecordBuffer" "expiries" "[J" (.null) := D907 (Or.inl (tw hw 18 rfl)) (ty := (.array .long)) (by decide)
          have F914 : Fld Z h904 a903 "com/example/tierline/tierline/sim/RecordBuffer" "sizes" "[I" (.null) := D907 (Or.inl (tw hw 21 rfl)) (ty := (.array .int)) (by decide)
          have F915 : Fld Z h904 a903 "com/example/tierline/tierline/sim/RecordBuffer" "tombstones" "[Z" (.null) := D907 (Or.inl (tw hw 24 rfl)) (ty := (.array .boolean)) (by decide)
          have F916 : Fld Z h904 a903 "com/example/tierline/tierline/sim/RecordBuffer" "count" "I" (.int 0) := D907 (Or.inl (tw hw 31 rfl)) (ty := .int) (by decide)
          refine C.dup at_71 rfl rfl ?_
          refine C.iconst 2 at_72 rfl rfl ?_
          refine C.callN (argsL := [(.int 2)]) (rest := [(.ref a903)]) 1 (fun zz => con_ini l Z a0 hw n0 h904 zz a903 E905 F910 F911 F912 F913 F914 F915 F916 g909) at_73 rfl rfl (tw hw 4 rfl) (tw hw 5 rfl) (tw hw 3 rfl) (tw hw 6 rfl) (by decide) pd_1 rfl rfl rfl (Nat.le_of_eq rfl) (by decide) (by decide) (by decide) (by decide) (fun v917 h918 r919 => ?_)
          obtain ⟨a920, a921, a922, a923, a924, a925, rfl, K926, g955, gz956, g957, gz958, g959, gz960, g961, gz962, g963, gz964, g965, gz966, ne927, ne928, ne929, ne930, ne931, ne932, ne933, ne934, ne935, ne936, ne937, ne938, ne939, ne940, ne941, F942, F943, F944, F945, F946, F947, F948, F949, F950, F951, F952, F953, F954⟩ := r919
          have ne967 : a903 ≠ a920 := Nat.ne_of_lt (Nat.lt_of_lt_of_le E905.lt gz956)
          have ne968 : a903 ≠ a921 := Nat.ne_of_lt (Nat.lt_of_lt_of_le E905.lt gz958)
          have ne969 : a903 ≠ a922 := Nat.ne_of_lt (Nat.lt_of_lt_of_le E905.lt gz960)
          have ne970 : a903 ≠ a923 := Nat.ne_of_lt (Nat.lt_of_lt_of_le E905.lt gz962)
          have ne971 : a903 ≠ a924 := Nat.ne_of_lt (Nat.lt_of_lt_of_le E905.lt gz964)
          have ne972 : a903 ≠ a925 := Nat.ne_of_lt (Nat.lt_of_lt_of_le E905.lt gz966)
          have F973 : Exa Z h918 a903 "com/example/tierline/tierline/sim/RecordBuffer" := E905.keep K926
          have F981 : Av Z h918 a920 .long ([.long 0, .long 0]) := F949
          have F982 : Av Z h918 a921 .long ([.long 0, .long 0]) := F950
          have F983 : Av Z h918 a922 .long ([.long 0, .long 0]) := F951
          have F984 : Av Z h918 a923 .long ([.long 0, .long 0]) := F952
          have F985 : Av Z h918 a924 .int ([.int 0, .int 0]) := F953
          have F986 : Av Z h918 a925 .boolean ([.int 0, .int 0]) := F954
          refine C.astore (Ls' := #[.val (.int x0), .val (.long x1), .second, .val (.long x2), .second, .val (.long x3), .second, .val (.int x4), .val (.long x5), .second, .val (.int 1), .val (.int 0), .val (.int b12), .val (.int b13), .val (.int b14), .val (.long x5), .second, .val (.long (x5 ^^^ (-1 : Int64))), .second, .val (.ref a903), .unset, .unset, .unset, .unset, .unset]) at_76 rfl rfl rfl ?_
          refine C.aload at_78 rfl rfl rfl ?_
          refine C.lload at_80 rfl rfl ?_
          refine C.lload at_82 rfl rfl ?_
          refine C.lload at_84 rfl rfl ?_
          refine C.lload at_86 rfl rfl ?_
          refine C.lload at_88 rfl rfl ?_
          refine C.l2i at_90 rfl ?_
          refine C.iload at_91 rfl rfl ?_
          refine C.callV (argsL := [(.long x5), (.long x5), (.long x5), (.long x5), (.int (Int64.toInt32 x5)), (.int b13)]) (rest := []) 0 (fun zz => con_add l Z a0 hw n0 h918 zz a903 a920 a921 a922 a923 a924 a925 0 x5 x5 x5 x5 (Int64.toInt32 x5) b13 ([.long 0, .long 0]) ([.long 0, .long 0]) ([.long 0, .long 0]) ([.long 0, .long 0]) ([.int 0, .int 0]) ([.int 0, .int 0]) F973 F942 F943 F944 F945 F946 F947 F948 F981 F982 F983 F984 F985 F986 g909 g955 g957 g959 g961 g963 g965 ne967 ne968 ne969 ne970 ne971 ne972 ne927 ne928 ne929 ne930 ne931 ne932 ne933 ne934 ne935 ne936 ne937 ne938 ne939 ne940 ne941 (by decide) (Nat.le_of_ble_eq_true rfl) (Nat.le_of_ble_eq_true rfl) (Nat.le_of_ble_eq_true rfl) (Nat.le_of_ble_eq_true rfl) (Nat.le_of_ble_eq_true rfl) (Nat.le_of_ble_eq_true rfl) (Nat.le_of_ble_eq_true rfl)) F973 at_93 rfl (tw hw 25 rfl) (tw hw 26 rfl) (tw hw 27 rfl) (tw hw 28 rfl) (tw hw 3 rfl) (tw hw 29 rfl) (by decide) pd_2 rfl rfl rfl (Nat.le_of_eq rfl) (by decide) (by decide) (by decide) (by decide) (fun v987 h988 r989 => ?_)
          obtain ⟨rfl, K990, F991, F992, F993, F994, F995, F996, F997, F998, F999, F1000, F1001, F1002, F1003⟩ := r989
          have F1004 : Exa Z h988 a903 "com/example/tierline/tierline/sim/RecordBuffer" := F973.keep K990
          have F1018 : Fld Z h988 a903 "com/example/tierline/tierline/sim/RecordBuffer" "count" "I" (.int 1) := F997
          have F1019 : Av Z h988 a920 .long ([.long x5, .long 0]) := F998
          have F1020 : Av Z h988 a921 .long ([.long x5, .long 0]) := F999
          have F1021 : Av Z h988 a922 .long ([.long x5, .long 0]) := F1000
          have F1022 : Av Z h988 a923 .long ([.long x5, .long 0]) := F1001
          have F1023 : Av Z h988 a924 .int ([.int (Int64.toInt32 x5), .int 0]) := F1002
          have F1024 : Av Z h988 a925 .boolean ([.int (nar .boolean b13), .int 0]) := F1003
          refine C.aload at_96 rfl rfl rfl ?_
          refine C.lload at_98 rfl rfl ?_
          refine C.lload at_100 rfl rfl ?_
          refine C.lload at_102 rfl rfl ?_
          refine C.lload at_104 rfl rfl ?_
          refine C.lload at_106 rfl rfl ?_
          refine C.l2i at_108 rfl ?_
          refine C.iload at_109 rfl rfl ?_
          refine C.callV (argsL := [(.long (x5 ^^^ (-1 : Int64))), (.long (x5 ^^^ (-1 : Int64))), (.long (x5 ^^^ (-1 : Int64))), (.long (x5 ^^^ (-1 : Int64))), (.int (Int64.toInt32 (x5 ^^^ (-1 : Int64)))), (.int b14)]) (rest := []) 0 (fun zz => con_add l Z a0 hw n0 h988 zz a903 a920 a921 a922 a923 a924 a925 1 (x5 ^^^ (-1 : Int64)) (x5 ^^^ (-1 : Int64)) (x5 ^^^ (-1 : Int64)) (x5 ^^^ (-1 : Int64)) (Int64.toInt32 (x5 ^^^ (-1 : Int64))) b14 ([.long x5, .long 0]) ([.long x5, .long 0]) ([.long x5, .long 0]) ([.long x5, .long 0]) ([.int (Int64.toInt32 x5), .int 0]) ([.int (nar .boolean b13), .int 0]) F1004 F991 F992 F993 F994 F995 F996 F1018 F1019 F1020 F1021 F1022 F1023 F1024 g909 g955 g957 g959 g961 g963 g965 ne967 ne968 ne969 ne970 ne971 ne972 ne927 ne928 ne929 ne930 ne931 ne932 ne933 ne934 ne935 ne936 ne937 ne938 ne939 ne940 ne941 (by decide) (Nat.le_of_ble_eq_true rfl) (Nat.le_of_ble_eq_true rfl) (Nat.le_of_ble_eq_true rfl) (Nat.le_of_ble_eq_true rfl) (Nat.le_of_ble_eq_true rfl) (Nat.le_of_ble_eq_true rfl) (Nat.le_of_ble_eq_true rfl)) F1004 at_111 rfl (tw hw 25 rfl) (tw hw 26 rfl) (tw hw 27 rfl) (tw hw 28 rfl) (tw hw 3 rfl) (tw hw 29 rfl) (by decide) pd_2 rfl rfl rfl (Nat.le_of_eq rfl) (by decide) (by decide) (by decide) (by decide) (fun v1025 h1026 r1027 => ?_)
          obtain ⟨rfl, K1028, F1029, F1030, F1031, F1032, F1033, F1034, F1035, F1036, F1037, F1038, F1039, F1040, F1041⟩ := r1027
          have F1042 : Exa Z h1026 a903 "com/example/tierline/tierline/sim/RecordBuffer" := F1004.keep K1028
          have F1056 : Fld Z h1026 a903 "com/example/tierline/tierline/sim/RecordBuffer" "count" "I" (.int 2) := F1035
          have F1057 : Av Z h1026 a920 .long ([.long x5, .long (x5 ^^^ (-1 : Int64))]) := F1036
          have F1058 : Av Z h1026 a921 .long ([.long x5, .long (x5 ^^^ (-1 : Int64))]) := F1037
          have F1059 : Av Z h1026 a922 .long ([.long x5, .long (x5 ^^^ (-1 : Int64))]) := F1038
          have F1060 : Av Z h1026 a923 .long ([.long x5, .long (x5 ^^^ (-1 : Int64))]) := F1039
          have F1061 : Av Z h1026 a924 .int ([.int (Int64.toInt32 x5), .int (Int64.toInt32 (x5 ^^^ (-1 : Int64)))]) := F1040
          have F1062 : Av Z h1026 a925 .boolean ([.int (nar .boolean b13), .int (nar .boolean b14)]) := F1041
          refine C.aload at_114 rfl rfl rfl ?_
          refine C.iload at_116 rfl rfl ?_
          refine C.lloadN at_118 rfl rfl ?_
          refine C.lloadN at_119 rfl rfl ?_
          refine C.lload at_120 rfl rfl ?_
          refine C.iload at_122 rfl rfl ?_
          refine C.iload at_124 rfl rfl ?_
          refine C.callV (argsL := [(.int 1), (.long x1), (.long x2), (.long x3), (.int x4), (.int b12)]) (rest := []) 0 (fun zz => con_rep l Z a0 hw n0 h1026 zz a903 a921 a922 a923 a924 a925 1 x1 x2 x3 x4 b12 ([.long x5, .long (x5 ^^^ (-1 : Int64))]) ([.long x5, .long (x5 ^^^ (-1 : Int64))]) ([.long x5, .long (x5 ^^^ (-1 : Int64))]) ([.int (Int64.toInt32 x5), .int (Int64.toInt32 (x5 ^^^ (-1 : Int64)))]) ([.int (nar .boolean b13), .int (nar .boolean b14)]) F1030 F1031 F1032 F1033 F1034 F1058 F1059 F1060 F1061 F1062 g957 g959 g961 g963 g965 ne968 ne969 ne970 ne971 ne972 ne932 ne933 ne934 ne935 ne936 ne937 ne938 ne939 ne940 ne941 (by decide) (Nat.le_of_ble_eq_true rfl) (Nat.le_of_ble_eq_true rfl) (Nat.le_of_ble_eq_true rfl) (Nat.le_of_ble_eq_true rfl) (Nat.le_of_ble_eq_true rfl)) F1042 at_126 rfl (tw hw 37 rfl) (tw hw 33 rfl) (tw hw 34 rfl) (tw hw 35 rfl) (tw hw 3 rfl) (tw hw 36 rfl) (by decide) pd_0 rfl rfl rfl (Nat.le_of_eq rfl) (by decide) (by decide) (by decide) (by decide) (fun v1063 h1064 r1065 => ?_)
          obtain ⟨rfl, K1066, F1067, F1068, F1069, F1070, F1071⟩ := r1065
          have F1072 : Exa Z h1064 a903 "com/example/tierline/tierline/sim/RecordBuffer" := F1042.keep K1066
          have F1073 : Fld Z h1064 a903 "com/example/tierline/tierline/sim/RecordBuffer" "tokens" "[J" (.ref a920) := F1029.keep K1066 (ninS ne968 (ninS ne969 (ninS ne970 (ninS ne971 (ninS ne972 nin0)))))
          have F1074 : Fld Z h1064 a903 "com/example/tierline/tierline/sim/RecordBuffer" "sequences" "[J" (.ref a921) := F1030.keep K1066 (ninS ne968 (ninS ne969 (ninS ne970 (ninS ne971 (ninS ne972 nin0)))))
          have F1075 : Fld Z h1064 a903 "com/example/tierline/tierline/sim/RecordBuffer" "times" "[J" (.ref a922) := F1031.keep K1066 (ninS ne968 (ninS ne969 (ninS ne970 (ninS ne971 (ninS ne972 nin0)))))
          have F1076 : Fld Z h1064 a903 "com/example/tierline/tierline/sim/RecordBuffer" "expiries" "[J" (.ref a923) := F1032.keep K1066 (ninS ne968 (ninS ne969 (ninS ne970 (ninS ne971 (ninS ne972 nin0)))))
          have F1077 : Fld Z h1064 a903 "com/example/tierline/tierline/sim/RecordBuffer" "sizes" "[I" (.ref a924) := F1033.keep K1066 (ninS ne968 (ninS ne969 (ninS ne970 (ninS ne971 (ninS ne972 nin0)))))
          have F1078 : Fld Z h1064 a903 "com/example/tierline/tierline/sim/RecordBuffer" "tombstones" "[Z" (.ref a925) := F1034.keep K1066 (ninS ne968 (ninS ne969 (ninS ne970 (ninS ne971 (ninS ne972 nin0)))))
          have F1079 : Fld Z h1064 a903 "com/example/tierline/tierline/sim/RecordBuffer" "count" "I" (.int 2) := F1056.keep K1066 (ninS ne968 (ninS ne969 (ninS ne970 (ninS ne971 (ninS ne972 nin0)))))
          have F1080 : Av Z h1064 a920 .long ([.long x5, .long (x5 ^^^ (-1 : Int64))]) := F1057.keep K1066 (ninS ne927 (ninS ne928 (ninS ne929 (ninS ne930 (ninS ne931 nin0)))))
          have F1086 : Av Z h1064 a921 .long ([.long x5, .long x1]) := F1067
          have F1087 : Av Z h1064 a922 .long ([.long x5, .long x2]) := F1068
          have F1088 : Av Z h1064 a923 .long ([.long x5, .long x3]) := F1069
          have F1089 : Av Z h1064 a924 .int ([.int (Int64.toInt32 x5), .int x4]) := F1070
          have F1090 : Av Z h1064 a925 .boolean ([.int (nar .boolean b13), .int (nar .boolean b12)]) := F1071
          refine C.iload at_129 rfl rfl ?_
          refine C.if_ne_t at_131 (by decide) rfl (by decide) ?_
          refine C.lload at_139 rfl rfl ?_
          refine C.lstore (Ls' := #[.val (.int x0), .val (.long x1), .second, .val (.long x2), .second, .val (.long x3), .second, .val (.int x4), .val (.long x5), .second, .val (.int 1), .val (.int 0), .val (.int b12), .val (.int b13), .val (.int b14), .val (.long x5), .second, .val (.long (x5 ^^^ (-1 : Int64))), .second, .val (.ref a903), .val (.long (x5 ^^^ (-1 : Int64))), .second, .unset, .unset, .unset]) at_141 rfl rfl ?_
          refine C.iload at_143 rfl rfl ?_
          refine C.if_ne_t at_145 (by decide) rfl (by decide) ?_
          refine C.lload at_153 rfl rfl ?_
          refine C.lstore (Ls' := #[.val (.int x0), .val (.long x1), .second, .val (.long x2), .second, .val (.long x3), .second, .val (.int x4), .val (.long x5), .second, .val (.int 1), .val (.int 0), .val (.int b12), .val (.int b13), .val (.int b14), .val (.long x5), .second, .val (.long (x5 ^^^ (-1 : Int64))), .second, .val (.ref a903), .val (.long (x5 ^^^ (-1 : Int64))), .second, .val (.long x5), .second, .unset]) at_155 rfl rfl ?_
          refine C.iload at_157 rfl rfl ?_
          refine C.if_ne_t at_159 (by decide) rfl (by decide) ?_
          refine C.iload at_167 rfl rfl ?_
          refine C.istore (Ls' := #[.val (.int x0), .val (.long x1), .second, .val (.long x2), .second, .val (.long x3), .second, .val (.int x4), .val (.long x5), .second, .val (.int 1), .val (.int 0), .val (.int b12), .val (.int b13), .val (.int b14), .val (.long x5), .second, .val (.long (x5 ^^^ (-1 : Int64))), .second, .val (.ref a903), .val (.long (x5 ^^^ (-1 : Int64))), .second, .val (.long x5), .second, .val (.int b13)]) at_169 rfl rfl ?_
          refine C.aload at_171 rfl rfl rfl ?_
          refine C.callV (argsL := []) (rest := []) 0 (fun zz => con_cnt l Z a0 hw n0 h1064 zz a903 2 F1079) F1072 at_173 rfl (tw hw 38 rfl) (tw hw 39 rfl) (tw hw 40 rfl) (tw hw 41 rfl) (tw hw 3 rfl) (tw hw 42 rfl) (by decide) pd_3 rfl rfl rfl (Nat.le_of_eq rfl) (by decide) (by decide) (by decide) (by decide) (fun v1091 h1092 r1093 => ?_)
          obtain ⟨rfl, rfl⟩ := r1093
          refine C.iconst 2 at_176 rfl rfl ?_
          refine C.icmp_ne_f at_177 rfl (by decide) ?_
          refine C.aload at_180 rfl rfl rfl ?_
          refine C.iload at_182 rfl rfl ?_
          refine C.callV (argsL := [(.int 1)]) (rest := []) 0 (fun zz => con_token l Z a0 hw n0 h1064 zz a903 a920 1 (x5 ^^^ (-1 : Int64)) ([.long x5, .long (x5 ^^^ (-1 : Int64))]) F1073 F1080 (by decide) rfl) F1072 at_184 rfl (tw hw 43 rfl) (tw hw 44 rfl) (tw hw 45 rfl) (tw hw 46 rfl) (tw hw 3 rfl) (tw hw 47 rfl) (by decide) pd_4 rfl rfl rfl (Nat.le_of_eq rfl) (by decide) (by decide) (by decide) (by decide) (fun v1095 h1096 r1097 => ?_)
          obtain ⟨rfl, rfl⟩ := r1097
          refine C.lload at_187 rfl rfl ?_
          refine C.lcmp at_189 rfl ?_
          refine C.lif_ne_f at_190 rfl rfl ?_
          refine C.aload at_193 rfl rfl rfl ?_
          refine C.iload at_195 rfl rfl ?_
          refine C.callV (argsL := [(.int 1)]) (rest := []) 0 (fun zz => con_sequence l Z a0 hw n0 h1064 zz a903 a921 1 x1 ([.long x5, .long x1]) F1074 F1086 (by decide) rfl) F1072 at_197 rfl (tw hw 48 rfl) (tw hw 49 rfl) (tw hw 50 rfl) (tw hw 51 rfl) (tw hw 3 rfl) (tw hw 52 rfl) (by decide) pd_4 rfl rfl rfl (Nat.le_of_eq rfl) (by decide) (by decide) (by decide) (by decide) (fun v1099 h1100 r1101 => ?_)
          obtain ⟨rfl, rfl⟩ := r1101
          refine C.lloadN at_200 rfl rfl ?_
          refine C.lcmp at_201 rfl ?_
          refine C.lif_ne_f at_202 rfl rfl ?_
          refine C.aload at_205 rfl rfl rfl ?_
          refine C.iload at_207 rfl rfl ?_
          refine C.callV (argsL := [(.int 1)]) (rest := []) 0 (fun zz => con_time l Z a0 hw n0 h1064 zz a903 a922 1 x2 ([.long x5, .long x2]) F1075 F1087 (by decide) rfl) F1072 at_209 rfl (tw hw 53 rfl) (tw hw 54 rfl) (tw hw 55 rfl) (tw hw 56 rfl) (tw hw 3 rfl) (tw hw 57 rfl) (by decide) pd_4 rfl rfl rfl (Nat.le_of_eq rfl) (by decide) (by decide) (by decide) (by decide) (fun v1103 h1104 r1105 => ?_)
          obtain ⟨rfl, rfl⟩ := r1105
          refine C.lloadN at_212 rfl rfl ?_
          refine C.lcmp at_213 rfl ?_
          refine C.lif_ne_f at_214 rfl rfl ?_
          refine C.aload at_217 rfl rfl rfl ?_
          refine C.iload at_219 rfl rfl ?_
          refine C.callV (argsL := [(.int 1)]) (rest := []) 0 (fun zz => con_expiry l Z a0 hw n0 h1064 zz a903 a923 1 x3 ([.long x5, .long x3]) F1076 F1088 (by decide) rfl) F1072 at_221 rfl (tw hw 58 rfl) (tw hw 59 rfl) (tw hw 60 rfl) (tw hw 61 rfl) (tw hw 3 rfl) (tw hw 62 rfl) (by decide) pd_4 rfl rfl rfl (Nat.le_of_eq rfl) (by decide) (by decide) (by decide) (by decide) (fun v1107 h1108 r1109 => ?_)
          obtain ⟨rfl, rfl⟩ := r1109
          refine C.lload at_224 rfl rfl ?_
          refine C.lcmp at_226 rfl ?_
          refine C.lif_ne_f at_227 rfl rfl ?_
          refine C.aload at_230 rfl rfl rfl ?_
          refine C.iload at_232 rfl rfl ?_
          refine C.callV (argsL := [(.int 1)]) (rest := []) 0 (fun zz => con_size l Z a0 hw n0 h1064 zz a903 a924 1 x4 ([.int (Int64.toInt32 x5), .int x4]) F1077 F1089 (by decide) rfl) F1072 at_234 rfl (tw hw 63 rfl) (tw hw 64 rfl) (tw hw 65 rfl) (tw hw 66 rfl) (tw hw 3 rfl) (tw hw 67 rfl) (by decide) pd_5 rfl rfl rfl (Nat.le_of_eq rfl) (by decide) (by decide) (by decide) (by decide) (fun v1111 h1112 r1113 => ?_)
          obtain ⟨rfl, rfl⟩ := r1113
          refine C.iload at_237 rfl rfl ?_
          refine C.icmp_ne_f at_239 rfl rfl ?_
          refine C.aload at_242 rfl rfl rfl ?_
          refine C.iload at_244 rfl rfl ?_
          refine C.callV (argsL := [(.int 1)]) (rest := []) 0 (fun zz => con_isTombstone l Z a0 hw n0 h1064 zz a903 a925 1 (nar .boolean b12) ([.int (nar .boolean b13), .int (nar .boolean b12)]) F1078 F1090 (by decide) rfl (own_narb _)) F1072 at_246 rfl (tw hw 68 rfl) (tw hw 69 rfl) (tw hw 70 rfl) (tw hw 71 rfl) (tw hw 3 rfl) (tw hw 72 rfl) (by decide) pd_6 rfl rfl rfl (Nat.le_of_eq rfl) (by decide) (by decide) (by decide) (by decide) (fun v1115 h1116 r1117 => ?_)
          obtain ⟨rfl, rfl⟩ := r1117
          refine C.iload at_249 rfl rfl ?_
          refine C.icmp_ne_f at_251 rfl hb12 ?_
          refine C.aload at_254 rfl rfl rfl ?_
          refine C.iload at_256 rfl rfl ?_
          refine C.callV (argsL := [(.int 0)]) (rest := []) 0 (fun zz => con_token l Z a0 hw n0 h1064 zz a903 a920 0 x5 ([.long x5, .long (x5 ^^^ (-1 : Int64))]) F1073 F1080 (by decide) rfl) F1072 at_258 rfl (tw hw 43 rfl) (tw hw 44 rfl) (tw hw 45 rfl) (tw hw 46 rfl) (tw hw 3 rfl) (tw hw 47 rfl) (by decide) pd_4 rfl rfl rfl (Nat.le_of_eq rfl) (by decide) (by decide) (by decide) (by decide) (fun v1119 h1120 r1121 => ?_)
          obtain ⟨rfl, rfl⟩ := r1121
          refine C.lload at_261 rfl rfl ?_
          refine C.lcmp at_263 rfl ?_
          refine C.lif_ne_f at_264 rfl rfl ?_
          refine C.aload at_267 rfl rfl rfl ?_
          refine C.iload at_269 rfl rfl ?_
          refine C.callV (argsL := [(.int 0)]) (rest := []) 0 (fun zz => con_sequence l Z a0 hw n0 h1064 zz a903 a921 0 x5 ([.long x5, .long x1]) F1074 F1086 (by decide) rfl) F1072 at_271 rfl (tw hw 48 rfl) (tw hw 49 rfl) (tw hw 50 rfl) (tw hw 51 rfl) (tw hw 3 rfl) (tw hw 52 rfl) (by decide) pd_4 rfl rfl rfl (Nat.le_of_eq rfl) (by decide) (by decide) (by decide) (by decide) (fun v1123 h1124 r1125 => ?_)
          obtain ⟨rfl, rfl⟩ := r1125
          refine C.lload at_274 rfl rfl ?_
          refine C.lcmp at_276 rfl ?_
          refine C.lif_ne_f at_277 rfl rfl ?_
          refine C.aload at_280 rfl rfl rfl ?_
          refine C.iload at_282 rfl rfl ?_
          refine C.callV (argsL := [(.int 0)]) (rest := []) 0 (fun zz => con_time l Z a0 hw n0 h1064 zz a903 a922 0 x5 ([.long x5, .long x2]) F1075 F1087 (by decide) rfl) F1072 at_284 rfl (tw hw 53 rfl) (tw hw 54 rfl) (tw hw 55 rfl) (tw hw 56 rfl) (tw hw 3 rfl) (tw hw 57 rfl) (by decide) pd_4 rfl rfl rfl (Nat.le_of_eq rfl) (by decide) (by decide) (by decide) (by decide) (fun v1127 h1128 r1129 => ?_)
          obtain ⟨rfl, rfl⟩ := r1129
          refine C.lload at_287 rfl rfl ?_
          refine C.lcmp at_289 rfl ?_
          refine C.lif_ne_f at_290 rfl rfl ?_
          refine C.aload at_293 rfl rfl rfl ?_
          refine C.iload at_295 rfl rfl ?_
          refine C.callV (argsL := [(.int 0)]) (rest := []) 0 (fun zz => con_expiry l Z a0 hw n0 h1064 zz a903 a923 0 x5 ([.long x5, .long x3]) F1076 F1088 (by decide) rfl) F1072 at_297 rfl (tw hw 58 rfl) (tw hw 59 rfl) (tw hw 60 rfl) (tw hw 61 rfl) (tw hw 3 rfl) (tw hw 62 rfl) (by decide) pd_4 rfl rfl rfl (Nat.le_of_eq rfl) (by decide) (by decide) (by decide) (by decide) (fun v1131 h1132 r1133 => ?_)
          obtain ⟨rfl, rfl⟩ := r1133
          refine C.lload at_300 rfl rfl ?_
          refine C.lcmp at_302 rfl ?_
          refine C.lif_ne_f at_303 rfl rfl ?_
          refine C.aload at_306 rfl rfl rfl ?_
          refine C.iload at_308 rfl rfl ?_
          refine C.callV (argsL := [(.int 0)]) (rest := []) 0 (fun zz => con_size l Z a0 hw n0 h1064 zz a903 a924 0 (Int64.toInt32 x5) ([.int (Int64.toInt32 x5), .int x4]) F1077 F1089 (by decide) rfl) F1072 at_310 rfl (tw hw 63 rfl) (tw hw 64 rfl) (tw hw 65 rfl) (tw hw 66 rfl) (tw hw 3 rfl) (tw hw 67 rfl) (by decide) pd_5 rfl rfl rfl (Nat.le_of_eq rfl) (by decide) (by decide) (by decide) (by decide) (fun v1135 h1136 r1137 => ?_)
          obtain ⟨rfl, rfl⟩ := r1137
          refine C.lload at_313 rfl rfl ?_
          refine C.l2i at_315 rfl ?_
          refine C.icmp_ne_f at_316 rfl rfl ?_
          refine C.aload at_319 rfl rfl rfl ?_
          refine C.iload at_321 rfl rfl ?_
          refine C.callV (argsL := [(.int 0)]) (rest := []) 0 (fun zz => con_isTombstone l Z a0 hw n0 h1064 zz a903 a925 0 (nar .boolean b13) ([.int (nar .boolean b13), .int (nar .boolean b12)]) F1078 F1090 (by decide) rfl (own_narb _)) F1072 at_323 rfl (tw hw 68 rfl) (tw hw 69 rfl) (tw hw 70 rfl) (tw hw 71 rfl) (tw hw 3 rfl) (tw hw 72 rfl) (by decide) pd_6 rfl rfl rfl (Nat.le_of_eq rfl) (by decide) (by decide) (by decide) (by decide) (fun v1139 h1140 r1141 => ?_)
          obtain ⟨rfl, rfl⟩ := r1141
          refine C.iload at_326 rfl rfl ?_
          refine C.icmp_ne_f at_328 rfl hb13 ?_
          refine C.iconst 1 at_331 rfl rfl ?_
          refine C.goto at_332 (by decide) rfl ?_
          exact C.retZ at_336 rfl (by decide) (by decide) ⟨rfl, trivial⟩
        refine C.if_eq at_46 (by decide) rfl rfl (fun q46 => ?_) (fun q46 => ?_)
        · refine C.iconst 0 at_53 rfl rfl ?_
          exact (J54_902 0 rfl).more (by decide) (by decide)
        · refine C.iconst 1 at_49 rfl rfl ?_
          refine C.goto at_50 (by decide) rfl ?_
          exact (J54_902 1 rfl).more (by decide) (by decide)
      refine C.if_eq at_31 (by decide) rfl rfl (fun q31 => ?_) (fun q31 => ?_)
      · refine C.iconst 0 at_38 rfl rfl ?_
        exact J39_901 0 rfl
      · refine C.iconst 1 at_34 rfl rfl ?_
        refine C.goto at_35 (by decide) rfl ?_
        exact J39_901 1 rfl
    refine C.if_eq at_16 (by decide) rfl rfl (fun q16 => ?_) (fun q16 => ?_)
    · refine C.iconst 0 at_23 rfl rfl ?_
      exact J24_900 0 rfl
    · refine C.iconst 1 at_19 rfl rfl ?_
      refine C.goto at_20 (by decide) rfl ?_
      exact J24_900 1 rfl
set_option maxRecDepth 65536 in
set_option maxHeartbeats 40000000 in
theorem comes_1 {Post : Tables → Env → Array Value → State → Outcome → State → Prop} (hpost : ∀ tb e args s v u, (limb_1_1.after args s (.returned v) u = true ∧ limb_1_2.after args s (.returned v) u = true ∧ True) → FrameEnd s (.returned v) u (Jvm.fieldLocs frame_1_writes args s ++ Jvm.arrayLocs frame_1_arrays args s ++ Jvm.staticLocs frame_1_statics s) 24 128 → Post tb e args s (.returned v) u) :
    ArmFor flags0 classFile x code maxLocals ret World_1 tables_1 room_1 Calls_1 rest_1 Pre_1 Post := by
  intro l hfl _ _ p e ha hc hk s m args below hf hA hF happ hP
  obtain ⟨hcalls, hrest, hpre⟩ := hP
  obtain ⟨-, -, -, hnamed, -, -, -, hat⟩ := (Spec.applies_iff hf).mp happ
  obtain ⟨hg, hn⟩ := and_e (Cond.before_iff.mp (show (Jvm.Cond.and given_1 narrow_1).before args s = true from hpre))
  obtain ⟨h1, h2⟩ := and_e hg
  obtain ⟨w0, w1, w2, w3, w4, w5, rfl⟩ : ∃ w0 w1 w2 w3 w4 w5 : Value, args = #[w0, w1, w2, w3, w4, w5] := by
    have hs : args.size = 6 := by simpa [Cond.value, given_1] using h1
    obtain ⟨L⟩ := args
    match L, hs with
    | [w0, w1, w2, w3, w4, w5], _ => exact ⟨w0, w1, w2, w3, w4, w5, rfl⟩
  have hw := fun d (hd : d ∈ tables_1) => atoms_spec (ws := Jvm.Cond.code x code maxLocals ret :: tables_1) hat d (List.mem_cons_of_mem _ hd)
  obtain ⟨u0, t0⟩ := and_e h2
  obtain ⟨i0, e0⟩ := is_v u0
  obtain rfl : w0 = (.int i0) := Option.some.inj e0
  obtain ⟨u1, t1⟩ := and_e t0
  obtain ⟨i1, e1⟩ := isL_v u1
  obtain rfl : w1 = (.long i1) := Option.some.inj e1
  obtain ⟨u2, t2⟩ := and_e t1
  obtain ⟨i2, e2⟩ := isL_v u2
  obtain rfl : w2 = (.long i2) := Option.some.inj e2
  obtain ⟨u3, t3⟩ := and_e t2
  obtain ⟨i3, e3⟩ := isL_v u3
  obtain rfl : w3 = (.long i3) := Option.some.inj e3
  obtain ⟨u4, t4⟩ := and_e t3
  obtain ⟨i4, e4⟩ := is_v u4
  obtain rfl : w4 = (.int i4) := Option.some.inj e4
  obtain ⟨i5, e5⟩ := isL_v t4
  obtain rfl : w5 = (.long i5) := Option.some.inj e5
  obtain ⟨n, o, h1, h2, h3, _, L, rfl, ⟨⟨rfl, -⟩, N⟩, hq⟩ := con0 l s _ hw s.heap.size s.heap (Nat.le_refl _) i0 i1 i2 i3 i4 i5 p e ha hc hk s m _ below hf ((Spec.applies_iff_loose hf).mp happ).1 ⟨rfl, State.Warmed39.refl s, rfl⟩ trivial
  refine ⟨n, _, h1, h2, h3, hpost _ _ _ _ _ _ ⟨Cond.after_iff.mpr rfl, Cond.after_iff.mpr (eq_i res_at (Term.int_eval (1)) rfl), trivial⟩ ⟨hq.1, hq.2.1, (hq.2.2.sift fun y hy => Or.inr (N y hy)).mono (by decide) (by decide)⟩⟩
theorem main_1_1 : Claimed_1_1 := comes_1 fun _ _ _ _ _ _ h hF => ⟨h.1, hF⟩
theorem main_1_2 : Claimed_1_2 := comes_1 fun _ _ _ _ _ _ h hF => ⟨h.2.1, hF⟩
end Jvm.Pilot.@@N@@
namespace Jvm.Pilot.@@N@@
open Jvm Jvm.ClassFile Sem Op Lib Jvm.Free Jvm.Stand Jvm.Pilot.@@N@@.Jvm.D
/-! MADE BY PROGRAM (witnessworld.py) out of the Statement's table words and the real class files: 13 classes; the members and pool entries that the words name. The judged class is class 1, her method 1. -/
namespace start1
open Jvm.ClassFile
def u (s : String) : CpInfo := .utf8 (stringToUtf16 s)
/-- a pool by its gaps: so many unusable entries, then the entry; so many at the end -/
def gap : Nat → List CpInfo → List CpInfo
  | 0, r => r
  | n + 1, r => .unusable :: gap n r
def poolList (es : List (Nat × CpInfo)) (last : Nat) : List CpInfo := es.foldr (fun e r => gap e.1 (e.2 :: r)) (gap last [])
def pool (es : List (Nat × CpInfo)) (last : Nat) : Array CpInfo := ⟨poolList es last⟩
def fileOf (pool : Array CpInfo) (this : Nat) (attrs : Array Attribute := #[]) (ms : Array MethodInfo := #[]) (fl : Nat := 33) (sup : Nat := 0) (ifs : Array Nat := #[]) (fds : Array FieldInfo := #[]) : ClassFile where
  minorVersion := 0
  majorVersion := 65
  constantPool := pool
  accessFlags := fl
  thisClass := this
  superClass := sup
  interfaces := ifs
  fields := fds
  methods := ms
  attributes := attrs
def plain (name : String) (sup : Option ClassId) : Class where
  name := name
  kind := .ordinary
  loader := none
  accessFlags := 33
  super := sup
  interfaces := #[]
  cf := none
  fields := #[]
  methods := #[]
  instanceTypes := #[]
  staticTypes := #[]
  resolved := #[]
  callSites := []
  init := .initialized
  statics := none
  mirror := none

def pool0 : Array CpInfo := pool [(5, u "<init>"), (0, u "()V"), (1, .class_ 10), (1, u "java/lang/Object")] 113

def k0c0 : Code := { maxStack := 0, maxLocals := 1, code := object_method_1_code, exceptionTable := #[], attributes := #[] }
def k0m0 : Method := { name := "<init>", desc := "()V", sig := { parameters := [], returnType := none }, accessFlags := 1, code := some k0c0 }
/-- java/lang/Object -/
def k0 : Class := { plain "java/lang/Object" none with
  accessFlags := 33
  interfaces := #[]
  cf := some (fileOf pool0 8 #[] #[{ accessFlags := 1, nameIndex := 5, descriptorIndex := 6, attributes := #[] }] 33 0 #[] #[])
  fields := #[]
  methods := #[k0m0]
  instanceTypes := #[]
  staticTypes := #[]
  resolved := Array.replicate 124 none
  statics := none }

def pool1 : Array CpInfo := pool [(2, .class_ 4), (1, u "java/lang/Object"), (0, u "<init>"), (0, u "()V"), (0, .long 18446744073709551615), (1, .class_ 10), (0, u "com/example/tierline/tierline/sim/RecordBuffer"), (0, .methodref 9 12), (0, .nameAndType 5 13), (0, u "(I)V"), (0, .methodref 9 15), (0, .nameAndType 16 17), (0, u "add"), (0, u "(JJJJIZ)V"), (0, .methodref 9 19), (0, .nameAndType 20 21), (0, u "replace"), (0, u "(IJJJIZ)V"), (0, .methodref 9 23), (0, .nameAndType 24 25), (0, u "count"), (0, u "()I"), (0, .methodref 9 27), (0, .nameAndType 28 29), (0, u "token"), (0, u "(I)J"), (0, .methodref 9 31), (0, .nameAndType 32 29), (0, u "sequence"), (0, .methodref 9 34), (0, .nameAndType 35 29), (0, u "time"), (0, .methodref 9 37), (0, .nameAndType 38 29), (0, u "expiry"), (0, .methodref 9 40), (0, .nameAndType 41 42), (0, u "size"), (0, u "(I)I"), (0, .methodref 9 44), (0, .nameAndType 45 46), (0, u "isTombstone"), (0, u "(I)Z"), (0, .class_ 48), (0, u "com/example/tierline/tierline/sim/RecordBufferReplacePinLaw"), (2, u "law"), (0, u "(IJJJIJ)Z")] 3

def k1m0 : Method := { name := "<init>", desc := "()V", sig := { parameters := [], returnType := none }, accessFlags := 1, code := none }
def k1c1 : Code := { maxStack := 11, maxLocals := 25, code := code, exceptionTable := #[], attributes := #[] }
def k1m1 : Method := { name := "law", desc := "(IJJJIJ)Z", sig := { parameters := [.int, .long, .long, .long, .int, .long], returnType := some .boolean }, accessFlags := 9, code := some k1c1 }
/-- com/example/tierline/tierline/sim/RecordBufferReplacePinLaw -/
def k1 : Class := { plain "com/example/tierline/tierline/sim/RecordBufferReplacePinLaw" (some 0) with
  accessFlags := 49
  interfaces := #[]
  cf := some (fileOf pool1 47 #[] #[{ accessFlags := 1, nameIndex := 5, descriptorIndex := 6, attributes := #[] }, { accessFlags := 9, nameIndex := 51, descriptorIndex := 52, attributes := #[] }] 49 2 #[] #[])
  fields := #[]
  methods := #[k1m0, k1m1]
  instanceTypes := #[]
  staticTypes := #[]
  resolved := Array.replicate 56 none
  statics := none }

def pool2 : Array CpInfo := pool [(1, .methodref 2 3), (0, .class_ 4), (0, .nameAndType 5 6), (0, u "java/lang/Object"), (0, u "<init>"), (0, u "()V"), (0, .fieldref 8 9), (0, .class_ 10), (0, .nameAndType 11 12), (0, u "com/example/tierline/tierline/sim/RecordBuffer"), (0, u "tokens"), (0, u "[J"), (0, .fieldref 8 14), (0, .nameAndType 15 12), (0, u "sequences"), (0, .fieldref 8 17), (0, .nameAndType 18 12), (0, u "times"), (0, .fieldref 8 20), (0, .nameAndType 21 12), (0, u "expiries"), (0, .fieldref 8 23), (0, .nameAndType 24 25), (0, u "sizes"), (0, u "[I"), (0, .fieldref 8 27), (0, .nameAndType 28 29), (0, u "tombstones"), (0, u "[Z"), (0, .fieldref 8 31), (0, .nameAndType 32 33), (0, u "count"), (0, u "I"), (21, .methodref 8 56), (0, .nameAndType 57 58), (0, u "replace"), (0, u "(IJJJIZ)V"), (2, u "add"), (0, u "(JJJJIZ)V"), (2, u "(I)V"), (23, u "()I"), (0, u "token"), (0, u "(I)J"), (0, u "sequence"), (0, u "time"), (0, u "expiry"), (0, u "size"), (0, u "(I)I"), (0, u "isTombstone"), (0, u "(I)Z")] 2

def k2c0 : Code := { maxStack := 2, maxLocals := 2, code := prog_34_method_1_code, exceptionTable := #[], attributes := #[] }
def k2m0 : Method := { name := "<init>", desc := "(I)V", sig := { parameters := [.int], returnType := none }, accessFlags := 0, code := some k2c0 }
def k2c1 : Code := { maxStack := 10, maxLocals := 12, code := prog_34_method_2_code, exceptionTable := #[], attributes := #[] }
def k2m1 : Method := { name := "add", desc := "(JJJJIZ)V", sig := { parameters := [.long, .long, .long, .long, .int, .boolean], returnType := none }, accessFlags := 0, code := some k2c1 }
def k2c2 : Code := { maxStack := 4, maxLocals := 10, code := prog_34_method_4_code, exceptionTable := #[], attributes := #[] }
def k2m2 : Method := { name := "replace", desc := "(IJJJIZ)V", sig := { parameters := [.int, .long, .long, .long, .int, .boolean], returnType := none }, accessFlags := 0, code := some k2c2 }
def k2c3 : Code := { maxStack := 1, maxLocals := 1, code := prog_34_method_8_code, exceptionTable := #[], attributes := #[] }
def k2m3 : Method := { name := "count", desc := "()I", sig := { parameters := [], returnType := some .int }, accessFlags := 0, code := some k2c3 }
def k2c4 : Code := { maxStack := 2, maxLocals := 2, code := prog_34_method_9_code, exceptionTable := #[], attributes := #[] }
def k2m4 : Method := { name := "token", desc := "(I)J", sig := { parameters := [.int], returnType := some .long }, accessFlags := 0, code := some k2c4 }
def k2c5 : Code := { maxStack := 2, maxLocals := 2, code := prog_34_method_10_code, exceptionTable := #[], attributes := #[] }
def k2m5 : Method := { name := "sequence", desc := "(I)J", sig := { parameters := [.int], returnType := some .long }, accessFlags := 0, code := some k2c5 }
def k2c6 : Code := { maxStack := 2, maxLocals := 2, code := prog_34_method_11_code, exceptionTable := #[], attributes := #[] }
def k2m6 : Method := { name := "time", desc := "(I)J", sig := { parameters := [.int], returnType := some .long }, accessFlags := 0, code := some k2c6 }
def k2c7 : Code := { maxStack := 2, maxLocals := 2, code := prog_34_method_12_code, exceptionTable := #[], attributes := #[] }
def k2m7 : Method := { name := "expiry", desc := "(I)J", sig := { parameters := [.int], returnType := some .long }, accessFlags := 0, code := some k2c7 }
def k2c8 : Code := { maxStack := 2, maxLocals := 2, code := prog_34_method_13_code, exceptionTable := #[], attributes := #[] }
def k2m8 : Method := { name := "size", desc := "(I)I", sig := { parameters := [.int], returnType := some .int }, accessFlags := 0, code := some k2c8 }
def k2c9 : Code := { maxStack := 2, maxLocals := 2, code := prog_34_method_14_code, exceptionTable := #[], attributes := #[] }
def k2m9 : Method := { name := "isTombstone", desc := "(I)Z", sig := { parameters := [.int], returnType := some .boolean }, accessFlags := 0, code := some k2c9 }
/-- com/example/tierline/tierline/sim/RecordBuffer -/
def k2 : Class := { plain "com/example/tierline/tierline/sim/RecordBuffer" (some 0) with
  accessFlags := 32
  interfaces := #[]
  cf := some (fileOf pool2 8 #[] #[{ accessFlags := 0, nameIndex := 5, descriptorIndex := 65, attributes := #[] }, { accessFlags := 0, nameIndex := 61, descriptorIndex := 62, attributes := #[] }, { accessFlags := 0, nameIndex := 57, descriptorIndex := 58, attributes := #[] }, { accessFlags := 0, nameIndex := 32, descriptorIndex := 89, attributes := #[] }, { accessFlags := 0, nameIndex := 90, descriptorIndex := 91, attributes := #[] }, { accessFlags := 0, nameIndex := 92, descriptorIndex := 91, attributes := #[] }, { accessFlags := 0, nameIndex := 93, descriptorIndex := 91, attributes := #[] }, { accessFlags := 0, nameIndex := 94, descriptorIndex := 91, attributes := #[] }, { accessFlags := 0, nameIndex := 95, descriptorIndex := 96, attributes := #[] }, { accessFlags := 0, nameIndex := 97, descriptorIndex := 98, attributes := #[] }] 32 2 #[] #[{ accessFlags := 2, nameIndex := 11, descriptorIndex := 12, attributes := #[] }, { accessFlags := 2, nameIndex := 15, descriptorIndex := 12, attributes := #[] }, { accessFlags := 2, nameIndex := 18, descriptorIndex := 12, attributes := #[] }, { accessFlags := 2, nameIndex := 21, descriptorIndex := 12, attributes := #[] }, { accessFlags := 2, nameIndex := 24, descriptorIndex := 25, attributes := #[] }, { accessFlags := 2, nameIndex := 28, descriptorIndex := 29, attributes := #[] }, { accessFlags := 2, nameIndex := 32, descriptorIndex := 33, attributes := #[] }])
  fields := #[{ name := "tokens", type := (.array .long), accessFlags := 2, slot := 0, constantValue := 0 }, { name := "sequences", type := (.array .long), accessFlags := 2, slot := 1, constantValue := 0 }, { name := "times", type := (.array .long), accessFlags := 2, slot := 2, constantValue := 0 }, { name := "expiries", type := (.array .long), accessFlags := 2, slot := 3, constantValue := 0 }, { name := "sizes", type := (.array .int), accessFlags := 2, slot := 4, constantValue := 0 }, { name := "tombstones", type := (.array .boolean), accessFlags := 2, slot := 5, constantValue := 0 }, { name := "count", type := .int, accessFlags := 2, slot := 6, constantValue := 0 }]
  methods := #[k2m0, k2m1, k2m2, k2m3, k2m4, k2m5, k2m6, k2m7, k2m8, k2m9]
  instanceTypes := #[(.array .long), (.array .long), (.array .long), (.array .long), (.array .int), (.array .boolean), .int]
  staticTypes := #[]
  resolved := Array.replicate 101 none
  statics := none }

def pool3 : Array CpInfo := pool [(1, u "java/lang/Cloneable"), (0, .class_ 1), (0, u "java/lang/Object"), (0, .class_ 3)] 3

/-- java/lang/Cloneable -/
def k3 : Class := { plain "java/lang/Cloneable" (some 0) with
  accessFlags := 1537
  interfaces := #[]
  cf := some (fileOf pool3 2 #[] #[] 1537 4 #[] #[])
  fields := #[]
  methods := #[]
  instanceTypes := #[]
  staticTypes := #[]
  resolved := Array.replicate 8 none
  statics := none }

def pool4 : Array CpInfo := pool [(1, u "java/io/Serializable"), (0, .class_ 1), (0, u "java/lang/Object"), (0, .class_ 3)] 3

/-- java/io/Serializable -/
def k4 : Class := { plain "java/io/Serializable" (some 0) with
  accessFlags := 1537
  interfaces := #[]
  cf := some (fileOf pool4 2 #[] #[] 1537 4 #[] #[])
  fields := #[]
  methods := #[]
  instanceTypes := #[]
  staticTypes := #[]
  resolved := Array.replicate 8 none
  statics := none }

/-- the primitive boolean -/
def k5 : Class := { plain "boolean" none with kind := .primitive 'Z', accessFlags := 0x411 }
/-- [Z -/
def k6 : Class := { plain "[Z" (some 0) with kind := .array 5 .boolean, interfaces := #[3, 4], accessFlags := 1041 }

/-- the primitive byte -/
def k7 : Class := { plain "byte" none with kind := .primitive 'B', accessFlags := 0x411 }
/-- [B -/
def k8 : Class := { plain "[B" (some 0) with kind := .array 7 .byte, interfaces := #[3, 4], accessFlags := 1041 }

/-- the primitive int -/
def k9 : Class := { plain "int" none with kind := .primitive 'I', accessFlags := 0x411 }
/-- [I -/
def k10 : Class := { plain "[I" (some 0) with kind := .array 9 .int, interfaces := #[3, 4], accessFlags := 1041 }

/-- the primitive long -/
def k11 : Class := { plain "long" none with kind := .primitive 'J', accessFlags := 0x411 }
/-- [J -/
def k12 : Class := { plain "[J" (some 0) with kind := .array 11 .long, interfaces := #[3, 4], accessFlags := 1041 }

def heap : Heap := #[]
def classes : Array Class := #[k0, k1, k2, k3, k4, k5, k6, k7, k8, k9, k10, k11, k12]
def interned : List (Array UInt16 × Addr) := []
def slotsUsed : Nat := 0
def theMethod : MethodId := ⟨1, 1⟩
def args0 : Array Value := #[.int 1, .long 2, .long 3, .long 4, .int 5, .long 6]
def aboutOver (below : List Frame) : State where
  vm := { classes := classes, interned := interned.toArray }
  heap := heap
  slotsUsed := slotsUsed
  threads := #[{ frames := .invoking theMethod args0 :: below }]
def below0 : List Frame := [.native { method := ⟨0, 0⟩, args := #[] }]
def about1 : State := aboutOver below0
def p0 : Program := .bare "" "" ""
def e0 : Env := launch0.env 0 0 0
theorem w_frames : about1.frames = Frame.invoking theMethod args0 :: below0 := rfl
set_option maxRecDepth 65536 in
theorem w_args : argsFit about1.vm theMethod args0 = true := by decide +kernel
set_option maxRecDepth 65536 in
theorem w_heap : heapFits about1 = true := by decide +kernel
set_option maxRecDepth 65536 in
theorem w_runnable : about1.curStatus? = some .runnable := by decide +kernel
set_option maxRecDepth 65536 in
theorem w_alone : about1.alone = true := by decide +kernel
set_option maxRecDepth 65536 in
theorem w_named : about1.methodNamed? x = some theMethod := by decide +kernel
set_option maxRecDepth 65536 in
theorem w_hears : about1.hears theMethod below0 = true := by decide +kernel
set_option maxRecDepth 65536 in
theorem w_ripe : about1.ripe theMethod args0 below0 = true := by decide +kernel
theorem w_running : about1.status = .running := rfl
set_option maxRecDepth 65536 in
theorem w_room : about1.hasRoom e0.platform room_1 = true :=
  launch0.hasRoom_least _ room_1 (by decide +kernel) (by decide +kernel) (by decide +kernel) (by decide +kernel) (by decide +kernel) (by decide +kernel)
theorem allAtoms_all (ts : List Jvm.Cond) (a : Array Jvm.Value) (st : Jvm.State) : (allAtoms ts).before a st = ts.all (fun c => c.before a st) := by
  induction ts with
  | nil => rfl
  | cons c t ih =>
    show (Jvm.Cond.and c (allAtoms t)).before a st = _
    rw [Jvm.Cond.before_and, ih, List.all_cons]
def words1 : List Jvm.Cond := Jvm.Cond.code x code maxLocals ret :: tables_1
/-- a 'code' word, met by the world's own term for the bytes: nothing is compared byte by byte -/
theorem code_word {y : MethodName} {bytes : ByteArray} {mx : Nat} {rt : Option FieldType} {a : Array Value} {s : State} {m : MethodId} {meth : Method} {c : Code} (h1 : s.methodNamed? y = some m) (h2 : s.vm.method? m = some meth) (h3 : meth.code = some c) (h4 : c.code = bytes)
    (h5 : (c.maxLocals == mx && c.exceptionTable.isEmpty && decide (c.maxStack ≤ mostOperands) && decide (meth.sig.returnType = rt) && !meth.locks && decide (parseMethodDescriptor y.desc = some meth.sig)) = true) : (Jvm.Cond.code y bytes mx rt).before a s = true := by
  simp only [Bool.and_eq_true, beq_iff_eq, Bool.not_eq_true', decide_eq_true_eq] at h5
  obtain ⟨⟨⟨⟨⟨g1, g2⟩, g3⟩, g4⟩, g5⟩, g6⟩ := h5
  simp [Cond.before, Cond.holds, Cond.value, h1, h2, h3, h4, g1, g2, g3, g4, g5, g6]
def isCode : Jvm.Cond → Bool
  | .code _ _ _ _ => true
  | _ => false
theorem all_split {L : List Jvm.Cond} {P : Jvm.Cond → Bool} (h1 : L.all (fun c => isCode c || P c) = true) (h2 : ∀ c ∈ L.filter isCode, P c = true) : L.all P = true := by
  refine List.all_eq_true.mpr fun c hc => ?_
  have h := List.all_eq_true.mp h1 c hc
  rcases Bool.eq_false_or_eq_true (isCode c) with hi | hi
  · exact h2 c (List.mem_filter.mpr ⟨hc, hi⟩)
  · simpa [hi] using h
set_option maxRecDepth 65536 in
theorem w_c0 : (Jvm.Cond.code x code maxLocals ret).before args0 about1 = true := code_word (m := ⟨1, 1⟩) (meth := k1m1) (c := k1c1) (by decide +kernel) rfl rfl rfl (by decide +kernel)
set_option maxRecDepth 65536 in
theorem w_c1 : (Jvm.Cond.code ({ cls := "com/example/tierline/tierline/sim/RecordBuffer", name := "<init>", desc := "(I)V" } : Jvm.MethodName) prog_34_method_1_code (2 : Nat) (Option.none : Option Jvm.ClassFile.FieldType)).before args0 about1 = true := code_word (m := ⟨2, 0⟩) (meth := k2m0) (c := k2c0) (by decide +kernel) rfl rfl rfl (by decide +kernel)
set_option maxRecDepth 65536 in
theorem w_c2 : (Jvm.Cond.code ({ cls := "java/lang/Object", name := "<init>", desc := "()V" } : Jvm.MethodName) object_method_1_code (1 : Nat) (Option.none : Option Jvm.ClassFile.FieldType)).before args0 about1 = true := code_word (m := ⟨0, 0⟩) (meth := k0m0) (c := k0c0) (by decide +kernel) rfl rfl rfl (by decide +kernel)
set_option maxRecDepth 65536 in
theorem w_c3 : (Jvm.Cond.code ({ cls := "com/example/tierline/tierline/sim/RecordBuffer", name := "add", desc := "(JJJJIZ)V" } : Jvm.MethodName) prog_34_method_2_code (12 : Nat) (Option.none : Option Jvm.ClassFile.FieldType)).before args0 about1 = true := code_word (m := ⟨2, 1⟩) (meth := k2m1) (c := k2c1) (by decide +kernel) rfl rfl rfl (by decide +kernel)
set_option maxRecDepth 65536 in
theorem w_c4 : (Jvm.Cond.code ({ cls := "com/example/tierline/tierline/sim/RecordBuffer", name := "replace", desc := "(IJJJIZ)V" } : Jvm.MethodName) prog_34_method_4_code (10 : Nat) (Option.none : Option Jvm.ClassFile.FieldType)).before args0 about1 = true := code_word (m := ⟨2, 2⟩) (meth := k2m2) (c := k2c2) (by decide +kernel) rfl rfl rfl (by decide +kernel)
set_option maxRecDepth 65536 in
theorem w_c5 : (Jvm.Cond.code ({ cls := "com/example/tierline/tierline/sim/RecordBuffer", name := "count", desc := "()I" } : Jvm.MethodName) prog_34_method_8_code (1 : Nat) (Option.some Jvm.ClassFile.FieldType.int)).before args0 about1 = true := code_word (m := ⟨2, 3⟩) (meth := k2m3) (c := k2c3) (by decide +kernel) rfl rfl rfl (by decide +kernel)
set_option maxRecDepth 65536 in
theorem w_c6 : (Jvm.Cond.code ({ cls := "com/example/tierline/tierline/sim/RecordBuffer", name := "token", desc := "(I)J" } : Jvm.MethodName) prog_34_method_9_code (2 : Nat) (Option.some Jvm.ClassFile.FieldType.long)).before args0 about1 = true := code_word (m := ⟨2, 4⟩) (meth := k2m4) (c := k2c4) (by decide +kernel) rfl rfl rfl (by decide +kernel)
set_option maxRecDepth 65536 in
theorem w_c7 : (Jvm.Cond.code ({ cls := "com/example/tierline/tierline/sim/RecordBuffer", name := "sequence", desc := "(I)J" } : Jvm.MethodName) prog_34_method_10_code (2 : Nat) (Option.some Jvm.ClassFile.FieldType.long)).before args0 about1 = true := code_word (m := ⟨2, 5⟩) (meth := k2m5) (c := k2c5) (by decide +kernel) rfl rfl rfl (by decide +kernel)
set_option maxRecDepth 65536 in
theorem w_c8 : (Jvm.Cond.code ({ cls := "com/example/tierline/tierline/sim/RecordBuffer", name := "time", desc := "(I)J" } : Jvm.MethodName) prog_34_method_11_code (2 : Nat) (Option.some Jvm.ClassFile.FieldType.long)).before args0 about1 = true := code_word (m := ⟨2, 6⟩) (meth := k2m6) (c := k2c6) (by decide +kernel) rfl rfl rfl (by decide +kernel)
set_option maxRecDepth 65536 in
theorem w_c9 : (Jvm.Cond.code ({ cls := "com/example/tierline/tierline/sim/RecordBuffer", name := "expiry", desc := "(I)J" } : Jvm.MethodName) prog_34_method_12_code (2 : Nat) (Option.some Jvm.ClassFile.FieldType.long)).before args0 about1 = true := code_word (m := ⟨2, 7⟩) (meth := k2m7) (c := k2c7) (by decide +kernel) rfl rfl rfl (by decide +kernel)
set_option maxRecDepth 65536 in
theorem w_c10 : (Jvm.Cond.code ({ cls := "com/example/tierline/tierline/sim/RecordBuffer", name := "size", desc := "(I)I" } : Jvm.MethodName) prog_34_method_13_code (2 : Nat) (Option.some Jvm.ClassFile.FieldType.int)).before args0 about1 = true := code_word (m := ⟨2, 8⟩) (meth := k2m8) (c := k2c8) (by decide +kernel) rfl rfl rfl (by decide +kernel)
set_option maxRecDepth 65536 in
theorem w_c11 : (Jvm.Cond.code ({ cls := "com/example/tierline/tierline/sim/RecordBuffer", name := "isTombstone", desc := "(I)Z" } : Jvm.MethodName) prog_34_method_14_code (2 : Nat) (Option.some Jvm.ClassFile.FieldType.boolean)).before args0 about1 = true := code_word (m := ⟨2, 9⟩) (meth := k2m9) (c := k2c9) (by decide +kernel) rfl rfl rfl (by decide +kernel)
def codes1 : List Jvm.Cond := [Jvm.Cond.code x code maxLocals ret, Jvm.Cond.code ({ cls := "com/example/tierline/tierline/sim/RecordBuffer", name := "<init>", desc := "(I)V" } : Jvm.MethodName) prog_34_method_1_code (2 : Nat) (Option.none : Option Jvm.ClassFile.FieldType), Jvm.Cond.code ({ cls := "java/lang/Object", name := "<init>", desc := "()V" } : Jvm.MethodName) object_method_1_code (1 : Nat) (Option.none : Option Jvm.ClassFile.FieldType), Jvm.Cond.code ({ cls := "com/example/tierline/tierline/sim/RecordBuffer", name := "add", desc := "(JJJJIZ)V" } : Jvm.MethodName) prog_34_method_2_code (12 : Nat) (Option.none : Option Jvm.ClassFile.FieldType), Jvm.Cond.code ({ cls := "com/example/tierline/tierline/sim/RecordBuffer", name := "replace", desc := "(IJJJIZ)V" } : Jvm.MethodName) prog_34_method_4_code (10 : Nat) (Option.none : Option Jvm.ClassFile.FieldType), Jvm.Cond.code ({ cls := "com/example/tierline/tierline/sim/RecordBuffer", name := "count", desc := "()I" } : Jvm.MethodName) prog_34_method_8_code (1 : Nat) (Option.some Jvm.ClassFile.FieldType.int), Jvm.Cond.code ({ cls := "com/example/tierline/tierline/sim/RecordBuffer", name := "token", desc := "(I)J" } : Jvm.MethodName) prog_34_method_9_code (2 : Nat) (Option.some Jvm.ClassFile.FieldType.long), Jvm.Cond.code ({ cls := "com/example/tierline/tierline/sim/RecordBuffer", name := "sequence", desc := "(I)J" } : Jvm.MethodName) prog_34_method_10_code (2 : Nat) (Option.some Jvm.ClassFile.FieldType.long), Jvm.Cond.code ({ cls := "com/example/tierline/tierline/sim/RecordBuffer", name := "time", desc := "(I)J" } : Jvm.MethodName) prog_34_method_11_code (2 : Nat) (Option.some Jvm.ClassFile.FieldType.long), Jvm.Cond.code ({ cls := "com/example/tierline/tierline/sim/RecordBuffer", name := "expiry", desc := "(I)J" } : Jvm.MethodName) prog_34_method_12_code (2 : Nat) (Option.some Jvm.ClassFile.FieldType.long), Jvm.Cond.code ({ cls := "com/example/tierline/tierline/sim/RecordBuffer", name := "size", desc := "(I)I" } : Jvm.MethodName) prog_34_method_13_code (2 : Nat) (Option.some Jvm.ClassFile.FieldType.int), Jvm.Cond.code ({ cls := "com/example/tierline/tierline/sim/RecordBuffer", name := "isTombstone", desc := "(I)Z" } : Jvm.MethodName) prog_34_method_14_code (2 : Nat) (Option.some Jvm.ClassFile.FieldType.boolean)]
set_option maxRecDepth 65536 in
theorem codes_eq : words1.filter isCode = codes1 := rfl
theorem w_codes : ∀ c ∈ words1.filter isCode, c.before args0 about1 = true := by
  rw [codes_eq]
  intro c hc
  simp only [codes1, List.mem_cons, List.not_mem_nil, or_false] at hc
  rcases hc with rfl | rfl | rfl | rfl | rfl | rfl | rfl | rfl | rfl | rfl | rfl | rfl
  · exact w_c0
  · exact w_c1
  · exact w_c2
  · exact w_c3
  · exact w_c4
  · exact w_c5
  · exact w_c6
  · exact w_c7
  · exact w_c8
  · exact w_c9
  · exact w_c10
  · exact w_c11
set_option maxRecDepth 65536 in
theorem w_t1 : (words1.take 24).all (fun c => isCode c || c.before args0 about1) = true := by decide +kernel
set_option maxRecDepth 65536 in
theorem w_t2 : ((words1.drop 24).take 24).all (fun c => isCode c || c.before args0 about1) = true := by decide +kernel
set_option maxRecDepth 65536 in
theorem w_t3 : (((words1.drop 24).drop 24).take 24).all (fun c => isCode c || c.before args0 about1) = true := by decide +kernel
set_option maxRecDepth 65536 in
theorem w_t4 : (((words1.drop 24).drop 24).drop 24).all (fun c => isCode c || c.before args0 about1) = true := by decide +kernel
theorem w_tables : (allAtoms (Jvm.Cond.code x code maxLocals ret :: tables_1)).before args0 about1 = true := by
  rw [allAtoms_all]
  show words1.all (fun c => c.before args0 about1) = true
  refine all_split ?_ w_codes
  rw [← List.take_append_drop 24 words1, List.all_append, w_t1, ← List.take_append_drop 24 (words1.drop 24), List.all_append, w_t2, ← List.take_append_drop 24 ((words1.drop 24).drop 24), List.all_append, w_t3, w_t4]
  rfl
set_option maxRecDepth 65536 in
theorem w_case : (Jvm.Cond.and given_1 narrow_1).before args0 about1 = true := by decide +kernel
theorem w_applies : (headSpec (Jvm.Cond.code x code maxLocals ret :: tables_1) room_1).applies x e0.platform about1 = true :=
  (Spec.applies_iff w_frames).mpr ⟨w_running, w_runnable, w_alone, w_named, w_hears, w_ripe, w_room, w_tables⟩
theorem atStart : AtStart classFile x code maxLocals ret World_1 tables_1 room_1 Calls_1 rest_1 Pre_1 launch0 p0 e0 about1 theMethod args0 below0 :=
  ⟨lists_1, trivial, launch0.admits_env _ _ _, launch0.least_env, fairChoices_fair.cas, fairChoices_fair.clock, w_frames, w_args, w_heap, w_applies, trivial, trivial, w_case⟩
end start1
theorem witness_1 : WitnessClaimed_1 := ⟨start1.p0, start1.e0, start1.about1, start1.theMethod, start1.args0, start1.below0, start1.atStart⟩
end Jvm.Pilot.@@N@@
