import JvmDerived
import JvmDerived.Pilot.@@N@@Statement
import JvmDerived.Pilot.@@N@@Code
set_option linter.unusedVariables false
set_option linter.unusedSimpArgs false
@@BLOCK:NumsL.lean.txt@@
namespace Jvm.Pilot.@@N@@
open Jvm Jvm.ClassFile Sem Op Lib Jvm.Free Jvm.Stand Jvm.LawKit Jvm.RoadKit Bundle Jvm.Pilot.@@N@@.Jvm.D
/-! ## own kit: one body's walk as a goal on the heap, the frame and the room alone -/
/-- what stays the same through one body's walk -/
def Cx (p : Program) (s : State) (m : MethodId) (meth : Method) (c : Code) (Z : State) (n0 : Nat) (own : String) (bc : ByteArray) (maxL : Nat) (ret : Option FieldType) (nm : String) : Prop :=
  p.tables.exec = Jvm.exec ∧ Z.Warmed39 s.vm ∧ s.vm.findClass own = some m.cls ∧ c.code = bc ∧ c.maxLocals = maxL ∧ meth.sig.returnType = ret ∧ meth.name = nm ∧ meth.locks = false ∧ n0 ≤ s.heap.size
/-- from every state with this heap at which the body stands: the run goes on from this frame to the end that F says -/
def Go (p : Program) (l : Launch) (e : Env) (R : Room) (s : State) (m : MethodId) (args : Array Value) (below : List Frame) (meth : Method) (c : Code) (n0 : Nat) (F : State → Outcome → Prop) (h : Heap) (k n pc : Nat) (Ls : Array Slot) (st : List Value) : Prop :=
  ∀ (T : State) (locs : List Loc), Stand p l e R s m args below meth c T locs k n → T.heap = h → Fr n0 locs →
    ∃ s₂ o, Steps p.tables e below (T.setTop (mkF m pc Ls st)) s₂ ∧ s₂.status = .running ∧ Ended s₂ below o ∧ F s₂ o
/-- the end of a body: it returned what Q says, wrote new cells alone -/
def FinQ (s : State) (n0 : Nat) (Q : Option Value → Heap → Prop) (ck cs : Nat) : State → Outcome → Prop := fun s₂ o => ∃ v L, o = .returned v ∧ (Q v s₂.heap ∧ Fr n0 L) ∧ FrameEnd s o s₂ L ck cs
/-- a body's contract at the heap h0 -/
def Con (l : Launch) (Z : State) (n0 : Nat) (ws : List Jvm.Cond) (y : MethodName) (bc : ByteArray) (maxL : Nat) (ret : Option FieldType) (R : Room) (as : Array Value) (h0 : Heap) (Q : Option Value → Heap → Prop) : Prop :=
  MetFree l y (head1 (Jvm.Cond.code y bc maxL ret :: ws) R) (fun a U => a = as ∧ Z.Warmed39 U.vm ∧ U.heap = h0) (fun _ _ _ _ _ => True) (fun _ U o U' => ∃ v L, o = .returned v ∧ (Q v U'.heap ∧ Fr n0 L) ∧ FrameEnd U o U' L R.cells R.slots)
/-- an array: its class, its values -/
def Av (Z : State) (h : Heap) (a : Addr) (ty : FieldType) (vs : List Value) : Prop := ∃ c : Cell, Arr Z h a c ty ∧ c.slots.toList = vs ∧ ∀ v ∈ vs, fits ty v = true
section Own
variable {p : Program} {l : Launch} {e : Env} {R : Room} {s : State} {m : MethodId} {args : Array Value} {below : List Frame} {meth : Method} {c : Code} {n0 : Nat} {F : State → Outcome → Prop} {h : Heap} {k n pc pc' : Nat} {Ls : Array Slot} {st : List Value} {Z : State} {own : String} {bc : ByteArray} {maxL : Nat} {ret : Option FieldType} {nm : String} {a0 : Array Value}
theorem tw {ws : List Jvm.Cond} (hw : ∀ d ∈ ws, d.before a0 Z = true) (i : Nat) {d : Jvm.Cond} (q : ws[i]? = some d) : d.before a0 Z = true := hw _ (List.mem_of_getElem? q)
theorem Av.lt {a : Addr} {ty : FieldType} {vs : List Value} (A : Av Z h a ty vs) : a < h.size := by obtain ⟨c, A, -⟩ := A; exact A.lt
theorem Av.ext {a : Addr} {ty : FieldType} {vs : List Value} {h' : Heap} (A : Av Z h a ty vs) (E : Ext h h') : Av Z h' a ty vs := by obtain ⟨c, A, q⟩ := A; exact ⟨c, A.ext E, q⟩
theorem Av.other {a b : Addr} {ty : FieldType} {vs : List Value} {h' : Heap} {sl : Nat} {v : Value} (A : Av Z h b ty vs) (W : Wr h h' a sl v) (q : b ≠ a) : Av Z h' b ty vs := by obtain ⟨c, A, r⟩ := A; exact ⟨c, A.other W q, r⟩
theorem Av.keep {a : Addr} {ty : FieldType} {vs : List Value} {h' : Heap} {ws : List Addr} (A : Av Z h a ty vs) (K : Keep h h' ws) (q : a ∉ ws) : Av Z h' a ty vs := by obtain ⟨c, A, r⟩ := A; exact ⟨c, ⟨K.2.1 a c A.1 q, A.2⟩, r⟩
theorem Av.same {a : Addr} {ty : FieldType} {vs : List Value} {h' : Heap} {j : Nat} {v : Value} (A : Av Z h a ty vs) (W : Wr h h' a j v) (hf : fits ty v = true) : Av Z h' a ty (vs.set j v) := by
  obtain ⟨c, A, rfl, r⟩ := A
  refine ⟨_, A.same W, by simp [Cell.setSlot], fun w hw => ?_⟩
  rcases List.mem_or_eq_of_mem_set hw with q | rfl
  · exact r w q
  · exact hf
theorem Av.fit {a : Addr} {ty : FieldType} {vs : List Value} {i : Nat} {v : Value} (A : Av Z h a ty vs) (q : vs[i]? = some v) : fits ty v = true := by obtain ⟨c, A, -, r⟩ := A; exact r v (List.mem_of_getElem? q)
theorem Av.new {a : Addr} {kc : ClassId} {ty : FieldType} {z : Int32} (A : Arr Z h a (newA kc ty z) ty) : Av Z h a ty (List.replicate z.toNatClampNeg (defaultValue ty)) :=
  ⟨_, A, by simp [newA], fun v hv => by rw [List.eq_of_mem_replicate hv]; cases ty <;> rfl⟩
theorem own_in {j : Int32} {cl : Cell} {v : Value} (hj : ¬ j < 0) (hv : cl.slots[j.toNatClampNeg]? = some v) : ¬ (j < 0 ∨ cl.slots.size ≤ j.toNatClampNeg) := fun q => q.elim hj fun q => absurd (Array.getElem?_eq_some_iff.mp hv).1 (Nat.not_lt.mpr q)
theorem own_in2 {j : Int32} {cl : Cell} (hj : ¬ j < 0) (hl : j.toNatClampNeg < cl.slots.size) : ¬ (j < 0 ∨ cl.slots.size ≤ j.toNatClampNeg) := fun q => q.elim hj fun q => absurd hl (Nat.not_lt.mpr q)
theorem Go.pl {Ls' : Array Slot} {st' : List Value} (q : ∀ (T : State) (locs : List Loc), Stand p l e R s m args below meth c T locs k n → T.heap = h → ∀ t, Steps p.tables e below (T.setTop (mkF m pc' Ls' st')) t → Steps p.tables e below (T.setTop (mkF m pc Ls st)) t) (hr : Go p l e R s m args below meth c n0 F h k n pc' Ls' st') : Go p l e R s m args below meth c n0 F h k n pc Ls st := fun T locs X eT N => by
  obtain ⟨s₂, o, h1, h2⟩ := hr T locs X eT N
  exact ⟨s₂, o, q T locs X eT _ h1, h2⟩
theorem Go.more {k' n' : Nat} (hr : Go p l e R s m args below meth c n0 F h k' n' pc Ls st) (h1 : k ≤ k') (h2 : n ≤ n') : Go p l e R s m args below meth c n0 F h k n pc Ls st := fun T locs X eT N => hr T locs (X.more h1 h2) eT N
theorem Cx.size (C : Cx p s m meth c Z n0 own bc maxL ret nm) {T : State} {locs : List Loc} (X : Stand p l e R s m args below meth c T locs k n) : n0 ≤ T.heap.size := Nat.le_trans C.2.2.2.2.2.2.2.2 X.same.2.1
theorem Go.cI {x y : Int32} (q : x = y) (hr : Go p l e R s m args below meth c n0 F h k n pc Ls (.int y :: st)) : Go p l e R s m args below meth c n0 F h k n pc Ls (.int x :: st) := q ▸ hr
theorem Go.cL {x y : Int64} (q : x = y) (hr : Go p l e R s m args below meth c n0 F h k n pc Ls (.long y :: st)) : Go p l e R s m args below meth c n0 F h k n pc Ls (.long x :: st) := q ▸ hr
theorem Cx.iloadN (C : Cx p s m meth c Z n0 own bc maxL ret nm) {j : Fin 4} {v : Int32} (hd : decode bc pc = .ok (.iload_n j, 1)) (hp : pc + 1 = pc') (hl : Ls[j.val]? = some (.val (.int v))) (hr : Go p l e R s m args below meth c n0 F h k n pc' Ls (.int v :: st)) : Go p l e R s m args below meth c n0 F h k n pc Ls (st) := by
  subst hp; exact Go.pl (fun T locs X eT t q => XS.iloadN X.here C.1 rfl (hb C.2.2.2.1 hd) hl q) hr
theorem Cx.iload (C : Cx p s m meth c Z n0 own bc maxL ret nm) {j : Nat} {v : Int32} (hd : decode bc pc = .ok (.iload j, 2)) (hp : pc + 2 = pc') (hl : Ls[j]? = some (.val (.int v))) (hr : Go p l e R s m args below meth c n0 F h k n pc' Ls (.int v :: st)) : Go p l e R s m args below meth c n0 F h k n pc Ls (st) := by
  subst hp; exact Go.pl (fun T locs X eT t q => XS.iload X.here C.1 rfl (hb C.2.2.2.1 hd) hl q) hr
theorem Cx.lloadN (C : Cx p s m meth c Z n0 own bc maxL ret nm) {j : Fin 4} {v : Int64} (hd : decode bc pc = .ok (.lload_n j, 1)) (hp : pc + 1 = pc') (hl : Ls[j.val]? = some (.val (.long v))) (hr : Go p l e R s m args below meth c n0 F h k n pc' Ls (.long v :: st)) : Go p l e R s m args below meth c n0 F h k n pc Ls (st) := by
  subst hp; exact Go.pl (fun T locs X eT t q => XT.lloadN X.here C.1 rfl (hb C.2.2.2.1 hd) hl q) hr
theorem Cx.lload (C : Cx p s m meth c Z n0 own bc maxL ret nm) {j : Nat} {v : Int64} (hd : decode bc pc = .ok (.lload j, 2)) (hp : pc + 2 = pc') (hl : Ls[j]? = some (.val (.long v))) (hr : Go p l e R s m args below meth c n0 F h k n pc' Ls (.long v :: st)) : Go p l e R s m args below meth c n0 F h k n pc Ls (st) := by
  subst hp; exact Go.pl (fun T locs X eT t q => XT.lload X.here C.1 rfl (hb C.2.2.2.1 hd) hl q) hr
theorem Cx.aloadN (C : Cx p s m meth c Z n0 own bc maxL ret nm) {j : Fin 4} {v : Value} (hd : decode bc pc = .ok (.aload_n j, 1)) (hp : pc + 1 = pc') (hl : Ls[j.val]? = some (.val v)) (hv : v.isRef = true) (hr : Go p l e R s m args below meth c n0 F h k n pc' Ls (v :: st)) : Go p l e R s m args below meth c n0 F h k n pc Ls (st) := by
  subst hp; exact Go.pl (fun T locs X eT t q => XS.aloadN X.here C.1 rfl (hb C.2.2.2.1 hd) hl hv q) hr
theorem Cx.aload (C : Cx p s m meth c Z n0 own bc maxL ret nm) {j : Nat} {v : Value} (hd : decode bc pc = .ok (.aload j, 2)) (hp : pc + 2 = pc') (hl : Ls[j]? = some (.val v)) (hv : v.isRef = true) (hr : Go p l e R s m args below meth c n0 F h k n pc' Ls (v :: st)) : Go p l e R s m args below meth c n0 F h k n pc Ls (st) := by
  subst hp; exact Go.pl (fun T locs X eT t q => XS.aload X.here C.1 rfl (hb C.2.2.2.1 hd) hl hv q) hr
theorem Cx.istoreN (C : Cx p s m meth c Z n0 own bc maxL ret nm) {j : Fin 4} {v : Int32} {Ls' : Array Slot} (hd : decode bc pc = .ok (.istore_n j, 1)) (hp : pc + 1 = pc') (hl : storeLocals Ls j.val (.int v) = some Ls') (hr : Go p l e R s m args below meth c n0 F h k n pc' Ls' (st)) : Go p l e R s m args below meth c n0 F h k n pc Ls (.int v :: st) := by
  subst hp; exact Go.pl (fun T locs X eT t q => XS.istoreN X.here C.1 rfl (hb C.2.2.2.1 hd) rfl hl q) hr
theorem Cx.istore (C : Cx p s m meth c Z n0 own bc maxL ret nm) {j : Nat} {v : Int32} {Ls' : Array Slot} (hd : decode bc pc = .ok (.istore j, 2)) (hp : pc + 2 = pc') (hl : storeLocals Ls j (.int v) = some Ls') (hr : Go p l e R s m args below meth c n0 F h k n pc' Ls' (st)) : Go p l e R s m args below meth c n0 F h k n pc Ls (.int v :: st) := by
  subst hp; exact Go.pl (fun T locs X eT t q => XS.istore X.here C.1 rfl (hb C.2.2.2.1 hd) rfl hl q) hr
theorem Cx.lstoreN (C : Cx p s m meth c Z n0 own bc maxL ret nm) {j : Fin 4} {v : Int64} {Ls' : Array Slot} (hd : decode bc pc = .ok (.lstore_n j, 1)) (hp : pc + 1 = pc') (hl : storeLocals Ls j.val (.long v) = some Ls') (hr : Go p l e R s m args below meth c n0 F h k n pc' Ls' (st)) : Go p l e R s m args below meth c n0 F h k n pc Ls (.long v :: st) := by
  subst hp; exact Go.pl (fun T locs X eT t q => XT.lstoreN X.here C.1 rfl (hb C.2.2.2.1 hd) rfl hl q) hr
theorem Cx.lstore (C : Cx p s m meth c Z n0 own bc maxL ret nm) {j : Nat} {v : Int64} {Ls' : Array Slot} (hd : decode bc pc = .ok (.lstore j, 2)) (hp : pc + 2 = pc') (hl : storeLocals Ls j (.long v) = some Ls') (hr : Go p l e R s m args below meth c n0 F h k n pc' Ls' (st)) : Go p l e R s m args below meth c n0 F h k n pc Ls (.long v :: st) := by
  subst hp; exact Go.pl (fun T locs X eT t q => XT.lstore X.here C.1 rfl (hb C.2.2.2.1 hd) rfl hl q) hr
theorem Cx.astore (C : Cx p s m meth c Z n0 own bc maxL ret nm) {j : Nat} {v : Value} {Ls' : Array Slot} (hd : decode bc pc = .ok (.astore j, 2)) (hp : pc + 2 = pc') (hv : v.isRef = true) (hl : storeLocals Ls j v = some Ls') (hr : Go p l e R s m args below meth c n0 F h k n pc' Ls' (st)) : Go p l e R s m args below meth c n0 F h k n pc Ls (v :: st) := by
  subst hp; exact Go.pl (fun T locs X eT t q => XS.astore X.here C.1 rfl (hb C.2.2.2.1 hd) rfl hv hl q) hr
theorem Cx.iconst (C : Cx p s m meth c Z n0 own bc maxL ret nm) {i : Int} (v : Int32) (hd : decode bc pc = .ok (.iconst i, 1)) (hp : pc + 1 = pc') (hv : Int32.ofInt i = v) (hr : Go p l e R s m args below meth c n0 F h k n pc' Ls (.int v :: st)) : Go p l e R s m args below meth c n0 F h k n pc Ls st := by
  subst hp hv; exact Go.pl (fun T locs X eT t q => XS.iconst X.here C.1 rfl (hb C.2.2.2.1 hd) q) hr
theorem Cx.bipush (C : Cx p s m meth c Z n0 own bc maxL ret nm) {i : Int} (v : Int32) (hd : decode bc pc = .ok (.bipush i, 2)) (hp : pc + 2 = pc') (hv : (Int8.ofInt i).toInt32 = v) (hr : Go p l e R s m args below meth c n0 F h k n pc' Ls (.int v :: st)) : Go p l e R s m args below meth c n0 F h k n pc Ls st := by
  subst hp hv; exact Go.pl (fun T locs X eT t q => XS.bipush X.here C.1 rfl (hb C.2.2.2.1 hd) q) hr
theorem Cx.sipush (C : Cx p s m meth c Z n0 own bc maxL ret nm) {i : Int} (v : Int32) (hd : decode bc pc = .ok (.sipush i, 3)) (hp : pc + 3 = pc') (hv : (Int16.ofInt i).toInt32 = v) (hr : Go p l e R s m args below meth c n0 F h k n pc' Ls (.int v :: st)) : Go p l e R s m args below meth c n0 F h k n pc Ls st := by
  subst hp hv; exact Go.pl (fun T locs X eT t q => XS.sipush X.here C.1 rfl (hb C.2.2.2.1 hd) q) hr
theorem Cx.lconst (C : Cx p s m meth c Z n0 own bc maxL ret nm) {i : Fin 2} (v : Int64) (hd : decode bc pc = .ok (.lconst i, 1)) (hp : pc + 1 = pc') (hv : Int64.ofNat i = v) (hr : Go p l e R s m args below meth c n0 F h k n pc' Ls (.long v :: st)) : Go p l e R s m args below meth c n0 F h k n pc Ls st := by
  subst hp hv; exact Go.pl (fun T locs X eT t q => XT.lconst X.here C.1 rfl (hb C.2.2.2.1 hd) q) hr
theorem Cx.iadd (C : Cx p s m meth c Z n0 own bc maxL ret nm) {x y : Int32} (hd : decode bc pc = .ok (.iadd, 1)) (hp : pc + 1 = pc')  (hr : Go p l e R s m args below meth c n0 F h k n pc' Ls (.int (x + y) :: st)) : Go p l e R s m args below meth c n0 F h k n pc Ls (.int y :: .int x :: st) := by
  subst hp; exact Go.pl (fun T locs X eT t q => XS.iadd X.here C.1 rfl (hb C.2.2.2.1 hd) rfl q) hr
theorem Cx.isub (C : Cx p s m meth c Z n0 own bc maxL ret nm) {x y : Int32} (hd : decode bc pc = .ok (.isub, 1)) (hp : pc + 1 = pc')  (hr : Go p l e R s m args below meth c n0 F h k n pc' Ls (.int (x - y) :: st)) : Go p l e R s m args below meth c n0 F h k n pc Ls (.int y :: .int x :: st) := by
  subst hp; exact Go.pl (fun T locs X eT t q => XS.isub X.here C.1 rfl (hb C.2.2.2.1 hd) rfl q) hr
theorem Cx.imul (C : Cx p s m meth c Z n0 own bc maxL ret nm) {x y : Int32} (hd : decode bc pc = .ok (.imul, 1)) (hp : pc + 1 = pc')  (hr : Go p l e R s m args below meth c n0 F h k n pc' Ls (.int (x * y) :: st)) : Go p l e R s m args below meth c n0 F h k n pc Ls (.int y :: .int x :: st) := by
  subst hp; exact Go.pl (fun T locs X eT t q => XS.imul X.here C.1 rfl (hb C.2.2.2.1 hd) rfl q) hr
theorem Cx.iand (C : Cx p s m meth c Z n0 own bc maxL ret nm) {x y : Int32} (hd : decode bc pc = .ok (.iand, 1)) (hp : pc + 1 = pc')  (hr : Go p l e R s m args below meth c n0 F h k n pc' Ls (.int (x &&& y) :: st)) : Go p l e R s m args below meth c n0 F h k n pc Ls (.int y :: .int x :: st) := by
  subst hp; exact Go.pl (fun T locs X eT t q => XS.iand X.here C.1 rfl (hb C.2.2.2.1 hd) rfl q) hr
theorem Cx.idiv (C : Cx p s m meth c Z n0 own bc maxL ret nm) {x y : Int32} (hd : decode bc pc = .ok (.idiv, 1)) (hp : pc + 1 = pc') (hy : y ≠ 0) (hr : Go p l e R s m args below meth c n0 F h k n pc' Ls (.int (x / y) :: st)) : Go p l e R s m args below meth c n0 F h k n pc Ls (.int y :: .int x :: st) := by
  subst hp; exact Go.pl (fun T locs X eT t q => XS.idiv X.here C.1 rfl (hb C.2.2.2.1 hd) rfl hy q) hr
theorem Cx.ladd (C : Cx p s m meth c Z n0 own bc maxL ret nm) {x y : Int64} (hd : decode bc pc = .ok (.ladd, 1)) (hp : pc + 1 = pc')  (hr : Go p l e R s m args below meth c n0 F h k n pc' Ls (.long (x + y) :: st)) : Go p l e R s m args below meth c n0 F h k n pc Ls (.long y :: .long x :: st) := by
  subst hp; exact Go.pl (fun T locs X eT t q => XT.ladd X.here C.1 rfl (hb C.2.2.2.1 hd) rfl q) hr
theorem Cx.lsub (C : Cx p s m meth c Z n0 own bc maxL ret nm) {x y : Int64} (hd : decode bc pc = .ok (.lsub, 1)) (hp : pc + 1 = pc')  (hr : Go p l e R s m args below meth c n0 F h k n pc' Ls (.long (x - y) :: st)) : Go p l e R s m args below meth c n0 F h k n pc Ls (.long y :: .long x :: st) := by
  subst hp; exact Go.pl (fun T locs X eT t q => XT.lsub X.here C.1 rfl (hb C.2.2.2.1 hd) rfl q) hr
theorem Cx.lmul (C : Cx p s m meth c Z n0 own bc maxL ret nm) {x y : Int64} (hd : decode bc pc = .ok (.lmul, 1)) (hp : pc + 1 = pc')  (hr : Go p l e R s m args below meth c n0 F h k n pc' Ls (.long (x * y) :: st)) : Go p l e R s m args below meth c n0 F h k n pc Ls (.long y :: .long x :: st) := by
  subst hp; exact Go.pl (fun T locs X eT t q => XT.lmul X.here C.1 rfl (hb C.2.2.2.1 hd) rfl q) hr
theorem Cx.land (C : Cx p s m meth c Z n0 own bc maxL ret nm) {x y : Int64} (hd : decode bc pc = .ok (.land, 1)) (hp : pc + 1 = pc')  (hr : Go p l e R s m args below meth c n0 F h k n pc' Ls (.long (x &&& y) :: st)) : Go p l e R s m args below meth c n0 F h k n pc Ls (.long y :: .long x :: st) := by
  subst hp; exact Go.pl (fun T locs X eT t q => XT.land X.here C.1 rfl (hb C.2.2.2.1 hd) rfl q) hr
theorem Cx.lor (C : Cx p s m meth c Z n0 own bc maxL ret nm) {x y : Int64} (hd : decode bc pc = .ok (.lor, 1)) (hp : pc + 1 = pc')  (hr : Go p l e R s m args below meth c n0 F h k n pc' Ls (.long (x ||| y) :: st)) : Go p l e R s m args below meth c n0 F h k n pc Ls (.long y :: .long x :: st) := by
  subst hp; exact Go.pl (fun T locs X eT t q => XT.lor X.here C.1 rfl (hb C.2.2.2.1 hd) rfl q) hr
theorem Cx.lxor (C : Cx p s m meth c Z n0 own bc maxL ret nm) {x y : Int64} (hd : decode bc pc = .ok (.lxor, 1)) (hp : pc + 1 = pc')  (hr : Go p l e R s m args below meth c n0 F h k n pc' Ls (.long (x ^^^ y) :: st)) : Go p l e R s m args below meth c n0 F h k n pc Ls (.long y :: .long x :: st) := by
  subst hp; exact Go.pl (fun T locs X eT t q => XT.lxor X.here C.1 rfl (hb C.2.2.2.1 hd) rfl q) hr
theorem Cx.lushr (C : Cx p s m meth c Z n0 own bc maxL ret nm) {x : Int64} {y : Int32} (hd : decode bc pc = .ok (.lushr, 1)) (hp : pc + 1 = pc')  (hr : Go p l e R s m args below meth c n0 F h k n pc' Ls (.long (XT.ushrL x y) :: st)) : Go p l e R s m args below meth c n0 F h k n pc Ls (.int y :: .long x :: st) := by
  subst hp; exact Go.pl (fun T locs X eT t q => XT.lushr X.here C.1 rfl (hb C.2.2.2.1 hd) rfl q) hr
theorem Cx.i2l (C : Cx p s m meth c Z n0 own bc maxL ret nm) {x : Int32} (hd : decode bc pc = .ok (.i2l, 1)) (hp : pc + 1 = pc')  (hr : Go p l e R s m args below meth c n0 F h k n pc' Ls (.long x.toInt64 :: st)) : Go p l e R s m args below meth c n0 F h k n pc Ls (.int x :: st) := by
  subst hp; exact Go.pl (fun T locs X eT t q => XT.i2l X.here C.1 rfl (hb C.2.2.2.1 hd) rfl q) hr
theorem Cx.l2i (C : Cx p s m meth c Z n0 own bc maxL ret nm) {x : Int64} (hd : decode bc pc = .ok (.l2i, 1)) (hp : pc + 1 = pc')  (hr : Go p l e R s m args below meth c n0 F h k n pc' Ls (.int x.toInt32 :: st)) : Go p l e R s m args below meth c n0 F h k n pc Ls (.long x :: st) := by
  subst hp; exact Go.pl (fun T locs X eT t q => XT.l2i X.here C.1 rfl (hb C.2.2.2.1 hd) rfl q) hr
theorem Cx.lcmp (C : Cx p s m meth c Z n0 own bc maxL ret nm) {x y : Int64} (hd : decode bc pc = .ok (.lcmp, 1)) (hp : pc + 1 = pc')  (hr : Go p l e R s m args below meth c n0 F h k n pc' Ls (.int (XT.cmpL x y) :: st)) : Go p l e R s m args below meth c n0 F h k n pc Ls (.long y :: .long x :: st) := by
  subst hp; exact Go.pl (fun T locs X eT t q => XT.lcmp X.here C.1 rfl (hb C.2.2.2.1 hd) rfl q) hr
theorem Cx.iinc (C : Cx p s m meth c Z n0 own bc maxL ret nm) {j : Nat} {i : Int} {x : Int32} {Ls' : Array Slot} (v : Int32) (hd : decode bc pc = .ok (.iinc j i, 3)) (hp : pc + 3 = pc') (hv : Int32.ofInt i = v) (hl : Ls[j]? = some (.val (.int x))) (hl' : storeLocals Ls j (.int (x + v)) = some Ls') (hr : Go p l e R s m args below meth c n0 F h k n pc' Ls' st) : Go p l e R s m args below meth c n0 F h k n pc Ls st := by
  subst hp hv; exact Go.pl (fun T locs X eT t q => XS.iinc X.here C.1 rfl (hb C.2.2.2.1 hd) hl hl' q) hr
theorem Cx.dup (C : Cx p s m meth c Z n0 own bc maxL ret nm) {x : Value} (hd : decode bc pc = .ok (.dup, 1)) (hp : pc + 1 = pc') (hc : x.category = 1) (hr : Go p l e R s m args below meth c n0 F h k n pc' Ls (x :: x :: st)) : Go p l e R s m args below meth c n0 F h k n pc Ls (x :: st) := by
  subst hp; exact Go.pl (fun T locs X eT t q => XS.dup X.here C.1 rfl (hb C.2.2.2.1 hd) rfl hc q) hr
theorem Cx.dupX1 (C : Cx p s m meth c Z n0 own bc maxL ret nm) {x y : Value} (hd : decode bc pc = .ok (.dup_x1, 1)) (hp : pc + 1 = pc') (hc : x.category = 1) (hc' : y.category = 1) (hr : Go p l e R s m args below meth c n0 F h k n pc' Ls (x :: y :: x :: st)) : Go p l e R s m args below meth c n0 F h k n pc Ls (x :: y :: st) := by
  subst hp; exact Go.pl (fun T locs X eT t q => XT.dupX1 X.here C.1 rfl (hb C.2.2.2.1 hd) rfl hc hc' q) hr
theorem Cx.dup2 (C : Cx p s m meth c Z n0 own bc maxL ret nm) {x y : Value} (hd : decode bc pc = .ok (.dup2, 1)) (hp : pc + 1 = pc') (hc : x.category = 1) (hc' : y.category = 1) (hr : Go p l e R s m args below meth c n0 F h k n pc' Ls (x :: y :: x :: y :: st)) : Go p l e R s m args below meth c n0 F h k n pc Ls (x :: y :: st) := by
  subst hp; exact Go.pl (fun T locs X eT t q => XT.dup2 X.here C.1 rfl (hb C.2.2.2.1 hd) rfl hc hc' q) hr
theorem Cx.goto (C : Cx p s m meth c Z n0 own bc maxL ret nm) {o : Int} (hd : decode bc pc = .ok (.goto o, 3)) (ho : 0 ≤ (pc : Int) + o) (hp : ((pc : Int) + o).toNat = pc') (hr : Go p l e R s m args below meth c n0 F h k n pc' Ls st) : Go p l e R s m args below meth c n0 F h k n pc Ls st := by
  exact Go.pl (fun T locs X eT t q => XS.goto X.here C.1 rfl rfl (hb C.2.2.2.1 hd) ho hp q) hr
theorem Cx.if_eq_t (C : Cx p s m meth c Z n0 own bc maxL ret nm) {x : Int32} {o : Int} (hd : decode bc pc = .ok (.ifCond .eq o, 3)) (ho : 0 ≤ (pc : Int) + o) (hp : ((pc : Int) + o).toNat = pc') (hq : x = 0) (hr : Go p l e R s m args below meth c n0 F h k n pc' Ls st) : Go p l e R s m args below meth c n0 F h k n pc Ls (.int x :: st) :=
  Go.pl (fun T locs X eT t q => XS.ifYes X.here C.1 rfl rfl (hb C.2.2.2.1 hd) rfl (XT.i0_eq_t hq) ho hp q) hr
theorem Cx.if_eq_f (C : Cx p s m meth c Z n0 own bc maxL ret nm) {x : Int32} {o : Int} (hd : decode bc pc = .ok (.ifCond .eq o, 3)) (hp : pc + 3 = pc') (hq : ¬ x = 0) (hr : Go p l e R s m args below meth c n0 F h k n pc' Ls st) : Go p l e R s m args below meth c n0 F h k n pc Ls (.int x :: st) := by
  subst hp; exact Go.pl (fun T locs X eT t q => XS.ifNo X.here C.1 rfl (hb C.2.2.2.1 hd) rfl (XT.i0_eq_f hq) q) hr
theorem Cx.if_eq (C : Cx p s m meth c Z n0 own bc maxL ret nm) {x : Int32} {o : Int} {pc'' : Nat} (hd : decode bc pc = .ok (.ifCond .eq o, 3)) (ho : 0 ≤ (pc : Int) + o) (hp : ((pc : Int) + o).toNat = pc') (hp' : pc + 3 = pc'') (hy : x = 0 → Go p l e R s m args below meth c n0 F h k n pc' Ls st) (hn : ¬ x = 0 → Go p l e R s m args below meth c n0 F h k n pc'' Ls st) : Go p l e R s m args below meth c n0 F h k n pc Ls (.int x :: st) := by
  by_cases q : x = 0
  · exact C.if_eq_t hd ho hp q (hy q)
  · exact C.if_eq_f hd hp' q (hn q)
theorem Cx.icmp_eq_f (C : Cx p s m meth c Z n0 own bc maxL ret nm) {x y : Int32} {o : Int} (hd : decode bc pc = .ok (.if_icmp .eq o, 3)) (hp : pc + 3 = pc') (hq : ¬ x = y) (hr : Go p l e R s m args below meth c n0 F h k n pc' Ls st) : Go p l e R s m args below meth c n0 F h k n pc Ls (.int y :: .int x :: st) := by
  subst hp; exact Go.pl (fun T locs X eT t q => XS.icmpNo X.here C.1 rfl (hb C.2.2.2.1 hd) rfl (XT.ii_eq_f hq) q) hr
theorem Cx.lif_eq_t (C : Cx p s m meth c Z n0 own bc maxL ret nm) {x y : Int64} {o : Int} (hd : decode bc pc = .ok (.ifCond .eq o, 3)) (ho : 0 ≤ (pc : Int) + o) (hp : ((pc : Int) + o).toNat = pc') (hq : x = y) (hr : Go p l e R s m args below meth c n0 F h k n pc' Ls st) : Go p l e R s m args below meth c n0 F h k n pc Ls (.int (XT.cmpL x y) :: st) :=
  Go.pl (fun T locs X eT t q => XS.ifYes X.here C.1 rfl rfl (hb C.2.2.2.1 hd) rfl (XT.ll_eq_t hq) ho hp q) hr
theorem Cx.lif_eq_f (C : Cx p s m meth c Z n0 own bc maxL ret nm) {x y : Int64} {o : Int} (hd : decode bc pc = .ok (.ifCond .eq o, 3)) (hp : pc + 3 = pc') (hq : ¬ x = y) (hr : Go p l e R s m args below meth c n0 F h k n pc' Ls st) : Go p l e R s m args below meth c n0 F h k n pc Ls (.int (XT.cmpL x y) :: st) := by
  subst hp; exact Go.pl (fun T locs X eT t q => XS.ifNo X.here C.1 rfl (hb C.2.2.2.1 hd) rfl (XT.ll_eq_f hq) q) hr
theorem Cx.lif_eq (C : Cx p s m meth c Z n0 own bc maxL ret nm) {x y : Int64} {o : Int} {pc'' : Nat} (hd : decode bc pc = .ok (.ifCond .eq o, 3)) (ho : 0 ≤ (pc : Int) + o) (hp : ((pc : Int) + o).toNat = pc') (hp' : pc + 3 = pc'') (hy : x = y → Go p l e R s m args below meth c n0 F h k n pc' Ls st) (hn : ¬ x = y → Go p l e R s m args below meth c n0 F h k n pc'' Ls st) : Go p l e R s m args below meth c n0 F h k n pc Ls (.int (XT.cmpL x y) :: st) := by
  by_cases q : x = y
  · exact C.lif_eq_t hd ho hp q (hy q)
  · exact C.lif_eq_f hd hp' q (hn q)
theorem Cx.if_ne_t (C : Cx p s m meth c Z n0 own bc maxL ret nm) {x : Int32} {o : Int} (hd : decode bc pc = .ok (.ifCond .ne o, 3)) (ho : 0 ≤ (pc : Int) + o) (hp : ((pc : Int) + o).toNat = pc') (hq : ¬ x = 0) (hr : Go p l e R s m args below meth c n0 F h k n pc' Ls st) : Go p l e R s m args below meth c n0 F h k n pc Ls (.int x :: st) :=
  Go.pl (fun T locs X eT t q => XS.ifYes X.here C.1 rfl rfl (hb C.2.2.2.1 hd) rfl (XT.i0_ne_t hq) ho hp q) hr
theorem Cx.if_ne_f (C : Cx p s m meth c Z n0 own bc maxL ret nm) {x : Int32} {o : Int} (hd : decode bc pc = .ok (.ifCond .ne o, 3)) (hp : pc + 3 = pc') (hq : x = 0) (hr : Go p l e R s m args below meth c n0 F h k n pc' Ls st) : Go p l e R s m args below meth c n0 F h k n pc Ls (.int x :: st) := by
  subst hp; exact Go.pl (fun T locs X eT t q => XS.ifNo X.here C.1 rfl (hb C.2.2.2.1 hd) rfl (XT.i0_ne_f hq) q) hr
theorem Cx.icmp_ne_t (C : Cx p s m meth c Z n0 own bc maxL ret nm) {x y : Int32} {o : Int} (hd : decode bc pc = .ok (.if_icmp .ne o, 3)) (ho : 0 ≤ (pc : Int) + o) (hp : ((pc : Int) + o).toNat = pc') (hq : ¬ x = y) (hr : Go p l e R s m args below meth c n0 F h k n pc' Ls st) : Go p l e R s m args below meth c n0 F h k n pc Ls (.int y :: .int x :: st) :=
  Go.pl (fun T locs X eT t q => XS.icmpYes X.here C.1 rfl rfl (hb C.2.2.2.1 hd) rfl (XT.ii_ne_t hq) ho hp q) hr
theorem Cx.icmp_ne_f (C : Cx p s m meth c Z n0 own bc maxL ret nm) {x y : Int32} {o : Int} (hd : decode bc pc = .ok (.if_icmp .ne o, 3)) (hp : pc + 3 = pc') (hq : x = y) (hr : Go p l e R s m args below meth c n0 F h k n pc' Ls st) : Go p l e R s m args below meth c n0 F h k n pc Ls (.int y :: .int x :: st) := by
  subst hp; exact Go.pl (fun T locs X eT t q => XS.icmpNo X.here C.1 rfl (hb C.2.2.2.1 hd) rfl (XT.ii_ne_f hq) q) hr
theorem Cx.icmp_ne (C : Cx p s m meth c Z n0 own bc maxL ret nm) {x y : Int32} {o : Int} {pc'' : Nat} (hd : decode bc pc = .ok (.if_icmp .ne o, 3)) (ho : 0 ≤ (pc : Int) + o) (hp : ((pc : Int) + o).toNat = pc') (hp' : pc + 3 = pc'') (hy : ¬ x = y → Go p l e R s m args below meth c n0 F h k n pc' Ls st) (hn : x = y → Go p l e R s m args below meth c n0 F h k n pc'' Ls st) : Go p l e R s m args below meth c n0 F h k n pc Ls (.int y :: .int x :: st) := by
  by_cases q : x = y
  · exact C.icmp_ne_f hd hp' q (hn q)
  · exact C.icmp_ne_t hd ho hp q (hy q)
theorem Cx.lif_ne_t (C : Cx p s m meth c Z n0 own bc maxL ret nm) {x y : Int64} {o : Int} (hd : decode bc pc = .ok (.ifCond .ne o, 3)) (ho : 0 ≤ (pc : Int) + o) (hp : ((pc : Int) + o).toNat = pc') (hq : ¬ x = y) (hr : Go p l e R s m args below meth c n0 F h k n pc' Ls st) : Go p l e R s m args below meth c n0 F h k n pc Ls (.int (XT.cmpL x y) :: st) :=
  Go.pl (fun T locs X eT t q => XS.ifYes X.here C.1 rfl rfl (hb C.2.2.2.1 hd) rfl (XT.ll_ne_t hq) ho hp q) hr
theorem Cx.lif_ne_f (C : Cx p s m meth c Z n0 own bc maxL ret nm) {x y : Int64} {o : Int} (hd : decode bc pc = .ok (.ifCond .ne o, 3)) (hp : pc + 3 = pc') (hq : x = y) (hr : Go p l e R s m args below meth c n0 F h k n pc' Ls st) : Go p l e R s m args below meth c n0 F h k n pc Ls (.int (XT.cmpL x y) :: st) := by
  subst hp; exact Go.pl (fun T locs X eT t q => XS.ifNo X.here C.1 rfl (hb C.2.2.2.1 hd) rfl (XT.ll_ne_f hq) q) hr
theorem Cx.lif_ne (C : Cx p s m meth c Z n0 own bc maxL ret nm) {x y : Int64} {o : Int} {pc'' : Nat} (hd : decode bc pc = .ok (.ifCond .ne o, 3)) (ho : 0 ≤ (pc : Int) + o) (hp : ((pc : Int) + o).toNat = pc') (hp' : pc + 3 = pc'') (hy : ¬ x = y → Go p l e R s m args below meth c n0 F h k n pc' Ls st) (hn : x = y → Go p l e R s m args below meth c n0 F h k n pc'' Ls st) : Go p l e R s m args below meth c n0 F h k n pc Ls (.int (XT.cmpL x y) :: st) := by
  by_cases q : x = y
  · exact C.lif_ne_f hd hp' q (hn q)
  · exact C.lif_ne_t hd ho hp q (hy q)
theorem Cx.if_ge_t (C : Cx p s m meth c Z n0 own bc maxL ret nm) {x : Int32} {o : Int} (hd : decode bc pc = .ok (.ifCond .ge o, 3)) (ho : 0 ≤ (pc : Int) + o) (hp : ((pc : Int) + o).toNat = pc') (hq : ¬ x < 0) (hr : Go p l e R s m args below meth c n0 F h k n pc' Ls st) : Go p l e R s m args below meth c n0 F h k n pc Ls (.int x :: st) :=
  Go.pl (fun T locs X eT t q => XS.ifYes X.here C.1 rfl rfl (hb C.2.2.2.1 hd) rfl (XT.i0_ge_t hq) ho hp q) hr
theorem Cx.if_ge_f (C : Cx p s m meth c Z n0 own bc maxL ret nm) {x : Int32} {o : Int} (hd : decode bc pc = .ok (.ifCond .ge o, 3)) (hp : pc + 3 = pc') (hq : x < 0) (hr : Go p l e R s m args below meth c n0 F h k n pc' Ls st) : Go p l e R s m args below meth c n0 F h k n pc Ls (.int x :: st) := by
  subst hp; exact Go.pl (fun T locs X eT t q => XS.ifNo X.here C.1 rfl (hb C.2.2.2.1 hd) rfl (XT.i0_ge_f hq) q) hr
theorem Cx.icmp_ge_t (C : Cx p s m meth c Z n0 own bc maxL ret nm) {x y : Int32} {o : Int} (hd : decode bc pc = .ok (.if_icmp .ge o, 3)) (ho : 0 ≤ (pc : Int) + o) (hp : ((pc : Int) + o).toNat = pc') (hq : ¬ x < y) (hr : Go p l e R s m args below meth c n0 F h k n pc' Ls st) : Go p l e R s m args below meth c n0 F h k n pc Ls (.int y :: .int x :: st) :=
  Go.pl (fun T locs X eT t q => XS.icmpYes X.here C.1 rfl rfl (hb C.2.2.2.1 hd) rfl (XT.ii_ge_t hq) ho hp q) hr
theorem Cx.icmp_ge_f (C : Cx p s m meth c Z n0 own bc maxL ret nm) {x y : Int32} {o : Int} (hd : decode bc pc = .ok (.if_icmp .ge o, 3)) (hp : pc + 3 = pc') (hq : x < y) (hr : Go p l e R s m args below meth c n0 F h k n pc' Ls st) : Go p l e R s m args below meth c n0 F h k n pc Ls (.int y :: .int x :: st) := by
  subst hp; exact Go.pl (fun T locs X eT t q => XS.icmpNo X.here C.1 rfl (hb C.2.2.2.1 hd) rfl (XT.ii_ge_f hq) q) hr
theorem Cx.icmp_ge (C : Cx p s m meth c Z n0 own bc maxL ret nm) {x y : Int32} {o : Int} {pc'' : Nat} (hd : decode bc pc = .ok (.if_icmp .ge o, 3)) (ho : 0 ≤ (pc : Int) + o) (hp : ((pc : Int) + o).toNat = pc') (hp' : pc + 3 = pc'') (hy : ¬ x < y → Go p l e R s m args below meth c n0 F h k n pc' Ls st) (hn : x < y → Go p l e R s m args below meth c n0 F h k n pc'' Ls st) : Go p l e R s m args below meth c n0 F h k n pc Ls (.int y :: .int x :: st) := by
  by_cases q : x < y
  · exact C.icmp_ge_f hd hp' q (hn q)
  · exact C.icmp_ge_t hd ho hp q (hy q)
theorem Cx.if_le_t (C : Cx p s m meth c Z n0 own bc maxL ret nm) {x : Int32} {o : Int} (hd : decode bc pc = .ok (.ifCond .le o, 3)) (ho : 0 ≤ (pc : Int) + o) (hp : ((pc : Int) + o).toNat = pc') (hq : ¬ 0 < x) (hr : Go p l e R s m args below meth c n0 F h k n pc' Ls st) : Go p l e R s m args below meth c n0 F h k n pc Ls (.int x :: st) :=
  Go.pl (fun T locs X eT t q => XS.ifYes X.here C.1 rfl rfl (hb C.2.2.2.1 hd) rfl (XT.i0_le_t hq) ho hp q) hr
theorem Cx.if_le_f (C : Cx p s m meth c Z n0 own bc maxL ret nm) {x : Int32} {o : Int} (hd : decode bc pc = .ok (.ifCond .le o, 3)) (hp : pc + 3 = pc') (hq : 0 < x) (hr : Go p l e R s m args below meth c n0 F h k n pc' Ls st) : Go p l e R s m args below meth c n0 F h k n pc Ls (.int x :: st) := by
  subst hp; exact Go.pl (fun T locs X eT t q => XS.ifNo X.here C.1 rfl (hb C.2.2.2.1 hd) rfl (XT.i0_le_f hq) q) hr
theorem Cx.if_le (C : Cx p s m meth c Z n0 own bc maxL ret nm) {x : Int32} {o : Int} {pc'' : Nat} (hd : decode bc pc = .ok (.ifCond .le o, 3)) (ho : 0 ≤ (pc : Int) + o) (hp : ((pc : Int) + o).toNat = pc') (hp' : pc + 3 = pc'') (hy : ¬ 0 < x → Go p l e R s m args below meth c n0 F h k n pc' Ls st) (hn : 0 < x → Go p l e R s m args below meth c n0 F h k n pc'' Ls st) : Go p l e R s m args below meth c n0 F h k n pc Ls (.int x :: st) := by
  by_cases q : 0 < x
  · exact C.if_le_f hd hp' q (hn q)
  · exact C.if_le_t hd ho hp q (hy q)
theorem Cx.icmp_le_t (C : Cx p s m meth c Z n0 own bc maxL ret nm) {x y : Int32} {o : Int} (hd : decode bc pc = .ok (.if_icmp .le o, 3)) (ho : 0 ≤ (pc : Int) + o) (hp : ((pc : Int) + o).toNat = pc') (hq : ¬ y < x) (hr : Go p l e R s m args below meth c n0 F h k n pc' Ls st) : Go p l e R s m args below meth c n0 F h k n pc Ls (.int y :: .int x :: st) :=
  Go.pl (fun T locs X eT t q => XS.icmpYes X.here C.1 rfl rfl (hb C.2.2.2.1 hd) rfl (XT.ii_le_t hq) ho hp q) hr
theorem Cx.icmp_le_f (C : Cx p s m meth c Z n0 own bc maxL ret nm) {x y : Int32} {o : Int} (hd : decode bc pc = .ok (.if_icmp .le o, 3)) (hp : pc + 3 = pc') (hq : y < x) (hr : Go p l e R s m args below meth c n0 F h k n pc' Ls st) : Go p l e R s m args below meth c n0 F h k n pc Ls (.int y :: .int x :: st) := by
  subst hp; exact Go.pl (fun T locs X eT t q => XS.icmpNo X.here C.1 rfl (hb C.2.2.2.1 hd) rfl (XT.ii_le_f hq) q) hr
theorem Cx.icmp_le (C : Cx p s m meth c Z n0 own bc maxL ret nm) {x y : Int32} {o : Int} {pc'' : Nat} (hd : decode bc pc = .ok (.if_icmp .le o, 3)) (ho : 0 ≤ (pc : Int) + o) (hp : ((pc : Int) + o).toNat = pc') (hp' : pc + 3 = pc'') (hy : ¬ y < x → Go p l e R s m args below meth c n0 F h k n pc' Ls st) (hn : y < x → Go p l e R s m args below meth c n0 F h k n pc'' Ls st) : Go p l e R s m args below meth c n0 F h k n pc Ls (.int y :: .int x :: st) := by
  by_cases q : y < x
  · exact C.icmp_le_f hd hp' q (hn q)
  · exact C.icmp_le_t hd ho hp q (hy q)
theorem Cx.ldc2J (C : Cx p s m meth c Z n0 own bc maxL ret nm) {j : Nat} {v : Int64} (hd : decode bc pc = .ok (.ldc2_w j, 3)) (hp : pc + 3 = pc') (w : (Jvm.Cond.constantLong own j v).before a0 Z = true) (hr : Go p l e R s m args below meth c n0 F h k n pc' Ls (.long v :: st)) : Go p l e R s m args below meth c n0 F h k n pc Ls st := by
  subst hp; exact Go.pl (fun T locs X eT t q => X.ldc2J C.1 C.2.2.1 (mv C.2.1 w) rfl (hb C.2.2.2.1 hd) q) hr
theorem Cx.alen (C : Cx p s m meth c Z n0 own bc maxL ret nm) {a : Addr} {ty : FieldType} {vs : List Value} (hd : decode bc pc = .ok (.arraylength, 1)) (hp : pc + 1 = pc') (A : Av Z h a ty vs) (hr : Go p l e R s m args below meth c n0 F h k n pc' Ls (.int vs.length.toInt32 :: st)) : Go p l e R s m args below meth c n0 F h k n pc Ls (.ref a :: st) := by
  obtain ⟨cl, A, rfl, -⟩ := A; subst hp; refine Go.pl (fun T locs X eT t q => X.arraylength C.1 (cell := cl) (by rw [eT]; exact A.1) (State.isArrayOf_alike C.2.1.alike A.2.1) (g := mkF m pc Ls (.ref a :: st)) rfl rfl (hb C.2.2.2.1 hd) t q) (by simpa using hr)
theorem Cx.iaload (C : Cx p s m meth c Z n0 own bc maxL ret nm) {a : Addr} {vs : List Value} {j : Int32} (v : Value) (hd : decode bc pc = .ok (.iaload, 1)) (hp : pc + 1 = pc') (A : Av Z h a .int vs) (hj : ¬ j < 0) (hv : vs[j.toNatClampNeg]? = some v) (hr : Go p l e R s m args below meth c n0 F h k n pc' Ls (v :: st)) : Go p l e R s m args below meth c n0 F h k n pc Ls (.int j :: .ref a :: st) := by
  obtain ⟨cl, A, rfl, -⟩ := A; subst hp; rw [Array.getElem?_toList] at hv; exact Go.pl (fun T locs X eT t q => X.iaload C.1 (by rw [eT]; exact A.1) (State.isArrayOf_alike C.2.1.alike A.2.1) A.2.2 (own_in hj hv) hv (g := mkF m pc Ls (.int j :: .ref a :: st)) rfl rfl (hb C.2.2.2.1 hd) t q) hr
theorem Cx.laload (C : Cx p s m meth c Z n0 own bc maxL ret nm) {a : Addr} {vs : List Value} {j : Int32} (v : Value) (hd : decode bc pc = .ok (.laload, 1)) (hp : pc + 1 = pc') (A : Av Z h a .long vs) (hj : ¬ j < 0) (hv : vs[j.toNatClampNeg]? = some v) (hr : Go p l e R s m args below meth c n0 F h k n pc' Ls (v :: st)) : Go p l e R s m args below meth c n0 F h k n pc Ls (.int j :: .ref a :: st) := by
  obtain ⟨cl, A, rfl, -⟩ := A; subst hp; rw [Array.getElem?_toList] at hv; exact Go.pl (fun T locs X eT t q => X.laload C.1 (by rw [eT]; exact A.1) (State.isArrayOf_alike C.2.1.alike A.2.1) A.2.2 (own_in hj hv) hv (g := mkF m pc Ls (.int j :: .ref a :: st)) rfl rfl (hb C.2.2.2.1 hd) t q) hr
theorem Cx.iastore (C : Cx p s m meth c Z n0 own bc maxL ret nm) {a : Addr} {vs : List Value} {j : Int32} {x : Int32} (hd : decode bc pc = .ok (.iastore, 1)) (hp : pc + 1 = pc') (A : Av Z h a .int vs) (ha : n0 ≤ a) (hj : ¬ j < 0) (hl : j.toNatClampNeg < vs.length) (hr : ∀ h', Wr h h' a j.toNatClampNeg (.int x) → Av Z h' a .int (vs.set j.toNatClampNeg (.int x)) → Go p l e R s m args below meth c n0 F h' k n pc' Ls st) : Go p l e R s m args below meth c n0 F h k n pc Ls (.int x :: .int j :: .ref a :: st) := by
  intro T locs X eT N; have A0 := A; obtain ⟨cl, A, rfl, -⟩ := A; subst hp; rw [Array.length_toList] at hl
  obtain ⟨T', h', X', e', W, stp⟩ := stI X C.1 C.2.1 eT A (own_in2 hj hl) (g := mkF m pc Ls (.int x :: .int j :: .ref a :: st)) rfl rfl (hb C.2.2.2.1 hd)
  obtain ⟨s₂, o, q1, q2⟩ := hr h' W (A0.same W rfl) T' _ X' e' (Fr.snoc X' N ha)
  exact ⟨s₂, o, stp _ q1, q2⟩
theorem Cx.lastore (C : Cx p s m meth c Z n0 own bc maxL ret nm) {a : Addr} {vs : List Value} {j : Int32} {x : Int64} (hd : decode bc pc = .ok (.lastore, 1)) (hp : pc + 1 = pc') (A : Av Z h a .long vs) (ha : n0 ≤ a) (hj : ¬ j < 0) (hl : j.toNatClampNeg < vs.length) (hr : ∀ h', Wr h h' a j.toNatClampNeg (.long x) → Av Z h' a .long (vs.set j.toNatClampNeg (.long x)) → Go p l e R s m args below meth c n0 F h' k n pc' Ls st) : Go p l e R s m args below meth c n0 F h k n pc Ls (.long x :: .int j :: .ref a :: st) := by
  intro T locs X eT N; have A0 := A; obtain ⟨cl, A, rfl, -⟩ := A; subst hp; rw [Array.length_toList] at hl
  obtain ⟨T', h', X', e', W, stp⟩ := stJ X C.1 C.2.1 eT A (own_in2 hj hl) (g := mkF m pc Ls (.long x :: .int j :: .ref a :: st)) rfl rfl (hb C.2.2.2.1 hd)
  obtain ⟨s₂, o, q1, q2⟩ := hr h' W (A0.same W rfl) T' _ X' e' (Fr.snoc X' N ha)
  exact ⟨s₂, o, stp _ q1, q2⟩
theorem Cx.new (C : Cx p s m meth c Z n0 own bc maxL ret nm) {cls : String} {j nn : Nat} (hd : decode bc pc = .ok (.new j, 3)) (hp : pc + 3 = pc') (w1 : (Jvm.Cond.classLink own j cls).before a0 Z = true) (w2 : (Jvm.Cond.instantiable cls nn).before a0 Z = true) (w3 : (Jvm.Cond.initialized cls).before a0 Z = true) (hk : k + 1 ≤ R.cells) (hn : n + nn ≤ R.slots)
    (hr : ∀ (a : Addr) (h' : Heap), a = h.size → n0 ≤ a → Ext h h' → Exa Z h' a cls → (∀ {O f d : String} {ty : FieldType}, Laid Z a0 cls O f d → parseFieldDescriptor d = some ty → Fld Z h' a O f d (defaultValue ty)) → Go p l e R s m args below meth c n0 F h' (k + 1) (n + nn) pc' Ls (.ref a :: st)) : Go p l e R s m args below meth c n0 F h k n pc Ls st := by
  intro T locs X eT N
  subst hp
  obtain ⟨T', h', X', e', E', A', D', -, stp⟩ := newO X C.1 C.2.1 C.2.2.1 w1 w2 w3 eT (g := mkF m pc Ls st) rfl (hb C.2.2.2.1 hd) hk hn
  obtain ⟨s₂, o, q1, q2⟩ := hr h.size h' rfl (by rw [← eT]; exact C.size X) E' A' D' T' _ X' e' N
  exact ⟨s₂, o, stp _ q1, q2⟩
theorem Cx.newarr (C : Cx p s m meth c Z n0 own bc maxL ret nm) {aty : ArrayType} {ty : FieldType} {z : Int32} (cap : Nat) (hd : decode bc pc = .ok (.newarray aty, 2)) (hp : pc + 2 = pc') (hty : newarray.typeOf aty = ty) (w : (Jvm.Cond.arrayClass ty).before a0 Z = true) (hz : ¬ z < 0) (hcap : z.toNatClampNeg ≤ cap) (hb8 : cap * 8 ≤ 536870912) (hk : k + 1 ≤ R.cells) (hn : n + cap ≤ R.slots)
    (hr : ∀ (a : Addr) (h' : Heap), a = h.size → n0 ≤ a → Ext h h' → Av Z h' a ty (List.replicate z.toNatClampNeg (defaultValue ty)) → Go p l e R s m args below meth c n0 F h' (k + 1) (n + cap) pc' Ls (.ref a :: st)) : Go p l e R s m args below meth c n0 F h k n pc Ls (.int z :: st) := by
  intro T locs X eT N
  subst hp hty
  obtain ⟨T', h', cA, X', e', E', A', stp⟩ := newP X C.1 C.2.1 w eT (g := mkF m pc Ls (.int z :: st)) rfl (hb C.2.2.2.1 hd) rfl hz hcap hb8 hk hn
  obtain ⟨s₂, o, q1, q2⟩ := hr h.size h' rfl (by rw [← eT]; exact C.size X) E' (Av.new A') T' _ X' e' N
  exact ⟨s₂, o, stp _ q1, q2⟩
theorem Cx.initO (C : Cx p s m meth c Z n0 own bc maxL ret nm) {j : Nat} {a : Addr} (W : Nat) (hd : decode bc pc = .ok (.invokespecial j, 3)) (hp : pc + 3 = pc') (w1 : (Jvm.Cond.methodLink own j Lib.objectInit).before a0 Z = true) (w2 : (Jvm.Cond.instanceMethod Lib.objectInit).before a0 Z = true) (w3 : (Jvm.Cond.code Lib.objectInit ⟨#[0xb1]⟩ 1 none).before a0 Z = true) (hsz : Ls.size = maxL) (hf : 1 ≤ R.frames) (hW : (st.map fun v => v.category).sum ≤ W) (hl : W + 12 ≤ R.locals)
    (hr : Go p l e R s m args below meth c n0 F h k n pc' Ls st) : Go p l e R s m args below meth c n0 F h k n pc Ls (.ref a :: st) := by
  intro T locs X eT N
  subst hp
  obtain ⟨T', X', e', stp⟩ := RoadKit.initO X C.1 C.2.1 C.2.2.1 w1 w2 w3 eT (g := mkF m pc Ls (.ref a :: st)) rfl (hsz.trans C.2.2.2.2.1.symm) rfl (hb C.2.2.2.1 hd) hf (W := W) (by show 2 * 0 + _ ≤ W; omega) hl
  obtain ⟨s₂, o, q1, q2⟩ := hr T' _ X' e' N
  exact ⟨s₂, o, stp _ q1, q2⟩
theorem Cx.getF (C : Cx p s m meth c Z n0 own bc maxL ret nm) {O f d : String} {j : Nat} {a : Addr} {v : Value} (hd : decode bc pc = .ok (.getfield j, 3)) (hp : pc + 3 = pc') (w : (Jvm.Cond.fieldLink own j O f d).before a0 Z = true) (F' : Fld Z h a O f d v)
    (hr : Go p l e R s m args below meth c n0 F h k n pc' Ls (v :: st)) : Go p l e R s m args below meth c n0 F h k n pc Ls (.ref a :: st) := by
  intro T locs X eT N
  subst hp
  obtain ⟨T', X', e', stp⟩ := RoadKit.getF X C.1 C.2.1 C.2.2.1 (host := "") (Or.inl w) Via.refl eT F' (g := mkF m pc Ls (.ref a :: st)) rfl rfl (hb C.2.2.2.1 hd)
  obtain ⟨s₂, o, q1, q2⟩ := hr T' _ X' e' N
  exact ⟨s₂, o, stp _ q1, q2⟩
theorem Cx.putF (C : Cx p s m meth c Z n0 own bc maxL ret nm) {O f d cls : String} {j kk : Nat} {ty : FieldType} {a : Addr} {v old : Value} (hd : decode bc pc = .ok (.putfield j, 3)) (hp : pc + 3 = pc') (w : (Jvm.Cond.fieldLink own j O f d).before a0 Z = true) (F' : Fld Z h a O f d old) (E : Exa Z h a cls)
    (L : (Jvm.Cond.lays cls O f d).before a0 Z = true ∨ ((Jvm.Cond.laysFinal cls O f d).before a0 Z = true ∧ own = O ∧ nm = "<init>")) (wi : (Jvm.Cond.instantiable cls kk).before a0 Z = true) (hty : parseFieldDescriptor d = some ty) (hnr : narrow ty v = v) (hf : fits ty v = true) (ha : n0 ≤ a)
    (hr : ∀ h', Wr h h' a (Jvm.RoadKit.slotOf Z O f d) v → Fld Z h' a O f d v → Go p l e R s m args below meth c n0 F h' k n pc' Ls st) : Go p l e R s m args below meth c n0 F h k n pc Ls (v :: .ref a :: st) := by
  intro T locs X eT N
  subst hp
  obtain ⟨T', h', X', e', W, stp⟩ := RoadKit.putF X C.1 C.2.1 C.2.2.1 (host := "") (Or.inl w) Via.refl eT F' E (L.imp id fun q => ⟨q.1, q.2.1, C.2.2.2.2.2.2.1.trans q.2.2⟩) wi hty hnr hf (g := mkF m pc Ls (v :: .ref a :: st)) rfl rfl (hb C.2.2.2.1 hd)
  obtain ⟨s₂, o, q1, q2⟩ := hr h' W (F'.same W) T' _ X' e' (Fr.snoc X' N ha)
  exact ⟨s₂, o, stp _ q1, q2⟩
/-! the end of a body -/
theorem Cx.ret0 {Q : Option Value → Heap → Prop} {ck cs : Nat} (C : Cx p s m meth c Z n0 own bc maxL none nm) (hd : decode bc pc = .ok (.return_, 1)) (hk : k ≤ ck) (hn : n ≤ cs) (hq : Q none h) : Go p l e R s m args below meth c n0 (FinQ s n0 Q ck cs) h k n pc Ls [] := by
  intro T locs X eT N
  have hlk := C.2.2.2.2.2.2.2.1
  obtain ⟨fs, hr, hrun, hended, hW, hsame⟩ := X.leave (v := none) (fun _ => rfl) hlk
  exact ⟨_, _, X.returnOut C.1 C.2.2.2.2.2.1 (hb C.2.2.2.1 hd) hr, hrun, hended, _, _, rfl, ⟨by show Q none T.heap; rw [eT]; exact hq, N⟩, ⟨_, rfl⟩, hW, hsame.mono hk hn⟩
theorem Cx.retW {Q : Option Value → Heap → Prop} {ck cs : Nat} {t : FieldType} {w : Value} {i : Instr} (C : Cx p s m meth c Z n0 own bc maxL (some t) nm) (hd : decode bc pc = .ok (i, 1)) (hnr : narrow t w = w)
    (hi : (i = .ireturn ∧ (t = .int ∨ t = .boolean ∨ t = .byte ∨ t = .char ∨ t = .short) ∧ ∃ z, w = .int z) ∨ (i = .lreturn ∧ t = .long ∧ ∃ z, w = .long z) ∨ (i = .dreturn ∧ t = .double ∧ ∃ z, w = .double z) ∨ (i = .freturn ∧ t = .float ∧ ∃ z, w = .float z) ∨ (i = .areturn ∧ t.isReference = true ∧ w.isRef = true))
    (hk : k ≤ ck) (hn : n ≤ cs) (hq : Q (some w) h) : Go p l e R s m args below meth c n0 (FinQ s n0 Q ck cs) h k n pc Ls (w :: st) := by
  intro T locs X eT N
  have hlk := C.2.2.2.2.2.2.2.1
  have hrt := C.2.2.2.2.2.1
  obtain ⟨fs, hr, hrun, hended, hW, hsame⟩ := X.leave (v := some w) (fun q => by rw [hrt] at q; cases q) hlk
  exact ⟨_, _, retOut X C.1 hrt hnr hi (hb C.2.2.2.1 hd) hr, hrun, hended, _, _, rfl, ⟨by show Q (some w) T.heap; rw [eT]; exact hq, N⟩, ⟨_, rfl⟩, hW, hsame.mono hk hn⟩
theorem Cx.retI {Q : Option Value → Heap → Prop} {ck cs : Nat} {z : Int32} (C : Cx p s m meth c Z n0 own bc maxL (some .int) nm) (hd : decode bc pc = .ok (.ireturn, 1)) (hk : k ≤ ck) (hn : n ≤ cs) (hq : Q (some (.int z)) h) : Go p l e R s m args below meth c n0 (FinQ s n0 Q ck cs) h k n pc Ls (.int z :: st) :=
  C.retW hd rfl (Or.inl ⟨rfl, Or.inl rfl, z, rfl⟩) hk hn hq
theorem Cx.retZ {Q : Option Value → Heap → Prop} {ck cs : Nat} {z : Int32} (C : Cx p s m meth c Z n0 own bc maxL (some .boolean) nm) (hd : decode bc pc = .ok (.ireturn, 1)) (hz : narrow .boolean (.int z) = .int z) (hk : k ≤ ck) (hn : n ≤ cs) (hq : Q (some (.int z)) h) : Go p l e R s m args below meth c n0 (FinQ s n0 Q ck cs) h k n pc Ls (.int z :: st) :=
  C.retW hd hz (Or.inl ⟨rfl, Or.inr (Or.inl rfl), z, rfl⟩) hk hn hq
theorem Cx.retJ {Q : Option Value → Heap → Prop} {ck cs : Nat} {z : Int64} (C : Cx p s m meth c Z n0 own bc maxL (some .long) nm) (hd : decode bc pc = .ok (.lreturn, 1)) (hk : k ≤ ck) (hn : n ≤ cs) (hq : Q (some (.long z)) h) : Go p l e R s m args below meth c n0 (FinQ s n0 Q ck cs) h k n pc Ls (.long z :: st) :=
  C.retW hd rfl (Or.inr (Or.inl ⟨rfl, rfl, z, rfl⟩)) hk hn hq
/-! a body's contract out of its walk -/
theorem Con.of {ws : List Jvm.Cond} {y : MethodName} {as : Array Value} {h0 : Heap} {Q : Option Value → Heap → Prop} (hn : plainFor y = true) (ef : ∀ m, entryFrame m as maxL = mkF m 0 Ls []) (hn0 : n0 ≤ h0.size)
    (body : ∀ p e s m below meth c, Cx p s m meth c Z n0 y.cls bc maxL ret y.name → Go p l e R s m as below meth c n0 (FinQ s n0 Q R.cells R.slots) h0 0 0 0 Ls []) : Con l Z n0 ws y bc maxL ret R as h0 Q := by
  refine MetFree.of_bodySF hn hisR ?_
  intro p e s m args below meth c s₁ Bd hml0 hP hK
  obtain ⟨rfl, hZ, hh⟩ := hP
  have e0 : s₁.heap = h0 := by rw [← hh, Bd.state]; rfl
  have X0 : Stand p l e R s m args below meth c s₁ [] 0 0 := Stand.of_body Bd
  obtain ⟨s₂, o, q1, q2, q3, q4⟩ := body p e s m below meth c ⟨Bd.exec, hZ, findClass_of_methodNamed Bd.named, Bd.bytes, hml0, Bd.returns, (name_of_methodNamed Bd.named Bd.method).1, Bd.notSynchronized, by rw [hh]; exact hn0⟩ s₁ [] X0 e0 (Fr.nil n0)
  exact ⟨s₂, o, castTop (ef m) q1, q2, q3, q4⟩
theorem Con.imp {ws : List Jvm.Cond} {y : MethodName} {as : Array Value} {h0 : Heap} {Q Q' : Option Value → Heap → Prop} (H : Con l Z n0 ws y bc maxL ret R as h0 Q) (q : ∀ v h, Q v h → Q' v h) : Con l Z n0 ws y bc maxL ret R as h0 Q' := by
  intro p e ha hc hk s m args below hf happ hP hK
  obtain ⟨n, o, h1, h2, h3, v, L, r1, ⟨r2, r3⟩, r4⟩ := H p e ha hc hk s m args below hf happ hP hK
  exact ⟨n, o, h1, h2, h3, v, L, r1, ⟨q _ _ r2, r3⟩, r4⟩
/-! calls by contract -/
theorem Cx.callS (C : Cx p s m meth c Z n0 own bc maxL ret nm) {y : MethodName} {bc' : ByteArray} {maxL' j : Nat} {ret' : Option FieldType} {R' : Room} {argsL rest : List Value} {Q : Option Value → Heap → Prop} (W : Nat) (hC : n0 ≤ h.size → Con l Z n0 [] y bc' maxL' ret' R' argsL.toArray h Q) (hd : decode bc pc = .ok (.invokestatic j, 3)) (hp : pc + 3 = pc')
    (w1 : (Jvm.Cond.methodLink own j y).before a0 Z = true) (w2 : (Jvm.Cond.static y).before a0 Z = true) (w3 : (Jvm.Cond.initialized y.cls).before a0 Z = true) (w4 : (Jvm.Cond.code y bc' maxL' ret').before a0 Z = true) (hy : y.cls ≠ "java/lang/invoke/MethodHandle" ∧ y.cls ≠ "java/lang/invoke/VarHandle") {ps : List FieldType} {r : Option FieldType} (hpd : parseMethodDescriptor y.desc = some ⟨ps, r⟩) (hlen : argsL.length = ps.length)
    (hst : st = argsL.reverse ++ rest) (hsz : Ls.size = maxL) (hW : (rest.map fun v => v.category).sum ≤ W) (hf : R'.frames + 1 ≤ R.frames) (hl : W + (maxL' + 11) + R'.locals ≤ R.locals) (hk : k + R'.cells ≤ R.cells) (hn : n + R'.slots ≤ R.slots)
    (hr : ∀ v h', Q v h' → Go p l e R s m args below meth c n0 F h' (k + R'.cells) (n + R'.slots) pc' Ls (v.toList ++ rest)) : Go p l e R s m args below meth c n0 F h k n pc Ls st := by
  intro T locs X eT N
  subst hp hst
  obtain ⟨v, _, ⟨T', L', k', n'⟩, -, X', ⟨Lc, hQ, l1, y1, z1⟩, stp⟩ := Jvm.LawKit.callS X C.1 (y := y) C.2.2.1 (mvT C.2.1 w1) (mvT C.2.1 w2) (mvT C.2.1 w3) (mvT C.2.1 w4) hy (backOf (Z := Z) (h := h) (bytes := bc') (maxL := maxL') (ret := ret') (rm := R') (as' := argsL.toArray) (Q := fun v h' L => Q v h' ∧ Fr n0 L) (W := W) (hC (by rw [← eT]; exact C.size X)) C.2.1 w4 w3 hf hl) (g := mkF m pc Ls (argsL.reverse ++ rest)) rfl (hsz.trans C.2.2.2.2.1.symm) (argsL := argsL) (rest := rest) (lenOf hpd hlen) rfl (by show 2 * 0 + _ ≤ W; omega) (hb C.2.2.2.1 hd) (fun _ _ => ⟨rfl, eT, hk, hn⟩)
  dsimp only [Pt.U, Pt.locs, Pt.cells, Pt.slots] at X' l1 y1 z1 stp hQ
  subst l1 y1 z1
  obtain ⟨s₂, o, q1, q2⟩ := hr v T'.heap hQ.1 T' _ X' rfl (Fr.app N hQ.2)
  exact ⟨s₂, o, stp _ q1, q2⟩
theorem Cx.callN (C : Cx p s m meth c Z n0 own bc maxL ret nm) {y : MethodName} {bc' : ByteArray} {maxL' j : Nat} {R' : Room} {a : Addr} {argsL rest : List Value} {Q : Option Value → Heap → Prop} (W : Nat) (hC : n0 ≤ h.size → Con l Z n0 [] y bc' maxL' none R' (.ref a :: argsL).toArray h Q) (hd : decode bc pc = .ok (.invokespecial j, 3)) (hp : pc + 3 = pc') (hy1 : y.name = "<init>")
    (w1 : (Jvm.Cond.methodLink own j y).before a0 Z = true) (w2 : (Jvm.Cond.instanceMethod y).before a0 Z = true) (w3 : (Jvm.Cond.initialized y.cls).before a0 Z = true) (w4 : (Jvm.Cond.code y bc' maxL' none).before a0 Z = true) (hy : y.cls ≠ "java/lang/invoke/MethodHandle" ∧ y.cls ≠ "java/lang/invoke/VarHandle") {ps : List FieldType} {r : Option FieldType} (hpd : parseMethodDescriptor y.desc = some ⟨ps, r⟩) (hlen : argsL.length = ps.length)
    (hst : st = argsL.reverse ++ .ref a :: rest) (hsz : Ls.size = maxL) (hW : (rest.map fun v => v.category).sum ≤ W) (hf : R'.frames + 1 ≤ R.frames) (hl : W + (maxL' + 11) + R'.locals ≤ R.locals) (hk : k + R'.cells ≤ R.cells) (hn : n + R'.slots ≤ R.slots)
    (hr : ∀ v h', Q v h' → Go p l e R s m args below meth c n0 F h' (k + R'.cells) (n + R'.slots) pc' Ls (v.toList ++ rest)) : Go p l e R s m args below meth c n0 F h k n pc Ls st := by
  intro T locs X eT N
  subst hp hst
  obtain ⟨v, _, ⟨T', L', k', n'⟩, -, X', ⟨Lc, hQ, l1, y1, z1⟩, stp⟩ := X.specialBack C.1 (y := y) hy1 C.2.2.1 (mvT C.2.1 w1) (mvT C.2.1 w2) (mvT C.2.1 w4) hy (backOf (Z := Z) (h := h) (bytes := bc') (maxL := maxL') (ret := none) (rm := R') (as' := (Value.ref a :: argsL).toArray) (Q := fun v h' L => Q v h' ∧ Fr n0 L) (W := W) (hC (by rw [← eT]; exact C.size X)) C.2.1 w4 w3 hf hl) (g := mkF m pc Ls (argsL.reverse ++ .ref a :: rest)) rfl (hsz.trans C.2.2.2.2.1.symm) (Steps.refl _) (a := a) (argsL := argsL) (rest := rest) (lenOf hpd hlen) rfl (by show 2 * 0 + _ ≤ W; omega) (hb C.2.2.2.1 hd) (fun _ _ => ⟨rfl, eT, hk, hn⟩)
  dsimp only [Pt.U, Pt.locs, Pt.cells, Pt.slots] at X' l1 y1 z1 stp hQ
  subst l1 y1 z1
  obtain ⟨s₂, o, q1, q2⟩ := hr v T'.heap hQ.1 T' _ X' rfl (Fr.app N hQ.2)
  exact ⟨s₂, o, stp.trans q1, q2⟩
theorem Cx.callV (C : Cx p s m meth c Z n0 own bc maxL ret nm) {y : MethodName} {cls : String} {bc' : ByteArray} {maxL' j : Nat} {ret' : Option FieldType} {R' : Room} {a : Addr} {argsL rest : List Value} {Q : Option Value → Heap → Prop} (W : Nat) (hC : n0 ≤ h.size → Con l Z n0 [] y bc' maxL' ret' R' (.ref a :: argsL).toArray h Q) (E : Exa Z h a cls) (hd : decode bc pc = .ok (.invokevirtual j, 3)) (hp : pc + 3 = pc')
    (w1 : (Jvm.Cond.methodLink own j y).before a0 Z = true) (w2 : (Jvm.Cond.declares y).before a0 Z = true) (w3 : (Jvm.Cond.instanceMethod y).before a0 Z = true) (w4 : (Jvm.Cond.selects cls y y).before a0 Z = true) (w5 : (Jvm.Cond.initialized y.cls).before a0 Z = true) (w6 : (Jvm.Cond.code y bc' maxL' ret').before a0 Z = true) (hy : y.cls ≠ "java/lang/invoke/MethodHandle" ∧ y.cls ≠ "java/lang/invoke/VarHandle") {ps : List FieldType} {r : Option FieldType} (hpd : parseMethodDescriptor y.desc = some ⟨ps, r⟩) (hlen : argsL.length = ps.length)
    (hst : st = argsL.reverse ++ .ref a :: rest) (hsz : Ls.size = maxL) (hW : (rest.map fun v => v.category).sum ≤ W) (hf : R'.frames + 1 ≤ R.frames) (hl : W + (maxL' + 11) + R'.locals ≤ R.locals) (hk : k + R'.cells ≤ R.cells) (hn : n + R'.slots ≤ R.slots)
    (hr : ∀ v h', Q v h' → Go p l e R s m args below meth c n0 F h' (k + R'.cells) (n + R'.slots) pc' Ls (v.toList ++ rest)) : Go p l e R s m args below meth c n0 F h k n pc Ls st := by
  intro T locs X eT N
  subst hp hst
  obtain ⟨cq, kq, qa, qb, qc⟩ := isOf (T := T) C.2.1 eT E
  obtain ⟨v, _, ⟨T', L', k', n'⟩, -, X', ⟨Lc, hQ, l1, y1, z1⟩, stp⟩ := X.virtualBack C.1 (y := y) (z := y) C.2.2.1 (mvT C.2.1 w1) (mvT C.2.1 w2) (notFace_of_selects (args := #[]) (mvT C.2.1 w4)) (mvT C.2.1 w4) (mvT C.2.1 w3) hy (backOf (Z := Z) (h := h) (bytes := bc') (maxL := maxL') (ret := ret') (rm := R') (as' := (Value.ref a :: argsL).toArray) (Q := fun v h' L => Q v h' ∧ Fr n0 L) (W := W) (hC (by rw [← eT]; exact C.size X)) C.2.1 w6 w5 hf hl) qa qc (g := mkF m pc Ls (argsL.reverse ++ .ref a :: rest)) rfl (hsz.trans C.2.2.2.2.1.symm) (Steps.refl _) (argsL := argsL) (rest := rest) (lenOf hpd hlen) rfl (by show 2 * 0 + _ ≤ W; omega) (hb C.2.2.2.1 hd) (fun _ _ => ⟨rfl, eT, hk, hn⟩)
  dsimp only [Pt.U, Pt.locs, Pt.cells, Pt.slots] at X' l1 y1 z1 stp hQ
  subst l1 y1 z1
  obtain ⟨s₂, o, q1, q2⟩ := hr v T'.heap hQ.1 T' _ X' rfl (Fr.app N hQ.2)
  exact ⟨s₂, o, stp.trans q1, q2⟩
end Own
theorem own_or_l {a b : Int64} (q : ¬ a = 0) : ¬ a ||| b = 0 := fun e => q (by
  have f := congrArg Int64.toBitVec e
  rw [Int64.toBitVec_or] at f
  exact Int64.toBitVec_inj.1 (BitVec.or_eq_zero_iff.mp f).1)
theorem own_or_r {a b : Int64} (q : ¬ b = 0) : ¬ a ||| b = 0 := fun e => q (by
  have f := congrArg Int64.toBitVec e
  rw [Int64.toBitVec_or] at f
  exact Int64.toBitVec_inj.1 (BitVec.or_eq_zero_iff.mp f).2)
section OwnArr
variable {p : Program} {l : Launch} {e : Env} {R : Room} {s : State} {m : MethodId} {args : Array Value} {below : List Frame} {meth : Method} {c : Code} {n0 : Nat} {F : State → Outcome → Prop} {h : Heap} {k n pc pc' : Nat} {Ls : Array Slot} {st : List Value} {Z : State} {own : String} {bc : ByteArray} {maxL : Nat} {ret : Option FieldType} {nm : String} {a0 : Array Value}
theorem own_clamp {j : Nat} (q : j < 2 ^ 31) : j.toInt32.toNatClampNeg = j ∧ ¬ j.toInt32 < 0 := by
  have e := len_toInt q
  constructor
  · simp only [Int32.toNatClampNeg, e]; omega
  · rw [Int32.lt_iff_toInt_lt, e]; simp only [Int32.reduceToInt]; omega
theorem Av.arv {a : Addr} {ty : FieldType} {vs : List Value} (A : Av Z h a ty vs) (q : vs.length < 2 ^ 31) (dv : Value) : ∃ kc, Arv Z h a kc ty vs.length.toInt32 vs dv := by
  obtain ⟨cl, A, rfl, r⟩ := A
  obtain ⟨e1, e2⟩ := own_clamp q
  rw [Array.length_toList] at q e1 e2 ⊢
  refine ⟨cl.cls, cl, A, rfl, e1.symm, e2, fun i hi => ?_, fun i hi => ?_⟩
  · simp [List.getD_eq_getElem?_getD, hi]
  · have : cl.slots.toList.getD i dv = cl.slots[i] := by simp [List.getD_eq_getElem?_getD, hi]
    rw [this]; exact r _ (by simp)
theorem Arv.av {a : Addr} {kc : ClassId} {ty : FieldType} {z : Int32} {vs : List Value} {dv : Value} (A : Arv Z h a kc ty z vs dv) (q : z.toNatClampNeg = vs.length) : Av Z h a ty vs := by
  obtain ⟨cl, A, -, S, -, H, G⟩ := A
  have e : cl.slots.toList = vs := by
    apply List.ext_getElem?
    intro i
    by_cases hi : i < cl.slots.size
    · have := H i hi
      rw [Array.getElem?_toList, this]
      have h2 : i < vs.length := by omega
      simp [List.getD_eq_getElem?_getD, h2]
    · rw [List.getElem?_eq_none (by simpa using hi), List.getElem?_eq_none (by omega)]
  refine ⟨cl, A, e, fun v hv => ?_⟩
  obtain ⟨i, hi, rfl⟩ := List.getElem_of_mem hv
  have := G i (by omega)
  simpa [List.getD_eq_getElem?_getD, hi] using this
theorem own_range (vs : List Value) (sp nn : Nat) (q : sp + nn ≤ vs.length) (d : Value) : (List.range nn).map (fun i => vs.getD (sp + i) d) = (vs.drop sp).take nn := by
  apply List.ext_getElem?
  intro i
  by_cases hi : i < nn
  · simp [hi, List.getElem?_take, List.getD_eq_getElem?_getD, show sp + i < vs.length by omega]
  · rw [List.getElem?_eq_none (by simpa using hi), List.getElem?_eq_none (by simp; omega)]
end OwnArr
section OwnCalls
variable {p : Program} {l : Launch} {e : Env} {R : Room} {s : State} {m : MethodId} {args : Array Value} {below : List Frame} {meth : Method} {c : Code} {n0 : Nat} {F : State → Outcome → Prop} {h : Heap} {k n pc pc' : Nat} {Ls : Array Slot} {st : List Value} {Z : State} {own : String} {bc : ByteArray} {maxL : Nat} {ret : Option FieldType} {nm : String} {a0 : Array Value}
end OwnCalls
section OwnPriv
variable {p : Program} {l : Launch} {e : Env} {R : Room} {s : State} {m : MethodId} {args : Array Value} {below : List Frame} {meth : Method} {c : Code} {n0 : Nat} {F : State → Outcome → Prop} {h : Heap} {k n pc pc' : Nat} {Ls : Array Slot} {st : List Value} {Z : State} {own : String} {bc : ByteArray} {maxL : Nat} {ret : Option FieldType} {nm : String} {a0 : Array Value}
theorem Cx.callP (C : Cx p s m meth c Z n0 own bc maxL ret nm) {y : MethodName} {cls : String} {bc' : ByteArray} {maxL' j : Nat} {ret' : Option FieldType} {R' : Room} {a : Addr} {argsL rest : List Value} {Q : Option Value → Heap → Prop} (W : Nat) (hC : n0 ≤ h.size → Con l Z n0 [] y bc' maxL' ret' R' (.ref a :: argsL).toArray h Q) (E : Exa Z h a cls) (hd : decode bc pc = .ok (.invokevirtual j, 3)) (hp : pc + 3 = pc')
    (w1 : (Jvm.Cond.methodLink own j y).before a0 Z = true) (w2 : (Jvm.Cond.privateMethod y).before a0 Z = true) (w3 : (Jvm.Cond.instanceMethod y).before a0 Z = true) {kk : Nat} (w4 : (Jvm.Cond.instantiable y.cls kk).before a0 Z = true) (w5 : (Jvm.Cond.initialized y.cls).before a0 Z = true) (w6 : (Jvm.Cond.code y bc' maxL' ret').before a0 Z = true) (hy : y.cls ≠ "java/lang/invoke/MethodHandle" ∧ y.cls ≠ "java/lang/invoke/VarHandle") {ps : List FieldType} {r : Option FieldType} (hpd : parseMethodDescriptor y.desc = some ⟨ps, r⟩) (hlen : argsL.length = ps.length)
    (hst : st = argsL.reverse ++ .ref a :: rest) (hsz : Ls.size = maxL) (hW : (rest.map fun v => v.category).sum ≤ W) (hf : R'.frames + 1 ≤ R.frames) (hl : W + (maxL' + 11) + R'.locals ≤ R.locals) (hk : k + R'.cells ≤ R.cells) (hn : n + R'.slots ≤ R.slots)
    (hr : ∀ v h', Q v h' → Go p l e R s m args below meth c n0 F h' (k + R'.cells) (n + R'.slots) pc' Ls (v.toList ++ rest)) : Go p l e R s m args below meth c n0 F h k n pc Ls st := by
  intro T locs X eT N
  subst hp hst
  obtain ⟨cell, hc1, hc2⟩ := E.cell
  obtain ⟨c1, k1, f1, f2, -, f4, -⟩ := Cond.instantiable_spec (mvT (args := #[]) C.2.1 w4)
  have hni : k1.isInterface = false := by
    cases hq : k1.isInterface with
    | false => rfl
    | true => rw [hq] at f4; exact f4
  have hse : (Jvm.Cond.selects y.cls y y).before args s = true := selects_self_of_private f1 f2 hni (Cond.privateMethod_at (args := #[]) (mvP C.2.1 w2)) (mvT C.2.1 w3) hy
  obtain ⟨v, _, ⟨T', L', k', n'⟩, -, X', ⟨Lc, hQ, l1, y1, z1⟩, stp⟩ := X.privateBack C.1 (y := y) C.2.2.1 (mvT C.2.1 w1) (mvT C.2.1 w3) hse (Cond.privateMethod_at (args := #[]) (mvP C.2.1 w2)) (mvT C.2.1 w6) hy (backOf (Z := Z) (h := h) (bytes := bc') (maxL := maxL') (ret := ret') (rm := R') (as' := (Value.ref a :: argsL).toArray) (Q := fun v h' L => Q v h' ∧ Fr n0 L) (W := W) (hC (by rw [← eT]; exact C.size X)) C.2.1 w6 w5 hf hl) (g := mkF m pc Ls (argsL.reverse ++ .ref a :: rest)) rfl (hsz.trans C.2.2.2.2.1.symm) (Steps.refl _) (by rw [eT]; exact hc1) hc2 (argsL := argsL) (rest := rest) (lenOf hpd hlen) rfl (by show 2 * 0 + _ ≤ W; omega) (hb C.2.2.2.1 hd) (fun _ _ => ⟨rfl, eT, hk, hn⟩)
  dsimp only [Pt.U, Pt.locs, Pt.cells, Pt.slots] at X' l1 y1 z1 stp hQ
  subst l1 y1 z1
  obtain ⟨s₂, o, q1, q2⟩ := hr v T'.heap hQ.1 T' _ X' rfl (Fr.app N hQ.2)
  exact ⟨s₂, o, stp.trans q1, q2⟩
end OwnPriv
def zI17 : List Value := List.replicate 17 (.int 0)
def zI16 : List Value := List.replicate 16 (.int 0)
def zI15 : List Value := List.replicate 15 (.int 0)
def zI14 : List Value := List.replicate 14 (.int 0)
def zI32 : List Value := List.replicate 32 (.int 0)
def zJ16 : List Value := List.replicate 16 (.long 0)
abbrev kC0 : String := "com/example/detra/detra/SetWords"
abbrev kC1 : String := "com/example/detra/detra/StateSets"
def own_c3 (a b c : Int64) : List (Int32 × Int64) := (if a = 0 then [] else [(0, a)]) ++ ((if b = 0 then [] else [(1, b)]) ++ (if c = 0 then [] else [(2, c)]))
/-- the first entries are the list's indices -/
def own_hd (lb : List (Int32 × Int64)) (HL : List Value) : Prop := ∀ (j : Nat) (p : Int32 × Int64), lb[j]? = some p → HL[j]? = some (.int p.1)
def own_ws (lb : List (Int32 × Int64)) (ws : List Value) : Prop := ∀ p ∈ lb, ¬ p.1 < 0 ∧ ws[p.1.toNatClampNeg]? = some (.long p.2)
theorem own_hd0 (hl : List Value) : own_hd [] hl := fun j p h => by simp at h
theorem own_hd1 (p : Int32 × Int64) (hl : List Value) (h : hl.length = 3) : own_hd [p] (hl.set 0 (.int p.1)) := fun j q e => by
  match j, e with
  | 0, e => cases e; simp [h]
  | j + 1, e => simp at e
theorem own_hd2 (p q : Int32 × Int64) (hl : List Value) (h : hl.length = 3) : own_hd [p, q] ((hl.set 0 (.int p.1)).set 1 (.int q.1)) := fun j r e => by
  match j, e with
  | 0, e => cases e; simp [List.getElem?_set, h]
  | 1, e => cases e; simp [h]
  | j + 2, e => simp at e
theorem own_hd3 (p q r : Int32 × Int64) (hl : List Value) (h : hl.length = 3) : own_hd [p, q, r] (((hl.set 0 (.int p.1)).set 1 (.int q.1)).set 2 (.int r.1)) := fun j t e => by
  match j, e with
  | 0, e => cases e; simp [List.getElem?_set, h]
  | 1, e => cases e; simp [List.getElem?_set, h]
  | 2, e => cases e; simp [h]
  | j + 3, e => simp at e
theorem own_c3ws (a b c : Int64) : own_ws (own_c3 a b c) [.long a, .long b, .long c] := fun p h => by
  simp only [own_c3, List.mem_append] at h
  rcases h with h | h | h
  · split at h
    · simp at h
    · rw [List.mem_singleton.mp h]; exact ⟨show ¬ (0 : Int32) < 0 by decide, rfl⟩
  · split at h
    · simp at h
    · rw [List.mem_singleton.mp h]; exact ⟨show ¬ (1 : Int32) < 0 by decide, rfl⟩
  · split at h
    · simp at h
    · rw [List.mem_singleton.mp h]; exact ⟨show ¬ (2 : Int32) < 0 by decide, rfl⟩
theorem own_c3len (a b c : Int64) : (own_c3 a b c).length ≤ 3 := by
  simp only [own_c3, List.length_append]
  split <;> split <;> split <;> simp
theorem own_toI {i : Nat} (h : i < 2 ^ 31) : (Int32.ofNat i).toInt = i := Int32.toInt_ofNat_of_lt h
theorem own_toN {i : Nat} (h : i < 2 ^ 31) : (Int32.ofNat i).toNatClampNeg = i := by simp only [Int32.toNatClampNeg, own_toI h]; omega
theorem own_nn {i : Nat} (h : i < 2 ^ 31) : ¬ Int32.ofNat i < 0 := by rw [Int32.lt_iff_toInt_lt, own_toI h]; simp only [Int32.reduceToInt]; omega
theorem own_ltN {i j : Nat} (h : i < 2 ^ 31) (g : j < 2 ^ 31) : Int32.ofNat i < Int32.ofNat j ↔ i < j := by rw [Int32.lt_iff_toInt_lt, own_toI h, own_toI g]; omega
theorem own_s1 (j : Nat) : Int32.ofNat j + 1 = Int32.ofNat (j + 1) := (Int32.ofNat_add j 1).symm
theorem own_at {lb : List (Int32 × Int64)} {j : Nat} (h : j < lb.length) : ∃ p, lb[j]? = some p ∧ p ∈ lb := ⟨lb[j], by simp [h], List.getElem_mem h⟩
theorem own_dc {l : List (Int32 × Int64)} {j : Nat} {p : Int32 × Int64} (h : l[j]? = some p) : l.drop j = p :: l.drop (j + 1) := by
  rw [List.drop_eq_getElem_cons (List.getElem?_eq_some_iff.mp h).1, (List.getElem?_eq_some_iff.mp h).2]
theorem d9_0 : decode prog_21_method_10_code 0 = .ok (.aload_n 0, 1) := by decide +kernel
theorem d9_1 : decode prog_21_method_10_code 1 = .ok (.getfield 19, 3) := by decide +kernel
theorem d9_4 : decode prog_21_method_10_code 4 = .ok (.iload_n 1, 1) := by decide +kernel
theorem d9_5 : decode prog_21_method_10_code 5 = .ok (.iaload, 1) := by decide +kernel
theorem d9_6 : decode prog_21_method_10_code 6 = .ok (.ireturn, 1) := by decide +kernel
theorem pf_0 : plainFor (⟨"com/example/detra/detra/SetWords", "heldIndex", "(I)I"⟩ : MethodName) = true := by first | exact plainFor_of_name (by first | (simp [plainName, overriddenIn]; done) | decide +kernel) | decide +kernel
def Qcon_hi (Z : State) (n0 : Nat) (h0 : Heap) (a : Addr) (b : Addr) (i : Int32) (w : Int32) (vs : List Value) (v : Option Value) (h' : Heap) : Prop := (v = some (.int w)) ∧ (h0 = h')
theorem ef_con_hi (m : MethodId) (a : Addr) (i : Int32) : entryFrame m #[(.ref a), (.int i)] 2 = mkF m 0 #[rv a, iv i] [] := by first | (simp [entryFrame, mkF, argsToLocals, Value.category]; done) | rfl
set_option maxRecDepth 65536 in
set_option maxHeartbeats 40000000 in
theorem con_hi (l : Launch) (Z : State) (a0 : Array Value) (hw : ∀ d ∈ tables_1, d.before a0 Z = true) (n0 : Nat) (h0 : Heap) (hn0 : n0 ≤ h0.size) (a : Addr) (b : Addr) (i : Int32) (w : Int32) (vs : List Value) (P0 : Fld Z h0 a kC0 "held" "[I" (.ref b)) (P1 : Av Z h0 b .int vs) (hi : ¬ i < 0) (hg : vs[i.toNatClampNeg]? = some (.int w)) :
    Con l Z n0 [] (⟨"com/example/detra/detra/SetWords", "heldIndex", "(I)I"⟩ : MethodName) prog_21_method_10_code 2 (some .int) ({ frames := 0, cells := 0, slots := 0, locals := 0 } : Room) #[(.ref a), (.int i)] h0 (Qcon_hi Z n0 h0 a b i w vs) := by
  refine Con.of pf_0 (fun m => ef_con_hi m a i) hn0 ?_
  intro p e s m below meth c C
  refine C.aloadN d9_0 rfl rfl rfl ?_
  refine C.getF d9_1 rfl (tw hw 35 rfl) P0 ?_
  refine C.iloadN d9_4 rfl rfl ?_
  refine C.iaload (.int w) d9_5 rfl P1 hi hg ?_
  exact C.retI d9_6 (by decide) (by decide) ⟨rfl, rfl⟩
theorem d10_0 : decode prog_21_method_11_code 0 = .ok (.aload_n 0, 1) := by decide +kernel
theorem d10_1 : decode prog_21_method_11_code 1 = .ok (.getfield 9, 3) := by decide +kernel
theorem d10_4 : decode prog_21_method_11_code 4 = .ok (.iload_n 1, 1) := by decide +kernel
theorem d10_5 : decode prog_21_method_11_code 5 = .ok (.laload, 1) := by decide +kernel
theorem d10_6 : decode prog_21_method_11_code 6 = .ok (.lreturn, 1) := by decide +kernel
theorem pf_1 : plainFor (⟨"com/example/detra/detra/SetWords", "word", "(I)J"⟩ : MethodName) = true := by first | exact plainFor_of_name (by first | (simp [plainName, overriddenIn]; done) | decide +kernel) | decide +kernel
def Qcon_wd (Z : State) (n0 : Nat) (h0 : Heap) (a : Addr) (b : Addr) (i : Int32) (w : Int64) (vs : List Value) (v : Option Value) (h' : Heap) : Prop := (v = some (.long w)) ∧ (h0 = h')
theorem ef_con_wd (m : MethodId) (a : Addr) (i : Int32) : entryFrame m #[(.ref a), (.int i)] 2 = mkF m 0 #[rv a, iv i] [] := by first | (simp [entryFrame, mkF, argsToLocals, Value.category]; done) | rfl
set_option maxRecDepth 65536 in
set_option maxHeartbeats 40000000 in
theorem con_wd (l : Launch) (Z : State) (a0 : Array Value) (hw : ∀ d ∈ tables_1, d.before a0 Z = true) (n0 : Nat) (h0 : Heap) (hn0 : n0 ≤ h0.size) (a : Addr) (b : Addr) (i : Int32) (w : Int64) (vs : List Value) (P0 : Fld Z h0 a kC0 "words" "[J" (.ref b)) (P1 : Av Z h0 b .long vs) (hi : ¬ i < 0) (hg : vs[i.toNatClampNeg]? = some (.long w)) :
    Con l Z n0 [] (⟨"com/example/detra/detra/SetWords", "word", "(I)J"⟩ : MethodName) prog_21_method_11_code 2 (some .long) ({ frames := 0, cells := 0, slots := 0, locals := 0 } : Room) #[(.ref a), (.int i)] h0 (Qcon_wd Z n0 h0 a b i w vs) := by
  refine Con.of pf_1 (fun m => ef_con_wd m a i) hn0 ?_
  intro p e s m below meth c C
  refine C.aloadN d10_0 rfl rfl rfl ?_
  refine C.getF d10_1 rfl (tw hw 31 rfl) P0 ?_
  refine C.iloadN d10_4 rfl rfl ?_
  refine C.laload (.long w) d10_5 rfl P1 hi hg ?_
  exact C.retJ d10_6 (by decide) (by decide) ⟨rfl, rfl⟩
theorem d8_0 : decode prog_21_method_9_code 0 = .ok (.aload_n 0, 1) := by decide +kernel
theorem d8_1 : decode prog_21_method_9_code 1 = .ok (.getfield 23, 3) := by decide +kernel
theorem d8_4 : decode prog_21_method_9_code 4 = .ok (.ireturn, 1) := by decide +kernel
theorem pf_2 : plainFor (⟨"com/example/detra/detra/SetWords", "heldCount", "()I"⟩ : MethodName) = true := by first | exact plainFor_of_name (by first | (simp [plainName, overriddenIn]; done) | decide +kernel) | decide +kernel
def Qcon_hc (Z : State) (n0 : Nat) (h0 : Heap) (a : Addr) (n : Int32) (v : Option Value) (h' : Heap) : Prop := (v = some (.int n)) ∧ (h0 = h')
theorem ef_con_hc (m : MethodId) (a : Addr) : entryFrame m #[(.ref a)] 1 = mkF m 0 #[rv a] [] := by first | (simp [entryFrame, mkF, argsToLocals, Value.category]; done) | rfl
set_option maxRecDepth 65536 in
set_option maxHeartbeats 40000000 in
theorem con_hc (l : Launch) (Z : State) (a0 : Array Value) (hw : ∀ d ∈ tables_1, d.before a0 Z = true) (n0 : Nat) (h0 : Heap) (hn0 : n0 ≤ h0.size) (a : Addr) (n : Int32) (P0 : Fld Z h0 a kC0 "count" "I" (.int n)) :
    Con l Z n0 [] (⟨"com/example/detra/detra/SetWords", "heldCount", "()I"⟩ : MethodName) prog_21_method_9_code 1 (some .int) ({ frames := 0, cells := 0, slots := 0, locals := 0 } : Room) #[(.ref a)] h0 (Qcon_hc Z n0 h0 a n) := by
  refine Con.of pf_2 (fun m => ef_con_hc m a) hn0 ?_
  intro p e s m below meth c C
  refine C.aloadN d8_0 rfl rfl rfl ?_
  refine C.getF d8_1 rfl (tw hw 52 rfl) P0 ?_
  exact C.retI d8_4 (by decide) (by decide) ⟨rfl, rfl⟩
theorem d6_0 : decode prog_21_method_7_code 0 = .ok (.aload_n 0, 1) := by decide +kernel
theorem d6_1 : decode prog_21_method_7_code 1 = .ok (.getfield 15, 3) := by decide +kernel
theorem d6_4 : decode prog_21_method_7_code 4 = .ok (.ifCond .eq 18, 3) := by decide +kernel
theorem d6_22 : decode prog_21_method_7_code 22 = .ok (.aload_n 0, 1) := by decide +kernel
theorem d6_23 : decode prog_21_method_7_code 23 = .ok (.iconst 0, 1) := by decide +kernel
theorem d6_24 : decode prog_21_method_7_code 24 = .ok (.putfield 23, 3) := by decide +kernel
theorem d6_27 : decode prog_21_method_7_code 27 = .ok (.iconst 0, 1) := by decide +kernel
theorem d6_28 : decode prog_21_method_7_code 28 = .ok (.istore_n 1, 1) := by decide +kernel
theorem d6_29 : decode prog_21_method_7_code 29 = .ok (.iload_n 1, 1) := by decide +kernel
theorem d6_30 : decode prog_21_method_7_code 30 = .ok (.aload_n 0, 1) := by decide +kernel
theorem d6_31 : decode prog_21_method_7_code 31 = .ok (.getfield 9, 3) := by decide +kernel
theorem d6_34 : decode prog_21_method_7_code 34 = .ok (.arraylength, 1) := by decide +kernel
theorem d6_35 : decode prog_21_method_7_code 35 = .ok (.if_icmp .ge 37, 3) := by decide +kernel
theorem d6_38 : decode prog_21_method_7_code 38 = .ok (.aload_n 0, 1) := by decide +kernel
theorem d6_39 : decode prog_21_method_7_code 39 = .ok (.getfield 9, 3) := by decide +kernel
theorem d6_42 : decode prog_21_method_7_code 42 = .ok (.iload_n 1, 1) := by decide +kernel
theorem d6_43 : decode prog_21_method_7_code 43 = .ok (.laload, 1) := by decide +kernel
theorem d6_44 : decode prog_21_method_7_code 44 = .ok (.lconst 0, 1) := by decide +kernel
theorem d6_45 : decode prog_21_method_7_code 45 = .ok (.lcmp, 1) := by decide +kernel
theorem d6_46 : decode prog_21_method_7_code 46 = .ok (.ifCond .eq 20, 3) := by decide +kernel
theorem d6_49 : decode prog_21_method_7_code 49 = .ok (.aload_n 0, 1) := by decide +kernel
theorem d6_50 : decode prog_21_method_7_code 50 = .ok (.getfield 19, 3) := by decide +kernel
theorem d6_53 : decode prog_21_method_7_code 53 = .ok (.aload_n 0, 1) := by decide +kernel
theorem d6_54 : decode prog_21_method_7_code 54 = .ok (.dup, 1) := by decide +kernel
theorem d6_55 : decode prog_21_method_7_code 55 = .ok (.getfield 23, 3) := by decide +kernel
theorem d6_58 : decode prog_21_method_7_code 58 = .ok (.dup_x1, 1) := by decide +kernel
theorem d6_59 : decode prog_21_method_7_code 59 = .ok (.iconst 1, 1) := by decide +kernel
theorem d6_60 : decode prog_21_method_7_code 60 = .ok (.iadd, 1) := by decide +kernel
theorem d6_61 : decode prog_21_method_7_code 61 = .ok (.putfield 23, 3) := by decide +kernel
theorem d6_64 : decode prog_21_method_7_code 64 = .ok (.iload_n 1, 1) := by decide +kernel
theorem d6_65 : decode prog_21_method_7_code 65 = .ok (.iastore, 1) := by decide +kernel
theorem d6_66 : decode prog_21_method_7_code 66 = .ok (.iinc 1 1, 3) := by decide +kernel
theorem d6_69 : decode prog_21_method_7_code 69 = .ok (.goto (-40), 3) := by decide +kernel
theorem d6_72 : decode prog_21_method_7_code 72 = .ok (.goto 15, 3) := by decide +kernel
theorem d6_87 : decode prog_21_method_7_code 87 = .ok (.return_, 1) := by decide +kernel
theorem pf_3 : plainFor (⟨"com/example/detra/detra/SetWords", "listHeld", "()V"⟩ : MethodName) = true := by first | exact plainFor_of_name (by first | (simp [plainName, overriddenIn]; done) | decide +kernel) | decide +kernel
def Qcon_lh (Z : State) (n0 : Nat) (h0 : Heap) (g : Addr) (gw : Addr) (gh : Addr) (w0 : Int64) (w1 : Int64) (w2 : Int64) (cn : Int32) (hl : List Value) (v : Option Value) (h' : Heap) : Prop := ∃ (HL : List Value), (v = none) ∧ (Keep h0 h' [g, gh]) ∧ (Fld Z h' g kC0 "words" "[J" (.ref gw)) ∧ (Fld Z h' g kC0 "held" "[I" (.ref gh)) ∧ (Fld Z h' g kC0 "listing" "Z" (.int 0)) ∧ (Fld Z h' g kC0 "count" "I" (.int (Int32.ofNat (own_c3 w0 w1 w2).length))) ∧ (Av Z h' gh .int HL) ∧ (own_hd (own_c3 w0 w1 w2) HL) ∧ (HL.length = 3)
theorem ef_con_lh (m : MethodId) (g : Addr) : entryFrame m #[(.ref g)] 2 = mkF m 0 #[rv g, .unset] [] := by first | (simp [entryFrame, mkF, argsToLocals, Value.category]; done) | rfl
set_option maxRecDepth 65536 in
set_option maxHeartbeats 40000000 in
theorem con_lh (l : Launch) (Z : State) (a0 : Array Value) (hw : ∀ d ∈ tables_1, d.before a0 Z = true) (n0 : Nat) (h0 : Heap) (hn0 : n0 ≤ h0.size) (g : Addr) (gw : Addr) (gh : Addr) (w0 : Int64) (w1 : Int64) (w2 : Int64) (cn : Int32) (hl : List Value) (P0 : Exa Z h0 g kC0) (P1 : Fld Z h0 g kC0 "words" "[J" (.ref gw)) (P2 : Fld Z h0 g kC0 "held" "[I" (.ref gh)) (P3 : Fld Z h0 g kC0 "listing" "Z" (.int 0)) (P4 : Fld Z h0 g kC0 "count" "I" (.int cn)) (P5 : Av Z h0 gw .long ([.long w0, .long w1, .long w2])) (P6 : Av Z h0 gh .int hl) (g_g : n0 ≤ g) (g_gh : n0 ≤ gh) (ne_g_gw : g ≠ gw) (ne_g_gh : g ≠ gh) (ne_gw_gh : gw ≠ gh) (h3 : hl.length = 3) :
    Con l Z n0 [] (⟨"com/example/detra/detra/SetWords", "listHeld", "()V"⟩ : MethodName) prog_21_method_7_code 2 none ({ frames := 0, cells := 0, slots := 0, locals := 0 } : Room) #[(.ref g)] h0 (Qcon_lh Z n0 h0 g gw gh w0 w1 w2 cn hl) := by
  refine Con.of pf_3 (fun m => ef_con_lh m g) hn0 ?_
  intro p e s m below meth c C
  refine C.aloadN d6_0 rfl rfl rfl ?_
  refine C.getF d6_1 rfl (tw hw 33 rfl) P3 ?_
  refine C.if_eq_t d6_4 (by decide) rfl (by decide) ?_
  refine C.aloadN d6_22 rfl rfl rfl ?_
  refine C.iconst 0 d6_23 rfl rfl ?_
  refine C.putF d6_24 rfl (tw hw 52 rfl) P4 P0 (Or.inl (tw hw 53 rfl)) (tw hw 25 rfl) (ty := .int) (by decide) rfl rfl g_g (fun h136 W137 F138 => ?_)
  have F139 := Exa.wr W137 P0
  have F140 := Fld.other W137 P1 (Or.inr (slot_ne (C := kC0) (t := (.array .long)) (t' := .int) (Or.inr (tw hw 32 rfl)) (Or.inl (tw hw 53 rfl)) (by decide) (by decide) (by decide)))
  have F141 := Fld.other W137 P2 (Or.inr (slot_ne (C := kC0) (t := (.array .int)) (t' := .int) (Or.inr (tw hw 36 rfl)) (Or.inl (tw hw 53 rfl)) (by decide) (by decide) (by decide)))
  have F142 := Fld.other W137 P3 (Or.inr (slot_ne (C := kC0) (t := .boolean) (t' := .int) (Or.inr (tw hw 34 rfl)) (Or.inl (tw hw 53 rfl)) (by decide) (by decide) (by decide)))
  have F143 := P5.other W137 (Ne.symm ne_g_gw)
  have F144 := P6.other W137 (Ne.symm ne_g_gh)
  refine C.iconst 0 d6_27 rfl rfl ?_
  refine C.istoreN (Ls' := #[rv g, iv 0]) d6_28 rfl rfl ?_
  refine C.iloadN d6_29 rfl rfl ?_
  refine C.aloadN d6_30 rfl rfl rfl ?_
  refine C.getF d6_31 rfl (tw hw 31 rfl) F140 ?_
  refine C.alen d6_34 rfl F143 ?_
  refine Go.cI (y := 3) rfl ?_
  refine C.icmp_ge_f d6_35 rfl (by decide) ?_
  refine C.aloadN d6_38 rfl rfl rfl ?_
  refine C.getF d6_39 rfl (tw hw 31 rfl) F140 ?_
  refine C.iloadN d6_42 rfl rfl ?_
  refine C.laload (.long w0) d6_43 rfl F143 (by decide) rfl ?_
  refine C.lconst 0 d6_44 rfl rfl ?_
  refine C.lcmp d6_45 rfl ?_
  refine C.lif_eq d6_46 (by decide) rfl rfl (fun q46 => ?_) (fun q46 => ?_)
  · refine C.iinc (Ls' := #[rv g, iv 1]) 1 d6_66 rfl rfl rfl rfl ?_
    refine C.goto d6_69 (by decide) rfl ?_
    refine C.iloadN d6_29 rfl rfl ?_
    refine C.aloadN d6_30 rfl rfl rfl ?_
    refine C.getF d6_31 rfl (tw hw 31 rfl) F140 ?_
    refine C.alen d6_34 rfl F143 ?_
    refine Go.cI (y := 3) rfl ?_
    refine C.icmp_ge_f d6_35 rfl (by decide) ?_
    refine C.aloadN d6_38 rfl rfl rfl ?_
    refine C.getF d6_39 rfl (tw hw 31 rfl) F140 ?_
    refine C.iloadN d6_42 rfl rfl ?_
    refine C.laload (.long w1) d6_43 rfl F143 (by decide) rfl ?_
    refine C.lconst 0 d6_44 rfl rfl ?_
    refine C.lcmp d6_45 rfl ?_
    refine C.lif_eq d6_46 (by decide) rfl rfl (fun q46' => ?_) (fun q46' => ?_)
    · refine C.iinc (Ls' := #[rv g, iv 2]) 1 d6_66 rfl rfl rfl rfl ?_
      refine C.goto d6_69 (by decide) rfl ?_
      refine C.iloadN d6_29 rfl rfl ?_
      refine C.aloadN d6_30 rfl rfl rfl ?_
      refine C.getF d6_31 rfl (tw hw 31 rfl) F140 ?_
      refine C.alen d6_34 rfl F143 ?_
      refine Go.cI (y := 3) rfl ?_
      refine C.icmp_ge_f d6_35 rfl (by decide) ?_
      refine C.aloadN d6_38 rfl rfl rfl ?_
      refine C.getF d6_39 rfl (tw hw 31 rfl) F140 ?_
      refine C.iloadN d6_42 rfl rfl ?_
      refine C.laload (.long w2) d6_43 rfl F143 (by decide) rfl ?_
      refine C.lconst 0 d6_44 rfl rfl ?_
      refine C.lcmp d6_45 rfl ?_
      refine C.lif_eq d6_46 (by decide) rfl rfl (fun q46'' => ?_) (fun q46'' => ?_)
      · refine C.iinc (Ls' := #[rv g, iv 3]) 1 d6_66 rfl rfl rfl rfl ?_
        refine C.goto d6_69 (by decide) rfl ?_
        refine C.iloadN d6_29 rfl rfl ?_
        refine C.aloadN d6_30 rfl rfl rfl ?_
        refine C.getF d6_31 rfl (tw hw 31 rfl) F140 ?_
        refine C.alen d6_34 rfl F143 ?_
        refine Go.cI (y := 3) rfl ?_
        refine C.icmp_ge_t d6_35 (by decide) rfl (by decide) ?_
        refine C.goto d6_72 (by decide) rfl ?_
        have kc : own_c3 w0 w1 w2 = [] := by simp [own_c3, q46, q46', q46'']
        exact C.ret0 d6_87 (by decide) (by decide) ⟨hl, rfl, ((Keep.refl h0 [g, gh]).wr W137 (Or.inl (List.mem_of_getElem? (i := 0) rfl))), F140, F141, F142, (by rw [kc]; exact F138), F144, (by rw [kc]; exact own_hd0  hl), (by simp [h3])⟩
      refine C.aloadN d6_49 rfl rfl rfl ?_
      refine C.getF d6_50 rfl (tw hw 35 rfl) F141 ?_
      refine C.aloadN d6_53 rfl rfl rfl ?_
      refine C.dup d6_54 rfl rfl ?_
      refine C.getF d6_55 rfl (tw hw 52 rfl) F138 ?_
      refine C.dupX1 d6_58 rfl rfl rfl ?_
      refine C.iconst 1 d6_59 rfl rfl ?_
      refine C.iadd d6_60 rfl ?_
      refine Go.cI (y := 1) rfl ?_
      refine C.putF d6_61 rfl (tw hw 52 rfl) F138 F139 (Or.inl (tw hw 53 rfl)) (tw hw 25 rfl) (ty := .int) (by decide) rfl rfl g_g (fun h145 W146 F147 => ?_)
      have F148 := Exa.wr W146 F139
      have F149 := Fld.other W146 F140 (Or.inr (slot_ne (C := kC0) (t := (.array .long)) (t' := .int) (Or.inr (tw hw 32 rfl)) (Or.inl (tw hw 53 rfl)) (by decide) (by decide) (by decide)))
      have F150 := Fld.other W146 F141 (Or.inr (slot_ne (C := kC0) (t := (.array .int)) (t' := .int) (Or.inr (tw hw 36 rfl)) (Or.inl (tw hw 53 rfl)) (by decide) (by decide) (by decide)))
      have F151 := Fld.other W146 F142 (Or.inr (slot_ne (C := kC0) (t := .boolean) (t' := .int) (Or.inr (tw hw 34 rfl)) (Or.inl (tw hw 53 rfl)) (by decide) (by decide) (by decide)))
      have F152 := F143.other W146 (Ne.symm ne_g_gw)
      have F153 := F144.other W146 (Ne.symm ne_g_gh)
      refine C.iloadN d6_64 rfl rfl ?_
      refine C.iastore d6_65 rfl F153 g_gh (by decide) (by simp [h3]) (fun h154 W155 F156 => ?_)
      have F157 := Exa.wr W155 F148
      have F158 := Fld.other W155 F149 (Or.inl ne_g_gh)
      have F159 := Fld.other W155 F150 (Or.inl ne_g_gh)
      have F160 := Fld.other W155 F151 (Or.inl ne_g_gh)
      have F161 := F152.other W155 ne_gw_gh
      have F162 := Fld.other W155 F147 (Or.inl ne_g_gh)
      refine C.iinc (Ls' := #[rv g, iv 3]) 1 d6_66 rfl rfl rfl rfl ?_
      refine C.goto d6_69 (by decide) rfl ?_
      refine C.iloadN d6_29 rfl rfl ?_
      refine C.aloadN d6_30 rfl rfl rfl ?_
      refine C.getF d6_31 rfl (tw hw 31 rfl) F158 ?_
      refine C.alen d6_34 rfl F161 ?_
      refine Go.cI (y := 3) rfl ?_
      refine C.icmp_ge_t d6_35 (by decide) rfl (by decide) ?_
      refine C.goto d6_72 (by decide) rfl ?_
      have kc : own_c3 w0 w1 w2 = [(2, w2)] := by simp [own_c3, q46, q46', q46'']
      exact C.ret0 d6_87 (by decide) (by decide) ⟨hl.set (Int32.toNatClampNeg 0) (.int 2), rfl, ((((Keep.refl h0 [g, gh]).wr W137 (Or.inl (List.mem_of_getElem? (i := 0) rfl))).wr W146 (Or.inl (List.mem_of_getElem? (i := 0) rfl))).wr W155 (Or.inl (List.mem_of_getElem? (i := 1) rfl))), F158, F159, F160, (by rw [kc]; exact F162), F156, (by rw [kc]; exact own_hd1 (2, w2) hl h3), (by simp [h3])⟩
    refine C.aloadN d6_49 rfl rfl rfl ?_
    refine C.getF d6_50 rfl (tw hw 35 rfl) F141 ?_
    refine C.aloadN d6_53 rfl rfl rfl ?_
    refine C.dup d6_54 rfl rfl ?_
    refine C.getF d6_55 rfl (tw hw 52 rfl) F138 ?_
    refine C.dupX1 d6_58 rfl rfl rfl ?_
    refine C.iconst 1 d6_59 rfl rfl ?_
    refine C.iadd d6_60 rfl ?_
    refine Go.cI (y := 1) rfl ?_
    refine C.putF d6_61 rfl (tw hw 52 rfl) F138 F139 (Or.inl (tw hw 53 rfl)) (tw hw 25 rfl) (ty := .int) (by decide) rfl rfl g_g (fun h163 W164 F165 => ?_)
    have F166 := Exa.wr W164 F139
    have F167 := Fld.other W164 F140 (Or.inr (slot_ne (C := kC0) (t := (.array .long)) (t' := .int) (Or.inr (tw hw 32 rfl)) (Or.inl (tw hw 53 rfl)) (by decide) (by decide) (by decide)))
    have F168 := Fld.other W164 F141 (Or.inr (slot_ne (C := kC0) (t := (.array .int)) (t' := .int) (Or.inr (tw hw 36 rfl)) (Or.inl (tw hw 53 rfl)) (by decide) (by decide) (by decide)))
    have F169 := Fld.other W164 F142 (Or.inr (slot_ne (C := kC0) (t := .boolean) (t' := .int) (Or.inr (tw hw 34 rfl)) (Or.inl (tw hw 53 rfl)) (by decide) (by decide) (by decide)))
    have F170 := F143.other W164 (Ne.symm ne_g_gw)
    have F171 := F144.other W164 (Ne.symm ne_g_gh)
    refine C.iloadN d6_64 rfl rfl ?_
    refine C.iastore d6_65 rfl F171 g_gh (by decide) (by simp [h3]) (fun h172 W173 F174 => ?_)
    have F175 := Exa.wr W173 F166
    have F176 := Fld.other W173 F167 (Or.inl ne_g_gh)
    have F177 := Fld.other W173 F168 (Or.inl ne_g_gh)
    have F178 := Fld.other W173 F169 (Or.inl ne_g_gh)
    have F179 := F170.other W173 ne_gw_gh
    have F180 := Fld.other W173 F165 (Or.inl ne_g_gh)
    refine C.iinc (Ls' := #[rv g, iv 2]) 1 d6_66 rfl rfl rfl rfl ?_
    refine C.goto d6_69 (by decide) rfl ?_
    refine C.iloadN d6_29 rfl rfl ?_
    refine C.aloadN d6_30 rfl rfl rfl ?_
    refine C.getF d6_31 rfl (tw hw 31 rfl) F176 ?_
    refine C.alen d6_34 rfl F179 ?_
    refine Go.cI (y := 3) rfl ?_
    refine C.icmp_ge_f d6_35 rfl (by decide) ?_
    refine C.aloadN d6_38 rfl rfl rfl ?_
    refine C.getF d6_39 rfl (tw hw 31 rfl) F176 ?_
    refine C.iloadN d6_42 rfl rfl ?_
    refine C.laload (.long w2) d6_43 rfl F179 (by decide) rfl ?_
    refine C.lconst 0 d6_44 rfl rfl ?_
    refine C.lcmp d6_45 rfl ?_
    refine C.lif_eq d6_46 (by decide) rfl rfl (fun q46'' => ?_) (fun q46'' => ?_)
    · refine C.iinc (Ls' := #[rv g, iv 3]) 1 d6_66 rfl rfl rfl rfl ?_
      refine C.goto d6_69 (by decide) rfl ?_
      refine C.iloadN d6_29 rfl rfl ?_
      refine C.aloadN d6_30 rfl rfl rfl ?_
      refine C.getF d6_31 rfl (tw hw 31 rfl) F176 ?_
      refine C.alen d6_34 rfl F179 ?_
      refine Go.cI (y := 3) rfl ?_
      refine C.icmp_ge_t d6_35 (by decide) rfl (by decide) ?_
      refine C.goto d6_72 (by decide) rfl ?_
      have kc : own_c3 w0 w1 w2 = [(1, w1)] := by simp [own_c3, q46, q46', q46'']
      exact C.ret0 d6_87 (by decide) (by decide) ⟨hl.set (Int32.toNatClampNeg 0) (.int 1), rfl, ((((Keep.refl h0 [g, gh]).wr W137 (Or.inl (List.mem_of_getElem? (i := 0) rfl))).wr W164 (Or.inl (List.mem_of_getElem? (i := 0) rfl))).wr W173 (Or.inl (List.mem_of_getElem? (i := 1) rfl))), F176, F177, F178, (by rw [kc]; exact F180), F174, (by rw [kc]; exact own_hd1 (1, w1) hl h3), (by simp [h3])⟩
    refine C.aloadN d6_49 rfl rfl rfl ?_
    refine C.getF d6_50 rfl (tw hw 35 rfl) F177 ?_
    refine C.aloadN d6_53 rfl rfl rfl ?_
    refine C.dup d6_54 rfl rfl ?_
    refine C.getF d6_55 rfl (tw hw 52 rfl) F180 ?_
    refine C.dupX1 d6_58 rfl rfl rfl ?_
    refine C.iconst 1 d6_59 rfl rfl ?_
    refine C.iadd d6_60 rfl ?_
    refine Go.cI (y := 2) rfl ?_
    refine C.putF d6_61 rfl (tw hw 52 rfl) F180 F175 (Or.inl (tw hw 53 rfl)) (tw hw 25 rfl) (ty := .int) (by decide) rfl rfl g_g (fun h181 W182 F183 => ?_)
    have F184 := Exa.wr W182 F175
    have F185 := Fld.other W182 F176 (Or.inr (slot_ne (C := kC0) (t := (.array .long)) (t' := .int) (Or.inr (tw hw 32 rfl)) (Or.inl (tw hw 53 rfl)) (by decide) (by decide) (by decide)))
    have F186 := Fld.other W182 F177 (Or.inr (slot_ne (C := kC0) (t := (.array .int)) (t' := .int) (Or.inr (tw hw 36 rfl)) (Or.inl (tw hw 53 rfl)) (by decide) (by decide) (by decide)))
    have F187 := Fld.other W182 F178 (Or.inr (slot_ne (C := kC0) (t := .boolean) (t' := .int) (Or.inr (tw hw 34 rfl)) (Or.inl (tw hw 53 rfl)) (by decide) (by decide) (by decide)))
    have F188 := F179.other W182 (Ne.symm ne_g_gw)
    have F189 := F174.other W182 (Ne.symm ne_g_gh)
    refine C.iloadN d6_64 rfl rfl ?_
    refine C.iastore d6_65 rfl F189 g_gh (by decide) (by simp [h3]) (fun h190 W191 F192 => ?_)
    have F193 := Exa.wr W191 F184
    have F194 := Fld.other W191 F185 (Or.inl ne_g_gh)
    have F195 := Fld.other W191 F186 (Or.inl ne_g_gh)
    have F196 := Fld.other W191 F187 (Or.inl ne_g_gh)
    have F197 := F188.other W191 ne_gw_gh
    have F198 := Fld.other W191 F183 (Or.inl ne_g_gh)
    refine C.iinc (Ls' := #[rv g, iv 3]) 1 d6_66 rfl rfl rfl rfl ?_
    refine C.goto d6_69 (by decide) rfl ?_
    refine C.iloadN d6_29 rfl rfl ?_
    refine C.aloadN d6_30 rfl rfl rfl ?_
    refine C.getF d6_31 rfl (tw hw 31 rfl) F194 ?_
    refine C.alen d6_34 rfl F197 ?_
    refine Go.cI (y := 3) rfl ?_
    refine C.icmp_ge_t d6_35 (by decide) rfl (by decide) ?_
    refine C.goto d6_72 (by decide) rfl ?_
    have kc : own_c3 w0 w1 w2 = [(1, w1), (2, w2)] := by simp [own_c3, q46, q46', q46'']
    exact C.ret0 d6_87 (by decide) (by decide) ⟨(hl.set (Int32.toNatClampNeg 0) (.int 1)).set (Int32.toNatClampNeg 1) (.int 2), rfl, ((((((Keep.refl h0 [g, gh]).wr W137 (Or.inl (List.mem_of_getElem? (i := 0) rfl))).wr W164 (Or.inl (List.mem_of_getElem? (i := 0) rfl))).wr W173 (Or.inl (List.mem_of_getElem? (i := 1) rfl))).wr W182 (Or.inl (List.mem_of_getElem? (i := 0) rfl))).wr W191 (Or.inl (List.mem_of_getElem? (i := 1) rfl))), F194, F195, F196, (by rw [kc]; exact F198), F192, (by rw [kc]; exact own_hd2 (1, w1) (2, w2) hl h3), (by simp [h3])⟩
  refine C.aloadN d6_49 rfl rfl rfl ?_
  refine C.getF d6_50 rfl (tw hw 35 rfl) F141 ?_
  refine C.aloadN d6_53 rfl rfl rfl ?_
  refine C.dup d6_54 rfl rfl ?_
  refine C.getF d6_55 rfl (tw hw 52 rfl) F138 ?_
  refine C.dupX1 d6_58 rfl rfl rfl ?_
  refine C.iconst 1 d6_59 rfl rfl ?_
  refine C.iadd d6_60 rfl ?_
  refine Go.cI (y := 1) rfl ?_
  refine C.putF d6_61 rfl (tw hw 52 rfl) F138 F139 (Or.inl (tw hw 53 rfl)) (tw hw 25 rfl) (ty := .int) (by decide) rfl rfl g_g (fun h199 W200 F201 => ?_)
  have F202 := Exa.wr W200 F139
  have F203 := Fld.other W200 F140 (Or.inr (slot_ne (C := kC0) (t := (.array .long)) (t' := .int) (Or.inr (tw hw 32 rfl)) (Or.inl (tw hw 53 rfl)) (by decide) (by decide) (by decide)))
  have F204 := Fld.other W200 F141 (Or.inr (slot_ne (C := kC0) (t := (.array .int)) (t' := .int) (Or.inr (tw hw 36 rfl)) (Or.inl (tw hw 53 rfl)) (by decide) (by decide) (by decide)))
  have F205 := Fld.other W200 F142 (Or.inr (slot_ne (C := kC0) (t := .boolean) (t' := .int) (Or.inr (tw hw 34 rfl)) (Or.inl (tw hw 53 rfl)) (by decide) (by decide) (by decide)))
  have F206 := F143.other W200 (Ne.symm ne_g_gw)
  have F207 := F144.other W200 (Ne.symm ne_g_gh)
  refine C.iloadN d6_64 rfl rfl ?_
  refine C.iastore d6_65 rfl F207 g_gh (by decide) (by simp [h3]) (fun h208 W209 F210 => ?_)
  have F211 := Exa.wr W209 F202
  have F212 := Fld.other W209 F203 (Or.inl ne_g_gh)
  have F213 := Fld.other W209 F204 (Or.inl ne_g_gh)
  have F214 := Fld.other W209 F205 (Or.inl ne_g_gh)
  have F215 := F206.other W209 ne_gw_gh
  have F216 := Fld.other W209 F201 (Or.inl ne_g_gh)
  refine C.iinc (Ls' := #[rv g, iv 1]) 1 d6_66 rfl rfl rfl rfl ?_
  refine C.goto d6_69 (by decide) rfl ?_
  refine C.iloadN d6_29 rfl rfl ?_
  refine C.aloadN d6_30 rfl rfl rfl ?_
  refine C.getF d6_31 rfl (tw hw 31 rfl) F212 ?_
  refine C.alen d6_34 rfl F215 ?_
  refine Go.cI (y := 3) rfl ?_
  refine C.icmp_ge_f d6_35 rfl (by decide) ?_
  refine C.aloadN d6_38 rfl rfl rfl ?_
  refine C.getF d6_39 rfl (tw hw 31 rfl) F212 ?_
  refine C.iloadN d6_42 rfl rfl ?_
  refine C.laload (.long w1) d6_43 rfl F215 (by decide) rfl ?_
  refine C.lconst 0 d6_44 rfl rfl ?_
  refine C.lcmp d6_45 rfl ?_
  refine C.lif_eq d6_46 (by decide) rfl rfl (fun q46' => ?_) (fun q46' => ?_)
  · refine C.iinc (Ls' := #[rv g, iv 2]) 1 d6_66 rfl rfl rfl rfl ?_
    refine C.goto d6_69 (by decide) rfl ?_
    refine C.iloadN d6_29 rfl rfl ?_
    refine C.aloadN d6_30 rfl rfl rfl ?_
    refine C.getF d6_31 rfl (tw hw 31 rfl) F212 ?_
    refine C.alen d6_34 rfl F215 ?_
    refine Go.cI (y := 3) rfl ?_
    refine C.icmp_ge_f d6_35 rfl (by decide) ?_
    refine C.aloadN d6_38 rfl rfl rfl ?_
    refine C.getF d6_39 rfl (tw hw 31 rfl) F212 ?_
    refine C.iloadN d6_42 rfl rfl ?_
    refine C.laload (.long w2) d6_43 rfl F215 (by decide) rfl ?_
    refine C.lconst 0 d6_44 rfl rfl ?_
    refine C.lcmp d6_45 rfl ?_
    refine C.lif_eq d6_46 (by decide) rfl rfl (fun q46'' => ?_) (fun q46'' => ?_)
    · refine C.iinc (Ls' := #[rv g, iv 3]) 1 d6_66 rfl rfl rfl rfl ?_
      refine C.goto d6_69 (by decide) rfl ?_
      refine C.iloadN d6_29 rfl rfl ?_
      refine C.aloadN d6_30 rfl rfl rfl ?_
      refine C.getF d6_31 rfl (tw hw 31 rfl) F212 ?_
      refine C.alen d6_34 rfl F215 ?_
      refine Go.cI (y := 3) rfl ?_
      refine C.icmp_ge_t d6_35 (by decide) rfl (by decide) ?_
      refine C.goto d6_72 (by decide) rfl ?_
      have kc : own_c3 w0 w1 w2 = [(0, w0)] := by simp [own_c3, q46, q46', q46'']
      exact C.ret0 d6_87 (by decide) (by decide) ⟨hl.set (Int32.toNatClampNeg 0) (.int 0), rfl, ((((Keep.refl h0 [g, gh]).wr W137 (Or.inl (List.mem_of_getElem? (i := 0) rfl))).wr W200 (Or.inl (List.mem_of_getElem? (i := 0) rfl))).wr W209 (Or.inl (List.mem_of_getElem? (i := 1) rfl))), F212, F213, F214, (by rw [kc]; exact F216), F210, (by rw [kc]; exact own_hd1 (0, w0) hl h3), (by simp [h3])⟩
    refine C.aloadN d6_49 rfl rfl rfl ?_
    refine C.getF d6_50 rfl (tw hw 35 rfl) F213 ?_
    refine C.aloadN d6_53 rfl rfl rfl ?_
    refine C.dup d6_54 rfl rfl ?_
    refine C.getF d6_55 rfl (tw hw 52 rfl) F216 ?_
    refine C.dupX1 d6_58 rfl rfl rfl ?_
    refine C.iconst 1 d6_59 rfl rfl ?_
    refine C.iadd d6_60 rfl ?_
    refine Go.cI (y := 2) rfl ?_
    refine C.putF d6_61 rfl (tw hw 52 rfl) F216 F211 (Or.inl (tw hw 53 rfl)) (tw hw 25 rfl) (ty := .int) (by decide) rfl rfl g_g (fun h217 W218 F219 => ?_)
    have F220 := Exa.wr W218 F211
    have F221 := Fld.other W218 F212 (Or.inr (slot_ne (C := kC0) (t := (.array .long)) (t' := .int) (Or.inr (tw hw 32 rfl)) (Or.inl (tw hw 53 rfl)) (by decide) (by decide) (by decide)))
    have F222 := Fld.other W218 F213 (Or.inr (slot_ne (C := kC0) (t := (.array .int)) (t' := .int) (Or.inr (tw hw 36 rfl)) (Or.inl (tw hw 53 rfl)) (by decide) (by decide) (by decide)))
    have F223 := Fld.other W218 F214 (Or.inr (slot_ne (C := kC0) (t := .boolean) (t' := .int) (Or.inr (tw hw 34 rfl)) (Or.inl (tw hw 53 rfl)) (by decide) (by decide) (by decide)))
    have F224 := F215.other W218 (Ne.symm ne_g_gw)
    have F225 := F210.other W218 (Ne.symm ne_g_gh)
    refine C.iloadN d6_64 rfl rfl ?_
    refine C.iastore d6_65 rfl F225 g_gh (by decide) (by simp [h3]) (fun h226 W227 F228 => ?_)
    have F229 := Exa.wr W227 F220
    have F230 := Fld.other W227 F221 (Or.inl ne_g_gh)
    have F231 := Fld.other W227 F222 (Or.inl ne_g_gh)
    have F232 := Fld.other W227 F223 (Or.inl ne_g_gh)
    have F233 := F224.other W227 ne_gw_gh
    have F234 := Fld.other W227 F219 (Or.inl ne_g_gh)
    refine C.iinc (Ls' := #[rv g, iv 3]) 1 d6_66 rfl rfl rfl rfl ?_
    refine C.goto d6_69 (by decide) rfl ?_
    refine C.iloadN d6_29 rfl rfl ?_
    refine C.aloadN d6_30 rfl rfl rfl ?_
    refine C.getF d6_31 rfl (tw hw 31 rfl) F230 ?_
    refine C.alen d6_34 rfl F233 ?_
    refine Go.cI (y := 3) rfl ?_
    refine C.icmp_ge_t d6_35 (by decide) rfl (by decide) ?_
    refine C.goto d6_72 (by decide) rfl ?_
    have kc : own_c3 w0 w1 w2 = [(0, w0), (2, w2)] := by simp [own_c3, q46, q46', q46'']
    exact C.ret0 d6_87 (by decide) (by decide) ⟨(hl.set (Int32.toNatClampNeg 0) (.int 0)).set (Int32.toNatClampNeg 1) (.int 2), rfl, ((((((Keep.refl h0 [g, gh]).wr W137 (Or.inl (List.mem_of_getElem? (i := 0) rfl))).wr W200 (Or.inl (List.mem_of_getElem? (i := 0) rfl))).wr W209 (Or.inl (List.mem_of_getElem? (i := 1) rfl))).wr W218 (Or.inl (List.mem_of_getElem? (i := 0) rfl))).wr W227 (Or.inl (List.mem_of_getElem? (i := 1) rfl))), F230, F231, F232, (by rw [kc]; exact F234), F228, (by rw [kc]; exact own_hd2 (0, w0) (2, w2) hl h3), (by simp [h3])⟩
  refine C.aloadN d6_49 rfl rfl rfl ?_
  refine C.getF d6_50 rfl (tw hw 35 rfl) F213 ?_
  refine C.aloadN d6_53 rfl rfl rfl ?_
  refine C.dup d6_54 rfl rfl ?_
  refine C.getF d6_55 rfl (tw hw 52 rfl) F216 ?_
  refine C.dupX1 d6_58 rfl rfl rfl ?_
  refine C.iconst 1 d6_59 rfl rfl ?_
  refine C.iadd d6_60 rfl ?_
  refine Go.cI (y := 2) rfl ?_
  refine C.putF d6_61 rfl (tw hw 52 rfl) F216 F211 (Or.inl (tw hw 53 rfl)) (tw hw 25 rfl) (ty := .int) (by decide) rfl rfl g_g (fun h235 W236 F237 => ?_)
  have F238 := Exa.wr W236 F211
  have F239 := Fld.other W236 F212 (Or.inr (slot_ne (C := kC0) (t := (.array .long)) (t' := .int) (Or.inr (tw hw 32 rfl)) (Or.inl (tw hw 53 rfl)) (by decide) (by decide) (by decide)))
  have F240 := Fld.other W236 F213 (Or.inr (slot_ne (C := kC0) (t := (.array .int)) (t' := .int) (Or.inr (tw hw 36 rfl)) (Or.inl (tw hw 53 rfl)) (by decide) (by decide) (by decide)))
  have F241 := Fld.other W236 F214 (Or.inr (slot_ne (C := kC0) (t := .boolean) (t' := .int) (Or.inr (tw hw 34 rfl)) (Or.inl (tw hw 53 rfl)) (by decide) (by decide) (by decide)))
  have F242 := F215.other W236 (Ne.symm ne_g_gw)
  have F243 := F210.other W236 (Ne.symm ne_g_gh)
  refine C.iloadN d6_64 rfl rfl ?_
  refine C.iastore d6_65 rfl F243 g_gh (by decide) (by simp [h3]) (fun h244 W245 F246 => ?_)
  have F247 := Exa.wr W245 F238
  have F248 := Fld.other W245 F239 (Or.inl ne_g_gh)
  have F249 := Fld.other W245 F240 (Or.inl ne_g_gh)
  have F250 := Fld.other W245 F241 (Or.inl ne_g_gh)
  have F251 := F242.other W245 ne_gw_gh
  have F252 := Fld.other W245 F237 (Or.inl ne_g_gh)
  refine C.iinc (Ls' := #[rv g, iv 2]) 1 d6_66 rfl rfl rfl rfl ?_
  refine C.goto d6_69 (by decide) rfl ?_
  refine C.iloadN d6_29 rfl rfl ?_
  refine C.aloadN d6_30 rfl rfl rfl ?_
  refine C.getF d6_31 rfl (tw hw 31 rfl) F248 ?_
  refine C.alen d6_34 rfl F251 ?_
  refine Go.cI (y := 3) rfl ?_
  refine C.icmp_ge_f d6_35 rfl (by decide) ?_
  refine C.aloadN d6_38 rfl rfl rfl ?_
  refine C.getF d6_39 rfl (tw hw 31 rfl) F248 ?_
  refine C.iloadN d6_42 rfl rfl ?_
  refine C.laload (.long w2) d6_43 rfl F251 (by decide) rfl ?_
  refine C.lconst 0 d6_44 rfl rfl ?_
  refine C.lcmp d6_45 rfl ?_
  refine C.lif_eq d6_46 (by decide) rfl rfl (fun q46'' => ?_) (fun q46'' => ?_)
  · refine C.iinc (Ls' := #[rv g, iv 3]) 1 d6_66 rfl rfl rfl rfl ?_
    refine C.goto d6_69 (by decide) rfl ?_
    refine C.iloadN d6_29 rfl rfl ?_
    refine C.aloadN d6_30 rfl rfl rfl ?_
    refine C.getF d6_31 rfl (tw hw 31 rfl) F248 ?_
    refine C.alen d6_34 rfl F251 ?_
    refine Go.cI (y := 3) rfl ?_
    refine C.icmp_ge_t d6_35 (by decide) rfl (by decide) ?_
    refine C.goto d6_72 (by decide) rfl ?_
    have kc : own_c3 w0 w1 w2 = [(0, w0), (1, w1)] := by simp [own_c3, q46, q46', q46'']
    exact C.ret0 d6_87 (by decide) (by decide) ⟨(hl.set (Int32.toNatClampNeg 0) (.int 0)).set (Int32.toNatClampNeg 1) (.int 1), rfl, ((((((Keep.refl h0 [g, gh]).wr W137 (Or.inl (List.mem_of_getElem? (i := 0) rfl))).wr W200 (Or.inl (List.mem_of_getElem? (i := 0) rfl))).wr W209 (Or.inl (List.mem_of_getElem? (i := 1) rfl))).wr W236 (Or.inl (List.mem_of_getElem? (i := 0) rfl))).wr W245 (Or.inl (List.mem_of_getElem? (i := 1) rfl))), F248, F249, F250, (by rw [kc]; exact F252), F246, (by rw [kc]; exact own_hd2 (0, w0) (1, w1) hl h3), (by simp [h3])⟩
  refine C.aloadN d6_49 rfl rfl rfl ?_
  refine C.getF d6_50 rfl (tw hw 35 rfl) F249 ?_
  refine C.aloadN d6_53 rfl rfl rfl ?_
  refine C.dup d6_54 rfl rfl ?_
  refine C.getF d6_55 rfl (tw hw 52 rfl) F252 ?_
  refine C.dupX1 d6_58 rfl rfl rfl ?_
  refine C.iconst 1 d6_59 rfl rfl ?_
  refine C.iadd d6_60 rfl ?_
  refine Go.cI (y := 3) rfl ?_
  refine C.putF d6_61 rfl (tw hw 52 rfl) F252 F247 (Or.inl (tw hw 53 rfl)) (tw hw 25 rfl) (ty := .int) (by decide) rfl rfl g_g (fun h253 W254 F255 => ?_)
  have F256 := Exa.wr W254 F247
  have F257 := Fld.other W254 F248 (Or.inr (slot_ne (C := kC0) (t := (.array .long)) (t' := .int) (Or.inr (tw hw 32 rfl)) (Or.inl (tw hw 53 rfl)) (by decide) (by decide) (by decide)))
  have F258 := Fld.other W254 F249 (Or.inr (slot_ne (C := kC0) (t := (.array .int)) (t' := .int) (Or.inr (tw hw 36 rfl)) (Or.inl (tw hw 53 rfl)) (by decide) (by decide) (by decide)))
  have F259 := Fld.other W254 F250 (Or.inr (slot_ne (C := kC0) (t := .boolean) (t' := .int) (Or.inr (tw hw 34 rfl)) (Or.inl (tw hw 53 rfl)) (by decide) (by decide) (by decide)))
  have F260 := F251.other W254 (Ne.symm ne_g_gw)
  have F261 := F246.other W254 (Ne.symm ne_g_gh)
  refine C.iloadN d6_64 rfl rfl ?_
  refine C.iastore d6_65 rfl F261 g_gh (by decide) (by simp [h3]) (fun h262 W263 F264 => ?_)
  have F265 := Exa.wr W263 F256
  have F266 := Fld.other W263 F257 (Or.inl ne_g_gh)
  have F267 := Fld.other W263 F258 (Or.inl ne_g_gh)
  have F268 := Fld.other W263 F259 (Or.inl ne_g_gh)
  have F269 := F260.other W263 ne_gw_gh
  have F270 := Fld.other W263 F255 (Or.inl ne_g_gh)
  refine C.iinc (Ls' := #[rv g, iv 3]) 1 d6_66 rfl rfl rfl rfl ?_
  refine C.goto d6_69 (by decide) rfl ?_
  refine C.iloadN d6_29 rfl rfl ?_
  refine C.aloadN d6_30 rfl rfl rfl ?_
  refine C.getF d6_31 rfl (tw hw 31 rfl) F266 ?_
  refine C.alen d6_34 rfl F269 ?_
  refine Go.cI (y := 3) rfl ?_
  refine C.icmp_ge_t d6_35 (by decide) rfl (by decide) ?_
  refine C.goto d6_72 (by decide) rfl ?_
  have kc : own_c3 w0 w1 w2 = [(0, w0), (1, w1), (2, w2)] := by simp [own_c3, q46, q46', q46'']
  exact C.ret0 d6_87 (by decide) (by decide) ⟨((hl.set (Int32.toNatClampNeg 0) (.int 0)).set (Int32.toNatClampNeg 1) (.int 1)).set (Int32.toNatClampNeg 2) (.int 2), rfl, ((((((((Keep.refl h0 [g, gh]).wr W137 (Or.inl (List.mem_of_getElem? (i := 0) rfl))).wr W200 (Or.inl (List.mem_of_getElem? (i := 0) rfl))).wr W209 (Or.inl (List.mem_of_getElem? (i := 1) rfl))).wr W236 (Or.inl (List.mem_of_getElem? (i := 0) rfl))).wr W245 (Or.inl (List.mem_of_getElem? (i := 1) rfl))).wr W254 (Or.inl (List.mem_of_getElem? (i := 0) rfl))).wr W263 (Or.inl (List.mem_of_getElem? (i := 1) rfl))), F266, F267, F268, (by rw [kc]; exact F270), F264, (by rw [kc]; exact own_hd3 (0, w0) (1, w1) (2, w2) hl h3), (by simp [h3])⟩
theorem d7_0 : decode prog_22_method_11_code 0 = .ok (.lconst 0, 1) := by decide +kernel
theorem d7_1 : decode prog_22_method_11_code 1 = .ok (.lstore_n 1, 1) := by decide +kernel
theorem d7_2 : decode prog_22_method_11_code 2 = .ok (.iconst 0, 1) := by decide +kernel
theorem d7_3 : decode prog_22_method_11_code 3 = .ok (.istore_n 3, 1) := by decide +kernel
theorem d7_4 : decode prog_22_method_11_code 4 = .ok (.iload_n 3, 1) := by decide +kernel
theorem d7_5 : decode prog_22_method_11_code 5 = .ok (.aload_n 0, 1) := by decide +kernel
theorem d7_6 : decode prog_22_method_11_code 6 = .ok (.invokevirtual 61, 3) := by decide +kernel
theorem d7_9 : decode prog_22_method_11_code 9 = .ok (.if_icmp .ge 33, 3) := by decide +kernel
theorem d7_12 : decode prog_22_method_11_code 12 = .ok (.aload_n 0, 1) := by decide +kernel
theorem d7_13 : decode prog_22_method_11_code 13 = .ok (.iload_n 3, 1) := by decide +kernel
theorem d7_14 : decode prog_22_method_11_code 14 = .ok (.invokevirtual 80, 3) := by decide +kernel
theorem d7_17 : decode prog_22_method_11_code 17 = .ok (.istore 4, 2) := by decide +kernel
theorem d7_19 : decode prog_22_method_11_code 19 = .ok (.lload_n 1, 1) := by decide +kernel
theorem d7_20 : decode prog_22_method_11_code 20 = .ok (.aload_n 0, 1) := by decide +kernel
theorem d7_21 : decode prog_22_method_11_code 21 = .ok (.iload 4, 2) := by decide +kernel
theorem d7_23 : decode prog_22_method_11_code 23 = .ok (.invokevirtual 84, 3) := by decide +kernel
theorem d7_26 : decode prog_22_method_11_code 26 = .ok (.ladd, 1) := by decide +kernel
theorem d7_27 : decode prog_22_method_11_code 27 = .ok (.ldc2_w 91, 3) := by decide +kernel
theorem d7_30 : decode prog_22_method_11_code 30 = .ok (.lmul, 1) := by decide +kernel
theorem d7_31 : decode prog_22_method_11_code 31 = .ok (.iload 4, 2) := by decide +kernel
theorem d7_33 : decode prog_22_method_11_code 33 = .ok (.i2l, 1) := by decide +kernel
theorem d7_34 : decode prog_22_method_11_code 34 = .ok (.ladd, 1) := by decide +kernel
theorem d7_35 : decode prog_22_method_11_code 35 = .ok (.lstore_n 1, 1) := by decide +kernel
theorem d7_36 : decode prog_22_method_11_code 36 = .ok (.iinc 3 1, 3) := by decide +kernel
theorem d7_39 : decode prog_22_method_11_code 39 = .ok (.goto (-35), 3) := by decide +kernel
theorem d7_42 : decode prog_22_method_11_code 42 = .ok (.lload_n 1, 1) := by decide +kernel
theorem d7_43 : decode prog_22_method_11_code 43 = .ok (.lload_n 1, 1) := by decide +kernel
theorem d7_44 : decode prog_22_method_11_code 44 = .ok (.bipush 29, 2) := by decide +kernel
theorem d7_46 : decode prog_22_method_11_code 46 = .ok (.lushr, 1) := by decide +kernel
theorem d7_47 : decode prog_22_method_11_code 47 = .ok (.lxor, 1) := by decide +kernel
theorem d7_48 : decode prog_22_method_11_code 48 = .ok (.ldc2_w 91, 3) := by decide +kernel
theorem d7_51 : decode prog_22_method_11_code 51 = .ok (.lmul, 1) := by decide +kernel
theorem d7_52 : decode prog_22_method_11_code 52 = .ok (.lstore_n 1, 1) := by decide +kernel
theorem d7_53 : decode prog_22_method_11_code 53 = .ok (.lload_n 1, 1) := by decide +kernel
theorem d7_54 : decode prog_22_method_11_code 54 = .ok (.lload_n 1, 1) := by decide +kernel
theorem d7_55 : decode prog_22_method_11_code 55 = .ok (.bipush 32, 2) := by decide +kernel
theorem d7_57 : decode prog_22_method_11_code 57 = .ok (.lushr, 1) := by decide +kernel
theorem d7_58 : decode prog_22_method_11_code 58 = .ok (.lxor, 1) := by decide +kernel
theorem d7_59 : decode prog_22_method_11_code 59 = .ok (.l2i, 1) := by decide +kernel
theorem d7_60 : decode prog_22_method_11_code 60 = .ok (.ireturn, 1) := by decide +kernel
theorem pf_4 : plainFor (⟨"com/example/detra/detra/StateSets", "hash", "(Lcom/example/detra/detra/SetWords;)I"⟩ : MethodName) = true := by first | exact plainFor_of_name (by first | (simp [plainName, overriddenIn]; done) | decide +kernel) | decide +kernel
theorem pd_0 : parseMethodDescriptor "()I" = some ⟨[], some .int⟩ := by decide +kernel
theorem pd_1 : parseMethodDescriptor "(I)I" = some ⟨[.int], some .int⟩ := by decide +kernel
theorem pd_2 : parseMethodDescriptor "(I)J" = some ⟨[.int], some .long⟩ := by decide +kernel
def Qcon_hash (Z : State) (n0 : Nat) (h0 : Heap) (g : Addr) (gw : Addr) (gh : Addr) (lb : List (Int32 × Int64)) (HL : List Value) (ws : List Value) (v : Option Value) (h' : Heap) : Prop := ∃ (r : Int32), (v = some (.int r)) ∧ (h0 = h')
theorem ef_con_hash (m : MethodId) (g : Addr) : entryFrame m #[(.ref g)] 5 = mkF m 0 #[rv g, .unset, .unset, .unset, .unset] [] := by first | (simp [entryFrame, mkF, argsToLocals, Value.category]; done) | rfl
set_option maxRecDepth 65536 in
set_option maxHeartbeats 40000000 in
theorem con_hash (l : Launch) (Z : State) (a0 : Array Value) (hw : ∀ d ∈ tables_1, d.before a0 Z = true) (n0 : Nat) (h0 : Heap) (hn0 : n0 ≤ h0.size) (g : Addr) (gw : Addr) (gh : Addr) (lb : List (Int32 × Int64)) (HL : List Value) (ws : List Value) (P0 : Exa Z h0 g kC0) (P1 : Fld Z h0 g kC0 "words" "[J" (.ref gw)) (P2 : Fld Z h0 g kC0 "held" "[I" (.ref gh)) (P3 : Fld Z h0 g kC0 "count" "I" (.int (Int32.ofNat lb.length))) (P4 : Av Z h0 gw .long ws) (P5 : Av Z h0 gh .int HL) (hhd : own_hd lb HL) (hws : own_ws lb ws) (hl3 : lb.length ≤ 3) :
    Con l Z n0 [] (⟨"com/example/detra/detra/StateSets", "hash", "(Lcom/example/detra/detra/SetWords;)I"⟩ : MethodName) prog_22_method_11_code 5 (some .int) ({ frames := 1, cells := 0, slots := 0, locals := 15 } : Room) #[(.ref g)] h0 (Qcon_hash Z n0 h0 g gw gh lb HL ws) := by
  refine Con.of pf_4 (fun m => ef_con_hash m g) hn0 ?_
  intro p e s m below meth c C
  refine C.lconst 0 d7_0 rfl rfl ?_
  refine C.lstoreN (Ls' := #[rv g, .val (.long 0), .second, .unset, .unset]) d7_1 rfl rfl ?_
  refine C.iconst 0 d7_2 rfl rfl ?_
  refine C.istoreN (Ls' := #[rv g, .val (.long 0), .second, iv 0, .unset]) d7_3 rfl rfl ?_
  have JH288 : ∀ (m_ j : Nat) (acc : Int64) (s4 : Slot) (hs : s4 = .unset ∨ ∃ x, s4 = iv x) (hj : j + m_ = lb.length), Go p l e ({ frames := 1, cells := 0, slots := 0, locals := 15 } : Room) s m #[(.ref g)] below meth c n0 (FinQ s n0 (Qcon_hash Z n0 h0 g gw gh lb HL ws) ({ frames := 1, cells := 0, slots := 0, locals := 15 } : Room).cells ({ frames := 1, cells := 0, slots := 0, locals := 15 } : Room).slots) h0 0 0 4 #[rv g, .val (.long acc), .second, iv (Int32.ofNat j), s4] [] := by
    intro m_; induction m_ with
    | zero =>
      intro j acc s4 hs hj
      refine C.iloadN d7_4 rfl rfl ?_
      refine C.aloadN d7_5 rfl rfl rfl ?_
      refine C.callV (argsL := []) (rest := [(.int (Int32.ofNat j))]) 1 (fun zz => con_hc l Z a0 hw n0 h0 zz g (Int32.ofNat lb.length) P3) P0 d7_6 rfl (tw hw 57 rfl) (tw hw 58 rfl) (tw hw 59 rfl) (tw hw 60 rfl) (tw hw 26 rfl) (tw hw 61 rfl) (by decide) pd_0 rfl rfl rfl (Nat.le_of_eq rfl) (by decide) (by decide) (by decide) (by decide) (fun v289 h290 r291 => ?_)
      obtain ⟨rfl, rfl⟩ := r291
      refine C.icmp_ge_t d7_9 (by decide) rfl (by rw [own_ltN (by omega) (by omega)]; omega) ?_
      refine C.lloadN d7_42 rfl rfl ?_
      refine C.lloadN d7_43 rfl rfl ?_
      refine C.bipush 29 d7_44 rfl rfl ?_
      refine C.lushr d7_46 rfl ?_
      refine C.lxor d7_47 rfl ?_
      refine C.ldc2J d7_48 rfl (tw hw 72 rfl) ?_
      refine C.lmul d7_51 rfl ?_
      refine C.lstoreN (Ls' := #[rv g, .val (.long ((acc ^^^ (XT.ushrL acc 29)) * (-7046029254386353131 : Int64))), .second, iv (Int32.ofNat j), s4]) d7_52 rfl rfl ?_
      refine C.lloadN d7_53 rfl rfl ?_
      refine C.lloadN d7_54 rfl rfl ?_
      refine C.bipush 32 d7_55 rfl rfl ?_
      refine C.lushr d7_57 rfl ?_
      refine C.lxor d7_58 rfl ?_
      refine C.l2i d7_59 rfl ?_
      exact C.retI d7_60 (by decide) (by decide) ⟨(Int64.toInt32 (((acc ^^^ (XT.ushrL acc 29)) * (-7046029254386353131 : Int64)) ^^^ (XT.ushrL ((acc ^^^ (XT.ushrL acc 29)) * (-7046029254386353131 : Int64)) 32))), rfl, rfl⟩
    | succ m_ ih =>
      intro j acc s4 hs hj
      obtain ⟨pp, hp, hm⟩ := own_at (lb := lb) (j := j) (by omega)
      refine C.iloadN d7_4 rfl rfl ?_
      refine C.aloadN d7_5 rfl rfl rfl ?_
      refine C.callV (argsL := []) (rest := [(.int (Int32.ofNat j))]) 1 (fun zz => con_hc l Z a0 hw n0 h0 zz g (Int32.ofNat lb.length) P3) P0 d7_6 rfl (tw hw 57 rfl) (tw hw 58 rfl) (tw hw 59 rfl) (tw hw 60 rfl) (tw hw 26 rfl) (tw hw 61 rfl) (by decide) pd_0 rfl rfl rfl (Nat.le_of_eq rfl) (by decide) (by decide) (by decide) (by decide) (fun v293 h294 r295 => ?_)
      obtain ⟨rfl, rfl⟩ := r295
      refine C.icmp_ge_f d7_9 rfl (by rw [own_ltN (by omega) (by omega)]; omega) ?_
      refine C.aloadN d7_12 rfl rfl rfl ?_
      refine C.iloadN d7_13 rfl rfl ?_
      refine C.callV (argsL := [(.int (Int32.ofNat j))]) (rest := []) 0 (fun zz => con_hi l Z a0 hw n0 h0 zz g gh (Int32.ofNat j) pp.1 HL P2 P5 (own_nn (by omega)) (by rw [own_toN (by omega)]; exact hhd _ _ hp)) P0 d7_14 rfl (tw hw 62 rfl) (tw hw 63 rfl) (tw hw 64 rfl) (tw hw 65 rfl) (tw hw 26 rfl) (tw hw 66 rfl) (by decide) pd_1 rfl rfl rfl (Nat.le_of_eq rfl) (by decide) (by decide) (by decide) (by decide) (fun v297 h298 r299 => ?_)
      obtain ⟨rfl, rfl⟩ := r299
      refine C.istore (Ls' := #[rv g, .val (.long acc), .second, iv (Int32.ofNat j), iv pp.1]) d7_17 rfl (by rcases hs with rfl | ⟨x9, rfl⟩ <;> rfl) ?_
      refine C.lloadN d7_19 rfl rfl ?_
      refine C.aloadN d7_20 rfl rfl rfl ?_
      refine C.iload d7_21 rfl rfl ?_
      refine C.callV (argsL := [(.int pp.1)]) (rest := [(.long acc)]) 2 (fun zz => con_wd l Z a0 hw n0 h0 zz g gw pp.1 pp.2 ws P1 P4 (hws _ hm).1 (hws _ hm).2) P0 d7_23 rfl (tw hw 67 rfl) (tw hw 68 rfl) (tw hw 69 rfl) (tw hw 70 rfl) (tw hw 26 rfl) (tw hw 71 rfl) (by decide) pd_2 rfl rfl rfl (Nat.le_of_eq rfl) (by decide) (by decide) (by decide) (by decide) (fun v301 h302 r303 => ?_)
      obtain ⟨rfl, rfl⟩ := r303
      refine C.ladd d7_26 rfl ?_
      refine C.ldc2J d7_27 rfl (tw hw 72 rfl) ?_
      refine C.lmul d7_30 rfl ?_
      refine C.iload d7_31 rfl rfl ?_
      refine C.i2l d7_33 rfl ?_
      refine C.ladd d7_34 rfl ?_
      refine C.lstoreN (Ls' := #[rv g, .val (.long (((acc + pp.2) * (-7046029254386353131 : Int64)) + (Int32.toInt64 pp.1))), .second, iv (Int32.ofNat j), iv pp.1]) d7_35 rfl rfl ?_
      refine C.iinc (Ls' := #[rv g, .val (.long (((acc + pp.2) * (-7046029254386353131 : Int64)) + (Int32.toInt64 pp.1))), .second, iv ((Int32.ofNat j) + 1), iv pp.1]) 1 d7_36 rfl rfl rfl rfl ?_
      refine C.goto d7_39 (by decide) rfl ?_
      rw [own_s1]
      exact ih (j + 1) _ _ (Or.inr ⟨_, rfl⟩) (by omega)
  exact JH288 lb.length 0 0 .unset (Or.inl rfl) (by omega)
def own_wdq (la : List (Int32 × Int64)) (WD : List Value) : Prop := ∀ (j : Nat) (p : Int32 × Int64), la[j]? = some p → WD[j]? = some (.long p.2)
theorem own_lenEq {a b : List (Int32 × Int64)} (ha : a.length ≤ 3) (hb : b.length ≤ 3) (h : Int32.ofNat a.length = Int32.ofNat b.length) : a.length = b.length := by
  have e := congrArg Int32.toInt h
  rw [own_toI (by omega), own_toI (by omega)] at e; omega
theorem own_upto {a b : List (Int32 × Int64)} {j : Nat} {p q : Int32 × Int64} (h : ∀ t, t < j → a[t]? = b[t]?) (hp : a[j]? = some p) (hq : b[j]? = some q) (e : p = q) (t : Nat) (ht : t < j + 1) : a[t]? = b[t]? := by
  rcases Nat.lt_or_eq_of_le (Nat.le_of_lt_succ ht) with g | g
  · exact h t g
  · subst g; rw [hp, hq, e]
theorem own_allEq {a b : List (Int32 × Int64)} (hl : a.length = b.length) (h : ∀ t, t < a.length → a[t]? = b[t]?) : a = b := by
  apply List.ext_getElem?
  intro t
  by_cases g : t < a.length
  · exact h t g
  · rw [List.getElem?_eq_none (by omega), List.getElem?_eq_none (by omega)]
theorem d17_0 : decode prog_22_method_10_code 0 = .ok (.aload_n 0, 1) := by decide +kernel
theorem d17_1 : decode prog_22_method_10_code 1 = .ok (.getfield 7, 3) := by decide +kernel
theorem d17_4 : decode prog_22_method_10_code 4 = .ok (.iload_n 1, 1) := by decide +kernel
theorem d17_5 : decode prog_22_method_10_code 5 = .ok (.iaload, 1) := by decide +kernel
theorem d17_6 : decode prog_22_method_10_code 6 = .ok (.istore 4, 2) := by decide +kernel
theorem d17_8 : decode prog_22_method_10_code 8 = .ok (.aload_n 0, 1) := by decide +kernel
theorem d17_9 : decode prog_22_method_10_code 9 = .ok (.getfield 23, 3) := by decide +kernel
theorem d17_12 : decode prog_22_method_10_code 12 = .ok (.iload_n 1, 1) := by decide +kernel
theorem d17_13 : decode prog_22_method_10_code 13 = .ok (.iaload, 1) := by decide +kernel
theorem d17_14 : decode prog_22_method_10_code 14 = .ok (.iload_n 2, 1) := by decide +kernel
theorem d17_15 : decode prog_22_method_10_code 15 = .ok (.if_icmp .ne 25, 3) := by decide +kernel
theorem d17_18 : decode prog_22_method_10_code 18 = .ok (.aload_n 0, 1) := by decide +kernel
theorem d17_19 : decode prog_22_method_10_code 19 = .ok (.getfield 7, 3) := by decide +kernel
theorem d17_22 : decode prog_22_method_10_code 22 = .ok (.iload_n 1, 1) := by decide +kernel
theorem d17_23 : decode prog_22_method_10_code 23 = .ok (.iconst 1, 1) := by decide +kernel
theorem d17_24 : decode prog_22_method_10_code 24 = .ok (.iadd, 1) := by decide +kernel
theorem d17_25 : decode prog_22_method_10_code 25 = .ok (.iaload, 1) := by decide +kernel
theorem d17_26 : decode prog_22_method_10_code 26 = .ok (.iload 4, 2) := by decide +kernel
theorem d17_28 : decode prog_22_method_10_code 28 = .ok (.isub, 1) := by decide +kernel
theorem d17_29 : decode prog_22_method_10_code 29 = .ok (.aload_n 3, 1) := by decide +kernel
theorem d17_30 : decode prog_22_method_10_code 30 = .ok (.invokevirtual 61, 3) := by decide +kernel
theorem d17_33 : decode prog_22_method_10_code 33 = .ok (.if_icmp .ne 7, 3) := by decide +kernel
theorem d17_36 : decode prog_22_method_10_code 36 = .ok (.iconst 1, 1) := by decide +kernel
theorem d17_37 : decode prog_22_method_10_code 37 = .ok (.goto 4, 3) := by decide +kernel
theorem d17_40 : decode prog_22_method_10_code 40 = .ok (.iconst 0, 1) := by decide +kernel
theorem d17_41 : decode prog_22_method_10_code 41 = .ok (.istore 5, 2) := by decide +kernel
theorem d17_43 : decode prog_22_method_10_code 43 = .ok (.iload 4, 2) := by decide +kernel
theorem d17_45 : decode prog_22_method_10_code 45 = .ok (.istore 6, 2) := by decide +kernel
theorem d17_47 : decode prog_22_method_10_code 47 = .ok (.iload 6, 2) := by decide +kernel
theorem d17_49 : decode prog_22_method_10_code 49 = .ok (.aload_n 0, 1) := by decide +kernel
theorem d17_50 : decode prog_22_method_10_code 50 = .ok (.getfield 7, 3) := by decide +kernel
theorem d17_53 : decode prog_22_method_10_code 53 = .ok (.iload_n 1, 1) := by decide +kernel
theorem d17_54 : decode prog_22_method_10_code 54 = .ok (.iconst 1, 1) := by decide +kernel
theorem d17_55 : decode prog_22_method_10_code 55 = .ok (.iadd, 1) := by decide +kernel
theorem d17_56 : decode prog_22_method_10_code 56 = .ok (.iaload, 1) := by decide +kernel
theorem d17_57 : decode prog_22_method_10_code 57 = .ok (.if_icmp .ge 61, 3) := by decide +kernel
theorem d17_60 : decode prog_22_method_10_code 60 = .ok (.iload 5, 2) := by decide +kernel
theorem d17_62 : decode prog_22_method_10_code 62 = .ok (.ifCond .eq 56, 3) := by decide +kernel
theorem d17_65 : decode prog_22_method_10_code 65 = .ok (.aload_n 3, 1) := by decide +kernel
theorem d17_66 : decode prog_22_method_10_code 66 = .ok (.iload 6, 2) := by decide +kernel
theorem d17_68 : decode prog_22_method_10_code 68 = .ok (.iload 4, 2) := by decide +kernel
theorem d17_70 : decode prog_22_method_10_code 70 = .ok (.isub, 1) := by decide +kernel
theorem d17_71 : decode prog_22_method_10_code 71 = .ok (.invokevirtual 80, 3) := by decide +kernel
theorem d17_74 : decode prog_22_method_10_code 74 = .ok (.istore 7, 2) := by decide +kernel
theorem d17_76 : decode prog_22_method_10_code 76 = .ok (.aload_n 0, 1) := by decide +kernel
theorem d17_77 : decode prog_22_method_10_code 77 = .ok (.getfield 13, 3) := by decide +kernel
theorem d17_80 : decode prog_22_method_10_code 80 = .ok (.iload 6, 2) := by decide +kernel
theorem d17_82 : decode prog_22_method_10_code 82 = .ok (.iaload, 1) := by decide +kernel
theorem d17_83 : decode prog_22_method_10_code 83 = .ok (.iload 7, 2) := by decide +kernel
theorem d17_85 : decode prog_22_method_10_code 85 = .ok (.if_icmp .ne 24, 3) := by decide +kernel
theorem d17_88 : decode prog_22_method_10_code 88 = .ok (.aload_n 0, 1) := by decide +kernel
theorem d17_89 : decode prog_22_method_10_code 89 = .ok (.getfield 16, 3) := by decide +kernel
theorem d17_92 : decode prog_22_method_10_code 92 = .ok (.iload 6, 2) := by decide +kernel
theorem d17_94 : decode prog_22_method_10_code 94 = .ok (.laload, 1) := by decide +kernel
theorem d17_95 : decode prog_22_method_10_code 95 = .ok (.aload_n 3, 1) := by decide +kernel
theorem d17_96 : decode prog_22_method_10_code 96 = .ok (.iload 7, 2) := by decide +kernel
theorem d17_98 : decode prog_22_method_10_code 98 = .ok (.invokevirtual 84, 3) := by decide +kernel
theorem d17_101 : decode prog_22_method_10_code 101 = .ok (.lcmp, 1) := by decide +kernel
theorem d17_102 : decode prog_22_method_10_code 102 = .ok (.ifCond .ne 7, 3) := by decide +kernel
theorem d17_105 : decode prog_22_method_10_code 105 = .ok (.iconst 1, 1) := by decide +kernel
theorem d17_106 : decode prog_22_method_10_code 106 = .ok (.goto 4, 3) := by decide +kernel
theorem d17_109 : decode prog_22_method_10_code 109 = .ok (.iconst 0, 1) := by decide +kernel
theorem d17_110 : decode prog_22_method_10_code 110 = .ok (.istore 5, 2) := by decide +kernel
theorem d17_112 : decode prog_22_method_10_code 112 = .ok (.iinc 6 1, 3) := by decide +kernel
theorem d17_115 : decode prog_22_method_10_code 115 = .ok (.goto (-68), 3) := by decide +kernel
theorem d17_118 : decode prog_22_method_10_code 118 = .ok (.iload 5, 2) := by decide +kernel
theorem d17_120 : decode prog_22_method_10_code 120 = .ok (.ireturn, 1) := by decide +kernel
theorem pf_5 : plainFor (⟨"com/example/detra/detra/StateSets", "equal", "(IILcom/example/detra/detra/SetWords;)Z"⟩ : MethodName) = true := by first | exact plainFor_of_name (by first | (simp [plainName, overriddenIn]; done) | decide +kernel) | decide +kernel
def Qcon_eq (Z : State) (n0 : Nat) (h0 : Heap) (o : Addr) (os : Addr) (oi : Addr) (ow : Addr) (oh : Addr) (g : Addr) (gw : Addr) (gh : Addr) (hs : Int32) (hv : Int32) (la : List (Int32 × Int64)) (lb : List (Int32 × Int64)) (ST : List Value) (IX : List Value) (WD : List Value) (HS : List Value) (HL : List Value) (ws : List Value) (v : Option Value) (h' : Heap) : Prop := ∃ (r : Int32), (v = some (.int r)) ∧ (h0 = h') ∧ (r = 0 ∨ (r = 1 ∧ la = lb))
theorem ef_con_eq (m : MethodId) (o : Addr) (g : Addr) (hs : Int32) : entryFrame m #[(.ref o), (.int 0), (.int hs), (.ref g)] 8 = mkF m 0 #[rv o, iv 0, iv hs, rv g, .unset, .unset, .unset, .unset] [] := by first | (simp [entryFrame, mkF, argsToLocals, Value.category]; done) | rfl
set_option maxRecDepth 65536 in
set_option maxHeartbeats 40000000 in
theorem con_eq (l : Launch) (Z : State) (a0 : Array Value) (hw : ∀ d ∈ tables_1, d.before a0 Z = true) (n0 : Nat) (h0 : Heap) (hn0 : n0 ≤ h0.size) (o : Addr) (os : Addr) (oi : Addr) (ow : Addr) (oh : Addr) (g : Addr) (gw : Addr) (gh : Addr) (hs : Int32) (hv : Int32) (la : List (Int32 × Int64)) (lb : List (Int32 × Int64)) (ST : List Value) (IX : List Value) (WD : List Value) (HS : List Value) (HL : List Value) (ws : List Value) (P0 : Exa Z h0 o kC1) (P1 : Fld Z h0 o kC1 "starts" "[I" (.ref os)) (P2 : Fld Z h0 o kC1 "indices" "[I" (.ref oi)) (P3 : Fld Z h0 o kC1 "words" "[J" (.ref ow)) (P4 : Fld Z h0 o kC1 "hashes" "[I" (.ref oh)) (P5 : Av Z h0 os .int ST) (P6 : Av Z h0 oi .int IX) (P7 : Av Z h0 ow .long WD) (P8 : Av Z h0 oh .int HS) (P9 : Exa Z h0 g kC0) (P10 : Fld Z h0 g kC0 "words" "[J" (.ref gw)) (P11 : Fld Z h0 g kC0 "held" "[I" (.ref gh)) (P12 : Fld Z h0 g kC0 "count" "I" (.int (Int32.ofNat lb.length))) (P13 : Av Z h0 gw .long ws) (P14 : Av Z h0 gh .int HL) (hst0 : ST[(0 : Int32).toNatClampNeg]? = some (.int 0)) (hst1 : ST[(1 : Int32).toNatClampNeg]? = some (.int (Int32.ofNat la.length))) (hhs : HS[(0 : Int32).toNatClampNeg]? = some (.int hv)) (hix : own_hd la IX) (hwd : own_wdq la WD) (hhd : own_hd lb HL) (hws : own_ws lb ws) (hla : la.length ≤ 3) (hlb : lb.length ≤ 3) :
    Con l Z n0 [] (⟨"com/example/detra/detra/StateSets", "equal", "(IILcom/example/detra/detra/SetWords;)Z"⟩ : MethodName) prog_22_method_10_code 8 (some .boolean) ({ frames := 1, cells := 0, slots := 0, locals := 15 } : Room) #[(.ref o), (.int 0), (.int hs), (.ref g)] h0 (Qcon_eq Z n0 h0 o os oi ow oh g gw gh hs hv la lb ST IX WD HS HL ws) := by
  refine Con.of pf_5 (fun m => ef_con_eq m o g hs) hn0 ?_
  intro p e s m below meth c C
  refine C.aloadN d17_0 rfl rfl rfl ?_
  refine C.getF d17_1 rfl (tw hw 12 rfl) P1 ?_
  refine C.iloadN d17_4 rfl rfl ?_
  refine C.iaload (.int 0) d17_5 rfl P5 (by decide) hst0 ?_
  refine C.istore (Ls' := #[rv o, iv 0, iv hs, rv g, iv 0, .unset, .unset, .unset]) d17_6 rfl rfl ?_
  have JE318 : ∀ (m_ j : Nat) (eq5 : Int32) (s7 : Slot) (hsl : s7 = .unset ∨ ∃ x, s7 = iv x) (hj : j + m_ = la.length) (he : eq5 = 0 ∨ (eq5 = 1 ∧ la.length = lb.length ∧ ∀ t, t < j → la[t]? = lb[t]?)), Go p l e ({ frames := 1, cells := 0, slots := 0, locals := 15 } : Room) s m #[(.ref o), (.int 0), (.int hs), (.ref g)] below meth c n0 (FinQ s n0 (Qcon_eq Z n0 h0 o os oi ow oh g gw gh hs hv la lb ST IX WD HS HL ws) ({ frames := 1, cells := 0, slots := 0, locals := 15 } : Room).cells ({ frames := 1, cells := 0, slots := 0, locals := 15 } : Room).slots) h0 0 0 47 #[rv o, iv 0, iv hs, rv g, iv 0, iv eq5, iv (Int32.ofNat j), s7] [] := by
    intro m_; induction m_ with
    | zero =>
      intro j eq5 s7 hsl hj he
      refine C.iload d17_47 rfl rfl ?_
      refine C.aloadN d17_49 rfl rfl rfl ?_
      refine C.getF d17_50 rfl (tw hw 12 rfl) P1 ?_
      refine C.iloadN d17_53 rfl rfl ?_
      refine C.iconst 1 d17_54 rfl rfl ?_
      refine C.iadd d17_55 rfl ?_
      refine Go.cI (y := 1) rfl ?_
      refine C.iaload (.int (Int32.ofNat la.length)) d17_56 rfl P5 (by decide) hst1 ?_
      refine C.icmp_ge_t d17_57 (by decide) rfl (by rw [own_ltN (by omega) (by omega)]; omega) ?_
      refine C.iload d17_118 rfl rfl ?_
      exact C.retZ d17_120 (by rcases he with h | ⟨h, -⟩ <;> rw [h] <;> rfl) (by decide) (by decide) ⟨eq5, rfl, rfl, he.imp id fun q => ⟨q.1, own_allEq q.2.1 (fun t ht => q.2.2 t (by omega))⟩⟩
    | succ m_ ih =>
      intro j eq5 s7 hsl hj he
      obtain ⟨pp, hp, hm⟩ := own_at (lb := la) (j := j) (by omega)
      rcases he with rfl | ⟨rfl, hlen, hpre⟩
      · refine C.iload d17_47 rfl rfl ?_
        refine C.aloadN d17_49 rfl rfl rfl ?_
        refine C.getF d17_50 rfl (tw hw 12 rfl) P1 ?_
        refine C.iloadN d17_53 rfl rfl ?_
        refine C.iconst 1 d17_54 rfl rfl ?_
        refine C.iadd d17_55 rfl ?_
        refine Go.cI (y := 1) rfl ?_
        refine C.iaload (.int (Int32.ofNat la.length)) d17_56 rfl P5 (by decide) hst1 ?_
        refine C.icmp_ge_f d17_57 rfl (by rw [own_ltN (by omega) (by omega)]; omega) ?_
        refine C.iload d17_60 rfl rfl ?_
        refine C.if_eq_t d17_62 (by decide) rfl (by decide) ?_
        refine C.iload d17_118 rfl rfl ?_
        exact C.retZ d17_120 rfl (by decide) (by decide) ⟨0, rfl, rfl, Or.inl rfl⟩
      obtain ⟨qq, hp2, hm2⟩ := own_at (lb := lb) (j := j) (by omega)
      refine C.iload d17_47 rfl rfl ?_
      refine C.aloadN d17_49 rfl rfl rfl ?_
      refine C.getF d17_50 rfl (tw hw 12 rfl) P1 ?_
      refine C.iloadN d17_53 rfl rfl ?_
      refine C.iconst 1 d17_54 rfl rfl ?_
      refine C.iadd d17_55 rfl ?_
      refine Go.cI (y := 1) rfl ?_
      refine C.iaload (.int (Int32.ofNat la.length)) d17_56 rfl P5 (by decide) hst1 ?_
      refine C.icmp_ge_f d17_57 rfl (by rw [own_ltN (by omega) (by omega)]; omega) ?_
      refine C.iload d17_60 rfl rfl ?_
      refine C.if_eq_f d17_62 rfl (by decide) ?_
      refine C.aloadN d17_65 rfl rfl rfl ?_
      refine C.iload d17_66 rfl rfl ?_
      refine C.iload d17_68 rfl rfl ?_
      refine C.isub d17_70 rfl ?_
      rw [Int32.sub_zero]
      refine C.callV (argsL := [(.int (Int32.ofNat j))]) (rest := []) 0 (fun zz => con_hi l Z a0 hw n0 h0 zz g gh (Int32.ofNat j) qq.1 HL P11 P14 (own_nn (by omega)) (by rw [own_toN (by omega)]; exact hhd _ _ hp2)) P9 d17_71 rfl (tw hw 62 rfl) (tw hw 63 rfl) (tw hw 64 rfl) (tw hw 65 rfl) (tw hw 26 rfl) (tw hw 66 rfl) (by decide) pd_1 rfl rfl rfl (Nat.le_of_eq rfl) (by decide) (by decide) (by decide) (by decide) (fun v319 h320 r321 => ?_)
      obtain ⟨rfl, rfl⟩ := r321
      refine C.istore (Ls' := #[rv o, iv 0, iv hs, rv g, iv 0, iv 1, iv (Int32.ofNat j), iv qq.1]) d17_74 rfl (by rcases hsl with rfl | ⟨x9, rfl⟩ <;> rfl) ?_
      refine C.aloadN d17_76 rfl rfl rfl ?_
      refine C.getF d17_77 rfl (tw hw 14 rfl) P2 ?_
      refine C.iload d17_80 rfl rfl ?_
      refine C.iaload (.int pp.1) d17_82 rfl P6 (own_nn (by omega)) (by rw [own_toN (by omega)]; exact hix _ _ hp) ?_
      refine C.iload d17_83 rfl rfl ?_
      refine C.icmp_ne d17_85 (by decide) rfl rfl (fun q85 => ?_) (fun q85 => ?_)
      · refine C.iconst 0 d17_109 rfl rfl ?_
        refine C.istore (Ls' := #[rv o, iv 0, iv hs, rv g, iv 0, iv 0, iv (Int32.ofNat j), iv qq.1]) d17_110 rfl rfl ?_
        refine C.iinc (Ls' := #[rv o, iv 0, iv hs, rv g, iv 0, iv 0, iv ((Int32.ofNat j) + 1), iv qq.1]) 1 d17_112 rfl rfl rfl rfl ?_
        refine C.goto d17_115 (by decide) rfl ?_
        rw [own_s1]
        exact ih (j + 1) 0 _ (Or.inr ⟨_, rfl⟩) (by omega) (Or.inl rfl)
      refine C.aloadN d17_88 rfl rfl rfl ?_
      refine C.getF d17_89 rfl (tw hw 16 rfl) P3 ?_
      refine C.iload d17_92 rfl rfl ?_
      refine C.laload (.long pp.2) d17_94 rfl P7 (own_nn (by omega)) (by rw [own_toN (by omega)]; exact hwd _ _ hp) ?_
      refine C.aloadN d17_95 rfl rfl rfl ?_
      refine C.iload d17_96 rfl rfl ?_
      refine C.callV (argsL := [(.int qq.1)]) (rest := [(.long pp.2)]) 2 (fun zz => con_wd l Z a0 hw n0 h0 zz g gw qq.1 qq.2 ws P10 P13 (hws _ hm2).1 (hws _ hm2).2) P9 d17_98 rfl (tw hw 67 rfl) (tw hw 68 rfl) (tw hw 69 rfl) (tw hw 70 rfl) (tw hw 26 rfl) (tw hw 71 rfl) (by decide) pd_2 rfl rfl rfl (Nat.le_of_eq rfl) (by decide) (by decide) (by decide) (by decide) (fun v323 h324 r325 => ?_)
      obtain ⟨rfl, rfl⟩ := r325
      refine C.lcmp d17_101 rfl ?_
      refine C.lif_ne d17_102 (by decide) rfl rfl (fun q102 => ?_) (fun q102 => ?_)
      · refine C.iconst 0 d17_109 rfl rfl ?_
        refine C.istore (Ls' := #[rv o, iv 0, iv hs, rv g, iv 0, iv 0, iv (Int32.ofNat j), iv qq.1]) d17_110 rfl rfl ?_
        refine C.iinc (Ls' := #[rv o, iv 0, iv hs, rv g, iv 0, iv 0, iv ((Int32.ofNat j) + 1), iv qq.1]) 1 d17_112 rfl rfl rfl rfl ?_
        refine C.goto d17_115 (by decide) rfl ?_
        rw [own_s1]
        exact ih (j + 1) 0 _ (Or.inr ⟨_, rfl⟩) (by omega) (Or.inl rfl)
      refine C.iconst 1 d17_105 rfl rfl ?_
      refine C.goto d17_106 (by decide) rfl ?_
      refine C.istore (Ls' := #[rv o, iv 0, iv hs, rv g, iv 0, iv 1, iv (Int32.ofNat j), iv qq.1]) d17_110 rfl rfl ?_
      refine C.iinc (Ls' := #[rv o, iv 0, iv hs, rv g, iv 0, iv 1, iv ((Int32.ofNat j) + 1), iv qq.1]) 1 d17_112 rfl rfl rfl rfl ?_
      refine C.goto d17_115 (by decide) rfl ?_
      rw [own_s1]
      exact ih (j + 1) 1 _ (Or.inr ⟨_, rfl⟩) (by omega) (Or.inr ⟨rfl, hlen, fun t ht => own_upto hpre hp hp2 (Prod.ext q85 q102) t ht⟩)
  refine C.aloadN d17_8 rfl rfl rfl ?_
  refine C.getF d17_9 rfl (tw hw 20 rfl) P4 ?_
  refine C.iloadN d17_12 rfl rfl ?_
  refine C.iaload (.int hv) d17_13 rfl P8 (by decide) hhs ?_
  refine C.iloadN d17_14 rfl rfl ?_
  refine C.icmp_ne d17_15 (by decide) rfl rfl (fun q15 => ?_) (fun q15 => ?_)
  · refine C.iconst 0 d17_40 rfl rfl ?_
    refine C.istore (Ls' := #[rv o, iv 0, iv hs, rv g, iv 0, iv 0, .unset, .unset]) d17_41 rfl rfl ?_
    refine C.iload d17_43 rfl rfl ?_
    refine C.istore (Ls' := #[rv o, iv 0, iv hs, rv g, iv 0, iv 0, iv 0, .unset]) d17_45 rfl rfl ?_
    exact JE318 la.length 0 0 .unset (Or.inl rfl) (by omega) (Or.inl rfl)
  refine C.aloadN d17_18 rfl rfl rfl ?_
  refine C.getF d17_19 rfl (tw hw 12 rfl) P1 ?_
  refine C.iloadN d17_22 rfl rfl ?_
  refine C.iconst 1 d17_23 rfl rfl ?_
  refine C.iadd d17_24 rfl ?_
  refine Go.cI (y := 1) rfl ?_
  refine C.iaload (.int (Int32.ofNat la.length)) d17_25 rfl P5 (by decide) hst1 ?_
  refine C.iload d17_26 rfl rfl ?_
  refine C.isub d17_28 rfl ?_
  rw [Int32.sub_zero]
  refine C.aloadN d17_29 rfl rfl rfl ?_
  refine C.callV (argsL := []) (rest := [(.int (Int32.ofNat la.length))]) 1 (fun zz => con_hc l Z a0 hw n0 h0 zz g (Int32.ofNat lb.length) P12) P9 d17_30 rfl (tw hw 57 rfl) (tw hw 58 rfl) (tw hw 59 rfl) (tw hw 60 rfl) (tw hw 26 rfl) (tw hw 61 rfl) (by decide) pd_0 rfl rfl rfl (Nat.le_of_eq rfl) (by decide) (by decide) (by decide) (by decide) (fun v327 h328 r329 => ?_)
  obtain ⟨rfl, rfl⟩ := r329
  refine C.icmp_ne d17_33 (by decide) rfl rfl (fun q33 => ?_) (fun q33 => ?_)
  · refine C.iconst 0 d17_40 rfl rfl ?_
    refine C.istore (Ls' := #[rv o, iv 0, iv hs, rv g, iv 0, iv 0, .unset, .unset]) d17_41 rfl rfl ?_
    refine C.iload d17_43 rfl rfl ?_
    refine C.istore (Ls' := #[rv o, iv 0, iv hs, rv g, iv 0, iv 0, iv 0, .unset]) d17_45 rfl rfl ?_
    exact JE318 la.length 0 0 .unset (Or.inl rfl) (by omega) (Or.inl rfl)
  refine C.iconst 1 d17_36 rfl rfl ?_
  refine C.goto d17_37 (by decide) rfl ?_
  refine C.istore (Ls' := #[rv o, iv 0, iv hs, rv g, iv 0, iv 1, .unset, .unset]) d17_41 rfl rfl ?_
  refine C.iload d17_43 rfl rfl ?_
  refine C.istore (Ls' := #[rv o, iv 0, iv hs, rv g, iv 0, iv 1, iv 0, .unset]) d17_45 rfl rfl ?_
  exact JE318 la.length 0 1 .unset (Or.inl rfl) (by omega) (Or.inr ⟨rfl, own_lenEq (by omega) (by omega) q33, fun t ht => absurd ht (Nat.not_lt_zero t)⟩)
theorem d12_0 : decode jdk_35_method_50_code 0 = .ok (.lload_n 0, 1) := by decide +kernel
theorem d12_1 : decode jdk_35_method_50_code 1 = .ok (.lload_n 0, 1) := by decide +kernel
theorem d12_2 : decode jdk_35_method_50_code 2 = .ok (.iconst 1, 1) := by decide +kernel
theorem d12_3 : decode jdk_35_method_50_code 3 = .ok (.lushr, 1) := by decide +kernel
theorem d12_4 : decode jdk_35_method_50_code 4 = .ok (.ldc2_w 314, 3) := by decide +kernel
theorem d12_7 : decode jdk_35_method_50_code 7 = .ok (.land, 1) := by decide +kernel
theorem d12_8 : decode jdk_35_method_50_code 8 = .ok (.lsub, 1) := by decide +kernel
theorem d12_9 : decode jdk_35_method_50_code 9 = .ok (.lstore_n 0, 1) := by decide +kernel
theorem d12_10 : decode jdk_35_method_50_code 10 = .ok (.lload_n 0, 1) := by decide +kernel
theorem d12_11 : decode jdk_35_method_50_code 11 = .ok (.ldc2_w 316, 3) := by decide +kernel
theorem d12_14 : decode jdk_35_method_50_code 14 = .ok (.land, 1) := by decide +kernel
theorem d12_15 : decode jdk_35_method_50_code 15 = .ok (.lload_n 0, 1) := by decide +kernel
theorem d12_16 : decode jdk_35_method_50_code 16 = .ok (.iconst 2, 1) := by decide +kernel
theorem d12_17 : decode jdk_35_method_50_code 17 = .ok (.lushr, 1) := by decide +kernel
theorem d12_18 : decode jdk_35_method_50_code 18 = .ok (.ldc2_w 316, 3) := by decide +kernel
theorem d12_21 : decode jdk_35_method_50_code 21 = .ok (.land, 1) := by decide +kernel
theorem d12_22 : decode jdk_35_method_50_code 22 = .ok (.ladd, 1) := by decide +kernel
theorem d12_23 : decode jdk_35_method_50_code 23 = .ok (.lstore_n 0, 1) := by decide +kernel
theorem d12_24 : decode jdk_35_method_50_code 24 = .ok (.lload_n 0, 1) := by decide +kernel
theorem d12_25 : decode jdk_35_method_50_code 25 = .ok (.lload_n 0, 1) := by decide +kernel
theorem d12_26 : decode jdk_35_method_50_code 26 = .ok (.iconst 4, 1) := by decide +kernel
theorem d12_27 : decode jdk_35_method_50_code 27 = .ok (.lushr, 1) := by decide +kernel
theorem d12_28 : decode jdk_35_method_50_code 28 = .ok (.ladd, 1) := by decide +kernel
theorem d12_29 : decode jdk_35_method_50_code 29 = .ok (.ldc2_w 318, 3) := by decide +kernel
theorem d12_32 : decode jdk_35_method_50_code 32 = .ok (.land, 1) := by decide +kernel
theorem d12_33 : decode jdk_35_method_50_code 33 = .ok (.lstore_n 0, 1) := by decide +kernel
theorem d12_34 : decode jdk_35_method_50_code 34 = .ok (.lload_n 0, 1) := by decide +kernel
theorem d12_35 : decode jdk_35_method_50_code 35 = .ok (.lload_n 0, 1) := by decide +kernel
theorem d12_36 : decode jdk_35_method_50_code 36 = .ok (.bipush 8, 2) := by decide +kernel
theorem d12_38 : decode jdk_35_method_50_code 38 = .ok (.lushr, 1) := by decide +kernel
theorem d12_39 : decode jdk_35_method_50_code 39 = .ok (.ladd, 1) := by decide +kernel
theorem d12_40 : decode jdk_35_method_50_code 40 = .ok (.lstore_n 0, 1) := by decide +kernel
theorem d12_41 : decode jdk_35_method_50_code 41 = .ok (.lload_n 0, 1) := by decide +kernel
theorem d12_42 : decode jdk_35_method_50_code 42 = .ok (.lload_n 0, 1) := by decide +kernel
theorem d12_43 : decode jdk_35_method_50_code 43 = .ok (.bipush 16, 2) := by decide +kernel
theorem d12_45 : decode jdk_35_method_50_code 45 = .ok (.lushr, 1) := by decide +kernel
theorem d12_46 : decode jdk_35_method_50_code 46 = .ok (.ladd, 1) := by decide +kernel
theorem d12_47 : decode jdk_35_method_50_code 47 = .ok (.lstore_n 0, 1) := by decide +kernel
theorem d12_48 : decode jdk_35_method_50_code 48 = .ok (.lload_n 0, 1) := by decide +kernel
theorem d12_49 : decode jdk_35_method_50_code 49 = .ok (.lload_n 0, 1) := by decide +kernel
theorem d12_50 : decode jdk_35_method_50_code 50 = .ok (.bipush 32, 2) := by decide +kernel
theorem d12_52 : decode jdk_35_method_50_code 52 = .ok (.lushr, 1) := by decide +kernel
theorem d12_53 : decode jdk_35_method_50_code 53 = .ok (.ladd, 1) := by decide +kernel
theorem d12_54 : decode jdk_35_method_50_code 54 = .ok (.lstore_n 0, 1) := by decide +kernel
theorem d12_55 : decode jdk_35_method_50_code 55 = .ok (.lload_n 0, 1) := by decide +kernel
theorem d12_56 : decode jdk_35_method_50_code 56 = .ok (.l2i, 1) := by decide +kernel
theorem d12_57 : decode jdk_35_method_50_code 57 = .ok (.bipush 127, 2) := by decide +kernel
theorem d12_59 : decode jdk_35_method_50_code 59 = .ok (.iand, 1) := by decide +kernel
theorem d12_60 : decode jdk_35_method_50_code 60 = .ok (.ireturn, 1) := by decide +kernel
theorem pf_6 : plainFor (⟨"java/lang/Long", "bitCount", "(J)I"⟩ : MethodName) = true := by first | exact plainFor_of_name (by first | (simp [plainName, overriddenIn]; done) | decide +kernel) | decide +kernel
def own_bc (w : Int64) : Int32 := ((Int64.toInt32 ((((((((w - ((XT.ushrL w 1) &&& 6148914691236517205)) &&& 3689348814741910323) + ((XT.ushrL (w - ((XT.ushrL w 1) &&& 6148914691236517205)) 2) &&& 3689348814741910323)) + (XT.ushrL (((w - ((XT.ushrL w 1) &&& 6148914691236517205)) &&& 3689348814741910323) + ((XT.ushrL (w - ((XT.ushrL w 1) &&& 6148914691236517205)) 2) &&& 3689348814741910323)) 4)) &&& 1085102592571150095) + (XT.ushrL (((((w - ((XT.ushrL w 1) &&& 6148914691236517205)) &&& 3689348814741910323) + ((XT.ushrL (w - ((XT.ushrL w 1) &&& 6148914691236517205)) 2) &&& 3689348814741910323)) + (XT.ushrL (((w - ((XT.ushrL w 1) &&& 6148914691236517205)) &&& 3689348814741910323) + ((XT.ushrL (w - ((XT.ushrL w 1) &&& 6148914691236517205)) 2) &&& 3689348814741910323)) 4)) &&& 1085102592571150095) 8)) + (XT.ushrL ((((((w - ((XT.ushrL w 1) &&& 6148914691236517205)) &&& 3689348814741910323) + ((XT.ushrL (w - ((XT.ushrL w 1) &&& 6148914691236517205)) 2) &&& 3689348814741910323)) + (XT.ushrL (((w - ((XT.ushrL w 1) &&& 6148914691236517205)) &&& 3689348814741910323) + ((XT.ushrL (w - ((XT.ushrL w 1) &&& 6148914691236517205)) 2) &&& 3689348814741910323)) 4)) &&& 1085102592571150095) + (XT.ushrL (((((w - ((XT.ushrL w 1) &&& 6148914691236517205)) &&& 3689348814741910323) + ((XT.ushrL (w - ((XT.ushrL w 1) &&& 6148914691236517205)) 2) &&& 3689348814741910323)) + (XT.ushrL (((w - ((XT.ushrL w 1) &&& 6148914691236517205)) &&& 3689348814741910323) + ((XT.ushrL (w - ((XT.ushrL w 1) &&& 6148914691236517205)) 2) &&& 3689348814741910323)) 4)) &&& 1085102592571150095) 8)) 16)) + (XT.ushrL (((((((w - ((XT.ushrL w 1) &&& 6148914691236517205)) &&& 3689348814741910323) + ((XT.ushrL (w - ((XT.ushrL w 1) &&& 6148914691236517205)) 2) &&& 3689348814741910323)) + (XT.ushrL (((w - ((XT.ushrL w 1) &&& 6148914691236517205)) &&& 3689348814741910323) + ((XT.ushrL (w - ((XT.ushrL w 1) &&& 6148914691236517205)) 2) &&& 3689348814741910323)) 4)) &&& 1085102592571150095) + (XT.ushrL (((((w - ((XT.ushrL w 1) &&& 6148914691236517205)) &&& 3689348814741910323) + ((XT.ushrL (w - ((XT.ushrL w 1) &&& 6148914691236517205)) 2) &&& 3689348814741910323)) + (XT.ushrL (((w - ((XT.ushrL w 1) &&& 6148914691236517205)) &&& 3689348814741910323) + ((XT.ushrL (w - ((XT.ushrL w 1) &&& 6148914691236517205)) 2) &&& 3689348814741910323)) 4)) &&& 1085102592571150095) 8)) + (XT.ushrL ((((((w - ((XT.ushrL w 1) &&& 6148914691236517205)) &&& 3689348814741910323) + ((XT.ushrL (w - ((XT.ushrL w 1) &&& 6148914691236517205)) 2) &&& 3689348814741910323)) + (XT.ushrL (((w - ((XT.ushrL w 1) &&& 6148914691236517205)) &&& 3689348814741910323) + ((XT.ushrL (w - ((XT.ushrL w 1) &&& 6148914691236517205)) 2) &&& 3689348814741910323)) 4)) &&& 1085102592571150095) + (XT.ushrL (((((w - ((XT.ushrL w 1) &&& 6148914691236517205)) &&& 3689348814741910323) + ((XT.ushrL (w - ((XT.ushrL w 1) &&& 6148914691236517205)) 2) &&& 3689348814741910323)) + (XT.ushrL (((w - ((XT.ushrL w 1) &&& 6148914691236517205)) &&& 3689348814741910323) + ((XT.ushrL (w - ((XT.ushrL w 1) &&& 6148914691236517205)) 2) &&& 3689348814741910323)) 4)) &&& 1085102592571150095) 8)) 16)) 32))) &&& 127)
def Qcon_bc (Z : State) (n0 : Nat) (h0 : Heap) (w : Int64) (v : Option Value) (h' : Heap) : Prop := (v = some (.int (own_bc w))) ∧ (h0 = h')
theorem ef_con_bc (m : MethodId) (w : Int64) : entryFrame m #[(.long w)] 2 = mkF m 0 #[.val (.long w), .second] [] := by first | (simp [entryFrame, mkF, argsToLocals, Value.category]; done) | rfl
set_option maxRecDepth 65536 in
set_option maxHeartbeats 40000000 in
theorem con_bc (l : Launch) (Z : State) (a0 : Array Value) (hw : ∀ d ∈ tables_1, d.before a0 Z = true) (n0 : Nat) (h0 : Heap) (hn0 : n0 ≤ h0.size) (w : Int64) :
    Con l Z n0 [] (⟨"java/lang/Long", "bitCount", "(J)I"⟩ : MethodName) jdk_35_method_50_code 2 (some .int) ({ frames := 0, cells := 0, slots := 0, locals := 0 } : Room) #[(.long w)] h0 (Qcon_bc Z n0 h0 w) := by
  refine Con.of pf_6 (fun m => ef_con_bc m w) hn0 ?_
  intro p e s m below meth c C
  refine C.lloadN d12_0 rfl rfl ?_
  refine C.lloadN d12_1 rfl rfl ?_
  refine C.iconst 1 d12_2 rfl rfl ?_
  refine C.lushr d12_3 rfl ?_
  refine C.ldc2J d12_4 rfl (tw hw 83 rfl) ?_
  refine C.land d12_7 rfl ?_
  refine C.lsub d12_8 rfl ?_
  refine C.lstoreN (Ls' := #[.val (.long (w - ((XT.ushrL w 1) &&& 6148914691236517205))), .second]) d12_9 rfl rfl ?_
  refine C.lloadN d12_10 rfl rfl ?_
  refine C.ldc2J d12_11 rfl (tw hw 84 rfl) ?_
  refine C.land d12_14 rfl ?_
  refine C.lloadN d12_15 rfl rfl ?_
  refine C.iconst 2 d12_16 rfl rfl ?_
  refine C.lushr d12_17 rfl ?_
  refine C.ldc2J d12_18 rfl (tw hw 84 rfl) ?_
  refine C.land d12_21 rfl ?_
  refine C.ladd d12_22 rfl ?_
  refine C.lstoreN (Ls' := #[.val (.long (((w - ((XT.ushrL w 1) &&& 6148914691236517205)) &&& 3689348814741910323) + ((XT.ushrL (w - ((XT.ushrL w 1) &&& 6148914691236517205)) 2) &&& 3689348814741910323))), .second]) d12_23 rfl rfl ?_
  refine C.lloadN d12_24 rfl rfl ?_
  refine C.lloadN d12_25 rfl rfl ?_
  refine C.iconst 4 d12_26 rfl rfl ?_
  refine C.lushr d12_27 rfl ?_
  refine C.ladd d12_28 rfl ?_
  refine C.ldc2J d12_29 rfl (tw hw 85 rfl) ?_
  refine C.land d12_32 rfl ?_
  refine C.lstoreN (Ls' := #[.val (.long (((((w - ((XT.ushrL w 1) &&& 6148914691236517205)) &&& 3689348814741910323) + ((XT.ushrL (w - ((XT.ushrL w 1) &&& 6148914691236517205)) 2) &&& 3689348814741910323)) + (XT.ushrL (((w - ((XT.ushrL w 1) &&& 6148914691236517205)) &&& 3689348814741910323) + ((XT.ushrL (w - ((XT.ushrL w 1) &&& 6148914691236517205)) 2) &&& 3689348814741910323)) 4)) &&& 1085102592571150095)), .second]) d12_33 rfl rfl ?_
  refine C.lloadN d12_34 rfl rfl ?_
  refine C.lloadN d12_35 rfl rfl ?_
  refine C.bipush 8 d12_36 rfl rfl ?_
  refine C.lushr d12_38 rfl ?_
  refine C.ladd d12_39 rfl ?_
  refine C.lstoreN (Ls' := #[.val (.long ((((((w - ((XT.ushrL w 1) &&& 6148914691236517205)) &&& 3689348814741910323) + ((XT.ushrL (w - ((XT.ushrL w 1) &&& 6148914691236517205)) 2) &&& 3689348814741910323)) + (XT.ushrL (((w - ((XT.ushrL w 1) &&& 6148914691236517205)) &&& 3689348814741910323) + ((XT.ushrL (w - ((XT.ushrL w 1) &&& 6148914691236517205)) 2) &&& 3689348814741910323)) 4)) &&& 1085102592571150095) + (XT.ushrL (((((w - ((XT.ushrL w 1) &&& 6148914691236517205)) &&& 3689348814741910323) + ((XT.ushrL (w - ((XT.ushrL w 1) &&& 6148914691236517205)) 2) &&& 3689348814741910323)) + (XT.ushrL (((w - ((XT.ushrL w 1) &&& 6148914691236517205)) &&& 3689348814741910323) + ((XT.ushrL (w - ((XT.ushrL w 1) &&& 6148914691236517205)) 2) &&& 3689348814741910323)) 4)) &&& 1085102592571150095) 8))), .second]) d12_40 rfl rfl ?_
  refine C.lloadN d12_41 rfl rfl ?_
  refine C.lloadN d12_42 rfl rfl ?_
  refine C.bipush 16 d12_43 rfl rfl ?_
  refine C.lushr d12_45 rfl ?_
  refine C.ladd d12_46 rfl ?_
  refine C.lstoreN (Ls' := #[.val (.long (((((((w - ((XT.ushrL w 1) &&& 6148914691236517205)) &&& 3689348814741910323) + ((XT.ushrL (w - ((XT.ushrL w 1) &&& 6148914691236517205)) 2) &&& 3689348814741910323)) + (XT.ushrL (((w - ((XT.ushrL w 1) &&& 6148914691236517205)) &&& 3689348814741910323) + ((XT.ushrL (w - ((XT.ushrL w 1) &&& 6148914691236517205)) 2) &&& 3689348814741910323)) 4)) &&& 1085102592571150095) + (XT.ushrL (((((w - ((XT.ushrL w 1) &&& 6148914691236517205)) &&& 3689348814741910323) + ((XT.ushrL (w - ((XT.ushrL w 1) &&& 6148914691236517205)) 2) &&& 3689348814741910323)) + (XT.ushrL (((w - ((XT.ushrL w 1) &&& 6148914691236517205)) &&& 3689348814741910323) + ((XT.ushrL (w - ((XT.ushrL w 1) &&& 6148914691236517205)) 2) &&& 3689348814741910323)) 4)) &&& 1085102592571150095) 8)) + (XT.ushrL ((((((w - ((XT.ushrL w 1) &&& 6148914691236517205)) &&& 3689348814741910323) + ((XT.ushrL (w - ((XT.ushrL w 1) &&& 6148914691236517205)) 2) &&& 3689348814741910323)) + (XT.ushrL (((w - ((XT.ushrL w 1) &&& 6148914691236517205)) &&& 3689348814741910323) + ((XT.ushrL (w - ((XT.ushrL w 1) &&& 6148914691236517205)) 2) &&& 3689348814741910323)) 4)) &&& 1085102592571150095) + (XT.ushrL (((((w - ((XT.ushrL w 1) &&& 6148914691236517205)) &&& 3689348814741910323) + ((XT.ushrL (w - ((XT.ushrL w 1) &&& 6148914691236517205)) 2) &&& 3689348814741910323)) + (XT.ushrL (((w - ((XT.ushrL w 1) &&& 6148914691236517205)) &&& 3689348814741910323) + ((XT.ushrL (w - ((XT.ushrL w 1) &&& 6148914691236517205)) 2) &&& 3689348814741910323)) 4)) &&& 1085102592571150095) 8)) 16))), .second]) d12_47 rfl rfl ?_
  refine C.lloadN d12_48 rfl rfl ?_
  refine C.lloadN d12_49 rfl rfl ?_
  refine C.bipush 32 d12_50 rfl rfl ?_
  refine C.lushr d12_52 rfl ?_
  refine C.ladd d12_53 rfl ?_
  refine C.lstoreN (Ls' := #[.val (.long ((((((((w - ((XT.ushrL w 1) &&& 6148914691236517205)) &&& 3689348814741910323) + ((XT.ushrL (w - ((XT.ushrL w 1) &&& 6148914691236517205)) 2) &&& 3689348814741910323)) + (XT.ushrL (((w - ((XT.ushrL w 1) &&& 6148914691236517205)) &&& 3689348814741910323) + ((XT.ushrL (w - ((XT.ushrL w 1) &&& 6148914691236517205)) 2) &&& 3689348814741910323)) 4)) &&& 1085102592571150095) + (XT.ushrL (((((w - ((XT.ushrL w 1) &&& 6148914691236517205)) &&& 3689348814741910323) + ((XT.ushrL (w - ((XT.ushrL w 1) &&& 6148914691236517205)) 2) &&& 3689348814741910323)) + (XT.ushrL (((w - ((XT.ushrL w 1) &&& 6148914691236517205)) &&& 3689348814741910323) + ((XT.ushrL (w - ((XT.ushrL w 1) &&& 6148914691236517205)) 2) &&& 3689348814741910323)) 4)) &&& 1085102592571150095) 8)) + (XT.ushrL ((((((w - ((XT.ushrL w 1) &&& 6148914691236517205)) &&& 3689348814741910323) + ((XT.ushrL (w - ((XT.ushrL w 1) &&& 6148914691236517205)) 2) &&& 3689348814741910323)) + (XT.ushrL (((w - ((XT.ushrL w 1) &&& 6148914691236517205)) &&& 3689348814741910323) + ((XT.ushrL (w - ((XT.ushrL w 1) &&& 6148914691236517205)) 2) &&& 3689348814741910323)) 4)) &&& 1085102592571150095) + (XT.ushrL (((((w - ((XT.ushrL w 1) &&& 6148914691236517205)) &&& 3689348814741910323) + ((XT.ushrL (w - ((XT.ushrL w 1) &&& 6148914691236517205)) 2) &&& 3689348814741910323)) + (XT.ushrL (((w - ((XT.ushrL w 1) &&& 6148914691236517205)) &&& 3689348814741910323) + ((XT.ushrL (w - ((XT.ushrL w 1) &&& 6148914691236517205)) 2) &&& 3689348814741910323)) 4)) &&& 1085102592571150095) 8)) 16)) + (XT.ushrL (((((((w - ((XT.ushrL w 1) &&& 6148914691236517205)) &&& 3689348814741910323) + ((XT.ushrL (w - ((XT.ushrL w 1) &&& 6148914691236517205)) 2) &&& 3689348814741910323)) + (XT.ushrL (((w - ((XT.ushrL w 1) &&& 6148914691236517205)) &&& 3689348814741910323) + ((XT.ushrL (w - ((XT.ushrL w 1) &&& 6148914691236517205)) 2) &&& 3689348814741910323)) 4)) &&& 1085102592571150095) + (XT.ushrL (((((w - ((XT.ushrL w 1) &&& 6148914691236517205)) &&& 3689348814741910323) + ((XT.ushrL (w - ((XT.ushrL w 1) &&& 6148914691236517205)) 2) &&& 3689348814741910323)) + (XT.ushrL (((w - ((XT.ushrL w 1) &&& 6148914691236517205)) &&& 3689348814741910323) + ((XT.ushrL (w - ((XT.ushrL w 1) &&& 6148914691236517205)) 2) &&& 3689348814741910323)) 4)) &&& 1085102592571150095) 8)) + (XT.ushrL ((((((w - ((XT.ushrL w 1) &&& 6148914691236517205)) &&& 3689348814741910323) + ((XT.ushrL (w - ((XT.ushrL w 1) &&& 6148914691236517205)) 2) &&& 3689348814741910323)) + (XT.ushrL (((w - ((XT.ushrL w 1) &&& 6148914691236517205)) &&& 3689348814741910323) + ((XT.ushrL (w - ((XT.ushrL w 1) &&& 6148914691236517205)) 2) &&& 3689348814741910323)) 4)) &&& 1085102592571150095) + (XT.ushrL (((((w - ((XT.ushrL w 1) &&& 6148914691236517205)) &&& 3689348814741910323) + ((XT.ushrL (w - ((XT.ushrL w 1) &&& 6148914691236517205)) 2) &&& 3689348814741910323)) + (XT.ushrL (((w - ((XT.ushrL w 1) &&& 6148914691236517205)) &&& 3689348814741910323) + ((XT.ushrL (w - ((XT.ushrL w 1) &&& 6148914691236517205)) 2) &&& 3689348814741910323)) 4)) &&& 1085102592571150095) 8)) 16)) 32))), .second]) d12_54 rfl rfl ?_
  refine C.lloadN d12_55 rfl rfl ?_
  refine C.l2i d12_56 rfl ?_
  refine C.bipush 127 d12_57 rfl rfl ?_
  refine C.iand d12_59 rfl ?_
  exact C.retI d12_60 (by decide) (by decide) ⟨rfl, rfl⟩
def own_ix (L : List (Int32 × Int64)) : List Value := L.map (fun p => .int p.1) ++ List.replicate (16 - L.length) (.int 0)
def own_wd (L : List (Int32 × Int64)) : List Value := L.map (fun p => .long p.2) ++ List.replicate (16 - L.length) (.long 0)
def own_sz (L : List (Int32 × Int64)) : Int32 := L.foldl (fun t p => t + own_bc p.2) 0
theorem own_ixl {L : List (Int32 × Int64)} (h : L.length ≤ 16) : (own_ix L).length = 16 := by simp [own_ix]; omega
theorem own_wdl {L : List (Int32 × Int64)} (h : L.length ≤ 16) : (own_wd L).length = 16 := by simp [own_wd]; omega
theorem own_rep {n : Nat} (v w : Value) (h : 0 < n) : (List.replicate n v).set 0 w = w :: List.replicate (n - 1) v := by
  match n, h with
  | n + 1, _ => rfl
theorem own_ixs {L : List (Int32 × Int64)} (p : Int32 × Int64) (h : L.length < 16) : (own_ix L).set L.length (.int p.1) = own_ix (L ++ [p]) := by
  simp only [own_ix]
  rw [List.set_append_right _ _ (by simp), List.length_map, Nat.sub_self, own_rep _ _ (by omega)]
  simp [show 16 - L.length - 1 = 16 - (L.length + 1) by omega]
theorem own_wds {L : List (Int32 × Int64)} (p : Int32 × Int64) (h : L.length < 16) : (own_wd L).set L.length (.long p.2) = own_wd (L ++ [p]) := by
  simp only [own_wd]
  rw [List.set_append_right _ _ (by simp), List.length_map, Nat.sub_self, own_rep _ _ (by omega)]
  simp [show 16 - L.length - 1 = 16 - (L.length + 1) by omega]
theorem own_ixg {L M : List (Int32 × Int64)} (p : Int32 × Int64) : (own_ix (L ++ [p] ++ M))[L.length]? = some (.int p.1) := by simp [own_ix]
theorem own_wdg {L M : List (Int32 × Int64)} (p : Int32 × Int64) : (own_wd (L ++ [p] ++ M))[L.length]? = some (.long p.2) := by simp [own_wd]
theorem own_tk {L M : List (Int32 × Int64)} {j : Nat} {p : Int32 × Int64} (h : M[j]? = some p) : L ++ M.take (j + 1) = (L ++ M.take j) ++ [p] := by
  rw [List.take_add_one, h]; simp
theorem own_szs {M : List (Int32 × Int64)} {j : Nat} {p : Int32 × Int64} (h : M[j]? = some p) : own_sz (M.take (j + 1)) = own_sz (M.take j) + own_bc p.2 := by
  rw [List.take_add_one, h]; simp [own_sz]
theorem own_sbN {a j : Nat} : Int32.ofNat (a + j) - Int32.ofNat a = Int32.ofNat j := by rw [Int32.ofNat_add, Int32.add_comm]; exact Int32.add_sub_cancel _ _
theorem own_ln {L M : List (Int32 × Int64)} {j : Nat} (h : j ≤ M.length) : (L ++ M.take j).length = L.length + j := by simp; omega
theorem d11_0 : decode prog_22_method_8_code 0 = .ok (.aload_n 0, 1) := by decide +kernel
theorem d11_1 : decode prog_22_method_8_code 1 = .ok (.dup, 1) := by decide +kernel
theorem d11_2 : decode prog_22_method_8_code 2 = .ok (.getfield 46, 3) := by decide +kernel
theorem d11_5 : decode prog_22_method_8_code 5 = .ok (.dup_x1, 1) := by decide +kernel
theorem d11_6 : decode prog_22_method_8_code 6 = .ok (.iconst 1, 1) := by decide +kernel
theorem d11_7 : decode prog_22_method_8_code 7 = .ok (.iadd, 1) := by decide +kernel
theorem d11_8 : decode prog_22_method_8_code 8 = .ok (.putfield 46, 3) := by decide +kernel
theorem d11_11 : decode prog_22_method_8_code 11 = .ok (.istore_n 3, 1) := by decide +kernel
theorem d11_12 : decode prog_22_method_8_code 12 = .ok (.aload_n 0, 1) := by decide +kernel
theorem d11_13 : decode prog_22_method_8_code 13 = .ok (.getfield 7, 3) := by decide +kernel
theorem d11_16 : decode prog_22_method_8_code 16 = .ok (.iload_n 3, 1) := by decide +kernel
theorem d11_17 : decode prog_22_method_8_code 17 = .ok (.iaload, 1) := by decide +kernel
theorem d11_18 : decode prog_22_method_8_code 18 = .ok (.istore 4, 2) := by decide +kernel
theorem d11_20 : decode prog_22_method_8_code 20 = .ok (.iload 4, 2) := by decide +kernel
theorem d11_22 : decode prog_22_method_8_code 22 = .ok (.aload_n 1, 1) := by decide +kernel
theorem d11_23 : decode prog_22_method_8_code 23 = .ok (.invokevirtual 61, 3) := by decide +kernel
theorem d11_26 : decode prog_22_method_8_code 26 = .ok (.iadd, 1) := by decide +kernel
theorem d11_27 : decode prog_22_method_8_code 27 = .ok (.istore 5, 2) := by decide +kernel
theorem d11_29 : decode prog_22_method_8_code 29 = .ok (.aload_n 0, 1) := by decide +kernel
theorem d11_30 : decode prog_22_method_8_code 30 = .ok (.getfield 46, 3) := by decide +kernel
theorem d11_33 : decode prog_22_method_8_code 33 = .ok (.aload_n 0, 1) := by decide +kernel
theorem d11_34 : decode prog_22_method_8_code 34 = .ok (.getfield 20, 3) := by decide +kernel
theorem d11_37 : decode prog_22_method_8_code 37 = .ok (.arraylength, 1) := by decide +kernel
theorem d11_38 : decode prog_22_method_8_code 38 = .ok (.if_icmp .ne 57, 3) := by decide +kernel
theorem d11_95 : decode prog_22_method_8_code 95 = .ok (.aload_n 0, 1) := by decide +kernel
theorem d11_96 : decode prog_22_method_8_code 96 = .ok (.getfield 13, 3) := by decide +kernel
theorem d11_99 : decode prog_22_method_8_code 99 = .ok (.arraylength, 1) := by decide +kernel
theorem d11_100 : decode prog_22_method_8_code 100 = .ok (.iload 5, 2) := by decide +kernel
theorem d11_102 : decode prog_22_method_8_code 102 = .ok (.if_icmp .ge 42, 3) := by decide +kernel
theorem d11_144 : decode prog_22_method_8_code 144 = .ok (.iload 4, 2) := by decide +kernel
theorem d11_146 : decode prog_22_method_8_code 146 = .ok (.istore 6, 2) := by decide +kernel
theorem d11_148 : decode prog_22_method_8_code 148 = .ok (.iload 6, 2) := by decide +kernel
theorem d11_150 : decode prog_22_method_8_code 150 = .ok (.iload 5, 2) := by decide +kernel
theorem d11_152 : decode prog_22_method_8_code 152 = .ok (.if_icmp .ge 62, 3) := by decide +kernel
theorem d11_155 : decode prog_22_method_8_code 155 = .ok (.aload_n 0, 1) := by decide +kernel
theorem d11_156 : decode prog_22_method_8_code 156 = .ok (.getfield 13, 3) := by decide +kernel
theorem d11_159 : decode prog_22_method_8_code 159 = .ok (.iload 6, 2) := by decide +kernel
theorem d11_161 : decode prog_22_method_8_code 161 = .ok (.aload_n 1, 1) := by decide +kernel
theorem d11_162 : decode prog_22_method_8_code 162 = .ok (.iload 6, 2) := by decide +kernel
theorem d11_164 : decode prog_22_method_8_code 164 = .ok (.iload 4, 2) := by decide +kernel
theorem d11_166 : decode prog_22_method_8_code 166 = .ok (.isub, 1) := by decide +kernel
theorem d11_167 : decode prog_22_method_8_code 167 = .ok (.invokevirtual 80, 3) := by decide +kernel
theorem d11_170 : decode prog_22_method_8_code 170 = .ok (.iastore, 1) := by decide +kernel
theorem d11_171 : decode prog_22_method_8_code 171 = .ok (.aload_n 0, 1) := by decide +kernel
theorem d11_172 : decode prog_22_method_8_code 172 = .ok (.getfield 16, 3) := by decide +kernel
theorem d11_175 : decode prog_22_method_8_code 175 = .ok (.iload 6, 2) := by decide +kernel
theorem d11_177 : decode prog_22_method_8_code 177 = .ok (.aload_n 1, 1) := by decide +kernel
theorem d11_178 : decode prog_22_method_8_code 178 = .ok (.aload_n 0, 1) := by decide +kernel
theorem d11_179 : decode prog_22_method_8_code 179 = .ok (.getfield 13, 3) := by decide +kernel
theorem d11_182 : decode prog_22_method_8_code 182 = .ok (.iload 6, 2) := by decide +kernel
theorem d11_184 : decode prog_22_method_8_code 184 = .ok (.iaload, 1) := by decide +kernel
theorem d11_185 : decode prog_22_method_8_code 185 = .ok (.invokevirtual 84, 3) := by decide +kernel
theorem d11_188 : decode prog_22_method_8_code 188 = .ok (.lastore, 1) := by decide +kernel
theorem d11_189 : decode prog_22_method_8_code 189 = .ok (.aload_n 0, 1) := by decide +kernel
theorem d11_190 : decode prog_22_method_8_code 190 = .ok (.getfield 20, 3) := by decide +kernel
theorem d11_193 : decode prog_22_method_8_code 193 = .ok (.iload_n 3, 1) := by decide +kernel
theorem d11_194 : decode prog_22_method_8_code 194 = .ok (.dup2, 1) := by decide +kernel
theorem d11_195 : decode prog_22_method_8_code 195 = .ok (.iaload, 1) := by decide +kernel
theorem d11_196 : decode prog_22_method_8_code 196 = .ok (.aload_n 0, 1) := by decide +kernel
theorem d11_197 : decode prog_22_method_8_code 197 = .ok (.getfield 16, 3) := by decide +kernel
theorem d11_200 : decode prog_22_method_8_code 200 = .ok (.iload 6, 2) := by decide +kernel
theorem d11_202 : decode prog_22_method_8_code 202 = .ok (.laload, 1) := by decide +kernel
theorem d11_203 : decode prog_22_method_8_code 203 = .ok (.invokestatic 88, 3) := by decide +kernel
theorem d11_206 : decode prog_22_method_8_code 206 = .ok (.iadd, 1) := by decide +kernel
theorem d11_207 : decode prog_22_method_8_code 207 = .ok (.iastore, 1) := by decide +kernel
theorem d11_208 : decode prog_22_method_8_code 208 = .ok (.iinc 6 1, 3) := by decide +kernel
theorem d11_211 : decode prog_22_method_8_code 211 = .ok (.goto (-63), 3) := by decide +kernel
theorem d11_214 : decode prog_22_method_8_code 214 = .ok (.aload_n 0, 1) := by decide +kernel
theorem d11_215 : decode prog_22_method_8_code 215 = .ok (.getfield 7, 3) := by decide +kernel
theorem d11_218 : decode prog_22_method_8_code 218 = .ok (.aload_n 0, 1) := by decide +kernel
theorem d11_219 : decode prog_22_method_8_code 219 = .ok (.getfield 46, 3) := by decide +kernel
theorem d11_222 : decode prog_22_method_8_code 222 = .ok (.iload 5, 2) := by decide +kernel
theorem d11_224 : decode prog_22_method_8_code 224 = .ok (.iastore, 1) := by decide +kernel
theorem d11_225 : decode prog_22_method_8_code 225 = .ok (.aload_n 0, 1) := by decide +kernel
theorem d11_226 : decode prog_22_method_8_code 226 = .ok (.getfield 23, 3) := by decide +kernel
theorem d11_229 : decode prog_22_method_8_code 229 = .ok (.iload_n 3, 1) := by decide +kernel
theorem d11_230 : decode prog_22_method_8_code 230 = .ok (.iload_n 2, 1) := by decide +kernel
theorem d11_231 : decode prog_22_method_8_code 231 = .ok (.iastore, 1) := by decide +kernel
theorem d11_232 : decode prog_22_method_8_code 232 = .ok (.iload_n 3, 1) := by decide +kernel
theorem d11_233 : decode prog_22_method_8_code 233 = .ok (.ireturn, 1) := by decide +kernel
theorem pf_7 : plainFor (⟨"com/example/detra/detra/StateSets", "add", "(Lcom/example/detra/detra/SetWords;I)I"⟩ : MethodName) = true := by first | exact plainFor_of_name (by first | (simp [plainName, overriddenIn]; done) | decide +kernel) | decide +kernel
theorem pd_3 : parseMethodDescriptor "(J)I" = some ⟨[.long], some .int⟩ := by decide +kernel
def Qcon_add0 (Z : State) (n0 : Nat) (h0 : Heap) (o : Addr) (os : Addr) (oi : Addr) (ow : Addr) (oz : Addr) (oh : Addr) (ot : Addr) (g : Addr) (gw : Addr) (gh : Addr) (hs : Int32) (l0 : List (Int32 × Int64)) (lb : List (Int32 × Int64)) (HL : List Value) (ws : List Value) (v : Option Value) (h' : Heap) : Prop := (v = some (.int 0)) ∧ (Keep h0 h' [o, os, oi, ow, oz, oh]) ∧ (Fld Z h' o kC1 "starts" "[I" (.ref os)) ∧ (Fld Z h' o kC1 "indices" "[I" (.ref oi)) ∧ (Fld Z h' o kC1 "words" "[J" (.ref ow)) ∧ (Fld Z h' o kC1 "sizes" "[I" (.ref oz)) ∧ (Fld Z h' o kC1 "hashes" "[I" (.ref oh)) ∧ (Fld Z h' o kC1 "table" "[I" (.ref ot)) ∧ (Fld Z h' o kC1 "size" "I" (.int 1)) ∧ (Av Z h' os .int (.int 0 :: .int (Int32.ofNat (l0.length + lb.length)) :: zI15)) ∧ (Av Z h' oi .int (own_ix (l0 ++ lb))) ∧ (Av Z h' ow .long (own_wd (l0 ++ lb))) ∧ (Av Z h' oz .int (.int (own_sz lb) :: zI15)) ∧ (Av Z h' oh .int (.int hs :: zI15))
theorem ef_con_add0 (m : MethodId) (o : Addr) (g : Addr) (hs : Int32) : entryFrame m #[(.ref o), (.ref g), (.int hs)] 7 = mkF m 0 #[rv o, rv g, iv hs, .unset, .unset, .unset, .unset] [] := by first | (simp [entryFrame, mkF, argsToLocals, Value.category]; done) | rfl
set_option maxRecDepth 65536 in
set_option maxHeartbeats 40000000 in
theorem con_add0 (l : Launch) (Z : State) (a0 : Array Value) (hw : ∀ d ∈ tables_1, d.before a0 Z = true) (n0 : Nat) (h0 : Heap) (hn0 : n0 ≤ h0.size) (o : Addr) (os : Addr) (oi : Addr) (ow : Addr) (oz : Addr) (oh : Addr) (ot : Addr) (g : Addr) (gw : Addr) (gh : Addr) (hs : Int32) (l0 : List (Int32 × Int64)) (lb : List (Int32 × Int64)) (HL : List Value) (ws : List Value) (P0 : Exa Z h0 o kC1) (P1 : Fld Z h0 o kC1 "starts" "[I" (.ref os)) (P2 : Fld Z h0 o kC1 "indices" "[I" (.ref oi)) (P3 : Fld Z h0 o kC1 "words" "[J" (.ref ow)) (P4 : Fld Z h0 o kC1 "sizes" "[I" (.ref oz)) (P5 : Fld Z h0 o kC1 "hashes" "[I" (.ref oh)) (P6 : Fld Z h0 o kC1 "table" "[I" (.ref ot)) (P7 : Fld Z h0 o kC1 "size" "I" (.int 0)) (P8 : Av Z h0 os .int zI17) (P9 : Av Z h0 oi .int (own_ix l0)) (P10 : Av Z h0 ow .long (own_wd l0)) (P11 : Av Z h0 oz .int zI16) (P12 : Av Z h0 oh .int zI16) (P13 : Exa Z h0 g kC0) (P14 : Fld Z h0 g kC0 "words" "[J" (.ref gw)) (P15 : Fld Z h0 g kC0 "held" "[I" (.ref gh)) (P16 : Fld Z h0 g kC0 "count" "I" (.int (Int32.ofNat lb.length))) (P17 : Av Z h0 gw .long ws) (P18 : Av Z h0 gh .int HL) (g_o : n0 ≤ o) (g_os : n0 ≤ os) (g_oi : n0 ≤ oi) (g_ow : n0 ≤ ow) (g_oz : n0 ≤ oz) (g_oh : n0 ≤ oh) (ne_o_os : o ≠ os) (ne_o_oi : o ≠ oi) (ne_o_ow : o ≠ ow) (ne_o_oz : o ≠ oz) (ne_o_oh : o ≠ oh) (ne_os_oi : os ≠ oi) (ne_os_ow : os ≠ ow) (ne_os_oz : os ≠ oz) (ne_os_oh : os ≠ oh) (ne_oi_ow : oi ≠ ow) (ne_oi_oz : oi ≠ oz) (ne_oi_oh : oi ≠ oh) (ne_ow_oz : ow ≠ oz) (ne_ow_oh : ow ≠ oh) (ne_oz_oh : oz ≠ oh) (ne_g_o : g ≠ o) (ne_g_os : g ≠ os) (ne_g_oi : g ≠ oi) (ne_g_ow : g ≠ ow) (ne_g_oz : g ≠ oz) (ne_g_oh : g ≠ oh) (ne_gw_o : gw ≠ o) (ne_gw_os : gw ≠ os) (ne_gw_oi : gw ≠ oi) (ne_gw_ow : gw ≠ ow) (ne_gw_oz : gw ≠ oz) (ne_gw_oh : gw ≠ oh) (ne_gh_o : gh ≠ o) (ne_gh_os : gh ≠ os) (ne_gh_oi : gh ≠ oi) (ne_gh_ow : gh ≠ ow) (ne_gh_oz : gh ≠ oz) (ne_gh_oh : gh ≠ oh) (hhd : own_hd lb HL) (hws : own_ws lb ws) (hl00 : l0 = []) (hlb : lb.length ≤ 3) :
    Con l Z n0 [] (⟨"com/example/detra/detra/StateSets", "add", "(Lcom/example/detra/detra/SetWords;I)I"⟩ : MethodName) prog_22_method_8_code 7 (some .int) ({ frames := 1, cells := 0, slots := 0, locals := 16 } : Room) #[(.ref o), (.ref g), (.int hs)] h0 (Qcon_add0 Z n0 h0 o os oi ow oz oh ot g gw gh hs l0 lb HL ws) := by
  refine Con.of pf_7 (fun m => ef_con_add0 m o g hs) hn0 ?_
  intro p e s m below meth c C
  have hl0 : l0.length ≤ 3 := by rw [hl00]; exact Nat.zero_le 3
  refine C.aloadN d11_0 rfl rfl rfl ?_
  refine C.dup d11_1 rfl rfl ?_
  refine C.getF d11_2 rfl (tw hw 77 rfl) P7 ?_
  refine C.dupX1 d11_5 rfl rfl rfl ?_
  refine C.iconst 1 d11_6 rfl rfl ?_
  refine C.iadd d11_7 rfl ?_
  refine Go.cI (y := 1) rfl ?_
  refine C.putF d11_8 rfl (tw hw 77 rfl) P7 P0 (Or.inl (tw hw 78 rfl)) (tw hw 3 rfl) (ty := .int) (by decide) rfl rfl g_o (fun h504 W505 F506 => ?_)
  have F507 := Exa.wr W505 P0
  have F508 := Fld.other W505 P1 (Or.inr (slot_ne (C := kC1) (t := (.array .int)) (t' := .int) (Or.inl (tw hw 13 rfl)) (Or.inl (tw hw 78 rfl)) (by decide) (by decide) (by decide)))
  have F509 := Fld.other W505 P2 (Or.inr (slot_ne (C := kC1) (t := (.array .int)) (t' := .int) (Or.inl (tw hw 15 rfl)) (Or.inl (tw hw 78 rfl)) (by decide) (by decide) (by decide)))
  have F510 := Fld.other W505 P3 (Or.inr (slot_ne (C := kC1) (t := (.array .long)) (t' := .int) (Or.inl (tw hw 17 rfl)) (Or.inl (tw hw 78 rfl)) (by decide) (by decide) (by decide)))
  have F511 := Fld.other W505 P4 (Or.inr (slot_ne (C := kC1) (t := (.array .int)) (t' := .int) (Or.inl (tw hw 19 rfl)) (Or.inl (tw hw 78 rfl)) (by decide) (by decide) (by decide)))
  have F512 := Fld.other W505 P5 (Or.inr (slot_ne (C := kC1) (t := (.array .int)) (t' := .int) (Or.inl (tw hw 21 rfl)) (Or.inl (tw hw 78 rfl)) (by decide) (by decide) (by decide)))
  have F513 := Fld.other W505 P6 (Or.inr (slot_ne (C := kC1) (t := (.array .int)) (t' := .int) (Or.inl (tw hw 23 rfl)) (Or.inl (tw hw 78 rfl)) (by decide) (by decide) (by decide)))
  have F514 := P8.other W505 (Ne.symm ne_o_os)
  have F515 := P9.other W505 (Ne.symm ne_o_oi)
  have F516 := P10.other W505 (Ne.symm ne_o_ow)
  have F517 := P11.other W505 (Ne.symm ne_o_oz)
  have F518 := P12.other W505 (Ne.symm ne_o_oh)
  have F519 := Exa.wr W505 P13
  have F520 := Fld.other W505 P14 (Or.inl ne_g_o)
  have F521 := Fld.other W505 P15 (Or.inl ne_g_o)
  have F522 := Fld.other W505 P16 (Or.inl ne_g_o)
  have F523 := P17.other W505 ne_gw_o
  have F524 := P18.other W505 ne_gh_o
  refine C.istoreN (Ls' := #[rv o, rv g, iv hs, iv 0, .unset, .unset, .unset]) d11_11 rfl rfl ?_
  refine C.aloadN d11_12 rfl rfl rfl ?_
  refine C.getF d11_13 rfl (tw hw 12 rfl) F508 ?_
  refine C.iloadN d11_16 rfl rfl ?_
  refine C.iaload (.int (Int32.ofNat l0.length)) d11_17 rfl F514 (by decide) (by subst hl00; rfl) ?_
  refine C.istore (Ls' := #[rv o, rv g, iv hs, iv 0, iv (Int32.ofNat l0.length), .unset, .unset]) d11_18 rfl rfl ?_
  refine C.iload d11_20 rfl rfl ?_
  refine C.aloadN d11_22 rfl rfl rfl ?_
  refine C.callV (argsL := []) (rest := [(.int (Int32.ofNat l0.length))]) 1 (fun zz => con_hc l Z a0 hw n0 h504 zz g (Int32.ofNat lb.length) F522) F519 d11_23 rfl (tw hw 57 rfl) (tw hw 58 rfl) (tw hw 59 rfl) (tw hw 60 rfl) (tw hw 26 rfl) (tw hw 61 rfl) (by decide) pd_0 rfl rfl rfl (Nat.le_of_eq rfl) (by decide) (by decide) (by decide) (by decide) (fun v525 h526 r527 => ?_)
  obtain ⟨rfl, rfl⟩ := r527
  refine C.iadd d11_26 rfl ?_
  rw [← Int32.ofNat_add]
  refine C.istore (Ls' := #[rv o, rv g, iv hs, iv 0, iv (Int32.ofNat l0.length), iv (Int32.ofNat (l0.length + lb.length)), .unset]) d11_27 rfl rfl ?_
  refine C.aloadN d11_29 rfl rfl rfl ?_
  refine C.getF d11_30 rfl (tw hw 77 rfl) F506 ?_
  refine C.aloadN d11_33 rfl rfl rfl ?_
  refine C.getF d11_34 rfl (tw hw 18 rfl) F511 ?_
  refine C.alen d11_37 rfl F517 ?_
  refine Go.cI (y := 16) rfl ?_
  refine C.icmp_ne_t d11_38 (by decide) rfl (by decide) ?_
  refine C.aloadN d11_95 rfl rfl rfl ?_
  refine C.getF d11_96 rfl (tw hw 14 rfl) F509 ?_
  refine C.alen d11_99 rfl F515 ?_
  rw [show (own_ix l0).length.toInt32 = (16 : Int32) by rw [own_ixl (by omega)]; rfl]
  refine C.iload d11_100 rfl rfl ?_
  refine C.icmp_ge_t d11_102 (by decide) rfl (by rw [show (16 : Int32) = Int32.ofNat 16 from rfl, own_ltN (by omega) (by omega)]; omega) ?_
  refine C.iload d11_144 rfl rfl ?_
  refine C.istore (Ls' := #[rv o, rv g, iv hs, iv 0, iv (Int32.ofNat l0.length), iv (Int32.ofNat (l0.length + lb.length)), iv (Int32.ofNat l0.length)]) d11_146 rfl rfl ?_
  have F529 : Av Z h504 oi .int (own_ix (l0 ++ lb.take 0)) := (by rw [List.take_zero, List.append_nil]; exact F515)
  have F530 : Av Z h504 ow .long (own_wd (l0 ++ lb.take 0)) := (by rw [List.take_zero, List.append_nil]; exact F516)
  have F531 : Av Z h504 oz .int (.int (own_sz (lb.take 0)) :: zI15) := F517
  have JA553 : ∀ (m_ j : Nat) (hJ532 : Heap) (hj : j + m_ = lb.length) (F533 : Exa Z hJ532 o kC1) (F534 : Fld Z hJ532 o kC1 "starts" "[I" (.ref os)) (F535 : Fld Z hJ532 o kC1 "indices" "[I" (.ref oi)) (F536 : Fld Z hJ532 o kC1 "words" "[J" (.ref ow)) (F537 : Fld Z hJ532 o kC1 "sizes" "[I" (.ref oz)) (F538 : Fld Z hJ532 o kC1 "hashes" "[I" (.ref oh)) (F539 : Fld Z hJ532 o kC1 "table" "[I" (.ref ot)) (F540 : Av Z hJ532 os .int zI17) (F541 : Av Z hJ532 oi .int (own_ix (l0 ++ lb.take j))) (F542 : Av Z hJ532 ow .long (own_wd (l0 ++ lb.take j))) (F543 : Av Z hJ532 oz .int (.int (own_sz (lb.take j)) :: zI15)) (F544 : Av Z hJ532 oh .int zI16) (F545 : Exa Z hJ532 g kC0) (F546 : Fld Z hJ532 g kC0 "words" "[J" (.ref gw)) (F547 : Fld Z hJ532 g kC0 "held" "[I" (.ref gh)) (F548 : Fld Z hJ532 g kC0 "count" "I" (.int (Int32.ofNat lb.length))) (F549 : Av Z hJ532 gw .long ws) (F550 : Av Z hJ532 gh .int HL) (F551 : Fld Z hJ532 o kC1 "size" "I" (.int 1)) (KJ552 : Keep h0 hJ532 [o, os, oi, ow, oz, oh]), Go p l e ({ frames := 1, cells := 0, slots := 0, locals := 16 } : Room) s m #[(.ref o), (.ref g), (.int hs)] below meth c n0 (FinQ s n0 (Qcon_add0 Z n0 h0 o os oi ow oz oh ot g gw gh hs l0 lb HL ws) ({ frames := 1, cells := 0, slots := 0, locals := 16 } : Room).cells ({ frames := 1, cells := 0, slots := 0, locals := 16 } : Room).slots) hJ532 0 0 148 #[rv o, rv g, iv hs, iv 0, iv (Int32.ofNat l0.length), iv (Int32.ofNat (l0.length + lb.length)), iv (Int32.ofNat (l0.length + j))] [] := by
    intro m_; induction m_ with
    | zero =>
      intro j hJ532 hj F533 F534 F535 F536 F537 F538 F539 F540 F541 F542 F543 F544 F545 F546 F547 F548 F549 F550 F551 KJ552
      obtain rfl : j = lb.length := by omega
      refine C.iload d11_148 rfl rfl ?_
      refine C.iload d11_150 rfl rfl ?_
      refine C.icmp_ge_t d11_152 (by decide) rfl (by rw [own_ltN (by omega) (by omega)]; omega) ?_
      refine C.aloadN d11_214 rfl rfl rfl ?_
      refine C.getF d11_215 rfl (tw hw 12 rfl) F534 ?_
      refine C.aloadN d11_218 rfl rfl rfl ?_
      refine C.getF d11_219 rfl (tw hw 77 rfl) F551 ?_
      refine C.iload d11_222 rfl rfl ?_
      refine C.iastore d11_224 rfl F540 g_os (by decide) (Nat.le_of_ble_eq_true rfl) (fun h554 W555 F556 => ?_)
      have F557 := Exa.wr W555 F533
      have F558 := Fld.other W555 F534 (Or.inl ne_o_os)
      have F559 := Fld.other W555 F535 (Or.inl ne_o_os)
      have F560 := Fld.other W555 F536 (Or.inl ne_o_os)
      have F561 := Fld.other W555 F537 (Or.inl ne_o_os)
      have F562 := Fld.other W555 F538 (Or.inl ne_o_os)
      have F563 := Fld.other W555 F539 (Or.inl ne_o_os)
      have F564 := F541.other W555 (Ne.symm ne_os_oi)
      have F565 := F542.other W555 (Ne.symm ne_os_ow)
      have F566 := F543.other W555 (Ne.symm ne_os_oz)
      have F567 := F544.other W555 (Ne.symm ne_os_oh)
      have F568 := Exa.wr W555 F545
      have F569 := Fld.other W555 F546 (Or.inl ne_g_os)
      have F570 := Fld.other W555 F547 (Or.inl ne_g_os)
      have F571 := Fld.other W555 F548 (Or.inl ne_g_os)
      have F572 := F549.other W555 ne_gw_os
      have F573 := F550.other W555 ne_gh_os
      have F574 := Fld.other W555 F551 (Or.inl ne_o_os)
      have F575 : Av Z h554 os .int (.int 0 :: .int (Int32.ofNat (l0.length + lb.length)) :: zI15) := F556
      refine C.aloadN d11_225 rfl rfl rfl ?_
      refine C.getF d11_226 rfl (tw hw 20 rfl) F562 ?_
      refine C.iloadN d11_229 rfl rfl ?_
      refine C.iloadN d11_230 rfl rfl ?_
      refine C.iastore d11_231 rfl F567 g_oh (by decide) (Nat.le_of_ble_eq_true rfl) (fun h576 W577 F578 => ?_)
      have F579 := Exa.wr W577 F557
      have F580 := Fld.other W577 F558 (Or.inl ne_o_oh)
      have F581 := Fld.other W577 F559 (Or.inl ne_o_oh)
      have F582 := Fld.other W577 F560 (Or.inl ne_o_oh)
      have F583 := Fld.other W577 F561 (Or.inl ne_o_oh)
      have F584 := Fld.other W577 F562 (Or.inl ne_o_oh)
      have F585 := Fld.other W577 F563 (Or.inl ne_o_oh)
      have F586 := F564.other W577 ne_oi_oh
      have F587 := F565.other W577 ne_ow_oh
      have F588 := F566.other W577 ne_oz_oh
      have F589 := Exa.wr W577 F568
      have F590 := Fld.other W577 F569 (Or.inl ne_g_oh)
      have F591 := Fld.other W577 F570 (Or.inl ne_g_oh)
      have F592 := Fld.other W577 F571 (Or.inl ne_g_oh)
      have F593 := F572.other W577 ne_gw_oh
      have F594 := F573.other W577 ne_gh_oh
      have F595 := Fld.other W577 F574 (Or.inl ne_o_oh)
      have F596 := F575.other W577 ne_os_oh
      have F597 : Av Z h576 oh .int (.int hs :: zI15) := F578
      refine C.iloadN d11_232 rfl rfl ?_
      exact C.retI d11_233 (by decide) (by decide) ⟨rfl, ((KJ552.wr W555 (Or.inl (List.mem_of_getElem? (i := 1) rfl))).wr W577 (Or.inl (List.mem_of_getElem? (i := 5) rfl))), F580, F581, F582, F583, F584, F585, F595, F596, (by have q := F586; rw [List.take_length] at q; exact q), (by have q := F587; rw [List.take_length] at q; exact q), (by have q := F588; rw [List.take_length] at q; exact q), F597⟩
    | succ m_ ih =>
      intro j hJ532 hj F533 F534 F535 F536 F537 F538 F539 F540 F541 F542 F543 F544 F545 F546 F547 F548 F549 F550 F551 KJ552
      obtain ⟨pp, hp, hm⟩ := own_at (lb := lb) (j := j) (by omega)
      refine C.iload d11_148 rfl rfl ?_
      refine C.iload d11_150 rfl rfl ?_
      refine C.icmp_ge_f d11_152 rfl (by rw [own_ltN (by omega) (by omega)]; omega) ?_
      refine C.aloadN d11_155 rfl rfl rfl ?_
      refine C.getF d11_156 rfl (tw hw 14 rfl) F535 ?_
      refine C.iload d11_159 rfl rfl ?_
      refine C.aloadN d11_161 rfl rfl rfl ?_
      refine C.iload d11_162 rfl rfl ?_
      refine C.iload d11_164 rfl rfl ?_
      refine C.isub d11_166 rfl ?_
      rw [own_sbN]
      refine C.callV (argsL := [(.int (Int32.ofNat j))]) (rest := [(.int (Int32.ofNat (l0.length + j))), (.ref oi)]) 2 (fun zz => con_hi l Z a0 hw n0 hJ532 zz g gh (Int32.ofNat j) pp.1 HL F547 F550 (own_nn (by omega)) (by rw [own_toN (by omega)]; exact hhd _ _ hp)) F545 d11_167 rfl (tw hw 62 rfl) (tw hw 63 rfl) (tw hw 64 rfl) (tw hw 65 rfl) (tw hw 26 rfl) (tw hw 66 rfl) (by decide) pd_1 rfl rfl rfl (Nat.le_of_eq rfl) (by decide) (by decide) (by decide) (by decide) (fun v598 h599 r600 => ?_)
      obtain ⟨rfl, rfl⟩ := r600
      refine C.iastore d11_170 rfl F541 g_oi (own_nn (by omega)) (by rw [own_toN (by omega), own_ixl (by rw [own_ln (by omega)]; omega)]; omega) (fun h602 W603 F604 => ?_)
      have F605 := Exa.wr W603 F533
      have F606 := Fld.other W603 F534 (Or.inl ne_o_oi)
      have F607 := Fld.other W603 F535 (Or.inl ne_o_oi)
      have F608 := Fld.other W603 F536 (Or.inl ne_o_oi)
      have F609 := Fld.other W603 F537 (Or.inl ne_o_oi)
      have F610 := Fld.other W603 F538 (Or.inl ne_o_oi)
      have F611 := Fld.other W603 F539 (Or.inl ne_o_oi)
      have F612 := F540.other W603 ne_os_oi
      have F613 := F542.other W603 (Ne.symm ne_oi_ow)
      have F614 := F543.other W603 (Ne.symm ne_oi_oz)
      have F615 := F544.other W603 (Ne.symm ne_oi_oh)
      have F616 := Exa.wr W603 F545
      have F617 := Fld.other W603 F546 (Or.inl ne_g_oi)
      have F618 := Fld.other W603 F547 (Or.inl ne_g_oi)
      have F619 := Fld.other W603 F548 (Or.inl ne_g_oi)
      have F620 := F549.other W603 ne_gw_oi
      have F621 := F550.other W603 ne_gh_oi
      have F622 := Fld.other W603 F551 (Or.inl ne_o_oi)
      have F623 : Av Z h602 oi .int (own_ix (l0 ++ lb.take (j + 1))) := (by have q := F604; rw [own_toN (by omega), ← own_ln (L := l0) (M := lb) (j := j) (by omega), own_ixs pp (by rw [own_ln (by omega)]; omega), ← own_tk hp] at q; exact q)
      refine C.aloadN d11_171 rfl rfl rfl ?_
      refine C.getF d11_172 rfl (tw hw 16 rfl) F608 ?_
      refine C.iload d11_175 rfl rfl ?_
      refine C.aloadN d11_177 rfl rfl rfl ?_
      refine C.aloadN d11_178 rfl rfl rfl ?_
      refine C.getF d11_179 rfl (tw hw 14 rfl) F607 ?_
      refine C.iload d11_182 rfl rfl ?_
      refine C.iaload (.int pp.1) d11_184 rfl F623 (own_nn (by omega)) (by rw [own_toN (by omega), ← own_ln (L := l0) (M := lb) (j := j) (by omega), own_tk hp]; have q := own_ixg (L := l0 ++ lb.take j) (M := []) pp; simpa using q) ?_
      refine C.callV (argsL := [(.int pp.1)]) (rest := [(.int (Int32.ofNat (l0.length + j))), (.ref ow)]) 2 (fun zz => con_wd l Z a0 hw n0 h602 zz g gw pp.1 pp.2 ws F617 F620 (hws _ hm).1 (hws _ hm).2) F616 d11_185 rfl (tw hw 67 rfl) (tw hw 68 rfl) (tw hw 69 rfl) (tw hw 70 rfl) (tw hw 26 rfl) (tw hw 71 rfl) (by decide) pd_2 rfl rfl rfl (Nat.le_of_eq rfl) (by decide) (by decide) (by decide) (by decide) (fun v624 h625 r626 => ?_)
      obtain ⟨rfl, rfl⟩ := r626
      refine C.lastore d11_188 rfl F613 g_ow (own_nn (by omega)) (by rw [own_toN (by omega), own_wdl (by rw [own_ln (by omega)]; omega)]; omega) (fun h628 W629 F630 => ?_)
      have F631 := Exa.wr W629 F605
      have F632 := Fld.other W629 F606 (Or.inl ne_o_ow)
      have F633 := Fld.other W629 F607 (Or.inl ne_o_ow)
      have F634 := Fld.other W629 F608 (Or.inl ne_o_ow)
      have F635 := Fld.other W629 F609 (Or.inl ne_o_ow)
      have F636 := Fld.other W629 F610 (Or.inl ne_o_ow)
      have F637 := Fld.other W629 F611 (Or.inl ne_o_ow)
      have F638 := F612.other W629 ne_os_ow
      have F639 := F614.other W629 (Ne.symm ne_ow_oz)
      have F640 := F615.other W629 (Ne.symm ne_ow_oh)
      have F641 := Exa.wr W629 F616
      have F642 := Fld.other W629 F617 (Or.inl ne_g_ow)
      have F643 := Fld.other W629 F618 (Or.inl ne_g_ow)
      have F644 := Fld.other W629 F619 (Or.inl ne_g_ow)
      have F645 := F620.other W629 ne_gw_ow
      have F646 := F621.other W629 ne_gh_ow
      have F647 := Fld.other W629 F622 (Or.inl ne_o_ow)
      have F648 := F623.other W629 ne_oi_ow
      have F649 : Av Z h628 ow .long (own_wd (l0 ++ lb.take (j + 1))) := (by have q := F630; rw [own_toN (by omega), ← own_ln (L := l0) (M := lb) (j := j) (by omega), own_wds pp (by rw [own_ln (by omega)]; omega), ← own_tk hp] at q; exact q)
      refine C.aloadN d11_189 rfl rfl rfl ?_
      refine C.getF d11_190 rfl (tw hw 18 rfl) F635 ?_
      refine C.iloadN d11_193 rfl rfl ?_
      refine C.dup2 d11_194 rfl rfl rfl ?_
      refine C.iaload (.int (own_sz (lb.take j))) d11_195 rfl F639 (by decide) rfl ?_
      refine C.aloadN d11_196 rfl rfl rfl ?_
      refine C.getF d11_197 rfl (tw hw 16 rfl) F634 ?_
      refine C.iload d11_200 rfl rfl ?_
      refine C.laload (.long pp.2) d11_202 rfl F649 (own_nn (by omega)) (by rw [own_toN (by omega), ← own_ln (L := l0) (M := lb) (j := j) (by omega), own_tk hp]; have q := own_wdg (L := l0 ++ lb.take j) (M := []) pp; simpa using q) ?_
      refine C.callS (argsL := [(.long pp.2)]) (rest := [(.int (own_sz (lb.take j))), (.int 0), (.ref oz)]) 3 (fun zz => con_bc l Z a0 hw n0 h628 zz pp.2 ) d11_203 rfl (tw hw 79 rfl) (tw hw 80 rfl) (tw hw 81 rfl) (tw hw 82 rfl) (by decide) pd_3 rfl rfl rfl (Nat.le_of_eq rfl) (by decide) (by decide) (by decide) (by decide) (fun v650 h651 r652 => ?_)
      obtain ⟨rfl, rfl⟩ := r652
      refine C.iadd d11_206 rfl ?_
      refine C.iastore d11_207 rfl F639 g_oz (by decide) (Nat.le_of_ble_eq_true rfl) (fun h654 W655 F656 => ?_)
      have F657 := Exa.wr W655 F631
      have F658 := Fld.other W655 F632 (Or.inl ne_o_oz)
      have F659 := Fld.other W655 F633 (Or.inl ne_o_oz)
      have F660 := Fld.other W655 F634 (Or.inl ne_o_oz)
      have F661 := Fld.other W655 F635 (Or.inl ne_o_oz)
      have F662 := Fld.other W655 F636 (Or.inl ne_o_oz)
      have F663 := Fld.other W655 F637 (Or.inl ne_o_oz)
      have F664 := F638.other W655 ne_os_oz
      have F665 := F640.other W655 (Ne.symm ne_oz_oh)
      have F666 := Exa.wr W655 F641
      have F667 := Fld.other W655 F642 (Or.inl ne_g_oz)
      have F668 := Fld.other W655 F643 (Or.inl ne_g_oz)
      have F669 := Fld.other W655 F644 (Or.inl ne_g_oz)
      have F670 := F645.other W655 ne_gw_oz
      have F671 := F646.other W655 ne_gh_oz
      have F672 := Fld.other W655 F647 (Or.inl ne_o_oz)
      have F673 := F648.other W655 ne_oi_oz
      have F674 := F649.other W655 ne_ow_oz
      have F675 : Av Z h654 oz .int (.int ((own_sz (lb.take j)) + (own_bc pp.2)) :: zI15) := F656
      have F676 : Av Z h654 oz .int (.int (own_sz (lb.take (j + 1))) :: zI15) := (by rw [own_szs hp]; exact F675)
      refine C.iinc (Ls' := #[rv o, rv g, iv hs, iv 0, iv (Int32.ofNat l0.length), iv (Int32.ofNat (l0.length + lb.length)), iv ((Int32.ofNat (l0.length + j)) + 1)]) 1 d11_208 rfl rfl rfl rfl ?_
      refine C.goto d11_211 (by decide) rfl ?_
      rw [own_s1, Nat.add_assoc]
      exact ih (j + 1) h654 (by omega) F657 F658 F659 F660 F661 F662 F663 F664 F673 F674 F676 F665 F666 F667 F668 F669 F670 F671 F672 (((KJ552.wr W603 (Or.inl (List.mem_of_getElem? (i := 2) rfl))).wr W629 (Or.inl (List.mem_of_getElem? (i := 3) rfl))).wr W655 (Or.inl (List.mem_of_getElem? (i := 4) rfl)))
  exact JA553 lb.length 0 h504 (by omega) F507 F508 F509 F510 F511 F512 F513 F514 F529 F530 F531 F518 F519 F520 F521 F522 F523 F524 F506 ((Keep.refl h0 [o, os, oi, ow, oz, oh]).wr W505 (Or.inl (List.mem_of_getElem? (i := 0) rfl)))
def Qcon_add1 (Z : State) (n0 : Nat) (h0 : Heap) (o : Addr) (os : Addr) (oi : Addr) (ow : Addr) (oz : Addr) (oh : Addr) (ot : Addr) (g : Addr) (gw : Addr) (gh : Addr) (hs : Int32) (l0 : List (Int32 × Int64)) (lb : List (Int32 × Int64)) (HL : List Value) (ws : List Value) (z0 : Int32) (v0 : Int32) (v : Option Value) (h' : Heap) : Prop := (v = some (.int 1)) ∧ (Keep h0 h' [o, os, oi, ow, oz, oh]) ∧ (Fld Z h' o kC1 "starts" "[I" (.ref os)) ∧ (Fld Z h' o kC1 "indices" "[I" (.ref oi)) ∧ (Fld Z h' o kC1 "words" "[J" (.ref ow)) ∧ (Fld Z h' o kC1 "sizes" "[I" (.ref oz)) ∧ (Fld Z h' o kC1 "hashes" "[I" (.ref oh)) ∧ (Fld Z h' o kC1 "table" "[I" (.ref ot)) ∧ (Fld Z h' o kC1 "size" "I" (.int 2)) ∧ (Av Z h' os .int (.int 0 :: .int (Int32.ofNat l0.length) :: .int (Int32.ofNat (l0.length + lb.length)) :: zI14)) ∧ (Av Z h' oi .int (own_ix (l0 ++ lb))) ∧ (Av Z h' ow .long (own_wd (l0 ++ lb))) ∧ (Av Z h' oz .int (.int z0 :: .int (own_sz lb) :: zI14)) ∧ (Av Z h' oh .int (.int v0 :: .int hs :: zI14))
theorem ef_con_add1 (m : MethodId) (o : Addr) (g : Addr) (hs : Int32) : entryFrame m #[(.ref o), (.ref g), (.int hs)] 7 = mkF m 0 #[rv o, rv g, iv hs, .unset, .unset, .unset, .unset] [] := by first | (simp [entryFrame, mkF, argsToLocals, Value.category]; done) | rfl
set_option maxRecDepth 65536 in
set_option maxHeartbeats 40000000 in
theorem con_add1 (l : Launch) (Z : State) (a0 : Array Value) (hw : ∀ d ∈ tables_1, d.before a0 Z = true) (n0 : Nat) (h0 : Heap) (hn0 : n0 ≤ h0.size) (o : Addr) (os : Addr) (oi : Addr) (ow : Addr) (oz : Addr) (oh : Addr) (ot : Addr) (g : Addr) (gw : Addr) (gh : Addr) (hs : Int32) (l0 : List (Int32 × Int64)) (lb : List (Int32 × Int64)) (HL : List Value) (ws : List Value) (z0 : Int32) (v0 : Int32) (P0 : Exa Z h0 o kC1) (P1 : Fld Z h0 o kC1 "starts" "[I" (.ref os)) (P2 : Fld Z h0 o kC1 "indices" "[I" (.ref oi)) (P3 : Fld Z h0 o kC1 "words" "[J" (.ref ow)) (P4 : Fld Z h0 o kC1 "sizes" "[I" (.ref oz)) (P5 : Fld Z h0 o kC1 "hashes" "[I" (.ref oh)) (P6 : Fld Z h0 o kC1 "table" "[I" (.ref ot)) (P7 : Fld Z h0 o kC1 "size" "I" (.int 1)) (P8 : Av Z h0 os .int (.int 0 :: .int (Int32.ofNat l0.length) :: zI15)) (P9 : Av Z h0 oi .int (own_ix l0)) (P10 : Av Z h0 ow .long (own_wd l0)) (P11 : Av Z h0 oz .int (.int z0 :: zI15)) (P12 : Av Z h0 oh .int (.int v0 :: zI15)) (P13 : Exa Z h0 g kC0) (P14 : Fld Z h0 g kC0 "words" "[J" (.ref gw)) (P15 : Fld Z h0 g kC0 "held" "[I" (.ref gh)) (P16 : Fld Z h0 g kC0 "count" "I" (.int (Int32.ofNat lb.length))) (P17 : Av Z h0 gw .long ws) (P18 : Av Z h0 gh .int HL) (g_o : n0 ≤ o) (g_os : n0 ≤ os) (g_oi : n0 ≤ oi) (g_ow : n0 ≤ ow) (g_oz : n0 ≤ oz) (g_oh : n0 ≤ oh) (ne_o_os : o ≠ os) (ne_o_oi : o ≠ oi) (ne_o_ow : o ≠ ow) (ne_o_oz : o ≠ oz) (ne_o_oh : o ≠ oh) (ne_os_oi : os ≠ oi) (ne_os_ow : os ≠ ow) (ne_os_oz : os ≠ oz) (ne_os_oh : os ≠ oh) (ne_oi_ow : oi ≠ ow) (ne_oi_oz : oi ≠ oz) (ne_oi_oh : oi ≠ oh) (ne_ow_oz : ow ≠ oz) (ne_ow_oh : ow ≠ oh) (ne_oz_oh : oz ≠ oh) (ne_g_o : g ≠ o) (ne_g_os : g ≠ os) (ne_g_oi : g ≠ oi) (ne_g_ow : g ≠ ow) (ne_g_oz : g ≠ oz) (ne_g_oh : g ≠ oh) (ne_gw_o : gw ≠ o) (ne_gw_os : gw ≠ os) (ne_gw_oi : gw ≠ oi) (ne_gw_ow : gw ≠ ow) (ne_gw_oz : gw ≠ oz) (ne_gw_oh : gw ≠ oh) (ne_gh_o : gh ≠ o) (ne_gh_os : gh ≠ os) (ne_gh_oi : gh ≠ oi) (ne_gh_ow : gh ≠ ow) (ne_gh_oz : gh ≠ oz) (ne_gh_oh : gh ≠ oh) (hhd : own_hd lb HL) (hws : own_ws lb ws) (hl0 : l0.length ≤ 3) (hlb : lb.length ≤ 3) :
    Con l Z n0 [] (⟨"com/example/detra/detra/StateSets", "add", "(Lcom/example/detra/detra/SetWords;I)I"⟩ : MethodName) prog_22_method_8_code 7 (some .int) ({ frames := 1, cells := 0, slots := 0, locals := 16 } : Room) #[(.ref o), (.ref g), (.int hs)] h0 (Qcon_add1 Z n0 h0 o os oi ow oz oh ot g gw gh hs l0 lb HL ws z0 v0) := by
  refine Con.of pf_7 (fun m => ef_con_add1 m o g hs) hn0 ?_
  intro p e s m below meth c C
  refine C.aloadN d11_0 rfl rfl rfl ?_
  refine C.dup d11_1 rfl rfl ?_
  refine C.getF d11_2 rfl (tw hw 77 rfl) P7 ?_
  refine C.dupX1 d11_5 rfl rfl rfl ?_
  refine C.iconst 1 d11_6 rfl rfl ?_
  refine C.iadd d11_7 rfl ?_
  refine Go.cI (y := 2) rfl ?_
  refine C.putF d11_8 rfl (tw hw 77 rfl) P7 P0 (Or.inl (tw hw 78 rfl)) (tw hw 3 rfl) (ty := .int) (by decide) rfl rfl g_o (fun h850 W851 F852 => ?_)
  have F853 := Exa.wr W851 P0
  have F854 := Fld.other W851 P1 (Or.inr (slot_ne (C := kC1) (t := (.array .int)) (t' := .int) (Or.inl (tw hw 13 rfl)) (Or.inl (tw hw 78 rfl)) (by decide) (by decide) (by decide)))
  have F855 := Fld.other W851 P2 (Or.inr (slot_ne (C := kC1) (t := (.array .int)) (t' := .int) (Or.inl (tw hw 15 rfl)) (Or.inl (tw hw 78 rfl)) (by decide) (by decide) (by decide)))
  have F856 := Fld.other W851 P3 (Or.inr (slot_ne (C := kC1) (t := (.array .long)) (t' := .int) (Or.inl (tw hw 17 rfl)) (Or.inl (tw hw 78 rfl)) (by decide) (by decide) (by decide)))
  have F857 := Fld.other W851 P4 (Or.inr (slot_ne (C := kC1) (t := (.array .int)) (t' := .int) (Or.inl (tw hw 19 rfl)) (Or.inl (tw hw 78 rfl)) (by decide) (by decide) (by decide)))
  have F858 := Fld.other W851 P5 (Or.inr (slot_ne (C := kC1) (t := (.array .int)) (t' := .int) (Or.inl (tw hw 21 rfl)) (Or.inl (tw hw 78 rfl)) (by decide) (by decide) (by decide)))
  have F859 := Fld.other W851 P6 (Or.inr (slot_ne (C := kC1) (t := (.array .int)) (t' := .int) (Or.inl (tw hw 23 rfl)) (Or.inl (tw hw 78 rfl)) (by decide) (by decide) (by decide)))
  have F860 := P8.other W851 (Ne.symm ne_o_os)
  have F861 := P9.other W851 (Ne.symm ne_o_oi)
  have F862 := P10.other W851 (Ne.symm ne_o_ow)
  have F863 := P11.other W851 (Ne.symm ne_o_oz)
  have F864 := P12.other W851 (Ne.symm ne_o_oh)
  have F865 := Exa.wr W851 P13
  have F866 := Fld.other W851 P14 (Or.inl ne_g_o)
  have F867 := Fld.other W851 P15 (Or.inl ne_g_o)
  have F868 := Fld.other W851 P16 (Or.inl ne_g_o)
  have F869 := P17.other W851 ne_gw_o
  have F870 := P18.other W851 ne_gh_o
  refine C.istoreN (Ls' := #[rv o, rv g, iv hs, iv 1, .unset, .unset, .unset]) d11_11 rfl rfl ?_
  refine C.aloadN d11_12 rfl rfl rfl ?_
  refine C.getF d11_13 rfl (tw hw 12 rfl) F854 ?_
  refine C.iloadN d11_16 rfl rfl ?_
  refine C.iaload (.int (Int32.ofNat l0.length)) d11_17 rfl F860 (by decide) rfl ?_
  refine C.istore (Ls' := #[rv o, rv g, iv hs, iv 1, iv (Int32.ofNat l0.length), .unset, .unset]) d11_18 rfl rfl ?_
  refine C.iload d11_20 rfl rfl ?_
  refine C.aloadN d11_22 rfl rfl rfl ?_
  refine C.callV (argsL := []) (rest := [(.int (Int32.ofNat l0.length))]) 1 (fun zz => con_hc l Z a0 hw n0 h850 zz g (Int32.ofNat lb.length) F868) F865 d11_23 rfl (tw hw 57 rfl) (tw hw 58 rfl) (tw hw 59 rfl) (tw hw 60 rfl) (tw hw 26 rfl) (tw hw 61 rfl) (by decide) pd_0 rfl rfl rfl (Nat.le_of_eq rfl) (by decide) (by decide) (by decide) (by decide) (fun v871 h872 r873 => ?_)
  obtain ⟨rfl, rfl⟩ := r873
  refine C.iadd d11_26 rfl ?_
  rw [← Int32.ofNat_add]
  refine C.istore (Ls' := #[rv o, rv g, iv hs, iv 1, iv (Int32.ofNat l0.length), iv (Int32.ofNat (l0.length + lb.length)), .unset]) d11_27 rfl rfl ?_
  refine C.aloadN d11_29 rfl rfl rfl ?_
  refine C.getF d11_30 rfl (tw hw 77 rfl) F852 ?_
  refine C.aloadN d11_33 rfl rfl rfl ?_
  refine C.getF d11_34 rfl (tw hw 18 rfl) F857 ?_
  refine C.alen d11_37 rfl F863 ?_
  refine Go.cI (y := 16) rfl ?_
  refine C.icmp_ne_t d11_38 (by decide) rfl (by decide) ?_
  refine C.aloadN d11_95 rfl rfl rfl ?_
  refine C.getF d11_96 rfl (tw hw 14 rfl) F855 ?_
  refine C.alen d11_99 rfl F861 ?_
  rw [show (own_ix l0).length.toInt32 = (16 : Int32) by rw [own_ixl (by omega)]; rfl]
  refine C.iload d11_100 rfl rfl ?_
  refine C.icmp_ge_t d11_102 (by decide) rfl (by rw [show (16 : Int32) = Int32.ofNat 16 from rfl, own_ltN (by omega) (by omega)]; omega) ?_
  refine C.iload d11_144 rfl rfl ?_
  refine C.istore (Ls' := #[rv o, rv g, iv hs, iv 1, iv (Int32.ofNat l0.length), iv (Int32.ofNat (l0.length + lb.length)), iv (Int32.ofNat l0.length)]) d11_146 rfl rfl ?_
  have F875 : Av Z h850 oi .int (own_ix (l0 ++ lb.take 0)) := (by rw [List.take_zero, List.append_nil]; exact F861)
  have F876 : Av Z h850 ow .long (own_wd (l0 ++ lb.take 0)) := (by rw [List.take_zero, List.append_nil]; exact F862)
  have F877 : Av Z h850 oz .int (.int z0 :: .int (own_sz (lb.take 0)) :: zI14) := F863
  have JA899 : ∀ (m_ j : Nat) (hJ878 : Heap) (hj : j + m_ = lb.length) (F879 : Exa Z hJ878 o kC1) (F880 : Fld Z hJ878 o kC1 "starts" "[I" (.ref os)) (F881 : Fld Z hJ878 o kC1 "indices" "[I" (.ref oi)) (F882 : Fld Z hJ878 o kC1 "words" "[J" (.ref ow)) (F883 : Fld Z hJ878 o kC1 "sizes" "[I" (.ref oz)) (F884 : Fld Z hJ878 o kC1 "hashes" "[I" (.ref oh)) (F885 : Fld Z hJ878 o kC1 "table" "[I" (.ref ot)) (F886 : Av Z hJ878 os .int (.int 0 :: .int (Int32.ofNat l0.length) :: zI15)) (F887 : Av Z hJ878 oi .int (own_ix (l0 ++ lb.take j))) (F888 : Av Z hJ878 ow .long (own_wd (l0 ++ lb.take j))) (F889 : Av Z hJ878 oz .int (.int z0 :: .int (own_sz (lb.take j)) :: zI14)) (F890 : Av Z hJ878 oh .int (.int v0 :: zI15)) (F891 : Exa Z hJ878 g kC0) (F892 : Fld Z hJ878 g kC0 "words" "[J" (.ref gw)) (F893 : Fld Z hJ878 g kC0 "held" "[I" (.ref gh)) (F894 : Fld Z hJ878 g kC0 "count" "I" (.int (Int32.ofNat lb.length))) (F895 : Av Z hJ878 gw .long ws) (F896 : Av Z hJ878 gh .int HL) (F897 : Fld Z hJ878 o kC1 "size" "I" (.int 2)) (KJ898 : Keep h0 hJ878 [o, os, oi, ow, oz, oh]), Go p l e ({ frames := 1, cells := 0, slots := 0, locals := 16 } : Room) s m #[(.ref o), (.ref g), (.int hs)] below meth c n0 (FinQ s n0 (Qcon_add1 Z n0 h0 o os oi ow oz oh ot g gw gh hs l0 lb HL ws z0 v0) ({ frames := 1, cells := 0, slots := 0, locals := 16 } : Room).cells ({ frames := 1, cells := 0, slots := 0, locals := 16 } : Room).slots) hJ878 0 0 148 #[rv o, rv g, iv hs, iv 1, iv (Int32.ofNat l0.length), iv (Int32.ofNat (l0.length + lb.length)), iv (Int32.ofNat (l0.length + j))] [] := by
    intro m_; induction m_ with
    | zero =>
      intro j hJ878 hj F879 F880 F881 F882 F883 F884 F885 F886 F887 F888 F889 F890 F891 F892 F893 F894 F895 F896 F897 KJ898
      obtain rfl : j = lb.length := by omega
      refine C.iload d11_148 rfl rfl ?_
      refine C.iload d11_150 rfl rfl ?_
      refine C.icmp_ge_t d11_152 (by decide) rfl (by rw [own_ltN (by omega) (by omega)]; omega) ?_
      refine C.aloadN d11_214 rfl rfl rfl ?_
      refine C.getF d11_215 rfl (tw hw 12 rfl) F880 ?_
      refine C.aloadN d11_218 rfl rfl rfl ?_
      refine C.getF d11_219 rfl (tw hw 77 rfl) F897 ?_
      refine C.iload d11_222 rfl rfl ?_
      refine C.iastore d11_224 rfl F886 g_os (by decide) (Nat.le_of_ble_eq_true rfl) (fun h900 W901 F902 => ?_)
      have F903 := Exa.wr W901 F879
      have F904 := Fld.other W901 F880 (Or.inl ne_o_os)
      have F905 := Fld.other W901 F881 (Or.inl ne_o_os)
      have F906 := Fld.other W901 F882 (Or.inl ne_o_os)
      have F907 := Fld.other W901 F883 (Or.inl ne_o_os)
      have F908 := Fld.other W901 F884 (Or.inl ne_o_os)
      have F909 := Fld.other W901 F885 (Or.inl ne_o_os)
      have F910 := F887.other W901 (Ne.symm ne_os_oi)
      have F911 := F888.other W901 (Ne.symm ne_os_ow)
      have F912 := F889.other W901 (Ne.symm ne_os_oz)
      have F913 := F890.other W901 (Ne.symm ne_os_oh)
      have F914 := Exa.wr W901 F891
      have F915 := Fld.other W901 F892 (Or.inl ne_g_os)
      have F916 := Fld.other W901 F893 (Or.inl ne_g_os)
      have F917 := Fld.other W901 F894 (Or.inl ne_g_os)
      have F918 := F895.other W901 ne_gw_os
      have F919 := F896.other W901 ne_gh_os
      have F920 := Fld.other W901 F897 (Or.inl ne_o_os)
      have F921 : Av Z h900 os .int (.int 0 :: .int (Int32.ofNat l0.length) :: .int (Int32.ofNat (l0.length + lb.length)) :: zI14) := F902
      refine C.aloadN d11_225 rfl rfl rfl ?_
      refine C.getF d11_226 rfl (tw hw 20 rfl) F908 ?_
      refine C.iloadN d11_229 rfl rfl ?_
      refine C.iloadN d11_230 rfl rfl ?_
      refine C.iastore d11_231 rfl F913 g_oh (by decide) (Nat.le_of_ble_eq_true rfl) (fun h922 W923 F924 => ?_)
      have F925 := Exa.wr W923 F903
      have F926 := Fld.other W923 F904 (Or.inl ne_o_oh)
      have F927 := Fld.other W923 F905 (Or.inl ne_o_oh)
      have F928 := Fld.other W923 F906 (Or.inl ne_o_oh)
      have F929 := Fld.other W923 F907 (Or.inl ne_o_oh)
      have F930 := Fld.other W923 F908 (Or.inl ne_o_oh)
      have F931 := Fld.other W923 F909 (Or.inl ne_o_oh)
      have F932 := F910.other W923 ne_oi_oh
      have F933 := F911.other W923 ne_ow_oh
      have F934 := F912.other W923 ne_oz_oh
      have F935 := Exa.wr W923 F914
      have F936 := Fld.other W923 F915 (Or.inl ne_g_oh)
      have F937 := Fld.other W923 F916 (Or.inl ne_g_oh)
      have F938 := Fld.other W923 F917 (Or.inl ne_g_oh)
      have F939 := F918.other W923 ne_gw_oh
      have F940 := F919.other W923 ne_gh_oh
      have F941 := Fld.other W923 F920 (Or.inl ne_o_oh)
      have F942 := F921.other W923 ne_os_oh
      have F943 : Av Z h922 oh .int (.int v0 :: .int hs :: zI14) := F924
      refine C.iloadN d11_232 rfl rfl ?_
      exact C.retI d11_233 (by decide) (by decide) ⟨rfl, ((KJ898.wr W901 (Or.inl (List.mem_of_getElem? (i := 1) rfl))).wr W923 (Or.inl (List.mem_of_getElem? (i := 5) rfl))), F926, F927, F928, F929, F930, F931, F941, F942, (by have q := F932; rw [List.take_length] at q; exact q), (by have q := F933; rw [List.take_length] at q; exact q), (by have q := F934; rw [List.take_length] at q; exact q), F943⟩
    | succ m_ ih =>
      intro j hJ878 hj F879 F880 F881 F882 F883 F884 F885 F886 F887 F888 F889 F890 F891 F892 F893 F894 F895 F896 F897 KJ898
      obtain ⟨pp, hp, hm⟩ := own_at (lb := lb) (j := j) (by omega)
      refine C.iload d11_148 rfl rfl ?_
      refine C.iload d11_150 rfl rfl ?_
      refine C.icmp_ge_f d11_152 rfl (by rw [own_ltN (by omega) (by omega)]; omega) ?_
      refine C.aloadN d11_155 rfl rfl rfl ?_
      refine C.getF d11_156 rfl (tw hw 14 rfl) F881 ?_
      refine C.iload d11_159 rfl rfl ?_
      refine C.aloadN d11_161 rfl rfl rfl ?_
      refine C.iload d11_162 rfl rfl ?_
      refine C.iload d11_164 rfl rfl ?_
      refine C.isub d11_166 rfl ?_
      rw [own_sbN]
      refine C.callV (argsL := [(.int (Int32.ofNat j))]) (rest := [(.int (Int32.ofNat (l0.length + j))), (.ref oi)]) 2 (fun zz => con_hi l Z a0 hw n0 hJ878 zz g gh (Int32.ofNat j) pp.1 HL F893 F896 (own_nn (by omega)) (by rw [own_toN (by omega)]; exact hhd _ _ hp)) F891 d11_167 rfl (tw hw 62 rfl) (tw hw 63 rfl) (tw hw 64 rfl) (tw hw 65 rfl) (tw hw 26 rfl) (tw hw 66 rfl) (by decide) pd_1 rfl rfl rfl (Nat.le_of_eq rfl) (by decide) (by decide) (by decide) (by decide) (fun v944 h945 r946 => ?_)
      obtain ⟨rfl, rfl⟩ := r946
      refine C.iastore d11_170 rfl F887 g_oi (own_nn (by omega)) (by rw [own_toN (by omega), own_ixl (by rw [own_ln (by omega)]; omega)]; omega) (fun h948 W949 F950 => ?_)
      have F951 := Exa.wr W949 F879
      have F952 := Fld.other W949 F880 (Or.inl ne_o_oi)
      have F953 := Fld.other W949 F881 (Or.inl ne_o_oi)
      have F954 := Fld.other W949 F882 (Or.inl ne_o_oi)
      have F955 := Fld.other W949 F883 (Or.inl ne_o_oi)
      have F956 := Fld.other W949 F884 (Or.inl ne_o_oi)
      have F957 := Fld.other W949 F885 (Or.inl ne_o_oi)
      have F958 := F886.other W949 ne_os_oi
      have F959 := F888.other W949 (Ne.symm ne_oi_ow)
      have F960 := F889.other W949 (Ne.symm ne_oi_oz)
      have F961 := F890.other W949 (Ne.symm ne_oi_oh)
      have F962 := Exa.wr W949 F891
      have F963 := Fld.other W949 F892 (Or.inl ne_g_oi)
      have F964 := Fld.other W949 F893 (Or.inl ne_g_oi)
      have F965 := Fld.other W949 F894 (Or.inl ne_g_oi)
      have F966 := F895.other W949 ne_gw_oi
      have F967 := F896.other W949 ne_gh_oi
      have F968 := Fld.other W949 F897 (Or.inl ne_o_oi)
      have F969 : Av Z h948 oi .int (own_ix (l0 ++ lb.take (j + 1))) := (by have q := F950; rw [own_toN (by omega), ← own_ln (L := l0) (M := lb) (j := j) (by omega), own_ixs pp (by rw [own_ln (by omega)]; omega), ← own_tk hp] at q; exact q)
      refine C.aloadN d11_171 rfl rfl rfl ?_
      refine C.getF d11_172 rfl (tw hw 16 rfl) F954 ?_
      refine C.iload d11_175 rfl rfl ?_
      refine C.aloadN d11_177 rfl rfl rfl ?_
      refine C.aloadN d11_178 rfl rfl rfl ?_
      refine C.getF d11_179 rfl (tw hw 14 rfl) F953 ?_
      refine C.iload d11_182 rfl rfl ?_
      refine C.iaload (.int pp.1) d11_184 rfl F969 (own_nn (by omega)) (by rw [own_toN (by omega), ← own_ln (L := l0) (M := lb) (j := j) (by omega), own_tk hp]; have q := own_ixg (L := l0 ++ lb.take j) (M := []) pp; simpa using q) ?_
      refine C.callV (argsL := [(.int pp.1)]) (rest := [(.int (Int32.ofNat (l0.length + j))), (.ref ow)]) 2 (fun zz => con_wd l Z a0 hw n0 h948 zz g gw pp.1 pp.2 ws F963 F966 (hws _ hm).1 (hws _ hm).2) F962 d11_185 rfl (tw hw 67 rfl) (tw hw 68 rfl) (tw hw 69 rfl) (tw hw 70 rfl) (tw hw 26 rfl) (tw hw 71 rfl) (by decide) pd_2 rfl rfl rfl (Nat.le_of_eq rfl) (by decide) (by decide) (by decide) (by decide) (fun v970 h971 r972 => ?_)
      obtain ⟨rfl, rfl⟩ := r972
      refine C.lastore d11_188 rfl F959 g_ow (own_nn (by omega)) (by rw [own_toN (by omega), own_wdl (by rw [own_ln (by omega)]; omega)]; omega) (fun h974 W975 F976 => ?_)
      have F977 := Exa.wr W975 F951
      have F978 := Fld.other W975 F952 (Or.inl ne_o_ow)
      have F979 := Fld.other W975 F953 (Or.inl ne_o_ow)
      have F980 := Fld.other W975 F954 (Or.inl ne_o_ow)
      have F981 := Fld.other W975 F955 (Or.inl ne_o_ow)
      have F982 := Fld.other W975 F956 (Or.inl ne_o_ow)
      have F983 := Fld.other W975 F957 (Or.inl ne_o_ow)
      have F984 := F958.other W975 ne_os_ow
      have F985 := F960.other W975 (Ne.symm ne_ow_oz)
      have F986 := F961.other W975 (Ne.symm ne_ow_oh)
      have F987 := Exa.wr W975 F962
      have F988 := Fld.other W975 F963 (Or.inl ne_g_ow)
      have F989 := Fld.other W975 F964 (Or.inl ne_g_ow)
      have F990 := Fld.other W975 F965 (Or.inl ne_g_ow)
      have F991 := F966.other W975 ne_gw_ow
      have F992 := F967.other W975 ne_gh_ow
      have F993 := Fld.other W975 F968 (Or.inl ne_o_ow)
      have F994 := F969.other W975 ne_oi_ow
      have F995 : Av Z h974 ow .long (own_wd (l0 ++ lb.take (j + 1))) := (by have q := F976; rw [own_toN (by omega), ← own_ln (L := l0) (M := lb) (j := j) (by omega), own_wds pp (by rw [own_ln (by omega)]; omega), ← own_tk hp] at q; exact q)
      refine C.aloadN d11_189 rfl rfl rfl ?_
      refine C.getF d11_190 rfl (tw hw 18 rfl) F981 ?_
      refine C.iloadN d11_193 rfl rfl ?_
      refine C.dup2 d11_194 rfl rfl rfl ?_
      refine C.iaload (.int (own_sz (lb.take j))) d11_195 rfl F985 (by decide) rfl ?_
      refine C.aloadN d11_196 rfl rfl rfl ?_
      refine C.getF d11_197 rfl (tw hw 16 rfl) F980 ?_
      refine C.iload d11_200 rfl rfl ?_
      refine C.laload (.long pp.2) d11_202 rfl F995 (own_nn (by omega)) (by rw [own_toN (by omega), ← own_ln (L := l0) (M := lb) (j := j) (by omega), own_tk hp]; have q := own_wdg (L := l0 ++ lb.take j) (M := []) pp; simpa using q) ?_
      refine C.callS (argsL := [(.long pp.2)]) (rest := [(.int (own_sz (lb.take j))), (.int 1), (.ref oz)]) 3 (fun zz => con_bc l Z a0 hw n0 h974 zz pp.2 ) d11_203 rfl (tw hw 79 rfl) (tw hw 80 rfl) (tw hw 81 rfl) (tw hw 82 rfl) (by decide) pd_3 rfl rfl rfl (Nat.le_of_eq rfl) (by decide) (by decide) (by decide) (by decide) (fun v996 h997 r998 => ?_)
      obtain ⟨rfl, rfl⟩ := r998
      refine C.iadd d11_206 rfl ?_
      refine C.iastore d11_207 rfl F985 g_oz (by decide) (Nat.le_of_ble_eq_true rfl) (fun h1000 W1001 F1002 => ?_)
      have F1003 := Exa.wr W1001 F977
      have F1004 := Fld.other W1001 F978 (Or.inl ne_o_oz)
      have F1005 := Fld.other W1001 F979 (Or.inl ne_o_oz)
      have F1006 := Fld.other W1001 F980 (Or.inl ne_o_oz)
      have F1007 := Fld.other W1001 F981 (Or.inl ne_o_oz)
      have F1008 := Fld.other W1001 F982 (Or.inl ne_o_oz)
      have F1009 := Fld.other W1001 F983 (Or.inl ne_o_oz)
      have F1010 := F984.other W1001 ne_os_oz
      have F1011 := F986.other W1001 (Ne.symm ne_oz_oh)
      have F1012 := Exa.wr W1001 F987
      have F1013 := Fld.other W1001 F988 (Or.inl ne_g_oz)
      have F1014 := Fld.other W1001 F989 (Or.inl ne_g_oz)
      have F1015 := Fld.other W1001 F990 (Or.inl ne_g_oz)
      have F1016 := F991.other W1001 ne_gw_oz
      have F1017 := F992.other W1001 ne_gh_oz
      have F1018 := Fld.other W1001 F993 (Or.inl ne_o_oz)
      have F1019 := F994.other W1001 ne_oi_oz
      have F1020 := F995.other W1001 ne_ow_oz
      have F1021 : Av Z h1000 oz .int (.int z0 :: .int ((own_sz (lb.take j)) + (own_bc pp.2)) :: zI14) := F1002
      have F1022 : Av Z h1000 oz .int (.int z0 :: .int (own_sz (lb.take (j + 1))) :: zI14) := (by rw [own_szs hp]; exact F1021)
      refine C.iinc (Ls' := #[rv o, rv g, iv hs, iv 1, iv (Int32.ofNat l0.length), iv (Int32.ofNat (l0.length + lb.length)), iv ((Int32.ofNat (l0.length + j)) + 1)]) 1 d11_208 rfl rfl rfl rfl ?_
      refine C.goto d11_211 (by decide) rfl ?_
      rw [own_s1, Nat.add_assoc]
      exact ih (j + 1) h1000 (by omega) F1003 F1004 F1005 F1006 F1007 F1008 F1009 F1010 F1019 F1020 F1022 F1011 F1012 F1013 F1014 F1015 F1016 F1017 F1018 (((KJ898.wr W949 (Or.inl (List.mem_of_getElem? (i := 2) rfl))).wr W975 (Or.inl (List.mem_of_getElem? (i := 3) rfl))).wr W1001 (Or.inl (List.mem_of_getElem? (i := 4) rfl)))
  exact JA899 lb.length 0 h850 (by omega) F853 F854 F855 F856 F857 F858 F859 F860 F875 F876 F877 F864 F865 F866 F867 F868 F869 F870 F852 ((Keep.refl h0 [o, os, oi, ow, oz, oh]).wr W851 (Or.inl (List.mem_of_getElem? (i := 0) rfl)))
theorem own_and_fin (t m : Int32) (k : Nat) (hm : m.toBitVec.toNat < k) : ∃ i : Fin k, t &&& m = Int32.ofNat i.val :=
  ⟨⟨(t &&& m).toBitVec.toNat, by simp only [Int32.toBitVec_and, BitVec.toNat_and]; exact Nat.lt_of_le_of_lt Nat.and_le_right hm⟩, by apply Int32.toBitVec_inj.1; apply BitVec.eq_of_toNat_eq; simp⟩
theorem own_sl (r : Int32) : ¬ (r &&& 31) < 0 ∧ (r &&& 31).toNatClampNeg < 32 := by
  obtain ⟨i, hi⟩ := own_and_fin r 31 32 (by decide)
  rw [hi]; exact ⟨own_nn (by omega), by rw [own_toN (by omega)]; exact i.isLt⟩
theorem own_nx (r : Int32) : ((r &&& 31) + 1 &&& 31).toNatClampNeg ≠ (r &&& 31).toNatClampNeg := by
  obtain ⟨i, hi⟩ := own_and_fin r 31 32 (by decide)
  rw [hi]; exact (show ∀ i : Fin 32, (Int32.ofNat i.val + 1 &&& 31).toNatClampNeg ≠ (Int32.ofNat i.val).toNatClampNeg by decide) i
theorem own_tb0 {j : Nat} (h : j < 32) : zI32[j]? = some (.int 0) := by show (List.replicate 32 (Value.int 0))[j]? = _; rw [List.getElem?_replicate, if_pos h]
theorem own_tb1 {j : Nat} (h : j < 32) : (zI32.set j (.int 1))[j]? = some (.int 1) := by simp [zI32, h]
theorem own_tbn {j k : Nat} (h : k < 32) (q : ¬ k = j) : (zI32.set j (.int 1))[k]? = some (.int 0) := by rw [List.getElem?_set_ne (fun e => q e.symm)]; exact own_tb0 h
def own_set (ST IX WD SZ : List Value) (b : Int32) (l : List (Int32 × Int64)) : Prop := ∃ sb : Nat, sb + l.length ≤ 16 ∧ (¬ b < 0 ∧ ¬ b + 1 < 0) ∧ ST[b.toNatClampNeg]? = some (.int (Int32.ofNat sb)) ∧ ST[(b + 1).toNatClampNeg]? = some (.int (Int32.ofNat (sb + l.length))) ∧ SZ[b.toNatClampNeg]? = some (.int (own_sz l)) ∧ ∀ (j : Nat) (p : Int32 × Int64), l[j]? = some p → IX[sb + j]? = some (.int p.1) ∧ WD[sb + j]? = some (.long p.2)
theorem own_ixa {L M : List (Int32 × Int64)} {j : Nat} {p : Int32 × Int64} (h : L[j]? = some p) : (own_ix (L ++ M))[j]? = some (.int p.1) ∧ (own_wd (L ++ M))[j]? = some (.long p.2) := by
  have hj : j < L.length := (List.getElem?_eq_some_iff.mp h).1
  constructor
  · simp only [own_ix, List.map_append]
    rw [List.getElem?_append_left (by simp; omega), List.getElem?_append_left (by simpa using hj), List.getElem?_map, h]; rfl
  · simp only [own_wd, List.map_append]
    rw [List.getElem?_append_left (by simp; omega), List.getElem?_append_left (by simpa using hj), List.getElem?_map, h]; rfl
theorem own_ixb {L M : List (Int32 × Int64)} {j : Nat} {p : Int32 × Int64} (h : M[j]? = some p) : (own_ix (L ++ M))[L.length + j]? = some (.int p.1) ∧ (own_wd (L ++ M))[L.length + j]? = some (.long p.2) := by
  have hj : j < M.length := (List.getElem?_eq_some_iff.mp h).1
  constructor
  · simp only [own_ix, List.map_append]
    rw [List.getElem?_append_left (by simp; omega), List.getElem?_append_right (by simp), List.length_map, Nat.add_sub_cancel_left, List.getElem?_map, h]; rfl
  · simp only [own_wd, List.map_append]
    rw [List.getElem?_append_left (by simp; omega), List.getElem?_append_right (by simp), List.length_map, Nat.add_sub_cancel_left, List.getElem?_map, h]; rfl
theorem own_hdix (L : List (Int32 × Int64)) : own_hd L (own_ix L) := fun j p h => by have := (own_ixa (M := []) h).1; rwa [List.append_nil] at this
theorem own_wdix (L : List (Int32 × Int64)) : own_wdq L (own_wd L) := fun j p h => by have := (own_ixa (M := []) h).2; rwa [List.append_nil] at this
theorem own_set0 (l M : List (Int32 × Int64)) (z ST' SZ' : List Value) (h : l.length ≤ 3) : own_set (.int 0 :: .int (Int32.ofNat l.length) :: ST') (own_ix (l ++ M)) (own_wd (l ++ M)) (.int (own_sz l) :: SZ') 0 l :=
  ⟨0, by omega, ⟨by decide, by decide⟩, rfl, by rw [Nat.zero_add]; rfl, rfl, fun j p hp => by rw [Nat.zero_add]; exact own_ixa hp⟩
theorem own_set1 (l M : List (Int32 × Int64)) (ST' SZ' : List Value) (z : Value) (h : l.length ≤ 3) (g : M.length ≤ 3) : own_set (.int 0 :: .int (Int32.ofNat l.length) :: .int (Int32.ofNat (l.length + M.length)) :: ST') (own_ix (l ++ M)) (own_wd (l ++ M)) (z :: .int (own_sz M) :: SZ') 1 M :=
  ⟨l.length, by omega, ⟨by decide, by decide⟩, rfl, rfl, rfl, fun j p hp => own_ixb hp⟩
theorem d5_0 : decode prog_22_method_2_code 0 = .ok (.aload_n 1, 1) := by decide +kernel
theorem d5_1 : decode prog_22_method_2_code 1 = .ok (.invokevirtual 29, 3) := by decide +kernel
theorem d5_4 : decode prog_22_method_2_code 4 = .ok (.aload_n 1, 1) := by decide +kernel
theorem d5_5 : decode prog_22_method_2_code 5 = .ok (.invokestatic 34, 3) := by decide +kernel
theorem d5_8 : decode prog_22_method_2_code 8 = .ok (.istore_n 2, 1) := by decide +kernel
theorem d5_9 : decode prog_22_method_2_code 9 = .ok (.aload_n 0, 1) := by decide +kernel
theorem d5_10 : decode prog_22_method_2_code 10 = .ok (.getfield 26, 3) := by decide +kernel
theorem d5_13 : decode prog_22_method_2_code 13 = .ok (.arraylength, 1) := by decide +kernel
theorem d5_14 : decode prog_22_method_2_code 14 = .ok (.iconst 1, 1) := by decide +kernel
theorem d5_15 : decode prog_22_method_2_code 15 = .ok (.isub, 1) := by decide +kernel
theorem d5_16 : decode prog_22_method_2_code 16 = .ok (.istore_n 3, 1) := by decide +kernel
theorem d5_17 : decode prog_22_method_2_code 17 = .ok (.iload_n 2, 1) := by decide +kernel
theorem d5_18 : decode prog_22_method_2_code 18 = .ok (.iload_n 3, 1) := by decide +kernel
theorem d5_19 : decode prog_22_method_2_code 19 = .ok (.iand, 1) := by decide +kernel
theorem d5_20 : decode prog_22_method_2_code 20 = .ok (.istore 4, 2) := by decide +kernel
theorem d5_22 : decode prog_22_method_2_code 22 = .ok (.aload_n 0, 1) := by decide +kernel
theorem d5_23 : decode prog_22_method_2_code 23 = .ok (.getfield 26, 3) := by decide +kernel
theorem d5_26 : decode prog_22_method_2_code 26 = .ok (.iload 4, 2) := by decide +kernel
theorem d5_28 : decode prog_22_method_2_code 28 = .ok (.iaload, 1) := by decide +kernel
theorem d5_29 : decode prog_22_method_2_code 29 = .ok (.ifCond .eq 32, 3) := by decide +kernel
theorem d5_32 : decode prog_22_method_2_code 32 = .ok (.aload_n 0, 1) := by decide +kernel
theorem d5_33 : decode prog_22_method_2_code 33 = .ok (.aload_n 0, 1) := by decide +kernel
theorem d5_34 : decode prog_22_method_2_code 34 = .ok (.getfield 26, 3) := by decide +kernel
theorem d5_37 : decode prog_22_method_2_code 37 = .ok (.iload 4, 2) := by decide +kernel
theorem d5_39 : decode prog_22_method_2_code 39 = .ok (.iaload, 1) := by decide +kernel
theorem d5_40 : decode prog_22_method_2_code 40 = .ok (.iconst 1, 1) := by decide +kernel
theorem d5_41 : decode prog_22_method_2_code 41 = .ok (.isub, 1) := by decide +kernel
theorem d5_42 : decode prog_22_method_2_code 42 = .ok (.iload_n 2, 1) := by decide +kernel
theorem d5_43 : decode prog_22_method_2_code 43 = .ok (.aload_n 1, 1) := by decide +kernel
theorem d5_44 : decode prog_22_method_2_code 44 = .ok (.invokevirtual 38, 3) := by decide +kernel
theorem d5_47 : decode prog_22_method_2_code 47 = .ok (.ifCond .ne 14, 3) := by decide +kernel
theorem d5_50 : decode prog_22_method_2_code 50 = .ok (.iload 4, 2) := by decide +kernel
theorem d5_52 : decode prog_22_method_2_code 52 = .ok (.iconst 1, 1) := by decide +kernel
theorem d5_53 : decode prog_22_method_2_code 53 = .ok (.iadd, 1) := by decide +kernel
theorem d5_54 : decode prog_22_method_2_code 54 = .ok (.iload_n 3, 1) := by decide +kernel
theorem d5_55 : decode prog_22_method_2_code 55 = .ok (.iand, 1) := by decide +kernel
theorem d5_56 : decode prog_22_method_2_code 56 = .ok (.istore 4, 2) := by decide +kernel
theorem d5_58 : decode prog_22_method_2_code 58 = .ok (.goto (-36), 3) := by decide +kernel
theorem d5_61 : decode prog_22_method_2_code 61 = .ok (.aload_n 0, 1) := by decide +kernel
theorem d5_62 : decode prog_22_method_2_code 62 = .ok (.getfield 26, 3) := by decide +kernel
theorem d5_65 : decode prog_22_method_2_code 65 = .ok (.iload 4, 2) := by decide +kernel
theorem d5_67 : decode prog_22_method_2_code 67 = .ok (.iaload, 1) := by decide +kernel
theorem d5_68 : decode prog_22_method_2_code 68 = .ok (.iconst 1, 1) := by decide +kernel
theorem d5_69 : decode prog_22_method_2_code 69 = .ok (.isub, 1) := by decide +kernel
theorem d5_70 : decode prog_22_method_2_code 70 = .ok (.istore 5, 2) := by decide +kernel
theorem d5_72 : decode prog_22_method_2_code 72 = .ok (.iload 5, 2) := by decide +kernel
theorem d5_74 : decode prog_22_method_2_code 74 = .ok (.ifCond .ge 40, 3) := by decide +kernel
theorem d5_77 : decode prog_22_method_2_code 77 = .ok (.aload_n 0, 1) := by decide +kernel
theorem d5_78 : decode prog_22_method_2_code 78 = .ok (.aload_n 1, 1) := by decide +kernel
theorem d5_79 : decode prog_22_method_2_code 79 = .ok (.iload_n 2, 1) := by decide +kernel
theorem d5_80 : decode prog_22_method_2_code 80 = .ok (.invokevirtual 42, 3) := by decide +kernel
theorem d5_83 : decode prog_22_method_2_code 83 = .ok (.istore 5, 2) := by decide +kernel
theorem d5_85 : decode prog_22_method_2_code 85 = .ok (.aload_n 0, 1) := by decide +kernel
theorem d5_86 : decode prog_22_method_2_code 86 = .ok (.getfield 26, 3) := by decide +kernel
theorem d5_89 : decode prog_22_method_2_code 89 = .ok (.iload 4, 2) := by decide +kernel
theorem d5_91 : decode prog_22_method_2_code 91 = .ok (.aload_n 0, 1) := by decide +kernel
theorem d5_92 : decode prog_22_method_2_code 92 = .ok (.getfield 46, 3) := by decide +kernel
theorem d5_95 : decode prog_22_method_2_code 95 = .ok (.iastore, 1) := by decide +kernel
theorem d5_96 : decode prog_22_method_2_code 96 = .ok (.iconst 2, 1) := by decide +kernel
theorem d5_97 : decode prog_22_method_2_code 97 = .ok (.aload_n 0, 1) := by decide +kernel
theorem d5_98 : decode prog_22_method_2_code 98 = .ok (.getfield 46, 3) := by decide +kernel
theorem d5_101 : decode prog_22_method_2_code 101 = .ok (.imul, 1) := by decide +kernel
theorem d5_102 : decode prog_22_method_2_code 102 = .ok (.aload_n 0, 1) := by decide +kernel
theorem d5_103 : decode prog_22_method_2_code 103 = .ok (.getfield 26, 3) := by decide +kernel
theorem d5_106 : decode prog_22_method_2_code 106 = .ok (.arraylength, 1) := by decide +kernel
theorem d5_107 : decode prog_22_method_2_code 107 = .ok (.if_icmp .le 7, 3) := by decide +kernel
theorem d5_114 : decode prog_22_method_2_code 114 = .ok (.iload 5, 2) := by decide +kernel
theorem d5_116 : decode prog_22_method_2_code 116 = .ok (.ireturn, 1) := by decide +kernel
theorem pf_8 : plainFor (⟨"com/example/detra/detra/StateSets", "number", "(Lcom/example/detra/detra/SetWords;)I"⟩ : MethodName) = true := by first | exact plainFor_of_name (by first | (simp [plainName, overriddenIn]; done) | decide +kernel) | decide +kernel
theorem pd_4 : parseMethodDescriptor "()V" = some ⟨[], none⟩ := by decide +kernel
theorem pd_5 : parseMethodDescriptor "(Lcom/example/detra/detra/SetWords;)I" = some ⟨[(.object "com/example/detra/detra/SetWords")], some .int⟩ := by decide +kernel
theorem pd_6 : parseMethodDescriptor "(Lcom/example/detra/detra/SetWords;I)I" = some ⟨[(.object "com/example/detra/detra/SetWords"), .int], some .int⟩ := by decide +kernel
def Qcon_num0 (Z : State) (n0 : Nat) (h0 : Heap) (o : Addr) (os : Addr) (oi : Addr) (ow : Addr) (oz : Addr) (oh : Addr) (ot : Addr) (g : Addr) (gw : Addr) (gh : Addr) (w0 : Int64) (w1 : Int64) (w2 : Int64) (cn : Int32) (hl : List Value) (v : Option Value) (h' : Heap) : Prop := ∃ (HL : List Value) (c9 : Int32) (r : Int32) (sl : Nat), (v = some (.int 0)) ∧ (Keep h0 h' [o, os, oi, ow, oz, oh, ot, g, gh]) ∧ (Fld Z h' o kC1 "starts" "[I" (.ref os)) ∧ (Fld Z h' o kC1 "indices" "[I" (.ref oi)) ∧ (Fld Z h' o kC1 "words" "[J" (.ref ow)) ∧ (Fld Z h' o kC1 "sizes" "[I" (.ref oz)) ∧ (Fld Z h' o kC1 "hashes" "[I" (.ref oh)) ∧ (Fld Z h' o kC1 "table" "[I" (.ref ot)) ∧ (Fld Z h' o kC1 "size" "I" (.int 1)) ∧ (Av Z h' os .int (.int 0 :: .int (Int32.ofNat (own_c3 w0 w1 w2).length) :: zI15)) ∧ (Av Z h' oi .int (own_ix (own_c3 w0 w1 w2))) ∧ (Av Z h' ow .long (own_wd (own_c3 w0 w1 w2))) ∧ (Av Z h' oz .int (.int (own_sz (own_c3 w0 w1 w2)) :: zI15)) ∧ (Av Z h' oh .int (.int r :: zI15)) ∧ (Av Z h' ot .int (zI32.set sl (.int 1))) ∧ (Fld Z h' g kC0 "words" "[J" (.ref gw)) ∧ (Fld Z h' g kC0 "held" "[I" (.ref gh)) ∧ (Fld Z h' g kC0 "listing" "Z" (.int 0)) ∧ (Fld Z h' g kC0 "count" "I" (.int c9)) ∧ (Av Z h' gh .int HL) ∧ (HL.length = 3) ∧ (sl < 32)
theorem ef_con_num0 (m : MethodId) (o : Addr) (g : Addr) : entryFrame m #[(.ref o), (.ref g)] 6 = mkF m 0 #[rv o, rv g, .unset, .unset, .unset, .unset] [] := by first | (simp [entryFrame, mkF, argsToLocals, Value.category]; done) | rfl
set_option maxRecDepth 65536 in
set_option maxHeartbeats 40000000 in
theorem con_num0 (l : Launch) (Z : State) (a0 : Array Value) (hw : ∀ d ∈ tables_1, d.before a0 Z = true) (n0 : Nat) (h0 : Heap) (hn0 : n0 ≤ h0.size) (o : Addr) (os : Addr) (oi : Addr) (ow : Addr) (oz : Addr) (oh : Addr) (ot : Addr) (g : Addr) (gw : Addr) (gh : Addr) (w0 : Int64) (w1 : Int64) (w2 : Int64) (cn : Int32) (hl : List Value) (P0 : Exa Z h0 o kC1) (P1 : Fld Z h0 o kC1 "starts" "[I" (.ref os)) (P2 : Fld Z h0 o kC1 "indices" "[I" (.ref oi)) (P3 : Fld Z h0 o kC1 "words" "[J" (.ref ow)) (P4 : Fld Z h0 o kC1 "sizes" "[I" (.ref oz)) (P5 : Fld Z h0 o kC1 "hashes" "[I" (.ref oh)) (P6 : Fld Z h0 o kC1 "table" "[I" (.ref ot)) (P7 : Fld Z h0 o kC1 "size" "I" (.int 0)) (P8 : Av Z h0 os .int zI17) (P9 : Av Z h0 oi .int zI16) (P10 : Av Z h0 ow .long zJ16) (P11 : Av Z h0 oz .int zI16) (P12 : Av Z h0 oh .int zI16) (P13 : Av Z h0 ot .int zI32) (P14 : Exa Z h0 g kC0) (P15 : Fld Z h0 g kC0 "words" "[J" (.ref gw)) (P16 : Fld Z h0 g kC0 "held" "[I" (.ref gh)) (P17 : Fld Z h0 g kC0 "listing" "Z" (.int 0)) (P18 : Fld Z h0 g kC0 "count" "I" (.int cn)) (P19 : Av Z h0 gw .long ([.long w0, .long w1, .long w2])) (P20 : Av Z h0 gh .int hl) (g_o : n0 ≤ o) (g_os : n0 ≤ os) (g_oi : n0 ≤ oi) (g_ow : n0 ≤ ow) (g_oz : n0 ≤ oz) (g_oh : n0 ≤ oh) (g_ot : n0 ≤ ot) (g_g : n0 ≤ g) (g_gh : n0 ≤ gh) (ne_o_os : o ≠ os) (ne_o_oi : o ≠ oi) (ne_o_ow : o ≠ ow) (ne_o_oz : o ≠ oz) (ne_o_oh : o ≠ oh) (ne_o_ot : o ≠ ot) (ne_o_g : o ≠ g) (ne_o_gw : o ≠ gw) (ne_o_gh : o ≠ gh) (ne_os_oi : os ≠ oi) (ne_os_ow : os ≠ ow) (ne_os_oz : os ≠ oz) (ne_os_oh : os ≠ oh) (ne_os_ot : os ≠ ot) (ne_os_g : os ≠ g) (ne_os_gw : os ≠ gw) (ne_os_gh : os ≠ gh) (ne_oi_ow : oi ≠ ow) (ne_oi_oz : oi ≠ oz) (ne_oi_oh : oi ≠ oh) (ne_oi_ot : oi ≠ ot) (ne_oi_g : oi ≠ g) (ne_oi_gw : oi ≠ gw) (ne_oi_gh : oi ≠ gh) (ne_ow_oz : ow ≠ oz) (ne_ow_oh : ow ≠ oh) (ne_ow_ot : ow ≠ ot) (ne_ow_g : ow ≠ g) (ne_ow_gw : ow ≠ gw) (ne_ow_gh : ow ≠ gh) (ne_oz_oh : oz ≠ oh) (ne_oz_ot : oz ≠ ot) (ne_oz_g : oz ≠ g) (ne_oz_gw : oz ≠ gw) (ne_oz_gh : oz ≠ gh) (ne_oh_ot : oh ≠ ot) (ne_oh_g : oh ≠ g) (ne_oh_gw : oh ≠ gw) (ne_oh_gh : oh ≠ gh) (ne_ot_g : ot ≠ g) (ne_ot_gw : ot ≠ gw) (ne_ot_gh : ot ≠ gh) (ne_g_gw : g ≠ gw) (ne_g_gh : g ≠ gh) (ne_gw_gh : gw ≠ gh) (h3 : hl.length = 3) :
    Con l Z n0 [] (⟨"com/example/detra/detra/StateSets", "number", "(Lcom/example/detra/detra/SetWords;)I"⟩ : MethodName) prog_22_method_2_code 6 (some .int) ({ frames := 2, cells := 0, slots := 0, locals := 34 } : Room) #[(.ref o), (.ref g)] h0 (Qcon_num0 Z n0 h0 o os oi ow oz oh ot g gw gh w0 w1 w2 cn hl) := by
  refine Con.of pf_8 (fun m => ef_con_num0 m o g) hn0 ?_
  intro p e s m below meth c C
  refine C.aloadN d5_0 rfl rfl rfl ?_
  refine C.callV (argsL := []) (rest := []) 0 (fun zz => con_lh l Z a0 hw n0 h0 zz g gw gh w0 w1 w2 cn hl P14 P15 P16 P17 P18 P19 P20 g_g g_gh ne_g_gw ne_g_gh ne_gw_gh h3) P14 d5_1 rfl (tw hw 47 rfl) (tw hw 48 rfl) (tw hw 49 rfl) (tw hw 50 rfl) (tw hw 26 rfl) (tw hw 51 rfl) (by decide) pd_4 rfl rfl rfl (Nat.le_of_eq rfl) (by decide) (by decide) (by decide) (by decide) (fun v1123 h1124 r1125 => ?_)
  obtain ⟨y1126, rfl, K1127, F1128, F1129, F1130, F1131, F1132, u1133, u1134⟩ := r1125
  have F1135 := P0.keep K1127
  have F1136 := P1.keep K1127 (ninS ne_o_g (ninS ne_o_gh nin0))
  have F1137 := P2.keep K1127 (ninS ne_o_g (ninS ne_o_gh nin0))
  have F1138 := P3.keep K1127 (ninS ne_o_g (ninS ne_o_gh nin0))
  have F1139 := P4.keep K1127 (ninS ne_o_g (ninS ne_o_gh nin0))
  have F1140 := P5.keep K1127 (ninS ne_o_g (ninS ne_o_gh nin0))
  have F1141 := P6.keep K1127 (ninS ne_o_g (ninS ne_o_gh nin0))
  have F1142 := P7.keep K1127 (ninS ne_o_g (ninS ne_o_gh nin0))
  have F1143 := P8.keep K1127 (ninS ne_os_g (ninS ne_os_gh nin0))
  have F1144 := P9.keep K1127 (ninS ne_oi_g (ninS ne_oi_gh nin0))
  have F1145 := P10.keep K1127 (ninS ne_ow_g (ninS ne_ow_gh nin0))
  have F1146 := P11.keep K1127 (ninS ne_oz_g (ninS ne_oz_gh nin0))
  have F1147 := P12.keep K1127 (ninS ne_oh_g (ninS ne_oh_gh nin0))
  have F1148 := P13.keep K1127 (ninS ne_ot_g (ninS ne_ot_gh nin0))
  have F1149 := P14.keep K1127
  have F1154 := P19.keep K1127 (ninS (Ne.symm ne_g_gw) (ninS ne_gw_gh nin0))
  refine C.aloadN d5_4 rfl rfl rfl ?_
  refine C.callS (argsL := [(.ref g)]) (rest := []) 0 (fun zz => con_hash l Z a0 hw n0 h1124 zz g gw gh (own_c3 w0 w1 w2) y1126 ([.long w0, .long w1, .long w2]) F1149 F1128 F1129 F1131 F1154 F1132 u1133 (own_c3ws w0 w1 w2) (own_c3len w0 w1 w2)) d5_5 rfl (tw hw 54 rfl) (tw hw 55 rfl) (tw hw 4 rfl) (tw hw 56 rfl) (by decide) pd_5 rfl rfl rfl (Nat.le_of_eq rfl) (by decide) (by decide) (by decide) (by decide) (fun v1156 h1157 r1158 => ?_)
  obtain ⟨y1159, rfl, rfl⟩ := r1158
  refine C.istoreN (Ls' := #[rv o, rv g, iv y1159, .unset, .unset, .unset]) d5_8 rfl rfl ?_
  refine C.aloadN d5_9 rfl rfl rfl ?_
  refine C.getF d5_10 rfl (tw hw 22 rfl) F1141 ?_
  refine C.alen d5_13 rfl F1148 ?_
  refine Go.cI (y := 32) rfl ?_
  refine C.iconst 1 d5_14 rfl rfl ?_
  refine C.isub d5_15 rfl ?_
  refine Go.cI (y := 31) rfl ?_
  refine C.istoreN (Ls' := #[rv o, rv g, iv y1159, iv 31, .unset, .unset]) d5_16 rfl rfl ?_
  refine C.iloadN d5_17 rfl rfl ?_
  refine C.iloadN d5_18 rfl rfl ?_
  refine C.iand d5_19 rfl ?_
  refine C.istore (Ls' := #[rv o, rv g, iv y1159, iv 31, iv (y1159 &&& 31), .unset]) d5_20 rfl rfl ?_
  refine C.aloadN d5_22 rfl rfl rfl ?_
  refine C.getF d5_23 rfl (tw hw 22 rfl) F1141 ?_
  refine C.iload d5_26 rfl rfl ?_
  refine C.iaload (.int 0) d5_28 rfl F1148 (own_sl y1159).1 (own_tb0 (own_sl y1159).2) ?_
  refine C.if_eq_t d5_29 (by decide) rfl (by decide) ?_
  refine C.aloadN d5_61 rfl rfl rfl ?_
  refine C.getF d5_62 rfl (tw hw 22 rfl) F1141 ?_
  refine C.iload d5_65 rfl rfl ?_
  refine C.iaload (.int 0) d5_67 rfl F1148 (own_sl y1159).1 (own_tb0 (own_sl y1159).2) ?_
  refine C.iconst 1 d5_68 rfl rfl ?_
  refine C.isub d5_69 rfl ?_
  refine Go.cI (y := (-1)) rfl ?_
  refine C.istore (Ls' := #[rv o, rv g, iv y1159, iv 31, iv (y1159 &&& 31), iv (-1)]) d5_70 rfl rfl ?_
  refine C.iload d5_72 rfl rfl ?_
  refine C.if_ge_f d5_74 rfl (by decide) ?_
  have F1161 : Av Z h1124 oi .int (own_ix ([] : List (Int32 × Int64))) := F1144
  have F1162 : Av Z h1124 ow .long (own_wd ([] : List (Int32 × Int64))) := F1145
  refine C.aloadN d5_77 rfl rfl rfl ?_
  refine C.aloadN d5_78 rfl rfl rfl ?_
  refine C.iloadN d5_79 rfl rfl ?_
  refine C.callP (argsL := [(.ref g), (.int y1159)]) (rest := []) 0 (fun zz => con_add0 l Z a0 hw n0 h1124 zz o os oi ow oz oh ot g gw gh y1159 ([] : List (Int32 × Int64)) (own_c3 w0 w1 w2) y1126 ([.long w0, .long w1, .long w2]) F1135 F1136 F1137 F1138 F1139 F1140 F1141 F1142 F1143 F1161 F1162 F1146 F1147 F1149 F1128 F1129 F1131 F1154 F1132 g_o g_os g_oi g_ow g_oz g_oh ne_o_os ne_o_oi ne_o_ow ne_o_oz ne_o_oh ne_os_oi ne_os_ow ne_os_oz ne_os_oh ne_oi_ow ne_oi_oz ne_oi_oh ne_ow_oz ne_ow_oh ne_oz_oh (Ne.symm ne_o_g) (Ne.symm ne_os_g) (Ne.symm ne_oi_g) (Ne.symm ne_ow_g) (Ne.symm ne_oz_g) (Ne.symm ne_oh_g) (Ne.symm ne_o_gw) (Ne.symm ne_os_gw) (Ne.symm ne_oi_gw) (Ne.symm ne_ow_gw) (Ne.symm ne_oz_gw) (Ne.symm ne_oh_gw) (Ne.symm ne_o_gh) (Ne.symm ne_os_gh) (Ne.symm ne_oi_gh) (Ne.symm ne_ow_gh) (Ne.symm ne_oz_gh) (Ne.symm ne_oh_gh) u1133 (own_c3ws w0 w1 w2) rfl (own_c3len w0 w1 w2)) F1135 d5_80 rfl (tw hw 73 rfl) (tw hw 75 rfl) (tw hw 74 rfl) (tw hw 3 rfl) (tw hw 4 rfl) (tw hw 76 rfl) (by decide) pd_6 rfl rfl rfl (Nat.le_of_eq rfl) (by decide) (by decide) (by decide) (by decide) (fun v1163 h1164 r1165 => ?_)
  obtain ⟨rfl, K1166, F1167, F1168, F1169, F1170, F1171, F1172, F1173, F1174, F1175, F1176, F1177, F1178⟩ := r1165
  have F1179 := F1135.keep K1166
  have F1192 := F1148.keep K1166 (ninS (Ne.symm ne_o_ot) (ninS (Ne.symm ne_os_ot) (ninS (Ne.symm ne_oi_ot) (ninS (Ne.symm ne_ow_ot) (ninS (Ne.symm ne_oz_ot) (ninS (Ne.symm ne_oh_ot) nin0))))))
  have F1193 := F1149.keep K1166
  have F1194 := F1154.keep K1166 (ninS (Ne.symm ne_o_gw) (ninS (Ne.symm ne_os_gw) (ninS (Ne.symm ne_oi_gw) (ninS (Ne.symm ne_ow_gw) (ninS (Ne.symm ne_oz_gw) (ninS (Ne.symm ne_oh_gw) nin0))))))
  have F1195 := F1128.keep K1166 (ninS (Ne.symm ne_o_g) (ninS (Ne.symm ne_os_g) (ninS (Ne.symm ne_oi_g) (ninS (Ne.symm ne_ow_g) (ninS (Ne.symm ne_oz_g) (ninS (Ne.symm ne_oh_g) nin0))))))
  have F1196 := F1129.keep K1166 (ninS (Ne.symm ne_o_g) (ninS (Ne.symm ne_os_g) (ninS (Ne.symm ne_oi_g) (ninS (Ne.symm ne_ow_g) (ninS (Ne.symm ne_oz_g) (ninS (Ne.symm ne_oh_g) nin0))))))
  have F1197 := F1130.keep K1166 (ninS (Ne.symm ne_o_g) (ninS (Ne.symm ne_os_g) (ninS (Ne.symm ne_oi_g) (ninS (Ne.symm ne_ow_g) (ninS (Ne.symm ne_oz_g) (ninS (Ne.symm ne_oh_g) nin0))))))
  have F1198 := F1131.keep K1166 (ninS (Ne.symm ne_o_g) (ninS (Ne.symm ne_os_g) (ninS (Ne.symm ne_oi_g) (ninS (Ne.symm ne_ow_g) (ninS (Ne.symm ne_oz_g) (ninS (Ne.symm ne_oh_g) nin0))))))
  have F1199 := F1132.keep K1166 (ninS (Ne.symm ne_o_gh) (ninS (Ne.symm ne_os_gh) (ninS (Ne.symm ne_oi_gh) (ninS (Ne.symm ne_ow_gh) (ninS (Ne.symm ne_oz_gh) (ninS (Ne.symm ne_oh_gh) nin0))))))
  refine C.istore (Ls' := #[rv o, rv g, iv y1159, iv 31, iv (y1159 &&& 31), iv 0]) d5_83 rfl rfl ?_
  refine C.aloadN d5_85 rfl rfl rfl ?_
  refine C.getF d5_86 rfl (tw hw 22 rfl) F1172 ?_
  refine C.iload d5_89 rfl rfl ?_
  refine C.aloadN d5_91 rfl rfl rfl ?_
  refine C.getF d5_92 rfl (tw hw 77 rfl) F1173 ?_
  refine C.iastore d5_95 rfl F1192 g_ot (own_sl y1159).1 (own_sl y1159).2 (fun h1200 W1201 F1202 => ?_)
  have F1203 := Exa.wr W1201 F1179
  have F1204 := Exa.wr W1201 F1193
  have F1205 := F1194.other W1201 (Ne.symm ne_ot_gw)
  have F1206 := Fld.other W1201 F1195 (Or.inl (Ne.symm ne_ot_g))
  have F1207 := Fld.other W1201 F1196 (Or.inl (Ne.symm ne_ot_g))
  have F1208 := Fld.other W1201 F1197 (Or.inl (Ne.symm ne_ot_g))
  have F1209 := Fld.other W1201 F1198 (Or.inl (Ne.symm ne_ot_g))
  have F1210 := F1199.other W1201 (Ne.symm ne_ot_gh)
  have F1211 := Fld.other W1201 F1167 (Or.inl ne_o_ot)
  have F1212 := Fld.other W1201 F1168 (Or.inl ne_o_ot)
  have F1213 := Fld.other W1201 F1169 (Or.inl ne_o_ot)
  have F1214 := Fld.other W1201 F1170 (Or.inl ne_o_ot)
  have F1215 := Fld.other W1201 F1171 (Or.inl ne_o_ot)
  have F1216 := Fld.other W1201 F1172 (Or.inl ne_o_ot)
  have F1217 := Fld.other W1201 F1173 (Or.inl ne_o_ot)
  have F1218 := F1174.other W1201 ne_os_ot
  have F1219 := F1175.other W1201 ne_oi_ot
  have F1220 := F1176.other W1201 ne_ow_ot
  have F1221 := F1177.other W1201 ne_oz_ot
  have F1222 := F1178.other W1201 ne_oh_ot
  refine C.iconst 2 d5_96 rfl rfl ?_
  refine C.aloadN d5_97 rfl rfl rfl ?_
  refine C.getF d5_98 rfl (tw hw 77 rfl) F1217 ?_
  refine C.imul d5_101 rfl ?_
  refine Go.cI (y := 2) rfl ?_
  refine C.aloadN d5_102 rfl rfl rfl ?_
  refine C.getF d5_103 rfl (tw hw 22 rfl) F1216 ?_
  refine C.alen d5_106 rfl F1202 ?_
  rw [show ((zI32.set (Int32.toNatClampNeg (y1159 &&& 31)) (.int 1)).length.toInt32) = (32 : Int32) by rw [List.length_set]; rfl]
  refine C.icmp_le_t d5_107 (by decide) rfl (by decide) ?_
  refine C.iload d5_114 rfl rfl ?_
  exact C.retI d5_116 (by decide) (by decide) ⟨y1126, (Int32.ofNat (own_c3 w0 w1 w2).length), y1159, (Int32.toNatClampNeg (y1159 &&& 31)), rfl, ((((Keep.refl h0 [o, os, oi, ow, oz, oh, ot, g, gh]).trans K1127 (allS (Or.inl (List.mem_of_getElem? (i := 7) rfl)) (allS (Or.inl (List.mem_of_getElem? (i := 8) rfl)) all0))).trans K1166 (allS (Or.inl (List.mem_of_getElem? (i := 0) rfl)) (allS (Or.inl (List.mem_of_getElem? (i := 1) rfl)) (allS (Or.inl (List.mem_of_getElem? (i := 2) rfl)) (allS (Or.inl (List.mem_of_getElem? (i := 3) rfl)) (allS (Or.inl (List.mem_of_getElem? (i := 4) rfl)) (allS (Or.inl (List.mem_of_getElem? (i := 5) rfl)) all0))))))).wr W1201 (Or.inl (List.mem_of_getElem? (i := 6) rfl))), F1211, F1212, F1213, F1214, F1215, F1216, F1217, (by have q := F1218; rw [List.length_nil, Nat.zero_add] at q; exact q), F1219, F1220, F1221, F1222, F1202, F1206, F1207, F1208, F1209, F1210, u1134, (own_sl y1159).2⟩
theorem pd_7 : parseMethodDescriptor "(IILcom/example/detra/detra/SetWords;)Z" = some ⟨[.int, .int, (.object "com/example/detra/detra/SetWords")], some .boolean⟩ := by decide +kernel
def Qcon_num1 (Z : State) (n0 : Nat) (h0 : Heap) (o : Addr) (os : Addr) (oi : Addr) (ow : Addr) (oz : Addr) (oh : Addr) (ot : Addr) (g : Addr) (gw : Addr) (gh : Addr) (w0 : Int64) (w1 : Int64) (w2 : Int64) (cn : Int32) (hl : List Value) (la : List (Int32 × Int64)) (v0 : Int32) (sl : Nat) (v : Option Value) (h' : Heap) : Prop := ∃ (HL : List Value) (c9 : Int32) (b9 : Int32) (ST : List Value) (IX : List Value) (WD : List Value) (SZ : List Value), (v = some (.int b9)) ∧ (Keep h0 h' [o, os, oi, ow, oz, oh, ot, g, gh]) ∧ (Fld Z h' o kC1 "starts" "[I" (.ref os)) ∧ (Fld Z h' o kC1 "indices" "[I" (.ref oi)) ∧ (Fld Z h' o kC1 "words" "[J" (.ref ow)) ∧ (Fld Z h' o kC1 "sizes" "[I" (.ref oz)) ∧ (Fld Z h' o kC1 "hashes" "[I" (.ref oh)) ∧ (Fld Z h' o kC1 "table" "[I" (.ref ot)) ∧ (Av Z h' os .int ST) ∧ (Av Z h' oi .int IX) ∧ (Av Z h' ow .long WD) ∧ (Av Z h' oz .int SZ) ∧ (Fld Z h' g kC0 "words" "[J" (.ref gw)) ∧ (Fld Z h' g kC0 "held" "[I" (.ref gh)) ∧ (Fld Z h' g kC0 "listing" "Z" (.int 0)) ∧ (Fld Z h' g kC0 "count" "I" (.int c9)) ∧ (Av Z h' gh .int HL) ∧ (HL.length = 3) ∧ (own_set ST IX WD SZ 0 la) ∧ (own_set ST IX WD SZ b9 (own_c3 w0 w1 w2)) ∧ (b9 = 0 → la = (own_c3 w0 w1 w2))
theorem ef_con_num1 (m : MethodId) (o : Addr) (g : Addr) : entryFrame m #[(.ref o), (.ref g)] 6 = mkF m 0 #[rv o, rv g, .unset, .unset, .unset, .unset] [] := by first | (simp [entryFrame, mkF, argsToLocals, Value.category]; done) | rfl
set_option maxRecDepth 65536 in
set_option maxHeartbeats 40000000 in
theorem con_num1 (l : Launch) (Z : State) (a0 : Array Value) (hw : ∀ d ∈ tables_1, d.before a0 Z = true) (n0 : Nat) (h0 : Heap) (hn0 : n0 ≤ h0.size) (o : Addr) (os : Addr) (oi : Addr) (ow : Addr) (oz : Addr) (oh : Addr) (ot : Addr) (g : Addr) (gw : Addr) (gh : Addr) (w0 : Int64) (w1 : Int64) (w2 : Int64) (cn : Int32) (hl : List Value) (la : List (Int32 × Int64)) (v0 : Int32) (sl : Nat) (P0 : Exa Z h0 o kC1) (P1 : Fld Z h0 o kC1 "starts" "[I" (.ref os)) (P2 : Fld Z h0 o kC1 "indices" "[I" (.ref oi)) (P3 : Fld Z h0 o kC1 "words" "[J" (.ref ow)) (P4 : Fld Z h0 o kC1 "sizes" "[I" (.ref oz)) (P5 : Fld Z h0 o kC1 "hashes" "[I" (.ref oh)) (P6 : Fld Z h0 o kC1 "table" "[I" (.ref ot)) (P7 : Fld Z h0 o kC1 "size" "I" (.int 1)) (P8 : Av Z h0 os .int (.int 0 :: .int (Int32.ofNat la.length) :: zI15)) (P9 : Av Z h0 oi .int (own_ix la)) (P10 : Av Z h0 ow .long (own_wd la)) (P11 : Av Z h0 oz .int (.int (own_sz la) :: zI15)) (P12 : Av Z h0 oh .int (.int v0 :: zI15)) (P13 : Av Z h0 ot .int (zI32.set sl (.int 1))) (P14 : Exa Z h0 g kC0) (P15 : Fld Z h0 g kC0 "words" "[J" (.ref gw)) (P16 : Fld Z h0 g kC0 "held" "[I" (.ref gh)) (P17 : Fld Z h0 g kC0 "listing" "Z" (.int 0)) (P18 : Fld Z h0 g kC0 "count" "I" (.int cn)) (P19 : Av Z h0 gw .long ([.long w0, .long w1, .long w2])) (P20 : Av Z h0 gh .int hl) (g_o : n0 ≤ o) (g_os : n0 ≤ os) (g_oi : n0 ≤ oi) (g_ow : n0 ≤ ow) (g_oz : n0 ≤ oz) (g_oh : n0 ≤ oh) (g_ot : n0 ≤ ot) (g_g : n0 ≤ g) (g_gh : n0 ≤ gh) (ne_o_os : o ≠ os) (ne_o_oi : o ≠ oi) (ne_o_ow : o ≠ ow) (ne_o_oz : o ≠ oz) (ne_o_oh : o ≠ oh) (ne_o_ot : o ≠ ot) (ne_o_g : o ≠ g) (ne_o_gw : o ≠ gw) (ne_o_gh : o ≠ gh) (ne_os_oi : os ≠ oi) (ne_os_ow : os ≠ ow) (ne_os_oz : os ≠ oz) (ne_os_oh : os ≠ oh) (ne_os_ot : os ≠ ot) (ne_os_g : os ≠ g) (ne_os_gw : os ≠ gw) (ne_os_gh : os ≠ gh) (ne_oi_ow : oi ≠ ow) (ne_oi_oz : oi ≠ oz) (ne_oi_oh : oi ≠ oh) (ne_oi_ot : oi ≠ ot) (ne_oi_g : oi ≠ g) (ne_oi_gw : oi ≠ gw) (ne_oi_gh : oi ≠ gh) (ne_ow_oz : ow ≠ oz) (ne_ow_oh : ow ≠ oh) (ne_ow_ot : ow ≠ ot) (ne_ow_g : ow ≠ g) (ne_ow_gw : ow ≠ gw) (ne_ow_gh : ow ≠ gh) (ne_oz_oh : oz ≠ oh) (ne_oz_ot : oz ≠ ot) (ne_oz_g : oz ≠ g) (ne_oz_gw : oz ≠ gw) (ne_oz_gh : oz ≠ gh) (ne_oh_ot : oh ≠ ot) (ne_oh_g : oh ≠ g) (ne_oh_gw : oh ≠ gw) (ne_oh_gh : oh ≠ gh) (ne_ot_g : ot ≠ g) (ne_ot_gw : ot ≠ gw) (ne_ot_gh : ot ≠ gh) (ne_g_gw : g ≠ gw) (ne_g_gh : g ≠ gh) (ne_gw_gh : gw ≠ gh) (h3 : hl.length = 3) (hla : la.length ≤ 3) (hsl : sl < 32) :
    Con l Z n0 [] (⟨"com/example/detra/detra/StateSets", "number", "(Lcom/example/detra/detra/SetWords;)I"⟩ : MethodName) prog_22_method_2_code 6 (some .int) ({ frames := 2, cells := 0, slots := 0, locals := 34 } : Room) #[(.ref o), (.ref g)] h0 (Qcon_num1 Z n0 h0 o os oi ow oz oh ot g gw gh w0 w1 w2 cn hl la v0 sl) := by
  refine Con.of pf_8 (fun m => ef_con_num1 m o g) hn0 ?_
  intro p e s m below meth c C
  refine C.aloadN d5_0 rfl rfl rfl ?_
  refine C.callV (argsL := []) (rest := []) 0 (fun zz => con_lh l Z a0 hw n0 h0 zz g gw gh w0 w1 w2 cn hl P14 P15 P16 P17 P18 P19 P20 g_g g_gh ne_g_gw ne_g_gh ne_gw_gh h3) P14 d5_1 rfl (tw hw 47 rfl) (tw hw 48 rfl) (tw hw 49 rfl) (tw hw 50 rfl) (tw hw 26 rfl) (tw hw 51 rfl) (by decide) pd_4 rfl rfl rfl (Nat.le_of_eq rfl) (by decide) (by decide) (by decide) (by decide) (fun v1387 h1388 r1389 => ?_)
  obtain ⟨y1390, rfl, K1391, F1392, F1393, F1394, F1395, F1396, u1397, u1398⟩ := r1389
  have F1399 := P0.keep K1391
  have F1400 := P1.keep K1391 (ninS ne_o_g (ninS ne_o_gh nin0))
  have F1401 := P2.keep K1391 (ninS ne_o_g (ninS ne_o_gh nin0))
  have F1402 := P3.keep K1391 (ninS ne_o_g (ninS ne_o_gh nin0))
  have F1403 := P4.keep K1391 (ninS ne_o_g (ninS ne_o_gh nin0))
  have F1404 := P5.keep K1391 (ninS ne_o_g (ninS ne_o_gh nin0))
  have F1405 := P6.keep K1391 (ninS ne_o_g (ninS ne_o_gh nin0))
  have F1406 := P7.keep K1391 (ninS ne_o_g (ninS ne_o_gh nin0))
  have F1407 := P8.keep K1391 (ninS ne_os_g (ninS ne_os_gh nin0))
  have F1408 := P9.keep K1391 (ninS ne_oi_g (ninS ne_oi_gh nin0))
  have F1409 := P10.keep K1391 (ninS ne_ow_g (ninS ne_ow_gh nin0))
  have F1410 := P11.keep K1391 (ninS ne_oz_g (ninS ne_oz_gh nin0))
  have F1411 := P12.keep K1391 (ninS ne_oh_g (ninS ne_oh_gh nin0))
  have F1412 := P13.keep K1391 (ninS ne_ot_g (ninS ne_ot_gh nin0))
  have F1413 := P14.keep K1391
  have F1418 := P19.keep K1391 (ninS (Ne.symm ne_g_gw) (ninS ne_gw_gh nin0))
  refine C.aloadN d5_4 rfl rfl rfl ?_
  refine C.callS (argsL := [(.ref g)]) (rest := []) 0 (fun zz => con_hash l Z a0 hw n0 h1388 zz g gw gh (own_c3 w0 w1 w2) y1390 ([.long w0, .long w1, .long w2]) F1413 F1392 F1393 F1395 F1418 F1396 u1397 (own_c3ws w0 w1 w2) (own_c3len w0 w1 w2)) d5_5 rfl (tw hw 54 rfl) (tw hw 55 rfl) (tw hw 4 rfl) (tw hw 56 rfl) (by decide) pd_5 rfl rfl rfl (Nat.le_of_eq rfl) (by decide) (by decide) (by decide) (by decide) (fun v1420 h1421 r1422 => ?_)
  obtain ⟨y1423, rfl, rfl⟩ := r1422
  refine C.istoreN (Ls' := #[rv o, rv g, iv y1423, .unset, .unset, .unset]) d5_8 rfl rfl ?_
  refine C.aloadN d5_9 rfl rfl rfl ?_
  refine C.getF d5_10 rfl (tw hw 22 rfl) F1405 ?_
  refine C.alen d5_13 rfl F1412 ?_
  rw [show ((zI32.set sl (.int 1)).length.toInt32) = (32 : Int32) by simp only [List.length_set]; rfl]
  refine C.iconst 1 d5_14 rfl rfl ?_
  refine C.isub d5_15 rfl ?_
  refine Go.cI (y := 31) rfl ?_
  refine C.istoreN (Ls' := #[rv o, rv g, iv y1423, iv 31, .unset, .unset]) d5_16 rfl rfl ?_
  refine C.iloadN d5_17 rfl rfl ?_
  refine C.iloadN d5_18 rfl rfl ?_
  refine C.iand d5_19 rfl ?_
  refine C.istore (Ls' := #[rv o, rv g, iv y1423, iv 31, iv (y1423 &&& 31), .unset]) d5_20 rfl rfl ?_
  by_cases hq1 : Int32.toNatClampNeg (y1423 &&& 31) = sl
  · refine C.aloadN d5_22 rfl rfl rfl ?_
    refine C.getF d5_23 rfl (tw hw 22 rfl) F1405 ?_
    refine C.iload d5_26 rfl rfl ?_
    refine C.iaload (.int 1) d5_28 rfl F1412 (own_sl y1423).1 (by rw [hq1]; exact own_tb1 hsl) ?_
    refine C.if_eq_f d5_29 rfl (by decide) ?_
    refine C.aloadN d5_32 rfl rfl rfl ?_
    refine C.aloadN d5_33 rfl rfl rfl ?_
    refine C.getF d5_34 rfl (tw hw 22 rfl) F1405 ?_
    refine C.iload d5_37 rfl rfl ?_
    refine C.iaload (.int 1) d5_39 rfl F1412 (own_sl y1423).1 (by rw [hq1]; exact own_tb1 hsl) ?_
    refine C.iconst 1 d5_40 rfl rfl ?_
    refine C.isub d5_41 rfl ?_
    refine Go.cI (y := 0) rfl ?_
    refine C.iloadN d5_42 rfl rfl ?_
    refine C.aloadN d5_43 rfl rfl rfl ?_
    refine C.callP (argsL := [(.int 0), (.int y1423), (.ref g)]) (rest := []) 0 (fun zz => con_eq l Z a0 hw n0 h1388 zz o os oi ow oh g gw gh y1423 v0 la (own_c3 w0 w1 w2) (.int 0 :: .int (Int32.ofNat la.length) :: zI15) (own_ix la) (own_wd la) (.int v0 :: zI15) y1390 ([.long w0, .long w1, .long w2]) F1399 F1400 F1401 F1402 F1404 F1407 F1408 F1409 F1411 F1413 F1392 F1393 F1395 F1418 F1396 rfl rfl rfl (own_hdix la) (own_wdix la) u1397 (own_c3ws w0 w1 w2) hla (own_c3len w0 w1 w2)) F1399 d5_44 rfl (tw hw 104 rfl) (tw hw 106 rfl) (tw hw 105 rfl) (tw hw 3 rfl) (tw hw 4 rfl) (tw hw 107 rfl) (by decide) pd_7 rfl rfl rfl (Nat.le_of_eq rfl) (by decide) (by decide) (by decide) (by decide) (fun v1425 h1426 r1427 => ?_)
    obtain ⟨y1428, rfl, rfl, u1430⟩ := r1427
    rcases u1430 with rfl | ⟨rfl, hab⟩
    · refine C.if_ne_f d5_47 rfl (by decide) ?_
      refine C.iload d5_50 rfl rfl ?_
      refine C.iconst 1 d5_52 rfl rfl ?_
      refine C.iadd d5_53 rfl ?_
      refine C.iloadN d5_54 rfl rfl ?_
      refine C.iand d5_55 rfl ?_
      refine C.istore (Ls' := #[rv o, rv g, iv y1423, iv 31, iv (((y1423 &&& 31) + 1) &&& 31), .unset]) d5_56 rfl rfl ?_
      refine C.goto d5_58 (by decide) rfl ?_
      refine C.aloadN d5_22 rfl rfl rfl ?_
      refine C.getF d5_23 rfl (tw hw 22 rfl) F1405 ?_
      refine C.iload d5_26 rfl rfl ?_
      refine C.iaload (.int 0) d5_28 rfl F1412 (own_sl ((y1423 &&& 31) + 1)).1 (own_tbn (own_sl ((y1423 &&& 31) + 1)).2 (fun q => own_nx y1423 (q.trans hq1.symm))) ?_
      refine C.if_eq_t d5_29 (by decide) rfl (by decide) ?_
      refine C.aloadN d5_61 rfl rfl rfl ?_
      refine C.getF d5_62 rfl (tw hw 22 rfl) F1405 ?_
      refine C.iload d5_65 rfl rfl ?_
      refine C.iaload (.int 0) d5_67 rfl F1412 (own_sl ((y1423 &&& 31) + 1)).1 (own_tbn (own_sl ((y1423 &&& 31) + 1)).2 (fun q => own_nx y1423 (q.trans hq1.symm))) ?_
      refine C.iconst 1 d5_68 rfl rfl ?_
      refine C.isub d5_69 rfl ?_
      refine Go.cI (y := (-1)) rfl ?_
      refine C.istore (Ls' := #[rv o, rv g, iv y1423, iv 31, iv (((y1423 &&& 31) + 1) &&& 31), iv (-1)]) d5_70 rfl rfl ?_
      refine C.iload d5_72 rfl rfl ?_
      refine C.if_ge_f d5_74 rfl (by decide) ?_
      refine C.aloadN d5_77 rfl rfl rfl ?_
      refine C.aloadN d5_78 rfl rfl rfl ?_
      refine C.iloadN d5_79 rfl rfl ?_
      refine C.callP (argsL := [(.ref g), (.int y1423)]) (rest := []) 0 (fun zz => con_add1 l Z a0 hw n0 h1388 zz o os oi ow oz oh ot g gw gh y1423 la (own_c3 w0 w1 w2) y1390 ([.long w0, .long w1, .long w2]) (own_sz la) v0 F1399 F1400 F1401 F1402 F1403 F1404 F1405 F1406 F1407 F1408 F1409 F1410 F1411 F1413 F1392 F1393 F1395 F1418 F1396 g_o g_os g_oi g_ow g_oz g_oh ne_o_os ne_o_oi ne_o_ow ne_o_oz ne_o_oh ne_os_oi ne_os_ow ne_os_oz ne_os_oh ne_oi_ow ne_oi_oz ne_oi_oh ne_ow_oz ne_ow_oh ne_oz_oh (Ne.symm ne_o_g) (Ne.symm ne_os_g) (Ne.symm ne_oi_g) (Ne.symm ne_ow_g) (Ne.symm ne_oz_g) (Ne.symm ne_oh_g) (Ne.symm ne_o_gw) (Ne.symm ne_os_gw) (Ne.symm ne_oi_gw) (Ne.symm ne_ow_gw) (Ne.symm ne_oz_gw) (Ne.symm ne_oh_gw) (Ne.symm ne_o_gh) (Ne.symm ne_os_gh) (Ne.symm ne_oi_gh) (Ne.symm ne_ow_gh) (Ne.symm ne_oz_gh) (Ne.symm ne_oh_gh) u1397 (own_c3ws w0 w1 w2) hla (own_c3len w0 w1 w2)) F1399 d5_80 rfl (tw hw 73 rfl) (tw hw 75 rfl) (tw hw 74 rfl) (tw hw 3 rfl) (tw hw 4 rfl) (tw hw 76 rfl) (by decide) pd_6 rfl rfl rfl (Nat.le_of_eq rfl) (by decide) (by decide) (by decide) (by decide) (fun v1431 h1432 r1433 => ?_)
      obtain ⟨rfl, K1434, F1435, F1436, F1437, F1438, F1439, F1440, F1441, F1442, F1443, F1444, F1445, F1446⟩ := r1433
      have F1447 := F1399.keep K1434
      have F1460 := F1412.keep K1434 (ninS (Ne.symm ne_o_ot) (ninS (Ne.symm ne_os_ot) (ninS (Ne.symm ne_oi_ot) (ninS (Ne.symm ne_ow_ot) (ninS (Ne.symm ne_oz_ot) (ninS (Ne.symm ne_oh_ot) nin0))))))
      have F1461 := F1413.keep K1434
      have F1462 := F1418.keep K1434 (ninS (Ne.symm ne_o_gw) (ninS (Ne.symm ne_os_gw) (ninS (Ne.symm ne_oi_gw) (ninS (Ne.symm ne_ow_gw) (ninS (Ne.symm ne_oz_gw) (ninS (Ne.symm ne_oh_gw) nin0))))))
      have F1463 := F1392.keep K1434 (ninS (Ne.symm ne_o_g) (ninS (Ne.symm ne_os_g) (ninS (Ne.symm ne_oi_g) (ninS (Ne.symm ne_ow_g) (ninS (Ne.symm ne_oz_g) (ninS (Ne.symm ne_oh_g) nin0))))))
      have F1464 := F1393.keep K1434 (ninS (Ne.symm ne_o_g) (ninS (Ne.symm ne_os_g) (ninS (Ne.symm ne_oi_g) (ninS (Ne.symm ne_ow_g) (ninS (Ne.symm ne_oz_g) (ninS (Ne.symm ne_oh_g) nin0))))))
      have F1465 := F1394.keep K1434 (ninS (Ne.symm ne_o_g) (ninS (Ne.symm ne_os_g) (ninS (Ne.symm ne_oi_g) (ninS (Ne.symm ne_ow_g) (ninS (Ne.symm ne_oz_g) (ninS (Ne.symm ne_oh_g) nin0))))))
      have F1466 := F1395.keep K1434 (ninS (Ne.symm ne_o_g) (ninS (Ne.symm ne_os_g) (ninS (Ne.symm ne_oi_g) (ninS (Ne.symm ne_ow_g) (ninS (Ne.symm ne_oz_g) (ninS (Ne.symm ne_oh_g) nin0))))))
      have F1467 := F1396.keep K1434 (ninS (Ne.symm ne_o_gh) (ninS (Ne.symm ne_os_gh) (ninS (Ne.symm ne_oi_gh) (ninS (Ne.symm ne_ow_gh) (ninS (Ne.symm ne_oz_gh) (ninS (Ne.symm ne_oh_gh) nin0))))))
      refine C.istore (Ls' := #[rv o, rv g, iv y1423, iv 31, iv (((y1423 &&& 31) + 1) &&& 31), iv 1]) d5_83 rfl rfl ?_
      refine C.aloadN d5_85 rfl rfl rfl ?_
      refine C.getF d5_86 rfl (tw hw 22 rfl) F1440 ?_
      refine C.iload d5_89 rfl rfl ?_
      refine C.aloadN d5_91 rfl rfl rfl ?_
      refine C.getF d5_92 rfl (tw hw 77 rfl) F1441 ?_
      refine C.iastore d5_95 rfl F1460 g_ot (own_sl ((y1423 &&& 31) + 1)).1 (by rw [List.length_set]; exact (own_sl ((y1423 &&& 31) + 1)).2) (fun h1468 W1469 F1470 => ?_)
      have F1471 := Exa.wr W1469 F1447
      have F1472 := Exa.wr W1469 F1461
      have F1473 := F1462.other W1469 (Ne.symm ne_ot_gw)
      have F1474 := Fld.other W1469 F1463 (Or.inl (Ne.symm ne_ot_g))
      have F1475 := Fld.other W1469 F1464 (Or.inl (Ne.symm ne_ot_g))
      have F1476 := Fld.other W1469 F1465 (Or.inl (Ne.symm ne_ot_g))
      have F1477 := Fld.other W1469 F1466 (Or.inl (Ne.symm ne_ot_g))
      have F1478 := F1467.other W1469 (Ne.symm ne_ot_gh)
      have F1479 := Fld.other W1469 F1435 (Or.inl ne_o_ot)
      have F1480 := Fld.other W1469 F1436 (Or.inl ne_o_ot)
      have F1481 := Fld.other W1469 F1437 (Or.inl ne_o_ot)
      have F1482 := Fld.other W1469 F1438 (Or.inl ne_o_ot)
      have F1483 := Fld.other W1469 F1439 (Or.inl ne_o_ot)
      have F1484 := Fld.other W1469 F1440 (Or.inl ne_o_ot)
      have F1485 := Fld.other W1469 F1441 (Or.inl ne_o_ot)
      have F1486 := F1442.other W1469 ne_os_ot
      have F1487 := F1443.other W1469 ne_oi_ot
      have F1488 := F1444.other W1469 ne_ow_ot
      have F1489 := F1445.other W1469 ne_oz_ot
      have F1490 := F1446.other W1469 ne_oh_ot
      refine C.iconst 2 d5_96 rfl rfl ?_
      refine C.aloadN d5_97 rfl rfl rfl ?_
      refine C.getF d5_98 rfl (tw hw 77 rfl) F1485 ?_
      refine C.imul d5_101 rfl ?_
      refine Go.cI (y := 4) rfl ?_
      refine C.aloadN d5_102 rfl rfl rfl ?_
      refine C.getF d5_103 rfl (tw hw 22 rfl) F1484 ?_
      refine C.alen d5_106 rfl F1470 ?_
      rw [show (((zI32.set sl (.int 1)).set (Int32.toNatClampNeg (((y1423 &&& 31) + 1) &&& 31)) (.int 2)).length.toInt32) = (32 : Int32) by simp only [List.length_set]; rfl]
      refine C.icmp_le_t d5_107 (by decide) rfl (by decide) ?_
      refine C.iload d5_114 rfl rfl ?_
      exact C.retI d5_116 (by decide) (by decide) ⟨y1390, (Int32.ofNat (own_c3 w0 w1 w2).length), 1, (.int 0 :: .int (Int32.ofNat la.length) :: .int (Int32.ofNat (la.length + (own_c3 w0 w1 w2).length)) :: zI14), own_ix (la ++ (own_c3 w0 w1 w2)), own_wd (la ++ (own_c3 w0 w1 w2)), (.int (own_sz la) :: .int (own_sz (own_c3 w0 w1 w2)) :: zI14), rfl, ((((Keep.refl h0 [o, os, oi, ow, oz, oh, ot, g, gh]).trans K1391 (allS (Or.inl (List.mem_of_getElem? (i := 7) rfl)) (allS (Or.inl (List.mem_of_getElem? (i := 8) rfl)) all0))).trans K1434 (allS (Or.inl (List.mem_of_getElem? (i := 0) rfl)) (allS (Or.inl (List.mem_of_getElem? (i := 1) rfl)) (allS (Or.inl (List.mem_of_getElem? (i := 2) rfl)) (allS (Or.inl (List.mem_of_getElem? (i := 3) rfl)) (allS (Or.inl (List.mem_of_getElem? (i := 4) rfl)) (allS (Or.inl (List.mem_of_getElem? (i := 5) rfl)) all0))))))).wr W1469 (Or.inl (List.mem_of_getElem? (i := 6) rfl))), F1479, F1480, F1481, F1482, F1483, F1484, F1486, F1487, F1488, F1489, F1474, F1475, F1476, F1477, F1478, u1398, (own_set0 la (own_c3 w0 w1 w2) [] _ _ hla), (own_set1 la (own_c3 w0 w1 w2) _ _ _ hla (own_c3len w0 w1 w2)), (fun q => absurd q (by decide))⟩
    refine C.if_ne_t d5_47 (by decide) rfl (by decide) ?_
    refine C.aloadN d5_61 rfl rfl rfl ?_
    refine C.getF d5_62 rfl (tw hw 22 rfl) F1405 ?_
    refine C.iload d5_65 rfl rfl ?_
    refine C.iaload (.int 1) d5_67 rfl F1412 (own_sl y1423).1 (by rw [hq1]; exact own_tb1 hsl) ?_
    refine C.iconst 1 d5_68 rfl rfl ?_
    refine C.isub d5_69 rfl ?_
    refine Go.cI (y := 0) rfl ?_
    refine C.istore (Ls' := #[rv o, rv g, iv y1423, iv 31, iv (y1423 &&& 31), iv 0]) d5_70 rfl rfl ?_
    refine C.iload d5_72 rfl rfl ?_
    refine C.if_ge_t d5_74 (by decide) rfl (by decide) ?_
    refine C.iload d5_114 rfl rfl ?_
    exact C.retI d5_116 (by decide) (by decide) ⟨y1390, (Int32.ofNat (own_c3 w0 w1 w2).length), 0, (.int 0 :: .int (Int32.ofNat la.length) :: zI15), own_ix la, own_wd la, (.int (own_sz la) :: zI15), rfl, ((Keep.refl h0 [o, os, oi, ow, oz, oh, ot, g, gh]).trans K1391 (allS (Or.inl (List.mem_of_getElem? (i := 7) rfl)) (allS (Or.inl (List.mem_of_getElem? (i := 8) rfl)) all0))), F1400, F1401, F1402, F1403, F1404, F1405, F1407, F1408, F1409, F1410, F1392, F1393, F1394, F1395, F1396, u1398, (by have q := own_set0 la [] [] zI15 zI15 hla; rw [List.append_nil] at q; exact q), (by rw [← hab]; have q := own_set0 la [] [] zI15 zI15 hla; rw [List.append_nil] at q; exact q), (fun _ => hab)⟩
  refine C.aloadN d5_22 rfl rfl rfl ?_
  refine C.getF d5_23 rfl (tw hw 22 rfl) F1405 ?_
  refine C.iload d5_26 rfl rfl ?_
  refine C.iaload (.int 0) d5_28 rfl F1412 (own_sl y1423).1 (own_tbn (own_sl y1423).2 hq1) ?_
  refine C.if_eq_t d5_29 (by decide) rfl (by decide) ?_
  refine C.aloadN d5_61 rfl rfl rfl ?_
  refine C.getF d5_62 rfl (tw hw 22 rfl) F1405 ?_
  refine C.iload d5_65 rfl rfl ?_
  refine C.iaload (.int 0) d5_67 rfl F1412 (own_sl y1423).1 (own_tbn (own_sl y1423).2 hq1) ?_
  refine C.iconst 1 d5_68 rfl rfl ?_
  refine C.isub d5_69 rfl ?_
  refine Go.cI (y := (-1)) rfl ?_
  refine C.istore (Ls' := #[rv o, rv g, iv y1423, iv 31, iv (y1423 &&& 31), iv (-1)]) d5_70 rfl rfl ?_
  refine C.iload d5_72 rfl rfl ?_
  refine C.if_ge_f d5_74 rfl (by decide) ?_
  refine C.aloadN d5_77 rfl rfl rfl ?_
  refine C.aloadN d5_78 rfl rfl rfl ?_
  refine C.iloadN d5_79 rfl rfl ?_
  refine C.callP (argsL := [(.ref g), (.int y1423)]) (rest := []) 0 (fun zz => con_add1 l Z a0 hw n0 h1388 zz o os oi ow oz oh ot g gw gh y1423 la (own_c3 w0 w1 w2) y1390 ([.long w0, .long w1, .long w2]) (own_sz la) v0 F1399 F1400 F1401 F1402 F1403 F1404 F1405 F1406 F1407 F1408 F1409 F1410 F1411 F1413 F1392 F1393 F1395 F1418 F1396 g_o g_os g_oi g_ow g_oz g_oh ne_o_os ne_o_oi ne_o_ow ne_o_oz ne_o_oh ne_os_oi ne_os_ow ne_os_oz ne_os_oh ne_oi_ow ne_oi_oz ne_oi_oh ne_ow_oz ne_ow_oh ne_oz_oh (Ne.symm ne_o_g) (Ne.symm ne_os_g) (Ne.symm ne_oi_g) (Ne.symm ne_ow_g) (Ne.symm ne_oz_g) (Ne.symm ne_oh_g) (Ne.symm ne_o_gw) (Ne.symm ne_os_gw) (Ne.symm ne_oi_gw) (Ne.symm ne_ow_gw) (Ne.symm ne_oz_gw) (Ne.symm ne_oh_gw) (Ne.symm ne_o_gh) (Ne.symm ne_os_gh) (Ne.symm ne_oi_gh) (Ne.symm ne_ow_gh) (Ne.symm ne_oz_gh) (Ne.symm ne_oh_gh) u1397 (own_c3ws w0 w1 w2) hla (own_c3len w0 w1 w2)) F1399 d5_80 rfl (tw hw 73 rfl) (tw hw 75 rfl) (tw hw 74 rfl) (tw hw 3 rfl) (tw hw 4 rfl) (tw hw 76 rfl) (by decide) pd_6 rfl rfl rfl (Nat.le_of_eq rfl) (by decide) (by decide) (by decide) (by decide) (fun v1491 h1492 r1493 => ?_)
  obtain ⟨rfl, K1494, F1495, F1496, F1497, F1498, F1499, F1500, F1501, F1502, F1503, F1504, F1505, F1506⟩ := r1493
  have F1507 := F1399.keep K1494
  have F1520 := F1412.keep K1494 (ninS (Ne.symm ne_o_ot) (ninS (Ne.symm ne_os_ot) (ninS (Ne.symm ne_oi_ot) (ninS (Ne.symm ne_ow_ot) (ninS (Ne.symm ne_oz_ot) (ninS (Ne.symm ne_oh_ot) nin0))))))
  have F1521 := F1413.keep K1494
  have F1522 := F1418.keep K1494 (ninS (Ne.symm ne_o_gw) (ninS (Ne.symm ne_os_gw) (ninS (Ne.symm ne_oi_gw) (ninS (Ne.symm ne_ow_gw) (ninS (Ne.symm ne_oz_gw) (ninS (Ne.symm ne_oh_gw) nin0))))))
  have F1523 := F1392.keep K1494 (ninS (Ne.symm ne_o_g) (ninS (Ne.symm ne_os_g) (ninS (Ne.symm ne_oi_g) (ninS (Ne.symm ne_ow_g) (ninS (Ne.symm ne_oz_g) (ninS (Ne.symm ne_oh_g) nin0))))))
  have F1524 := F1393.keep K1494 (ninS (Ne.symm ne_o_g) (ninS (Ne.symm ne_os_g) (ninS (Ne.symm ne_oi_g) (ninS (Ne.symm ne_ow_g) (ninS (Ne.symm ne_oz_g) (ninS (Ne.symm ne_oh_g) nin0))))))
  have F1525 := F1394.keep K1494 (ninS (Ne.symm ne_o_g) (ninS (Ne.symm ne_os_g) (ninS (Ne.symm ne_oi_g) (ninS (Ne.symm ne_ow_g) (ninS (Ne.symm ne_oz_g) (ninS (Ne.symm ne_oh_g) nin0))))))
  have F1526 := F1395.keep K1494 (ninS (Ne.symm ne_o_g) (ninS (Ne.symm ne_os_g) (ninS (Ne.symm ne_oi_g) (ninS (Ne.symm ne_ow_g) (ninS (Ne.symm ne_oz_g) (ninS (Ne.symm ne_oh_g) nin0))))))
  have F1527 := F1396.keep K1494 (ninS (Ne.symm ne_o_gh) (ninS (Ne.symm ne_os_gh) (ninS (Ne.symm ne_oi_gh) (ninS (Ne.symm ne_ow_gh) (ninS (Ne.symm ne_oz_gh) (ninS (Ne.symm ne_oh_gh) nin0))))))
  refine C.istore (Ls' := #[rv o, rv g, iv y1423, iv 31, iv (y1423 &&& 31), iv 1]) d5_83 rfl rfl ?_
  refine C.aloadN d5_85 rfl rfl rfl ?_
  refine C.getF d5_86 rfl (tw hw 22 rfl) F1500 ?_
  refine C.iload d5_89 rfl rfl ?_
  refine C.aloadN d5_91 rfl rfl rfl ?_
  refine C.getF d5_92 rfl (tw hw 77 rfl) F1501 ?_
  refine C.iastore d5_95 rfl F1520 g_ot (own_sl y1423).1 (by rw [List.length_set]; exact (own_sl y1423).2) (fun h1528 W1529 F1530 => ?_)
  have F1531 := Exa.wr W1529 F1507
  have F1532 := Exa.wr W1529 F1521
  have F1533 := F1522.other W1529 (Ne.symm ne_ot_gw)
  have F1534 := Fld.other W1529 F1523 (Or.inl (Ne.symm ne_ot_g))
  have F1535 := Fld.other W1529 F1524 (Or.inl (Ne.symm ne_ot_g))
  have F1536 := Fld.other W1529 F1525 (Or.inl (Ne.symm ne_ot_g))
  have F1537 := Fld.other W1529 F1526 (Or.inl (Ne.symm ne_ot_g))
  have F1538 := F1527.other W1529 (Ne.symm ne_ot_gh)
  have F1539 := Fld.other W1529 F1495 (Or.inl ne_o_ot)
  have F1540 := Fld.other W1529 F1496 (Or.inl ne_o_ot)
  have F1541 := Fld.other W1529 F1497 (Or.inl ne_o_ot)
  have F1542 := Fld.other W1529 F1498 (Or.inl ne_o_ot)
  have F1543 := Fld.other W1529 F1499 (Or.inl ne_o_ot)
  have F1544 := Fld.other W1529 F1500 (Or.inl ne_o_ot)
  have F1545 := Fld.other W1529 F1501 (Or.inl ne_o_ot)
  have F1546 := F1502.other W1529 ne_os_ot
  have F1547 := F1503.other W1529 ne_oi_ot
  have F1548 := F1504.other W1529 ne_ow_ot
  have F1549 := F1505.other W1529 ne_oz_ot
  have F1550 := F1506.other W1529 ne_oh_ot
  refine C.iconst 2 d5_96 rfl rfl ?_
  refine C.aloadN d5_97 rfl rfl rfl ?_
  refine C.getF d5_98 rfl (tw hw 77 rfl) F1545 ?_
  refine C.imul d5_101 rfl ?_
  refine Go.cI (y := 4) rfl ?_
  refine C.aloadN d5_102 rfl rfl rfl ?_
  refine C.getF d5_103 rfl (tw hw 22 rfl) F1544 ?_
  refine C.alen d5_106 rfl F1530 ?_
  rw [show (((zI32.set sl (.int 1)).set (Int32.toNatClampNeg (y1423 &&& 31)) (.int 2)).length.toInt32) = (32 : Int32) by simp only [List.length_set]; rfl]
  refine C.icmp_le_t d5_107 (by decide) rfl (by decide) ?_
  refine C.iload d5_114 rfl rfl ?_
  exact C.retI d5_116 (by decide) (by decide) ⟨y1390, (Int32.ofNat (own_c3 w0 w1 w2).length), 1, (.int 0 :: .int (Int32.ofNat la.length) :: .int (Int32.ofNat (la.length + (own_c3 w0 w1 w2).length)) :: zI14), own_ix (la ++ (own_c3 w0 w1 w2)), own_wd (la ++ (own_c3 w0 w1 w2)), (.int (own_sz la) :: .int (own_sz (own_c3 w0 w1 w2)) :: zI14), rfl, ((((Keep.refl h0 [o, os, oi, ow, oz, oh, ot, g, gh]).trans K1391 (allS (Or.inl (List.mem_of_getElem? (i := 7) rfl)) (allS (Or.inl (List.mem_of_getElem? (i := 8) rfl)) all0))).trans K1494 (allS (Or.inl (List.mem_of_getElem? (i := 0) rfl)) (allS (Or.inl (List.mem_of_getElem? (i := 1) rfl)) (allS (Or.inl (List.mem_of_getElem? (i := 2) rfl)) (allS (Or.inl (List.mem_of_getElem? (i := 3) rfl)) (allS (Or.inl (List.mem_of_getElem? (i := 4) rfl)) (allS (Or.inl (List.mem_of_getElem? (i := 5) rfl)) all0))))))).wr W1529 (Or.inl (List.mem_of_getElem? (i := 6) rfl))), F1539, F1540, F1541, F1542, F1543, F1544, F1546, F1547, F1548, F1549, F1534, F1535, F1536, F1537, F1538, u1398, (own_set0 la (own_c3 w0 w1 w2) [] _ _ hla), (own_set1 la (own_c3 w0 w1 w2) _ _ _ hla (own_c3len w0 w1 w2)), (fun q => absurd q (by decide))⟩
def own_ov (v0 v1 v2 : Int64) (i : Int32) : Int64 := if i = 0 then v0 else if i = 1 then v1 else v2
def own_mt (n : Int32) (v0 v1 v2 : Int64) : List (Int32 × Int64) → Int32
  | [] => 0
  | p :: t => if p.1 < n ∧ ¬ p.2 &&& own_ov v0 v1 v2 p.1 = 0 then 1 else own_mt n v0 v1 v2 t
def own_ep (n : Int32) (x0 x1 x2 v0 v1 v2 : Int64) : Int32 := if (0 < n ∧ ¬ x0 &&& v0 = 0) ∨ (1 < n ∧ ¬ x1 &&& v1 = 0) ∨ (2 < n ∧ ¬ x2 &&& v2 = 0) then 1 else 0
def own_rg (l : List (Int32 × Int64)) : Prop := ∀ p ∈ l, p.1 = 0 ∨ p.1 = 1 ∨ p.1 = 2
theorem own_c3rg (a b c : Int64) : own_rg (own_c3 a b c) := fun p h => by
  simp only [own_c3, List.mem_append] at h
  rcases h with h | h | h
  · split at h
    · simp at h
    · rw [List.mem_singleton.mp h]; exact Or.inl rfl
  · split at h
    · simp at h
    · rw [List.mem_singleton.mp h]; exact Or.inr (Or.inl rfl)
  · split at h
    · simp at h
    · rw [List.mem_singleton.mp h]; exact Or.inr (Or.inr rfl)
theorem own_mtc (n : Int32) (v0 v1 v2 : Int64) (i : Int32) (x : Int64) (t : List (Int32 × Int64)) : own_mt n v0 v1 v2 ((if x = 0 then [] else [(i, x)]) ++ t) = if i < n ∧ ¬ x &&& own_ov v0 v1 v2 i = 0 then 1 else own_mt n v0 v1 v2 t := by
  by_cases h : x = 0
  · subst h
    rw [if_pos rfl, if_neg (fun q => q.2 Int64.zero_and)]; rfl
  · rw [if_neg h]; rfl
theorem own_pl (n : Int32) (x0 x1 x2 v0 v1 v2 : Int64) : own_mt n v0 v1 v2 (own_c3 x0 x1 x2) = own_ep n x0 x1 x2 v0 v1 v2 := by
  have e : own_c3 x0 x1 x2 = (if x0 = 0 then [] else [(0, x0)]) ++ ((if x1 = 0 then [] else [(1, x1)]) ++ ((if x2 = 0 then [] else [(2, x2)]) ++ [])) := by rw [List.append_nil]; rfl
  rw [e, own_mtc, own_mtc, own_mtc]
  show (if 0 < n ∧ ¬ x0 &&& v0 = 0 then 1 else if 1 < n ∧ ¬ x1 &&& v1 = 0 then 1 else if 2 < n ∧ ¬ x2 &&& v2 = 0 then 1 else (0 : Int32)) = own_ep n x0 x1 x2 v0 v1 v2
  rw [own_ep]
  by_cases a : 0 < n ∧ ¬ x0 &&& v0 = 0
  · rw [if_pos a, if_pos (Or.inl a)]
  · rw [if_neg a]
    by_cases b : 1 < n ∧ ¬ x1 &&& v1 = 0
    · rw [if_pos b, if_pos (Or.inr (Or.inl b))]
    · rw [if_neg b]
      by_cases d : 2 < n ∧ ¬ x2 &&& v2 = 0
      · rw [if_pos d, if_pos (Or.inr (Or.inr d))]
      · rw [if_neg d, if_neg (fun q => q.elim a (fun q => q.elim b d))]
theorem own_c3inj {a b c a' b' c' : Int64} (h : own_c3 a b c = own_c3 a' b' c') : a = a' := by
  by_cases h0 : a = 0 <;> by_cases h1 : a' = 0
  · rw [h0, h1]
  · exfalso; revert h; by_cases h2 : b = 0 <;> by_cases h3 : c = 0 <;> simp [own_c3, h0, h1, h2, h3]
  · exfalso; revert h; by_cases h2 : b' = 0 <;> by_cases h3 : c' = 0 <;> simp [own_c3, h0, h1, h2, h3]
  · simp [own_c3, h0, h1] at h; exact h.1
theorem own_cpl (x : Int64) : ¬ x ^^^ (-1 : Int64) = x := fun h => by
  have e := congrArg (· ^^^ x) h
  have f : x ^^^ (-1 : Int64) ^^^ x = -1 := by rw [Int64.xor_comm x, Int64.xor_assoc, Int64.xor_self, Int64.xor_zero]
  simp only [f, Int64.xor_self] at e
  exact absurd e (by decide)
theorem own_four (x : Int32) : x &&& (3 : Int32) = 0 ∨ x &&& (3 : Int32) = 1 ∨ x &&& (3 : Int32) = 2 ∨ x &&& (3 : Int32) = 3 := by
  have e : (x &&& 3).toInt = x.toInt % 2 ^ 2 := Jvm.Kit.i32_mask x 3 (k := 2) (by decide) (by decide)
  simp only [← Int32.toInt_inj, Int32.reduceToInt]; omega
theorem d13_0 : decode prog_22_method_7_code 0 = .ok (.iconst 0, 1) := by decide +kernel
theorem d13_1 : decode prog_22_method_7_code 1 = .ok (.istore_n 3, 1) := by decide +kernel
theorem d13_2 : decode prog_22_method_7_code 2 = .ok (.aload_n 0, 1) := by decide +kernel
theorem d13_3 : decode prog_22_method_7_code 3 = .ok (.getfield 7, 3) := by decide +kernel
theorem d13_6 : decode prog_22_method_7_code 6 = .ok (.iload_n 1, 1) := by decide +kernel
theorem d13_7 : decode prog_22_method_7_code 7 = .ok (.iaload, 1) := by decide +kernel
theorem d13_8 : decode prog_22_method_7_code 8 = .ok (.istore 4, 2) := by decide +kernel
theorem d13_10 : decode prog_22_method_7_code 10 = .ok (.iload 4, 2) := by decide +kernel
theorem d13_12 : decode prog_22_method_7_code 12 = .ok (.aload_n 0, 1) := by decide +kernel
theorem d13_13 : decode prog_22_method_7_code 13 = .ok (.getfield 7, 3) := by decide +kernel
theorem d13_16 : decode prog_22_method_7_code 16 = .ok (.iload_n 1, 1) := by decide +kernel
theorem d13_17 : decode prog_22_method_7_code 17 = .ok (.iconst 1, 1) := by decide +kernel
theorem d13_18 : decode prog_22_method_7_code 18 = .ok (.iadd, 1) := by decide +kernel
theorem d13_19 : decode prog_22_method_7_code 19 = .ok (.iaload, 1) := by decide +kernel
theorem d13_20 : decode prog_22_method_7_code 20 = .ok (.if_icmp .ge 53, 3) := by decide +kernel
theorem d13_23 : decode prog_22_method_7_code 23 = .ok (.iload_n 3, 1) := by decide +kernel
theorem d13_24 : decode prog_22_method_7_code 24 = .ok (.ifCond .ne 49, 3) := by decide +kernel
theorem d13_27 : decode prog_22_method_7_code 27 = .ok (.aload_n 0, 1) := by decide +kernel
theorem d13_28 : decode prog_22_method_7_code 28 = .ok (.getfield 13, 3) := by decide +kernel
theorem d13_31 : decode prog_22_method_7_code 31 = .ok (.iload 4, 2) := by decide +kernel
theorem d13_33 : decode prog_22_method_7_code 33 = .ok (.iaload, 1) := by decide +kernel
theorem d13_34 : decode prog_22_method_7_code 34 = .ok (.aload_n 2, 1) := by decide +kernel
theorem d13_35 : decode prog_22_method_7_code 35 = .ok (.arraylength, 1) := by decide +kernel
theorem d13_36 : decode prog_22_method_7_code 36 = .ok (.if_icmp .ge 29, 3) := by decide +kernel
theorem d13_39 : decode prog_22_method_7_code 39 = .ok (.aload_n 0, 1) := by decide +kernel
theorem d13_40 : decode prog_22_method_7_code 40 = .ok (.getfield 16, 3) := by decide +kernel
theorem d13_43 : decode prog_22_method_7_code 43 = .ok (.iload 4, 2) := by decide +kernel
theorem d13_45 : decode prog_22_method_7_code 45 = .ok (.laload, 1) := by decide +kernel
theorem d13_46 : decode prog_22_method_7_code 46 = .ok (.aload_n 2, 1) := by decide +kernel
theorem d13_47 : decode prog_22_method_7_code 47 = .ok (.aload_n 0, 1) := by decide +kernel
theorem d13_48 : decode prog_22_method_7_code 48 = .ok (.getfield 13, 3) := by decide +kernel
theorem d13_51 : decode prog_22_method_7_code 51 = .ok (.iload 4, 2) := by decide +kernel
theorem d13_53 : decode prog_22_method_7_code 53 = .ok (.iaload, 1) := by decide +kernel
theorem d13_54 : decode prog_22_method_7_code 54 = .ok (.laload, 1) := by decide +kernel
theorem d13_55 : decode prog_22_method_7_code 55 = .ok (.land, 1) := by decide +kernel
theorem d13_56 : decode prog_22_method_7_code 56 = .ok (.lconst 0, 1) := by decide +kernel
theorem d13_57 : decode prog_22_method_7_code 57 = .ok (.lcmp, 1) := by decide +kernel
theorem d13_58 : decode prog_22_method_7_code 58 = .ok (.ifCond .eq 7, 3) := by decide +kernel
theorem d13_61 : decode prog_22_method_7_code 61 = .ok (.iconst 1, 1) := by decide +kernel
theorem d13_62 : decode prog_22_method_7_code 62 = .ok (.goto 4, 3) := by decide +kernel
theorem d13_65 : decode prog_22_method_7_code 65 = .ok (.iconst 0, 1) := by decide +kernel
theorem d13_66 : decode prog_22_method_7_code 66 = .ok (.istore_n 3, 1) := by decide +kernel
theorem d13_67 : decode prog_22_method_7_code 67 = .ok (.iinc 4 1, 3) := by decide +kernel
theorem d13_70 : decode prog_22_method_7_code 70 = .ok (.goto (-60), 3) := by decide +kernel
theorem d13_73 : decode prog_22_method_7_code 73 = .ok (.iload_n 3, 1) := by decide +kernel
theorem d13_74 : decode prog_22_method_7_code 74 = .ok (.ireturn, 1) := by decide +kernel
theorem pf_9 : plainFor (⟨"com/example/detra/detra/StateSets", "intersects", "(I[J)Z"⟩ : MethodName) = true := by first | exact plainFor_of_name (by first | (simp [plainName, overriddenIn]; done) | decide +kernel) | decide +kernel
def Qcon_is0 (Z : State) (n0 : Nat) (h0 : Heap) (o : Addr) (os : Addr) (oi : Addr) (ow : Addr) (ob : Addr) (x9 : Int32) (ls : List (Int32 × Int64)) (ST : List Value) (IX : List Value) (WD : List Value) (SZ : List Value) (v : Option Value) (h' : Heap) : Prop := (v = some (.int (own_mt 0 0 0 0 ls))) ∧ (h0 = h')
theorem ef_con_is0 (m : MethodId) (o : Addr) (ob : Addr) (x9 : Int32) : entryFrame m #[(.ref o), (.int x9), (.ref ob)] 5 = mkF m 0 #[rv o, iv x9, rv ob, .unset, .unset] [] := by first | (simp [entryFrame, mkF, argsToLocals, Value.category]; done) | rfl
set_option maxRecDepth 65536 in
set_option maxHeartbeats 40000000 in
theorem con_is0 (l : Launch) (Z : State) (a0 : Array Value) (hw : ∀ d ∈ tables_1, d.before a0 Z = true) (n0 : Nat) (h0 : Heap) (hn0 : n0 ≤ h0.size) (o : Addr) (os : Addr) (oi : Addr) (ow : Addr) (ob : Addr) (x9 : Int32) (ls : List (Int32 × Int64)) (ST : List Value) (IX : List Value) (WD : List Value) (SZ : List Value) (P0 : Fld Z h0 o kC1 "starts" "[I" (.ref os)) (P1 : Fld Z h0 o kC1 "indices" "[I" (.ref oi)) (P2 : Fld Z h0 o kC1 "words" "[J" (.ref ow)) (P3 : Av Z h0 os .int ST) (P4 : Av Z h0 oi .int IX) (P5 : Av Z h0 ow .long WD) (P6 : Av Z h0 ob .long ([])) (hso : own_set ST IX WD SZ x9 ls) (hls : ls.length ≤ 3) (hrg : own_rg ls) :
    Con l Z n0 [] (⟨"com/example/detra/detra/StateSets", "intersects", "(I[J)Z"⟩ : MethodName) prog_22_method_7_code 5 (some .boolean) ({ frames := 0, cells := 0, slots := 0, locals := 0 } : Room) #[(.ref o), (.int x9), (.ref ob)] h0 (Qcon_is0 Z n0 h0 o os oi ow ob x9 ls ST IX WD SZ) := by
  refine Con.of pf_9 (fun m => ef_con_is0 m o ob x9) hn0 ?_
  intro p e s m below meth c C
  refine C.iconst 0 d13_0 rfl rfl ?_
  refine C.istoreN (Ls' := #[rv o, iv x9, rv ob, iv 0, .unset]) d13_1 rfl rfl ?_
  obtain ⟨so, so1, so2, so3, so4, so5, so6⟩ := hso
  refine C.aloadN d13_2 rfl rfl rfl ?_
  refine C.getF d13_3 rfl (tw hw 12 rfl) P0 ?_
  refine C.iloadN d13_6 rfl rfl ?_
  refine C.iaload (.int (Int32.ofNat so)) d13_7 rfl P3 so2.1 so3 ?_
  refine C.istore (Ls' := #[rv o, iv x9, rv ob, iv 0, iv (Int32.ofNat so)]) d13_8 rfl rfl ?_
  have JX1552 : ∀ (m_ j : Nat) (mt : Int32) (hj : j + m_ = ls.length) (hE : (mt = 1 ∧ own_mt 0 0 0 0 ls = 1) ∨ (mt = 0 ∧ own_mt 0 0 0 0 ls = own_mt 0 0 0 0 (ls.drop j))), Go p l e ({ frames := 0, cells := 0, slots := 0, locals := 0 } : Room) s m #[(.ref o), (.int x9), (.ref ob)] below meth c n0 (FinQ s n0 (Qcon_is0 Z n0 h0 o os oi ow ob x9 ls ST IX WD SZ) ({ frames := 0, cells := 0, slots := 0, locals := 0 } : Room).cells ({ frames := 0, cells := 0, slots := 0, locals := 0 } : Room).slots) h0 0 0 10 #[rv o, iv x9, rv ob, iv mt, iv (Int32.ofNat (so + j))] [] := by
    intro m_; induction m_ with
    | zero =>
      intro j mt hj hE
      refine C.iload d13_10 rfl rfl ?_
      refine C.aloadN d13_12 rfl rfl rfl ?_
      refine C.getF d13_13 rfl (tw hw 12 rfl) P0 ?_
      refine C.iloadN d13_16 rfl rfl ?_
      refine C.iconst 1 d13_17 rfl rfl ?_
      refine C.iadd d13_18 rfl ?_
      refine C.iaload (.int (Int32.ofNat (so + ls.length))) d13_19 rfl P3 so2.2 so4 ?_
      refine C.icmp_ge_t d13_20 (by decide) rfl (by rw [own_ltN (by omega) (by omega)]; omega) ?_
      refine C.iloadN d13_73 rfl rfl ?_
      exact C.retZ d13_74 (by rcases hE with ⟨h, -⟩ | ⟨h, -⟩ <;> rw [h] <;> rfl) (by decide) (by decide) ⟨(by rcases hE with ⟨h, hE⟩ | ⟨h, hE⟩ <;> rw [h, hE] <;> first | rfl | (rw [List.drop_eq_nil_of_le (by omega)]; rfl)), rfl⟩
    | succ m_ ih =>
      intro j mt hj hE
      obtain ⟨pp, hp, hm⟩ := own_at (lb := ls) (j := j) (by omega)
      rcases hE with ⟨rfl, hE⟩ | ⟨rfl, hE⟩
      · refine C.iload d13_10 rfl rfl ?_
        refine C.aloadN d13_12 rfl rfl rfl ?_
        refine C.getF d13_13 rfl (tw hw 12 rfl) P0 ?_
        refine C.iloadN d13_16 rfl rfl ?_
        refine C.iconst 1 d13_17 rfl rfl ?_
        refine C.iadd d13_18 rfl ?_
        refine C.iaload (.int (Int32.ofNat (so + ls.length))) d13_19 rfl P3 so2.2 so4 ?_
        refine C.icmp_ge_f d13_20 rfl (by rw [own_ltN (by omega) (by omega)]; omega) ?_
        refine C.iloadN d13_23 rfl rfl ?_
        refine C.if_ne_t d13_24 (by decide) rfl (by decide) ?_
        refine C.iloadN d13_73 rfl rfl ?_
        exact C.retZ d13_74 rfl (by decide) (by decide) ⟨(by rw [hE]), rfl⟩
      rw [own_dc hp] at hE
      refine C.iload d13_10 rfl rfl ?_
      refine C.aloadN d13_12 rfl rfl rfl ?_
      refine C.getF d13_13 rfl (tw hw 12 rfl) P0 ?_
      refine C.iloadN d13_16 rfl rfl ?_
      refine C.iconst 1 d13_17 rfl rfl ?_
      refine C.iadd d13_18 rfl ?_
      refine C.iaload (.int (Int32.ofNat (so + ls.length))) d13_19 rfl P3 so2.2 so4 ?_
      refine C.icmp_ge_f d13_20 rfl (by rw [own_ltN (by omega) (by omega)]; omega) ?_
      refine C.iloadN d13_23 rfl rfl ?_
      refine C.if_ne_f d13_24 rfl (by decide) ?_
      refine C.aloadN d13_27 rfl rfl rfl ?_
      refine C.getF d13_28 rfl (tw hw 14 rfl) P1 ?_
      refine C.iload d13_31 rfl rfl ?_
      refine C.iaload (.int pp.1) d13_33 rfl P4 (own_nn (by omega)) (by rw [own_toN (by omega)]; exact (so6 _ _ hp).1) ?_
      refine C.aloadN d13_34 rfl rfl rfl ?_
      refine C.alen d13_35 rfl P6 ?_
      refine Go.cI (y := 0) rfl ?_
      refine C.icmp_ge d13_36 (by decide) rfl rfl (fun q36 => ?_) (fun q36 => ?_)
      · refine C.iconst 0 d13_65 rfl rfl ?_
        refine C.istoreN (Ls' := #[rv o, iv x9, rv ob, iv 0, iv (Int32.ofNat (so + j))]) d13_66 rfl rfl ?_
        refine C.iinc (Ls' := #[rv o, iv x9, rv ob, iv 0, iv ((Int32.ofNat (so + j)) + 1)]) 1 d13_67 rfl rfl rfl rfl ?_
        refine C.goto d13_70 (by decide) rfl ?_
        rw [own_s1, Nat.add_assoc]
        exact ih (j + 1) 0 (by omega) (Or.inr ⟨rfl, hE.trans (if_neg (fun q => q36 q.1))⟩)
      refine C.aloadN d13_39 rfl rfl rfl ?_
      refine C.getF d13_40 rfl (tw hw 16 rfl) P2 ?_
      refine C.iload d13_43 rfl rfl ?_
      refine C.laload (.long pp.2) d13_45 rfl P5 (own_nn (by omega)) (by rw [own_toN (by omega)]; exact (so6 _ _ hp).2) ?_
      refine C.aloadN d13_46 rfl rfl rfl ?_
      refine C.aloadN d13_47 rfl rfl rfl ?_
      refine C.getF d13_48 rfl (tw hw 14 rfl) P1 ?_
      refine C.iload d13_51 rfl rfl ?_
      refine C.iaload (.int pp.1) d13_53 rfl P4 (own_nn (by omega)) (by rw [own_toN (by omega)]; exact (so6 _ _ hp).1) ?_
      refine C.laload (.long (own_ov 0 0 0 pp.1)) d13_54 rfl P6 (by rcases hrg pp hm with h | h | h <;> rw [h] <;> decide) (by rcases hrg pp hm with h | h | h <;> rw [h] at q36 ⊢ <;> first | rfl | exact absurd q36 (by decide)) ?_
      refine C.land d13_55 rfl ?_
      refine C.lconst 0 d13_56 rfl rfl ?_
      refine C.lcmp d13_57 rfl ?_
      refine C.lif_eq d13_58 (by decide) rfl rfl (fun q58 => ?_) (fun q58 => ?_)
      · refine C.iconst 0 d13_65 rfl rfl ?_
        refine C.istoreN (Ls' := #[rv o, iv x9, rv ob, iv 0, iv (Int32.ofNat (so + j))]) d13_66 rfl rfl ?_
        refine C.iinc (Ls' := #[rv o, iv x9, rv ob, iv 0, iv ((Int32.ofNat (so + j)) + 1)]) 1 d13_67 rfl rfl rfl rfl ?_
        refine C.goto d13_70 (by decide) rfl ?_
        rw [own_s1, Nat.add_assoc]
        exact ih (j + 1) 0 (by omega) (Or.inr ⟨rfl, hE.trans (if_neg (fun q => q.2 q58))⟩)
      refine C.iconst 1 d13_61 rfl rfl ?_
      refine C.goto d13_62 (by decide) rfl ?_
      refine C.istoreN (Ls' := #[rv o, iv x9, rv ob, iv 1, iv (Int32.ofNat (so + j))]) d13_66 rfl rfl ?_
      refine C.iinc (Ls' := #[rv o, iv x9, rv ob, iv 1, iv ((Int32.ofNat (so + j)) + 1)]) 1 d13_67 rfl rfl rfl rfl ?_
      refine C.goto d13_70 (by decide) rfl ?_
      rw [own_s1, Nat.add_assoc]
      exact ih (j + 1) 1 (by omega) (Or.inl ⟨rfl, hE.trans (if_pos ⟨q36, q58⟩)⟩)
  exact JX1552 ls.length 0 0 (by omega) (Or.inr ⟨rfl, rfl⟩)
def Qcon_is1 (Z : State) (n0 : Nat) (h0 : Heap) (o : Addr) (os : Addr) (oi : Addr) (ow : Addr) (ob : Addr) (x9 : Int32) (ls : List (Int32 × Int64)) (ST : List Value) (IX : List Value) (WD : List Value) (SZ : List Value) (v0 : Int64) (v : Option Value) (h' : Heap) : Prop := (v = some (.int (own_mt 1 v0 0 0 ls))) ∧ (h0 = h')
theorem ef_con_is1 (m : MethodId) (o : Addr) (ob : Addr) (x9 : Int32) : entryFrame m #[(.ref o), (.int x9), (.ref ob)] 5 = mkF m 0 #[rv o, iv x9, rv ob, .unset, .unset] [] := by first | (simp [entryFrame, mkF, argsToLocals, Value.category]; done) | rfl
set_option maxRecDepth 65536 in
set_option maxHeartbeats 40000000 in
theorem con_is1 (l : Launch) (Z : State) (a0 : Array Value) (hw : ∀ d ∈ tables_1, d.before a0 Z = true) (n0 : Nat) (h0 : Heap) (hn0 : n0 ≤ h0.size) (o : Addr) (os : Addr) (oi : Addr) (ow : Addr) (ob : Addr) (x9 : Int32) (ls : List (Int32 × Int64)) (ST : List Value) (IX : List Value) (WD : List Value) (SZ : List Value) (v0 : Int64) (P0 : Fld Z h0 o kC1 "starts" "[I" (.ref os)) (P1 : Fld Z h0 o kC1 "indices" "[I" (.ref oi)) (P2 : Fld Z h0 o kC1 "words" "[J" (.ref ow)) (P3 : Av Z h0 os .int ST) (P4 : Av Z h0 oi .int IX) (P5 : Av Z h0 ow .long WD) (P6 : Av Z h0 ob .long ([.long v0])) (hso : own_set ST IX WD SZ x9 ls) (hls : ls.length ≤ 3) (hrg : own_rg ls) :
    Con l Z n0 [] (⟨"com/example/detra/detra/StateSets", "intersects", "(I[J)Z"⟩ : MethodName) prog_22_method_7_code 5 (some .boolean) ({ frames := 0, cells := 0, slots := 0, locals := 0 } : Room) #[(.ref o), (.int x9), (.ref ob)] h0 (Qcon_is1 Z n0 h0 o os oi ow ob x9 ls ST IX WD SZ v0) := by
  refine Con.of pf_9 (fun m => ef_con_is1 m o ob x9) hn0 ?_
  intro p e s m below meth c C
  refine C.iconst 0 d13_0 rfl rfl ?_
  refine C.istoreN (Ls' := #[rv o, iv x9, rv ob, iv 0, .unset]) d13_1 rfl rfl ?_
  obtain ⟨so, so1, so2, so3, so4, so5, so6⟩ := hso
  refine C.aloadN d13_2 rfl rfl rfl ?_
  refine C.getF d13_3 rfl (tw hw 12 rfl) P0 ?_
  refine C.iloadN d13_6 rfl rfl ?_
  refine C.iaload (.int (Int32.ofNat so)) d13_7 rfl P3 so2.1 so3 ?_
  refine C.istore (Ls' := #[rv o, iv x9, rv ob, iv 0, iv (Int32.ofNat so)]) d13_8 rfl rfl ?_
  have JX1554 : ∀ (m_ j : Nat) (mt : Int32) (hj : j + m_ = ls.length) (hE : (mt = 1 ∧ own_mt 1 v0 0 0 ls = 1) ∨ (mt = 0 ∧ own_mt 1 v0 0 0 ls = own_mt 1 v0 0 0 (ls.drop j))), Go p l e ({ frames := 0, cells := 0, slots := 0, locals := 0 } : Room) s m #[(.ref o), (.int x9), (.ref ob)] below meth c n0 (FinQ s n0 (Qcon_is1 Z n0 h0 o os oi ow ob x9 ls ST IX WD SZ v0) ({ frames := 0, cells := 0, slots := 0, locals := 0 } : Room).cells ({ frames := 0, cells := 0, slots := 0, locals := 0 } : Room).slots) h0 0 0 10 #[rv o, iv x9, rv ob, iv mt, iv (Int32.ofNat (so + j))] [] := by
    intro m_; induction m_ with
    | zero =>
      intro j mt hj hE
      refine C.iload d13_10 rfl rfl ?_
      refine C.aloadN d13_12 rfl rfl rfl ?_
      refine C.getF d13_13 rfl (tw hw 12 rfl) P0 ?_
      refine C.iloadN d13_16 rfl rfl ?_
      refine C.iconst 1 d13_17 rfl rfl ?_
      refine C.iadd d13_18 rfl ?_
      refine C.iaload (.int (Int32.ofNat (so + ls.length))) d13_19 rfl P3 so2.2 so4 ?_
      refine C.icmp_ge_t d13_20 (by decide) rfl (by rw [own_ltN (by omega) (by omega)]; omega) ?_
      refine C.iloadN d13_73 rfl rfl ?_
      exact C.retZ d13_74 (by rcases hE with ⟨h, -⟩ | ⟨h, -⟩ <;> rw [h] <;> rfl) (by decide) (by decide) ⟨(by rcases hE with ⟨h, hE⟩ | ⟨h, hE⟩ <;> rw [h, hE] <;> first | rfl | (rw [List.drop_eq_nil_of_le (by omega)]; rfl)), rfl⟩
    | succ m_ ih =>
      intro j mt hj hE
      obtain ⟨pp, hp, hm⟩ := own_at (lb := ls) (j := j) (by omega)
      rcases hE with ⟨rfl, hE⟩ | ⟨rfl, hE⟩
      · refine C.iload d13_10 rfl rfl ?_
        refine C.aloadN d13_12 rfl rfl rfl ?_
        refine C.getF d13_13 rfl (tw hw 12 rfl) P0 ?_
        refine C.iloadN d13_16 rfl rfl ?_
        refine C.iconst 1 d13_17 rfl rfl ?_
        refine C.iadd d13_18 rfl ?_
        refine C.iaload (.int (Int32.ofNat (so + ls.length))) d13_19 rfl P3 so2.2 so4 ?_
        refine C.icmp_ge_f d13_20 rfl (by rw [own_ltN (by omega) (by omega)]; omega) ?_
        refine C.iloadN d13_23 rfl rfl ?_
        refine C.if_ne_t d13_24 (by decide) rfl (by decide) ?_
        refine C.iloadN d13_73 rfl rfl ?_
        exact C.retZ d13_74 rfl (by decide) (by decide) ⟨(by rw [hE]), rfl⟩
      rw [own_dc hp] at hE
      refine C.iload d13_10 rfl rfl ?_
      refine C.aloadN d13_12 rfl rfl rfl ?_
      refine C.getF d13_13 rfl (tw hw 12 rfl) P0 ?_
      refine C.iloadN d13_16 rfl rfl ?_
      refine C.iconst 1 d13_17 rfl rfl ?_
      refine C.iadd d13_18 rfl ?_
      refine C.iaload (.int (Int32.ofNat (so + ls.length))) d13_19 rfl P3 so2.2 so4 ?_
      refine C.icmp_ge_f d13_20 rfl (by rw [own_ltN (by omega) (by omega)]; omega) ?_
      refine C.iloadN d13_23 rfl rfl ?_
      refine C.if_ne_f d13_24 rfl (by decide) ?_
      refine C.aloadN d13_27 rfl rfl rfl ?_
      refine C.getF d13_28 rfl (tw hw 14 rfl) P1 ?_
      refine C.iload d13_31 rfl rfl ?_
      refine C.iaload (.int pp.1) d13_33 rfl P4 (own_nn (by omega)) (by rw [own_toN (by omega)]; exact (so6 _ _ hp).1) ?_
      refine C.aloadN d13_34 rfl rfl rfl ?_
      refine C.alen d13_35 rfl P6 ?_
      refine Go.cI (y := 1) rfl ?_
      refine C.icmp_ge d13_36 (by decide) rfl rfl (fun q36 => ?_) (fun q36 => ?_)
      · refine C.iconst 0 d13_65 rfl rfl ?_
        refine C.istoreN (Ls' := #[rv o, iv x9, rv ob, iv 0, iv (Int32.ofNat (so + j))]) d13_66 rfl rfl ?_
        refine C.iinc (Ls' := #[rv o, iv x9, rv ob, iv 0, iv ((Int32.ofNat (so + j)) + 1)]) 1 d13_67 rfl rfl rfl rfl ?_
        refine C.goto d13_70 (by decide) rfl ?_
        rw [own_s1, Nat.add_assoc]
        exact ih (j + 1) 0 (by omega) (Or.inr ⟨rfl, hE.trans (if_neg (fun q => q36 q.1))⟩)
      refine C.aloadN d13_39 rfl rfl rfl ?_
      refine C.getF d13_40 rfl (tw hw 16 rfl) P2 ?_
      refine C.iload d13_43 rfl rfl ?_
      refine C.laload (.long pp.2) d13_45 rfl P5 (own_nn (by omega)) (by rw [own_toN (by omega)]; exact (so6 _ _ hp).2) ?_
      refine C.aloadN d13_46 rfl rfl rfl ?_
      refine C.aloadN d13_47 rfl rfl rfl ?_
      refine C.getF d13_48 rfl (tw hw 14 rfl) P1 ?_
      refine C.iload d13_51 rfl rfl ?_
      refine C.iaload (.int pp.1) d13_53 rfl P4 (own_nn (by omega)) (by rw [own_toN (by omega)]; exact (so6 _ _ hp).1) ?_
      refine C.laload (.long (own_ov v0 0 0 pp.1)) d13_54 rfl P6 (by rcases hrg pp hm with h | h | h <;> rw [h] <;> decide) (by rcases hrg pp hm with h | h | h <;> rw [h] at q36 ⊢ <;> first | rfl | exact absurd q36 (by decide)) ?_
      refine C.land d13_55 rfl ?_
      refine C.lconst 0 d13_56 rfl rfl ?_
      refine C.lcmp d13_57 rfl ?_
      refine C.lif_eq d13_58 (by decide) rfl rfl (fun q58 => ?_) (fun q58 => ?_)
      · refine C.iconst 0 d13_65 rfl rfl ?_
        refine C.istoreN (Ls' := #[rv o, iv x9, rv ob, iv 0, iv (Int32.ofNat (so + j))]) d13_66 rfl rfl ?_
        refine C.iinc (Ls' := #[rv o, iv x9, rv ob, iv 0, iv ((Int32.ofNat (so + j)) + 1)]) 1 d13_67 rfl rfl rfl rfl ?_
        refine C.goto d13_70 (by decide) rfl ?_
        rw [own_s1, Nat.add_assoc]
        exact ih (j + 1) 0 (by omega) (Or.inr ⟨rfl, hE.trans (if_neg (fun q => q.2 q58))⟩)
      refine C.iconst 1 d13_61 rfl rfl ?_
      refine C.goto d13_62 (by decide) rfl ?_
      refine C.istoreN (Ls' := #[rv o, iv x9, rv ob, iv 1, iv (Int32.ofNat (so + j))]) d13_66 rfl rfl ?_
      refine C.iinc (Ls' := #[rv o, iv x9, rv ob, iv 1, iv ((Int32.ofNat (so + j)) + 1)]) 1 d13_67 rfl rfl rfl rfl ?_
      refine C.goto d13_70 (by decide) rfl ?_
      rw [own_s1, Nat.add_assoc]
      exact ih (j + 1) 1 (by omega) (Or.inl ⟨rfl, hE.trans (if_pos ⟨q36, q58⟩)⟩)
  exact JX1554 ls.length 0 0 (by omega) (Or.inr ⟨rfl, rfl⟩)
def Qcon_is2 (Z : State) (n0 : Nat) (h0 : Heap) (o : Addr) (os : Addr) (oi : Addr) (ow : Addr) (ob : Addr) (x9 : Int32) (ls : List (Int32 × Int64)) (ST : List Value) (IX : List Value) (WD : List Value) (SZ : List Value) (v0 : Int64) (v1 : Int64) (v : Option Value) (h' : Heap) : Prop := (v = some (.int (own_mt 2 v0 v1 0 ls))) ∧ (h0 = h')
theorem ef_con_is2 (m : MethodId) (o : Addr) (ob : Addr) (x9 : Int32) : entryFrame m #[(.ref o), (.int x9), (.ref ob)] 5 = mkF m 0 #[rv o, iv x9, rv ob, .unset, .unset] [] := by first | (simp [entryFrame, mkF, argsToLocals, Value.category]; done) | rfl
set_option maxRecDepth 65536 in
set_option maxHeartbeats 40000000 in
theorem con_is2 (l : Launch) (Z : State) (a0 : Array Value) (hw : ∀ d ∈ tables_1, d.before a0 Z = true) (n0 : Nat) (h0 : Heap) (hn0 : n0 ≤ h0.size) (o : Addr) (os : Addr) (oi : Addr) (ow : Addr) (ob : Addr) (x9 : Int32) (ls : List (Int32 × Int64)) (ST : List Value) (IX : List Value) (WD : List Value) (SZ : List Value) (v0 : Int64) (v1 : Int64) (P0 : Fld Z h0 o kC1 "starts" "[I" (.ref os)) (P1 : Fld Z h0 o kC1 "indices" "[I" (.ref oi)) (P2 : Fld Z h0 o kC1 "words" "[J" (.ref ow)) (P3 : Av Z h0 os .int ST) (P4 : Av Z h0 oi .int IX) (P5 : Av Z h0 ow .long WD) (P6 : Av Z h0 ob .long ([.long v0, .long v1])) (hso : own_set ST IX WD SZ x9 ls) (hls : ls.length ≤ 3) (hrg : own_rg ls) :
    Con l Z n0 [] (⟨"com/example/detra/detra/StateSets", "intersects", "(I[J)Z"⟩ : MethodName) prog_22_method_7_code 5 (some .boolean) ({ frames := 0, cells := 0, slots := 0, locals := 0 } : Room) #[(.ref o), (.int x9), (.ref ob)] h0 (Qcon_is2 Z n0 h0 o os oi ow ob x9 ls ST IX WD SZ v0 v1) := by
  refine Con.of pf_9 (fun m => ef_con_is2 m o ob x9) hn0 ?_
  intro p e s m below meth c C
  refine C.iconst 0 d13_0 rfl rfl ?_
  refine C.istoreN (Ls' := #[rv o, iv x9, rv ob, iv 0, .unset]) d13_1 rfl rfl ?_
  obtain ⟨so, so1, so2, so3, so4, so5, so6⟩ := hso
  refine C.aloadN d13_2 rfl rfl rfl ?_
  refine C.getF d13_3 rfl (tw hw 12 rfl) P0 ?_
  refine C.iloadN d13_6 rfl rfl ?_
  refine C.iaload (.int (Int32.ofNat so)) d13_7 rfl P3 so2.1 so3 ?_
  refine C.istore (Ls' := #[rv o, iv x9, rv ob, iv 0, iv (Int32.ofNat so)]) d13_8 rfl rfl ?_
  have JX1556 : ∀ (m_ j : Nat) (mt : Int32) (hj : j + m_ = ls.length) (hE : (mt = 1 ∧ own_mt 2 v0 v1 0 ls = 1) ∨ (mt = 0 ∧ own_mt 2 v0 v1 0 ls = own_mt 2 v0 v1 0 (ls.drop j))), Go p l e ({ frames := 0, cells := 0, slots := 0, locals := 0 } : Room) s m #[(.ref o), (.int x9), (.ref ob)] below meth c n0 (FinQ s n0 (Qcon_is2 Z n0 h0 o os oi ow ob x9 ls ST IX WD SZ v0 v1) ({ frames := 0, cells := 0, slots := 0, locals := 0 } : Room).cells ({ frames := 0, cells := 0, slots := 0, locals := 0 } : Room).slots) h0 0 0 10 #[rv o, iv x9, rv ob, iv mt, iv (Int32.ofNat (so + j))] [] := by
    intro m_; induction m_ with
    | zero =>
      intro j mt hj hE
      refine C.iload d13_10 rfl rfl ?_
      refine C.aloadN d13_12 rfl rfl rfl ?_
      refine C.getF d13_13 rfl (tw hw 12 rfl) P0 ?_
      refine C.iloadN d13_16 rfl rfl ?_
      refine C.iconst 1 d13_17 rfl rfl ?_
      refine C.iadd d13_18 rfl ?_
      refine C.iaload (.int (Int32.ofNat (so + ls.length))) d13_19 rfl P3 so2.2 so4 ?_
      refine C.icmp_ge_t d13_20 (by decide) rfl (by rw [own_ltN (by omega) (by omega)]; omega) ?_
      refine C.iloadN d13_73 rfl rfl ?_
      exact C.retZ d13_74 (by rcases hE with ⟨h, -⟩ | ⟨h, -⟩ <;> rw [h] <;> rfl) (by decide) (by decide) ⟨(by rcases hE with ⟨h, hE⟩ | ⟨h, hE⟩ <;> rw [h, hE] <;> first | rfl | (rw [List.drop_eq_nil_of_le (by omega)]; rfl)), rfl⟩
    | succ m_ ih =>
      intro j mt hj hE
      obtain ⟨pp, hp, hm⟩ := own_at (lb := ls) (j := j) (by omega)
      rcases hE with ⟨rfl, hE⟩ | ⟨rfl, hE⟩
      · refine C.iload d13_10 rfl rfl ?_
        refine C.aloadN d13_12 rfl rfl rfl ?_
        refine C.getF d13_13 rfl (tw hw 12 rfl) P0 ?_
        refine C.iloadN d13_16 rfl rfl ?_
        refine C.iconst 1 d13_17 rfl rfl ?_
        refine C.iadd d13_18 rfl ?_
        refine C.iaload (.int (Int32.ofNat (so + ls.length))) d13_19 rfl P3 so2.2 so4 ?_
        refine C.icmp_ge_f d13_20 rfl (by rw [own_ltN (by omega) (by omega)]; omega) ?_
        refine C.iloadN d13_23 rfl rfl ?_
        refine C.if_ne_t d13_24 (by decide) rfl (by decide) ?_
        refine C.iloadN d13_73 rfl rfl ?_
        exact C.retZ d13_74 rfl (by decide) (by decide) ⟨(by rw [hE]), rfl⟩
      rw [own_dc hp] at hE
      refine C.iload d13_10 rfl rfl ?_
      refine C.aloadN d13_12 rfl rfl rfl ?_
      refine C.getF d13_13 rfl (tw hw 12 rfl) P0 ?_
      refine C.iloadN d13_16 rfl rfl ?_
      refine C.iconst 1 d13_17 rfl rfl ?_
      refine C.iadd d13_18 rfl ?_
      refine C.iaload (.int (Int32.ofNat (so + ls.length))) d13_19 rfl P3 so2.2 so4 ?_
      refine C.icmp_ge_f d13_20 rfl (by rw [own_ltN (by omega) (by omega)]; omega) ?_
      refine C.iloadN d13_23 rfl rfl ?_
      refine C.if_ne_f d13_24 rfl (by decide) ?_
      refine C.aloadN d13_27 rfl rfl rfl ?_
      refine C.getF d13_28 rfl (tw hw 14 rfl) P1 ?_
      refine C.iload d13_31 rfl rfl ?_
      refine C.iaload (.int pp.1) d13_33 rfl P4 (own_nn (by omega)) (by rw [own_toN (by omega)]; exact (so6 _ _ hp).1) ?_
      refine C.aloadN d13_34 rfl rfl rfl ?_
      refine C.alen d13_35 rfl P6 ?_
      refine Go.cI (y := 2) rfl ?_
      refine C.icmp_ge d13_36 (by decide) rfl rfl (fun q36 => ?_) (fun q36 => ?_)
      · refine C.iconst 0 d13_65 rfl rfl ?_
        refine C.istoreN (Ls' := #[rv o, iv x9, rv ob, iv 0, iv (Int32.ofNat (so + j))]) d13_66 rfl rfl ?_
        refine C.iinc (Ls' := #[rv o, iv x9, rv ob, iv 0, iv ((Int32.ofNat (so + j)) + 1)]) 1 d13_67 rfl rfl rfl rfl ?_
        refine C.goto d13_70 (by decide) rfl ?_
        rw [own_s1, Nat.add_assoc]
        exact ih (j + 1) 0 (by omega) (Or.inr ⟨rfl, hE.trans (if_neg (fun q => q36 q.1))⟩)
      refine C.aloadN d13_39 rfl rfl rfl ?_
      refine C.getF d13_40 rfl (tw hw 16 rfl) P2 ?_
      refine C.iload d13_43 rfl rfl ?_
      refine C.laload (.long pp.2) d13_45 rfl P5 (own_nn (by omega)) (by rw [own_toN (by omega)]; exact (so6 _ _ hp).2) ?_
      refine C.aloadN d13_46 rfl rfl rfl ?_
      refine C.aloadN d13_47 rfl rfl rfl ?_
      refine C.getF d13_48 rfl (tw hw 14 rfl) P1 ?_
      refine C.iload d13_51 rfl rfl ?_
      refine C.iaload (.int pp.1) d13_53 rfl P4 (own_nn (by omega)) (by rw [own_toN (by omega)]; exact (so6 _ _ hp).1) ?_
      refine C.laload (.long (own_ov v0 v1 0 pp.1)) d13_54 rfl P6 (by rcases hrg pp hm with h | h | h <;> rw [h] <;> decide) (by rcases hrg pp hm with h | h | h <;> rw [h] at q36 ⊢ <;> first | rfl | exact absurd q36 (by decide)) ?_
      refine C.land d13_55 rfl ?_
      refine C.lconst 0 d13_56 rfl rfl ?_
      refine C.lcmp d13_57 rfl ?_
      refine C.lif_eq d13_58 (by decide) rfl rfl (fun q58 => ?_) (fun q58 => ?_)
      · refine C.iconst 0 d13_65 rfl rfl ?_
        refine C.istoreN (Ls' := #[rv o, iv x9, rv ob, iv 0, iv (Int32.ofNat (so + j))]) d13_66 rfl rfl ?_
        refine C.iinc (Ls' := #[rv o, iv x9, rv ob, iv 0, iv ((Int32.ofNat (so + j)) + 1)]) 1 d13_67 rfl rfl rfl rfl ?_
        refine C.goto d13_70 (by decide) rfl ?_
        rw [own_s1, Nat.add_assoc]
        exact ih (j + 1) 0 (by omega) (Or.inr ⟨rfl, hE.trans (if_neg (fun q => q.2 q58))⟩)
      refine C.iconst 1 d13_61 rfl rfl ?_
      refine C.goto d13_62 (by decide) rfl ?_
      refine C.istoreN (Ls' := #[rv o, iv x9, rv ob, iv 1, iv (Int32.ofNat (so + j))]) d13_66 rfl rfl ?_
      refine C.iinc (Ls' := #[rv o, iv x9, rv ob, iv 1, iv ((Int32.ofNat (so + j)) + 1)]) 1 d13_67 rfl rfl rfl rfl ?_
      refine C.goto d13_70 (by decide) rfl ?_
      rw [own_s1, Nat.add_assoc]
      exact ih (j + 1) 1 (by omega) (Or.inl ⟨rfl, hE.trans (if_pos ⟨q36, q58⟩)⟩)
  exact JX1556 ls.length 0 0 (by omega) (Or.inr ⟨rfl, rfl⟩)
def Qcon_is3 (Z : State) (n0 : Nat) (h0 : Heap) (o : Addr) (os : Addr) (oi : Addr) (ow : Addr) (ob : Addr) (x9 : Int32) (ls : List (Int32 × Int64)) (ST : List Value) (IX : List Value) (WD : List Value) (SZ : List Value) (v0 : Int64) (v1 : Int64) (v2 : Int64) (v : Option Value) (h' : Heap) : Prop := (v = some (.int (own_mt 3 v0 v1 v2 ls))) ∧ (h0 = h')
theorem ef_con_is3 (m : MethodId) (o : Addr) (ob : Addr) (x9 : Int32) : entryFrame m #[(.ref o), (.int x9), (.ref ob)] 5 = mkF m 0 #[rv o, iv x9, rv ob, .unset, .unset] [] := by first | (simp [entryFrame, mkF, argsToLocals, Value.category]; done) | rfl
set_option maxRecDepth 65536 in
set_option maxHeartbeats 40000000 in
theorem con_is3 (l : Launch) (Z : State) (a0 : Array Value) (hw : ∀ d ∈ tables_1, d.before a0 Z = true) (n0 : Nat) (h0 : Heap) (hn0 : n0 ≤ h0.size) (o : Addr) (os : Addr) (oi : Addr) (ow : Addr) (ob : Addr) (x9 : Int32) (ls : List (Int32 × Int64)) (ST : List Value) (IX : List Value) (WD : List Value) (SZ : List Value) (v0 : Int64) (v1 : Int64) (v2 : Int64) (P0 : Fld Z h0 o kC1 "starts" "[I" (.ref os)) (P1 : Fld Z h0 o kC1 "indices" "[I" (.ref oi)) (P2 : Fld Z h0 o kC1 "words" "[J" (.ref ow)) (P3 : Av Z h0 os .int ST) (P4 : Av Z h0 oi .int IX) (P5 : Av Z h0 ow .long WD) (P6 : Av Z h0 ob .long ([.long v0, .long v1, .long v2])) (hso : own_set ST IX WD SZ x9 ls) (hls : ls.length ≤ 3) (hrg : own_rg ls) :
    Con l Z n0 [] (⟨"com/example/detra/detra/StateSets", "intersects", "(I[J)Z"⟩ : MethodName) prog_22_method_7_code 5 (some .boolean) ({ frames := 0, cells := 0, slots := 0, locals := 0 } : Room) #[(.ref o), (.int x9), (.ref ob)] h0 (Qcon_is3 Z n0 h0 o os oi ow ob x9 ls ST IX WD SZ v0 v1 v2) := by
  refine Con.of pf_9 (fun m => ef_con_is3 m o ob x9) hn0 ?_
  intro p e s m below meth c C
  refine C.iconst 0 d13_0 rfl rfl ?_
  refine C.istoreN (Ls' := #[rv o, iv x9, rv ob, iv 0, .unset]) d13_1 rfl rfl ?_
  obtain ⟨so, so1, so2, so3, so4, so5, so6⟩ := hso
  refine C.aloadN d13_2 rfl rfl rfl ?_
  refine C.getF d13_3 rfl (tw hw 12 rfl) P0 ?_
  refine C.iloadN d13_6 rfl rfl ?_
  refine C.iaload (.int (Int32.ofNat so)) d13_7 rfl P3 so2.1 so3 ?_
  refine C.istore (Ls' := #[rv o, iv x9, rv ob, iv 0, iv (Int32.ofNat so)]) d13_8 rfl rfl ?_
  have JX1558 : ∀ (m_ j : Nat) (mt : Int32) (hj : j + m_ = ls.length) (hE : (mt = 1 ∧ own_mt 3 v0 v1 v2 ls = 1) ∨ (mt = 0 ∧ own_mt 3 v0 v1 v2 ls = own_mt 3 v0 v1 v2 (ls.drop j))), Go p l e ({ frames := 0, cells := 0, slots := 0, locals := 0 } : Room) s m #[(.ref o), (.int x9), (.ref ob)] below meth c n0 (FinQ s n0 (Qcon_is3 Z n0 h0 o os oi ow ob x9 ls ST IX WD SZ v0 v1 v2) ({ frames := 0, cells := 0, slots := 0, locals := 0 } : Room).cells ({ frames := 0, cells := 0, slots := 0, locals := 0 } : Room).slots) h0 0 0 10 #[rv o, iv x9, rv ob, iv mt, iv (Int32.ofNat (so + j))] [] := by
    intro m_; induction m_ with
    | zero =>
      intro j mt hj hE
      refine C.iload d13_10 rfl rfl ?_
      refine C.aloadN d13_12 rfl rfl rfl ?_
      refine C.getF d13_13 rfl (tw hw 12 rfl) P0 ?_
      refine C.iloadN d13_16 rfl rfl ?_
      refine C.iconst 1 d13_17 rfl rfl ?_
      refine C.iadd d13_18 rfl ?_
      refine C.iaload (.int (Int32.ofNat (so + ls.length))) d13_19 rfl P3 so2.2 so4 ?_
      refine C.icmp_ge_t d13_20 (by decide) rfl (by rw [own_ltN (by omega) (by omega)]; omega) ?_
      refine C.iloadN d13_73 rfl rfl ?_
      exact C.retZ d13_74 (by rcases hE with ⟨h, -⟩ | ⟨h, -⟩ <;> rw [h] <;> rfl) (by decide) (by decide) ⟨(by rcases hE with ⟨h, hE⟩ | ⟨h, hE⟩ <;> rw [h, hE] <;> first | rfl | (rw [List.drop_eq_nil_of_le (by omega)]; rfl)), rfl⟩
    | succ m_ ih =>
      intro j mt hj hE
      obtain ⟨pp, hp, hm⟩ := own_at (lb := ls) (j := j) (by omega)
      rcases hE with ⟨rfl, hE⟩ | ⟨rfl, hE⟩
      · refine C.iload d13_10 rfl rfl ?_
        refine C.aloadN d13_12 rfl rfl rfl ?_
        refine C.getF d13_13 rfl (tw hw 12 rfl) P0 ?_
        refine C.iloadN d13_16 rfl rfl ?_
        refine C.iconst 1 d13_17 rfl rfl ?_
        refine C.iadd d13_18 rfl ?_
        refine C.iaload (.int (Int32.ofNat (so + ls.length))) d13_19 rfl P3 so2.2 so4 ?_
        refine C.icmp_ge_f d13_20 rfl (by rw [own_ltN (by omega) (by omega)]; omega) ?_
        refine C.iloadN d13_23 rfl rfl ?_
        refine C.if_ne_t d13_24 (by decide) rfl (by decide) ?_
        refine C.iloadN d13_73 rfl rfl ?_
        exact C.retZ d13_74 rfl (by decide) (by decide) ⟨(by rw [hE]), rfl⟩
      rw [own_dc hp] at hE
      refine C.iload d13_10 rfl rfl ?_
      refine C.aloadN d13_12 rfl rfl rfl ?_
      refine C.getF d13_13 rfl (tw hw 12 rfl) P0 ?_
      refine C.iloadN d13_16 rfl rfl ?_
      refine C.iconst 1 d13_17 rfl rfl ?_
      refine C.iadd d13_18 rfl ?_
      refine C.iaload (.int (Int32.ofNat (so + ls.length))) d13_19 rfl P3 so2.2 so4 ?_
      refine C.icmp_ge_f d13_20 rfl (by rw [own_ltN (by omega) (by omega)]; omega) ?_
      refine C.iloadN d13_23 rfl rfl ?_
      refine C.if_ne_f d13_24 rfl (by decide) ?_
      refine C.aloadN d13_27 rfl rfl rfl ?_
      refine C.getF d13_28 rfl (tw hw 14 rfl) P1 ?_
      refine C.iload d13_31 rfl rfl ?_
      refine C.iaload (.int pp.1) d13_33 rfl P4 (own_nn (by omega)) (by rw [own_toN (by omega)]; exact (so6 _ _ hp).1) ?_
      refine C.aloadN d13_34 rfl rfl rfl ?_
      refine C.alen d13_35 rfl P6 ?_
      refine Go.cI (y := 3) rfl ?_
      refine C.icmp_ge d13_36 (by decide) rfl rfl (fun q36 => ?_) (fun q36 => ?_)
      · refine C.iconst 0 d13_65 rfl rfl ?_
        refine C.istoreN (Ls' := #[rv o, iv x9, rv ob, iv 0, iv (Int32.ofNat (so + j))]) d13_66 rfl rfl ?_
        refine C.iinc (Ls' := #[rv o, iv x9, rv ob, iv 0, iv ((Int32.ofNat (so + j)) + 1)]) 1 d13_67 rfl rfl rfl rfl ?_
        refine C.goto d13_70 (by decide) rfl ?_
        rw [own_s1, Nat.add_assoc]
        exact ih (j + 1) 0 (by omega) (Or.inr ⟨rfl, hE.trans (if_neg (fun q => q36 q.1))⟩)
      refine C.aloadN d13_39 rfl rfl rfl ?_
      refine C.getF d13_40 rfl (tw hw 16 rfl) P2 ?_
      refine C.iload d13_43 rfl rfl ?_
      refine C.laload (.long pp.2) d13_45 rfl P5 (own_nn (by omega)) (by rw [own_toN (by omega)]; exact (so6 _ _ hp).2) ?_
      refine C.aloadN d13_46 rfl rfl rfl ?_
      refine C.aloadN d13_47 rfl rfl rfl ?_
      refine C.getF d13_48 rfl (tw hw 14 rfl) P1 ?_
      refine C.iload d13_51 rfl rfl ?_
      refine C.iaload (.int pp.1) d13_53 rfl P4 (own_nn (by omega)) (by rw [own_toN (by omega)]; exact (so6 _ _ hp).1) ?_
      refine C.laload (.long (own_ov v0 v1 v2 pp.1)) d13_54 rfl P6 (by rcases hrg pp hm with h | h | h <;> rw [h] <;> decide) (by rcases hrg pp hm with h | h | h <;> rw [h] at q36 ⊢ <;> first | rfl | exact absurd q36 (by decide)) ?_
      refine C.land d13_55 rfl ?_
      refine C.lconst 0 d13_56 rfl rfl ?_
      refine C.lcmp d13_57 rfl ?_
      refine C.lif_eq d13_58 (by decide) rfl rfl (fun q58 => ?_) (fun q58 => ?_)
      · refine C.iconst 0 d13_65 rfl rfl ?_
        refine C.istoreN (Ls' := #[rv o, iv x9, rv ob, iv 0, iv (Int32.ofNat (so + j))]) d13_66 rfl rfl ?_
        refine C.iinc (Ls' := #[rv o, iv x9, rv ob, iv 0, iv ((Int32.ofNat (so + j)) + 1)]) 1 d13_67 rfl rfl rfl rfl ?_
        refine C.goto d13_70 (by decide) rfl ?_
        rw [own_s1, Nat.add_assoc]
        exact ih (j + 1) 0 (by omega) (Or.inr ⟨rfl, hE.trans (if_neg (fun q => q.2 q58))⟩)
      refine C.iconst 1 d13_61 rfl rfl ?_
      refine C.goto d13_62 (by decide) rfl ?_
      refine C.istoreN (Ls' := #[rv o, iv x9, rv ob, iv 1, iv (Int32.ofNat (so + j))]) d13_66 rfl rfl ?_
      refine C.iinc (Ls' := #[rv o, iv x9, rv ob, iv 1, iv ((Int32.ofNat (so + j)) + 1)]) 1 d13_67 rfl rfl rfl rfl ?_
      refine C.goto d13_70 (by decide) rfl ?_
      rw [own_s1, Nat.add_assoc]
      exact ih (j + 1) 1 (by omega) (Or.inl ⟨rfl, hE.trans (if_pos ⟨q36, q58⟩)⟩)
  exact JX1558 ls.length 0 0 (by omega) (Or.inr ⟨rfl, rfl⟩)
theorem d14_0 : decode method_2_code 0 = .ok (.iload 12, 2) := by decide +kernel
theorem d14_2 : decode method_2_code 2 = .ok (.ifCond .le 16, 3) := by decide +kernel
theorem d14_5 : decode method_2_code 5 = .ok (.lload_n 0, 1) := by decide +kernel
theorem d14_6 : decode method_2_code 6 = .ok (.lload 6, 2) := by decide +kernel
theorem d14_8 : decode method_2_code 8 = .ok (.land, 1) := by decide +kernel
theorem d14_9 : decode method_2_code 9 = .ok (.lconst 0, 1) := by decide +kernel
theorem d14_10 : decode method_2_code 10 = .ok (.lcmp, 1) := by decide +kernel
theorem d14_11 : decode method_2_code 11 = .ok (.ifCond .eq 7, 3) := by decide +kernel
theorem d14_14 : decode method_2_code 14 = .ok (.iconst 1, 1) := by decide +kernel
theorem d14_15 : decode method_2_code 15 = .ok (.goto 4, 3) := by decide +kernel
theorem d14_18 : decode method_2_code 18 = .ok (.iconst 0, 1) := by decide +kernel
theorem d14_19 : decode method_2_code 19 = .ok (.istore 13, 2) := by decide +kernel
theorem d14_21 : decode method_2_code 21 = .ok (.iload 12, 2) := by decide +kernel
theorem d14_23 : decode method_2_code 23 = .ok (.iconst 1, 1) := by decide +kernel
theorem d14_24 : decode method_2_code 24 = .ok (.if_icmp .le 16, 3) := by decide +kernel
theorem d14_27 : decode method_2_code 27 = .ok (.lload_n 2, 1) := by decide +kernel
theorem d14_28 : decode method_2_code 28 = .ok (.lload 8, 2) := by decide +kernel
theorem d14_30 : decode method_2_code 30 = .ok (.land, 1) := by decide +kernel
theorem d14_31 : decode method_2_code 31 = .ok (.lconst 0, 1) := by decide +kernel
theorem d14_32 : decode method_2_code 32 = .ok (.lcmp, 1) := by decide +kernel
theorem d14_33 : decode method_2_code 33 = .ok (.ifCond .eq 7, 3) := by decide +kernel
theorem d14_36 : decode method_2_code 36 = .ok (.iconst 1, 1) := by decide +kernel
theorem d14_37 : decode method_2_code 37 = .ok (.goto 4, 3) := by decide +kernel
theorem d14_40 : decode method_2_code 40 = .ok (.iconst 0, 1) := by decide +kernel
theorem d14_41 : decode method_2_code 41 = .ok (.istore 14, 2) := by decide +kernel
theorem d14_43 : decode method_2_code 43 = .ok (.iload 12, 2) := by decide +kernel
theorem d14_45 : decode method_2_code 45 = .ok (.iconst 2, 1) := by decide +kernel
theorem d14_46 : decode method_2_code 46 = .ok (.if_icmp .le 17, 3) := by decide +kernel
theorem d14_49 : decode method_2_code 49 = .ok (.lload 4, 2) := by decide +kernel
theorem d14_51 : decode method_2_code 51 = .ok (.lload 10, 2) := by decide +kernel
theorem d14_53 : decode method_2_code 53 = .ok (.land, 1) := by decide +kernel
theorem d14_54 : decode method_2_code 54 = .ok (.lconst 0, 1) := by decide +kernel
theorem d14_55 : decode method_2_code 55 = .ok (.lcmp, 1) := by decide +kernel
theorem d14_56 : decode method_2_code 56 = .ok (.ifCond .eq 7, 3) := by decide +kernel
theorem d14_59 : decode method_2_code 59 = .ok (.iconst 1, 1) := by decide +kernel
theorem d14_60 : decode method_2_code 60 = .ok (.goto 4, 3) := by decide +kernel
theorem d14_63 : decode method_2_code 63 = .ok (.iconst 0, 1) := by decide +kernel
theorem d14_64 : decode method_2_code 64 = .ok (.istore 15, 2) := by decide +kernel
theorem d14_66 : decode method_2_code 66 = .ok (.iload 13, 2) := by decide +kernel
theorem d14_68 : decode method_2_code 68 = .ok (.ifCond .ne 13, 3) := by decide +kernel
theorem d14_71 : decode method_2_code 71 = .ok (.iload 14, 2) := by decide +kernel
theorem d14_73 : decode method_2_code 73 = .ok (.ifCond .ne 8, 3) := by decide +kernel
theorem d14_76 : decode method_2_code 76 = .ok (.iload 15, 2) := by decide +kernel
theorem d14_78 : decode method_2_code 78 = .ok (.ifCond .eq 7, 3) := by decide +kernel
theorem d14_81 : decode method_2_code 81 = .ok (.iconst 1, 1) := by decide +kernel
theorem d14_82 : decode method_2_code 82 = .ok (.goto 4, 3) := by decide +kernel
theorem d14_85 : decode method_2_code 85 = .ok (.iconst 0, 1) := by decide +kernel
theorem d14_86 : decode method_2_code 86 = .ok (.ireturn, 1) := by decide +kernel
theorem pf_10 : plainFor (⟨"com/example/detra/detra/StateSetsIntersectsPinLaw", "expect", "(JJJJJJI)Z"⟩ : MethodName) = true := by first | exact plainFor_of_name (by first | (simp [plainName, overriddenIn]; done) | decide +kernel) | decide +kernel
def Qcon_ep (Z : State) (n0 : Nat) (h0 : Heap) (y0 : Int64) (y1 : Int64) (y2 : Int64) (v0 : Int64) (v1 : Int64) (v2 : Int64) (nn : Int32) (v : Option Value) (h' : Heap) : Prop := (v = some (.int (own_ep nn y0 y1 y2 v0 v1 v2))) ∧ (h0 = h')
theorem ef_con_ep (m : MethodId) (y0 : Int64) (y1 : Int64) (y2 : Int64) (v0 : Int64) (v1 : Int64) (v2 : Int64) (nn : Int32) : entryFrame m #[(.long y0), (.long y1), (.long y2), (.long v0), (.long v1), (.long v2), (.int nn)] 16 = mkF m 0 #[.val (.long y0), .second, .val (.long y1), .second, .val (.long y2), .second, .val (.long v0), .second, .val (.long v1), .second, .val (.long v2), .second, iv nn, .unset, .unset, .unset] [] := by first | (simp [entryFrame, mkF, argsToLocals, Value.category]; done) | rfl
set_option maxRecDepth 65536 in
set_option maxHeartbeats 40000000 in
theorem con_ep (l : Launch) (Z : State) (a0 : Array Value) (hw : ∀ d ∈ tables_1, d.before a0 Z = true) (n0 : Nat) (h0 : Heap) (hn0 : n0 ≤ h0.size) (y0 : Int64) (y1 : Int64) (y2 : Int64) (v0 : Int64) (v1 : Int64) (v2 : Int64) (nn : Int32) :
    Con l Z n0 [] (⟨"com/example/detra/detra/StateSetsIntersectsPinLaw", "expect", "(JJJJJJI)Z"⟩ : MethodName) method_2_code 16 (some .boolean) ({ frames := 0, cells := 0, slots := 0, locals := 0 } : Room) #[(.long y0), (.long y1), (.long y2), (.long v0), (.long v1), (.long v2), (.int nn)] h0 (Qcon_ep Z n0 h0 y0 y1 y2 v0 v1 v2 nn) := by
  refine Con.of pf_10 (fun m => ef_con_ep m y0 y1 y2 v0 v1 v2 nn) hn0 ?_
  intro p e s m below meth c C
  refine C.iload d14_0 rfl rfl ?_
  have J19_1562 : ∀ (b0 : Int32) (hb0 : (b0 = 1 ∧ (0 < nn ∧ ¬ y0 &&& v0 = 0)) ∨ (b0 = 0 ∧ ¬ (0 < nn ∧ ¬ y0 &&& v0 = 0))), Go p l e ({ frames := 0, cells := 0, slots := 0, locals := 0 } : Room) s m #[(.long y0), (.long y1), (.long y2), (.long v0), (.long v1), (.long v2), (.int nn)] below meth c n0 (FinQ s n0 (Qcon_ep Z n0 h0 y0 y1 y2 v0 v1 v2 nn) ({ frames := 0, cells := 0, slots := 0, locals := 0 } : Room).cells ({ frames := 0, cells := 0, slots := 0, locals := 0 } : Room).slots) h0 0 0 19 #[.val (.long y0), .second, .val (.long y1), .second, .val (.long y2), .second, .val (.long v0), .second, .val (.long v1), .second, .val (.long v2), .second, iv nn, .unset, .unset, .unset] [(.int b0)] := by
    intro b0 hb0
    refine C.istore (Ls' := #[.val (.long y0), .second, .val (.long y1), .second, .val (.long y2), .second, .val (.long v0), .second, .val (.long v1), .second, .val (.long v2), .second, iv nn, iv b0, .unset, .unset]) d14_19 rfl rfl ?_
    refine C.iload d14_21 rfl rfl ?_
    refine C.iconst 1 d14_23 rfl rfl ?_
    have J41_1563 : ∀ (b1 : Int32) (hb1 : (b1 = 1 ∧ (1 < nn ∧ ¬ y1 &&& v1 = 0)) ∨ (b1 = 0 ∧ ¬ (1 < nn ∧ ¬ y1 &&& v1 = 0))), Go p l e ({ frames := 0, cells := 0, slots := 0, locals := 0 } : Room) s m #[(.long y0), (.long y1), (.long y2), (.long v0), (.long v1), (.long v2), (.int nn)] below meth c n0 (FinQ s n0 (Qcon_ep Z n0 h0 y0 y1 y2 v0 v1 v2 nn) ({ frames := 0, cells := 0, slots := 0, locals := 0 } : Room).cells ({ frames := 0, cells := 0, slots := 0, locals := 0 } : Room).slots) h0 0 0 41 #[.val (.long y0), .second, .val (.long y1), .second, .val (.long y2), .second, .val (.long v0), .second, .val (.long v1), .second, .val (.long v2), .second, iv nn, iv b0, .unset, .unset] [(.int b1)] := by
      intro b1 hb1
      refine C.istore (Ls' := #[.val (.long y0), .second, .val (.long y1), .second, .val (.long y2), .second, .val (.long v0), .second, .val (.long v1), .second, .val (.long v2), .second, iv nn, iv b0, iv b1, .unset]) d14_41 rfl rfl ?_
      refine C.iload d14_43 rfl rfl ?_
      refine C.iconst 2 d14_45 rfl rfl ?_
      have J64_1564 : ∀ (b2 : Int32) (hb2 : (b2 = 1 ∧ (2 < nn ∧ ¬ y2 &&& v2 = 0)) ∨ (b2 = 0 ∧ ¬ (2 < nn ∧ ¬ y2 &&& v2 = 0))), Go p l e ({ frames := 0, cells := 0, slots := 0, locals := 0 } : Room) s m #[(.long y0), (.long y1), (.long y2), (.long v0), (.long v1), (.long v2), (.int nn)] below meth c n0 (FinQ s n0 (Qcon_ep Z n0 h0 y0 y1 y2 v0 v1 v2 nn) ({ frames := 0, cells := 0, slots := 0, locals := 0 } : Room).cells ({ frames := 0, cells := 0, slots := 0, locals := 0 } : Room).slots) h0 0 0 64 #[.val (.long y0), .second, .val (.long y1), .second, .val (.long y2), .second, .val (.long v0), .second, .val (.long v1), .second, .val (.long v2), .second, iv nn, iv b0, iv b1, .unset] [(.int b2)] := by
        intro b2 hb2
        refine C.istore (Ls' := #[.val (.long y0), .second, .val (.long y1), .second, .val (.long y2), .second, .val (.long v0), .second, .val (.long v1), .second, .val (.long v2), .second, iv nn, iv b0, iv b1, iv b2]) d14_64 rfl rfl ?_
        rcases hb0 with ⟨rfl, c0⟩ | ⟨rfl, c0⟩
        · rcases hb1 with ⟨rfl, c1⟩ | ⟨rfl, c1⟩
          · rcases hb2 with ⟨rfl, c2⟩ | ⟨rfl, c2⟩
            · refine C.iload d14_66 rfl rfl ?_
              refine C.if_ne_t d14_68 (by decide) rfl (by decide) ?_
              refine C.iconst 1 d14_81 rfl rfl ?_
              refine C.goto d14_82 (by decide) rfl ?_
              exact C.retZ d14_86 rfl (by decide) (by decide) ⟨(by rw [own_ep, if_pos (Or.inl c0)]), rfl⟩
            refine C.iload d14_66 rfl rfl ?_
            refine C.if_ne_t d14_68 (by decide) rfl (by decide) ?_
            refine C.iconst 1 d14_81 rfl rfl ?_
            refine C.goto d14_82 (by decide) rfl ?_
            exact C.retZ d14_86 rfl (by decide) (by decide) ⟨(by rw [own_ep, if_pos (Or.inl c0)]), rfl⟩
          rcases hb2 with ⟨rfl, c2⟩ | ⟨rfl, c2⟩
          · refine C.iload d14_66 rfl rfl ?_
            refine C.if_ne_t d14_68 (by decide) rfl (by decide) ?_
            refine C.iconst 1 d14_81 rfl rfl ?_
            refine C.goto d14_82 (by decide) rfl ?_
            exact C.retZ d14_86 rfl (by decide) (by decide) ⟨(by rw [own_ep, if_pos (Or.inl c0)]), rfl⟩
          refine C.iload d14_66 rfl rfl ?_
          refine C.if_ne_t d14_68 (by decide) rfl (by decide) ?_
          refine C.iconst 1 d14_81 rfl rfl ?_
          refine C.goto d14_82 (by decide) rfl ?_
          exact C.retZ d14_86 rfl (by decide) (by decide) ⟨(by rw [own_ep, if_pos (Or.inl c0)]), rfl⟩
        rcases hb1 with ⟨rfl, c1⟩ | ⟨rfl, c1⟩
        · rcases hb2 with ⟨rfl, c2⟩ | ⟨rfl, c2⟩
          · refine C.iload d14_66 rfl rfl ?_
            refine C.if_ne_f d14_68 rfl (by decide) ?_
            refine C.iload d14_71 rfl rfl ?_
            refine C.if_ne_t d14_73 (by decide) rfl (by decide) ?_
            refine C.iconst 1 d14_81 rfl rfl ?_
            refine C.goto d14_82 (by decide) rfl ?_
            exact C.retZ d14_86 rfl (by decide) (by decide) ⟨(by rw [own_ep, if_pos (Or.inr (Or.inl c1))]), rfl⟩
          refine C.iload d14_66 rfl rfl ?_
          refine C.if_ne_f d14_68 rfl (by decide) ?_
          refine C.iload d14_71 rfl rfl ?_
          refine C.if_ne_t d14_73 (by decide) rfl (by decide) ?_
          refine C.iconst 1 d14_81 rfl rfl ?_
          refine C.goto d14_82 (by decide) rfl ?_
          exact C.retZ d14_86 rfl (by decide) (by decide) ⟨(by rw [own_ep, if_pos (Or.inr (Or.inl c1))]), rfl⟩
        rcases hb2 with ⟨rfl, c2⟩ | ⟨rfl, c2⟩
        · refine C.iload d14_66 rfl rfl ?_
          refine C.if_ne_f d14_68 rfl (by decide) ?_
          refine C.iload d14_71 rfl rfl ?_
          refine C.if_ne_f d14_73 rfl (by decide) ?_
          refine C.iload d14_76 rfl rfl ?_
          refine C.if_eq_f d14_78 rfl (by decide) ?_
          refine C.iconst 1 d14_81 rfl rfl ?_
          refine C.goto d14_82 (by decide) rfl ?_
          exact C.retZ d14_86 rfl (by decide) (by decide) ⟨(by rw [own_ep, if_pos (Or.inr (Or.inr c2))]), rfl⟩
        refine C.iload d14_66 rfl rfl ?_
        refine C.if_ne_f d14_68 rfl (by decide) ?_
        refine C.iload d14_71 rfl rfl ?_
        refine C.if_ne_f d14_73 rfl (by decide) ?_
        refine C.iload d14_76 rfl rfl ?_
        refine C.if_eq_t d14_78 (by decide) rfl (by decide) ?_
        refine C.iconst 0 d14_85 rfl rfl ?_
        exact C.retZ d14_86 rfl (by decide) (by decide) ⟨(by rw [own_ep, if_neg (fun q => q.elim c0 (fun q => q.elim c1 c2))]), rfl⟩
      refine C.icmp_le d14_46 (by decide) rfl rfl (fun q46 => ?_) (fun q46 => ?_)
      · refine C.iconst 0 d14_63 rfl rfl ?_
        exact J64_1564 0 (Or.inr ⟨rfl, fun q => q46 q.1⟩)
      refine C.lload d14_49 rfl rfl ?_
      refine C.lload d14_51 rfl rfl ?_
      refine C.land d14_53 rfl ?_
      refine C.lconst 0 d14_54 rfl rfl ?_
      refine C.lcmp d14_55 rfl ?_
      refine C.lif_eq d14_56 (by decide) rfl rfl (fun q56 => ?_) (fun q56 => ?_)
      · refine C.iconst 0 d14_63 rfl rfl ?_
        exact J64_1564 0 (Or.inr ⟨rfl, fun q => q.2 q56⟩)
      refine C.iconst 1 d14_59 rfl rfl ?_
      refine C.goto d14_60 (by decide) rfl ?_
      exact J64_1564 1 (Or.inl ⟨rfl, q46, q56⟩)
    refine C.icmp_le d14_24 (by decide) rfl rfl (fun q24 => ?_) (fun q24 => ?_)
    · refine C.iconst 0 d14_40 rfl rfl ?_
      exact J41_1563 0 (Or.inr ⟨rfl, fun q => q24 q.1⟩)
    refine C.lloadN d14_27 rfl rfl ?_
    refine C.lload d14_28 rfl rfl ?_
    refine C.land d14_30 rfl ?_
    refine C.lconst 0 d14_31 rfl rfl ?_
    refine C.lcmp d14_32 rfl ?_
    refine C.lif_eq d14_33 (by decide) rfl rfl (fun q33 => ?_) (fun q33 => ?_)
    · refine C.iconst 0 d14_40 rfl rfl ?_
      exact J41_1563 0 (Or.inr ⟨rfl, fun q => q.2 q33⟩)
    refine C.iconst 1 d14_36 rfl rfl ?_
    refine C.goto d14_37 (by decide) rfl ?_
    exact J41_1563 1 (Or.inl ⟨rfl, q24, q33⟩)
  refine C.if_le d14_2 (by decide) rfl rfl (fun q2 => ?_) (fun q2 => ?_)
  · refine C.iconst 0 d14_18 rfl rfl ?_
    exact J19_1562 0 (Or.inr ⟨rfl, fun q => q2 q.1⟩)
  refine C.lloadN d14_5 rfl rfl ?_
  refine C.lload d14_6 rfl rfl ?_
  refine C.land d14_8 rfl ?_
  refine C.lconst 0 d14_9 rfl rfl ?_
  refine C.lcmp d14_10 rfl ?_
  refine C.lif_eq d14_11 (by decide) rfl rfl (fun q11 => ?_) (fun q11 => ?_)
  · refine C.iconst 0 d14_18 rfl rfl ?_
    exact J19_1562 0 (Or.inr ⟨rfl, fun q => q.2 q11⟩)
  refine C.iconst 1 d14_14 rfl rfl ?_
  refine C.goto d14_15 (by decide) rfl ?_
  exact J19_1562 1 (Or.inl ⟨rfl, q2, q11⟩)
theorem own_epq0 (y0 y1 y2 v0 v1 v2 v0' v1' v2' : Int64) : own_ep 0 y0 y1 y2 v0 v1 v2 = own_ep 0 y0 y1 y2 v0' v1' v2' := by simp [own_ep]
theorem own_epq1 (y0 y1 y2 v0 v1 v2 v1' v2' : Int64) : own_ep 1 y0 y1 y2 v0 v1 v2 = own_ep 1 y0 y1 y2 v0 v1' v2' := by simp [own_ep]
theorem own_epq2 (y0 y1 y2 v0 v1 v2 v2' : Int64) : own_ep 2 y0 y1 y2 v0 v1 v2 = own_ep 2 y0 y1 y2 v0 v1 v2' := by simp [own_ep]
theorem pf_11 : plainFor x = true := by first | exact plainFor_of_name (by first | (simp [plainName, overriddenIn]; done) | decide +kernel) | decide +kernel
theorem d1_0 : decode prog_22_method_1_code 0 = .ok (.aload_n 0, 1) := by decide +kernel
theorem d1_1 : decode prog_22_method_1_code 1 = .ok (.invokespecial 1, 3) := by decide +kernel
theorem d1_4 : decode prog_22_method_1_code 4 = .ok (.aload_n 0, 1) := by decide +kernel
theorem d1_5 : decode prog_22_method_1_code 5 = .ok (.bipush 17, 2) := by decide +kernel
theorem d1_7 : decode prog_22_method_1_code 7 = .ok (.newarray .int, 2) := by decide +kernel
theorem d1_9 : decode prog_22_method_1_code 9 = .ok (.putfield 7, 3) := by decide +kernel
theorem d1_12 : decode prog_22_method_1_code 12 = .ok (.aload_n 0, 1) := by decide +kernel
theorem d1_13 : decode prog_22_method_1_code 13 = .ok (.bipush 16, 2) := by decide +kernel
theorem d1_15 : decode prog_22_method_1_code 15 = .ok (.newarray .int, 2) := by decide +kernel
theorem d1_17 : decode prog_22_method_1_code 17 = .ok (.putfield 13, 3) := by decide +kernel
theorem d1_20 : decode prog_22_method_1_code 20 = .ok (.aload_n 0, 1) := by decide +kernel
theorem d1_21 : decode prog_22_method_1_code 21 = .ok (.bipush 16, 2) := by decide +kernel
theorem d1_23 : decode prog_22_method_1_code 23 = .ok (.newarray .long, 2) := by decide +kernel
theorem d1_25 : decode prog_22_method_1_code 25 = .ok (.putfield 16, 3) := by decide +kernel
theorem d1_28 : decode prog_22_method_1_code 28 = .ok (.aload_n 0, 1) := by decide +kernel
theorem d1_29 : decode prog_22_method_1_code 29 = .ok (.bipush 16, 2) := by decide +kernel
theorem d1_31 : decode prog_22_method_1_code 31 = .ok (.newarray .int, 2) := by decide +kernel
theorem d1_33 : decode prog_22_method_1_code 33 = .ok (.putfield 20, 3) := by decide +kernel
theorem d1_36 : decode prog_22_method_1_code 36 = .ok (.aload_n 0, 1) := by decide +kernel
theorem d1_37 : decode prog_22_method_1_code 37 = .ok (.bipush 16, 2) := by decide +kernel
theorem d1_39 : decode prog_22_method_1_code 39 = .ok (.newarray .int, 2) := by decide +kernel
theorem d1_41 : decode prog_22_method_1_code 41 = .ok (.putfield 23, 3) := by decide +kernel
theorem d1_44 : decode prog_22_method_1_code 44 = .ok (.aload_n 0, 1) := by decide +kernel
theorem d1_45 : decode prog_22_method_1_code 45 = .ok (.bipush 32, 2) := by decide +kernel
theorem d1_47 : decode prog_22_method_1_code 47 = .ok (.newarray .int, 2) := by decide +kernel
theorem d1_49 : decode prog_22_method_1_code 49 = .ok (.putfield 26, 3) := by decide +kernel
theorem d1_52 : decode prog_22_method_1_code 52 = .ok (.return_, 1) := by decide +kernel
theorem pf_12 : plainFor (⟨"com/example/detra/detra/StateSets", "<init>", "()V"⟩ : MethodName) = true := by first | exact plainFor_of_name (by first | (simp [plainName, overriddenIn]; done) | decide +kernel) | decide +kernel
def Qau1742_1 (Z : State) (n0 : Nat) (h0 : Heap) (o0 : Addr) (v : Option Value) (h' : Heap) : Prop := ∃ (f0 : Addr) (f1 : Addr) (f2 : Addr) (f3 : Addr) (f4 : Addr) (f5 : Addr), (v = none) ∧ (Keep h0 h' [o0]) ∧ (n0 ≤ f0) ∧ (h0.size ≤ f0) ∧ (n0 ≤ f1) ∧ (h0.size ≤ f1) ∧ (n0 ≤ f2) ∧ (h0.size ≤ f2) ∧ (n0 ≤ f3) ∧ (h0.size ≤ f3) ∧ (n0 ≤ f4) ∧ (h0.size ≤ f4) ∧ (n0 ≤ f5) ∧ (h0.size ≤ f5) ∧ (f0 ≠ f1) ∧ (f0 ≠ f2) ∧ (f0 ≠ f3) ∧ (f0 ≠ f4) ∧ (f0 ≠ f5) ∧ (f1 ≠ f2) ∧ (f1 ≠ f3) ∧ (f1 ≠ f4) ∧ (f1 ≠ f5) ∧ (f2 ≠ f3) ∧ (f2 ≠ f4) ∧ (f2 ≠ f5) ∧ (f3 ≠ f4) ∧ (f3 ≠ f5) ∧ (f4 ≠ f5) ∧ (Fld Z h' o0 kC1 "hashes" "[I" (.ref f0)) ∧ (Fld Z h' o0 kC1 "indices" "[I" (.ref f1)) ∧ (Fld Z h' o0 kC1 "size" "I" (.int 0)) ∧ (Fld Z h' o0 kC1 "sizes" "[I" (.ref f2)) ∧ (Fld Z h' o0 kC1 "starts" "[I" (.ref f3)) ∧ (Fld Z h' o0 kC1 "table" "[I" (.ref f4)) ∧ (Fld Z h' o0 kC1 "words" "[J" (.ref f5)) ∧ (Av Z h' f0 .int zI16) ∧ (Av Z h' f1 .int zI16) ∧ (Av Z h' f2 .int zI16) ∧ (Av Z h' f3 .int zI17) ∧ (Av Z h' f4 .int zI32) ∧ (Av Z h' f5 .long zJ16)
theorem ef_au1742_1 (m : MethodId) (o0 : Addr) : entryFrame m #[(.ref o0)] 1 = mkF m 0 #[rv o0] [] := by first | (simp [entryFrame, mkF, argsToLocals, Value.category]; done) | rfl
set_option maxRecDepth 65536 in
set_option maxHeartbeats 40000000 in
theorem au1742_1 (l : Launch) (Z : State) (a0 : Array Value) (hw : ∀ d ∈ tables_1, d.before a0 Z = true) (n0 : Nat) (h0 : Heap) (hn0 : n0 ≤ h0.size) (o0 : Addr) (P0 : Exa Z h0 o0 kC1) (P1 : Fld Z h0 o0 kC1 "hashes" "[I" (.null)) (P2 : Fld Z h0 o0 kC1 "indices" "[I" (.null)) (P3 : Fld Z h0 o0 kC1 "size" "I" (.int 0)) (P4 : Fld Z h0 o0 kC1 "sizes" "[I" (.null)) (P5 : Fld Z h0 o0 kC1 "starts" "[I" (.null)) (P6 : Fld Z h0 o0 kC1 "table" "[I" (.null)) (P7 : Fld Z h0 o0 kC1 "words" "[J" (.null)) (g_o0 : n0 ≤ o0) :
    Con l Z n0 [] (⟨"com/example/detra/detra/StateSets", "<init>", "()V"⟩ : MethodName) prog_22_method_1_code 1 none ({ frames := 1, cells := 6, slots := 113, locals := 12 } : Room) #[(.ref o0)] h0 (Qau1742_1 Z n0 h0 o0) := by
  refine Con.of pf_12 (fun m => ef_au1742_1 m o0) hn0 ?_
  intro p e s m below meth c C
  refine C.aloadN d1_0 rfl rfl rfl ?_
  refine C.initO 0 d1_1 rfl (tw hw 8 rfl) (tw hw 9 rfl) (tw hw 10 rfl) rfl (by decide) (Nat.le_of_eq rfl) (by decide) ?_
  refine C.aloadN d1_4 rfl rfl rfl ?_
  refine C.bipush 17 d1_5 rfl rfl ?_
  refine C.newarr 17 d1_7 rfl rfl (tw hw 11 rfl) (by decide) (by decide) (by decide) (by decide) (by decide) (fun a2169 h2170 z2173 g2174 X2171 F2172 => ?_)
  have gz2175 : h0.size ≤ a2169 := by rw [z2173]; exact (Keep.refl h0 [o0]).1
  have ne2176 : o0 ≠ a2169 := by rw [z2173]; exact Nat.ne_of_lt P0.lt
  have F2177 := Exa.ext X2171 P0
  have F2178 := Fld.ext X2171 P1
  have F2179 := Fld.ext X2171 P2
  have F2180 := Fld.ext X2171 P3
  have F2181 := Fld.ext X2171 P4
  have F2182 := Fld.ext X2171 P5
  have F2183 := Fld.ext X2171 P6
  have F2184 := Fld.ext X2171 P7
  have F2185 : Av Z h2170 a2169 .int zI17 := F2172
  refine C.putF d1_9 rfl (tw hw 12 rfl) F2182 F2177 (Or.inl (tw hw 13 rfl)) (tw hw 3 rfl) (ty := (.array .int)) (by decide) rfl rfl g_o0 (fun h2186 W2187 F2188 => ?_)
  have F2189 := Exa.wr W2187 F2177
  have F2190 := Fld.other W2187 F2178 (Or.inr (slot_ne (C := kC1) (t := (.array .int)) (t' := (.array .int)) (Or.inl (tw hw 21 rfl)) (Or.inl (tw hw 13 rfl)) (by decide) (by decide) (by decide)))
  have F2191 := Fld.other W2187 F2179 (Or.inr (slot_ne (C := kC1) (t := (.array .int)) (t' := (.array .int)) (Or.inl (tw hw 15 rfl)) (Or.inl (tw hw 13 rfl)) (by decide) (by decide) (by decide)))
  have F2192 := Fld.other W2187 F2180 (Or.inr (slot_ne (C := kC1) (t := .int) (t' := (.array .int)) (Or.inl (tw hw 78 rfl)) (Or.inl (tw hw 13 rfl)) (by decide) (by decide) (by decide)))
  have F2193 := Fld.other W2187 F2181 (Or.inr (slot_ne (C := kC1) (t := (.array .int)) (t' := (.array .int)) (Or.inl (tw hw 19 rfl)) (Or.inl (tw hw 13 rfl)) (by decide) (by decide) (by decide)))
  have F2194 := Fld.other W2187 F2183 (Or.inr (slot_ne (C := kC1) (t := (.array .int)) (t' := (.array .int)) (Or.inl (tw hw 23 rfl)) (Or.inl (tw hw 13 rfl)) (by decide) (by decide) (by decide)))
  have F2195 := Fld.other W2187 F2184 (Or.inr (slot_ne (C := kC1) (t := (.array .long)) (t' := (.array .int)) (Or.inl (tw hw 17 rfl)) (Or.inl (tw hw 13 rfl)) (by decide) (by decide) (by decide)))
  have F2196 := F2185.other W2187 (Ne.symm ne2176)
  refine C.aloadN d1_12 rfl rfl rfl ?_
  refine C.bipush 16 d1_13 rfl rfl ?_
  refine C.newarr 16 d1_15 rfl rfl (tw hw 11 rfl) (by decide) (by decide) (by decide) (by decide) (by decide) (fun a2197 h2198 z2201 g2202 X2199 F2200 => ?_)
  have gz2203 : h0.size ≤ a2197 := by rw [z2201]; exact (((Keep.refl h0 [o0]).ext X2171).wr W2187 (Or.inl (List.mem_of_getElem? (i := 0) rfl))).1
  have ne2204 : o0 ≠ a2197 := by rw [z2201]; exact Nat.ne_of_lt F2189.lt
  have ne2205 : a2169 ≠ a2197 := by rw [z2201]; exact Nat.ne_of_lt F2196.lt
  have F2206 := Exa.ext X2199 F2189
  have F2207 := Fld.ext X2199 F2190
  have F2208 := Fld.ext X2199 F2191
  have F2209 := Fld.ext X2199 F2192
  have F2210 := Fld.ext X2199 F2193
  have F2211 := Fld.ext X2199 F2194
  have F2212 := Fld.ext X2199 F2195
  have F2213 := F2196.ext X2199
  have F2214 := Fld.ext X2199 F2188
  have F2215 : Av Z h2198 a2197 .int zI16 := F2200
  refine C.putF d1_17 rfl (tw hw 14 rfl) F2208 F2206 (Or.inl (tw hw 15 rfl)) (tw hw 3 rfl) (ty := (.array .int)) (by decide) rfl rfl g_o0 (fun h2216 W2217 F2218 => ?_)
  have F2219 := Exa.wr W2217 F2206
  have F2220 := Fld.other W2217 F2207 (Or.inr (slot_ne (C := kC1) (t := (.array .int)) (t' := (.array .int)) (Or.inl (tw hw 21 rfl)) (Or.inl (tw hw 15 rfl)) (by decide) (by decide) (by decide)))
  have F2221 := Fld.other W2217 F2209 (Or.inr (slot_ne (C := kC1) (t := .int) (t' := (.array .int)) (Or.inl (tw hw 78 rfl)) (Or.inl (tw hw 15 rfl)) (by decide) (by decide) (by decide)))
  have F2222 := Fld.other W2217 F2210 (Or.inr (slot_ne (C := kC1) (t := (.array .int)) (t' := (.array .int)) (Or.inl (tw hw 19 rfl)) (Or.inl (tw hw 15 rfl)) (by decide) (by decide) (by decide)))
  have F2223 := Fld.other W2217 F2211 (Or.inr (slot_ne (C := kC1) (t := (.array .int)) (t' := (.array .int)) (Or.inl (tw hw 23 rfl)) (Or.inl (tw hw 15 rfl)) (by decide) (by decide) (by decide)))
  have F2224 := Fld.other W2217 F2212 (Or.inr (slot_ne (C := kC1) (t := (.array .long)) (t' := (.array .int)) (Or.inl (tw hw 17 rfl)) (Or.inl (tw hw 15 rfl)) (by decide) (by decide) (by decide)))
  have F2225 := F2213.other W2217 (Ne.symm ne2176)
  have F2226 := Fld.other W2217 F2214 (Or.inr (slot_ne (C := kC1) (t := (.array .int)) (t' := (.array .int)) (Or.inl (tw hw 13 rfl)) (Or.inl (tw hw 15 rfl)) (by decide) (by decide) (by decide)))
  have F2227 := F2215.other W2217 (Ne.symm ne2204)
  refine C.aloadN d1_20 rfl rfl rfl ?_
  refine C.bipush 16 d1_21 rfl rfl ?_
  refine C.newarr 16 d1_23 rfl rfl (tw hw 0 rfl) (by decide) (by decide) (by decide) (by decide) (by decide) (fun a2228 h2229 z2232 g2233 X2230 F2231 => ?_)
  have gz2234 : h0.size ≤ a2228 := by rw [z2232]; exact (((((Keep.refl h0 [o0]).ext X2171).wr W2187 (Or.inl (List.mem_of_getElem? (i := 0) rfl))).ext X2199).wr W2217 (Or.inl (List.mem_of_getElem? (i := 0) rfl))).1
  have ne2235 : o0 ≠ a2228 := by rw [z2232]; exact Nat.ne_of_lt F2219.lt
  have ne2236 : a2169 ≠ a2228 := by rw [z2232]; exact Nat.ne_of_lt F2225.lt
  have ne2237 : a2197 ≠ a2228 := by rw [z2232]; exact Nat.ne_of_lt F2227.lt
  have F2238 := Exa.ext X2230 F2219
  have F2239 := Fld.ext X2230 F2220
  have F2240 := Fld.ext X2230 F2221
  have F2241 := Fld.ext X2230 F2222
  have F2242 := Fld.ext X2230 F2223
  have F2243 := Fld.ext X2230 F2224
  have F2244 := F2225.ext X2230
  have F2245 := Fld.ext X2230 F2226
  have F2246 := F2227.ext X2230
  have F2247 := Fld.ext X2230 F2218
  have F2248 : Av Z h2229 a2228 .long zJ16 := F2231
  refine C.putF d1_25 rfl (tw hw 16 rfl) F2243 F2238 (Or.inl (tw hw 17 rfl)) (tw hw 3 rfl) (ty := (.array .long)) (by decide) rfl rfl g_o0 (fun h2249 W2250 F2251 => ?_)
  have F2252 := Exa.wr W2250 F2238
  have F2253 := Fld.other W2250 F2239 (Or.inr (slot_ne (C := kC1) (t := (.array .int)) (t' := (.array .long)) (Or.inl (tw hw 21 rfl)) (Or.inl (tw hw 17 rfl)) (by decide) (by decide) (by decide)))
  have F2254 := Fld.other W2250 F2240 (Or.inr (slot_ne (C := kC1) (t := .int) (t' := (.array .long)) (Or.inl (tw hw 78 rfl)) (Or.inl (tw hw 17 rfl)) (by decide) (by decide) (by decide)))
  have F2255 := Fld.other W2250 F2241 (Or.inr (slot_ne (C := kC1) (t := (.array .int)) (t' := (.array .long)) (Or.inl (tw hw 19 rfl)) (Or.inl (tw hw 17 rfl)) (by decide) (by decide) (by decide)))
  have F2256 := Fld.other W2250 F2242 (Or.inr (slot_ne (C := kC1) (t := (.array .int)) (t' := (.array .long)) (Or.inl (tw hw 23 rfl)) (Or.inl (tw hw 17 rfl)) (by decide) (by decide) (by decide)))
  have F2257 := F2244.other W2250 (Ne.symm ne2176)
  have F2258 := Fld.other W2250 F2245 (Or.inr (slot_ne (C := kC1) (t := (.array .int)) (t' := (.array .long)) (Or.inl (tw hw 13 rfl)) (Or.inl (tw hw 17 rfl)) (by decide) (by decide) (by decide)))
  have F2259 := F2246.other W2250 (Ne.symm ne2204)
  have F2260 := Fld.other W2250 F2247 (Or.inr (slot_ne (C := kC1) (t := (.array .int)) (t' := (.array .long)) (Or.inl (tw hw 15 rfl)) (Or.inl (tw hw 17 rfl)) (by decide) (by decide) (by decide)))
  have F2261 := F2248.other W2250 (Ne.symm ne2235)
  refine C.aloadN d1_28 rfl rfl rfl ?_
  refine C.bipush 16 d1_29 rfl rfl ?_
  refine C.newarr 16 d1_31 rfl rfl (tw hw 11 rfl) (by decide) (by decide) (by decide) (by decide) (by decide) (fun a2262 h2263 z2266 g2267 X2264 F2265 => ?_)
  have gz2268 : h0.size ≤ a2262 := by rw [z2266]; exact (((((((Keep.refl h0 [o0]).ext X2171).wr W2187 (Or.inl (List.mem_of_getElem? (i := 0) rfl))).ext X2199).wr W2217 (Or.inl (List.mem_of_getElem? (i := 0) rfl))).ext X2230).wr W2250 (Or.inl (List.mem_of_getElem? (i := 0) rfl))).1
  have ne2269 : o0 ≠ a2262 := by rw [z2266]; exact Nat.ne_of_lt F2252.lt
  have ne2270 : a2169 ≠ a2262 := by rw [z2266]; exact Nat.ne_of_lt F2257.lt
  have ne2271 : a2197 ≠ a2262 := by rw [z2266]; exact Nat.ne_of_lt F2259.lt
  have ne2272 : a2228 ≠ a2262 := by rw [z2266]; exact Nat.ne_of_lt F2261.lt
  have F2273 := Exa.ext X2264 F2252
  have F2274 := Fld.ext X2264 F2253
  have F2275 := Fld.ext X2264 F2254
  have F2276 := Fld.ext X2264 F2255
  have F2277 := Fld.ext X2264 F2256
  have F2278 := F2257.ext X2264
  have F2279 := Fld.ext X2264 F2258
  have F2280 := F2259.ext X2264
  have F2281 := Fld.ext X2264 F2260
  have F2282 := F2261.ext X2264
  have F2283 := Fld.ext X2264 F2251
  have F2284 : Av Z h2263 a2262 .int zI16 := F2265
  refine C.putF d1_33 rfl (tw hw 18 rfl) F2276 F2273 (Or.inl (tw hw 19 rfl)) (tw hw 3 rfl) (ty := (.array .int)) (by decide) rfl rfl g_o0 (fun h2285 W2286 F2287 => ?_)
  have F2288 := Exa.wr W2286 F2273
  have F2289 := Fld.other W2286 F2274 (Or.inr (slot_ne (C := kC1) (t := (.array .int)) (t' := (.array .int)) (Or.inl (tw hw 21 rfl)) (Or.inl (tw hw 19 rfl)) (by decide) (by decide) (by decide)))
  have F2290 := Fld.other W2286 F2275 (Or.inr (slot_ne (C := kC1) (t := .int) (t' := (.array .int)) (Or.inl (tw hw 78 rfl)) (Or.inl (tw hw 19 rfl)) (by decide) (by decide) (by decide)))
  have F2291 := Fld.other W2286 F2277 (Or.inr (slot_ne (C := kC1) (t := (.array .int)) (t' := (.array .int)) (Or.inl (tw hw 23 rfl)) (Or.inl (tw hw 19 rfl)) (by decide) (by decide) (by decide)))
  have F2292 := F2278.other W2286 (Ne.symm ne2176)
  have F2293 := Fld.other W2286 F2279 (Or.inr (slot_ne (C := kC1) (t := (.array .int)) (t' := (.array .int)) (Or.inl (tw hw 13 rfl)) (Or.inl (tw hw 19 rfl)) (by decide) (by decide) (by decide)))
  have F2294 := F2280.other W2286 (Ne.symm ne2204)
  have F2295 := Fld.other W2286 F2281 (Or.inr (slot_ne (C := kC1) (t := (.array .int)) (t' := (.array .int)) (Or.inl (tw hw 15 rfl)) (Or.inl (tw hw 19 rfl)) (by decide) (by decide) (by decide)))
  have F2296 := F2282.other W2286 (Ne.symm ne2235)
  have F2297 := Fld.other W2286 F2283 (Or.inr (slot_ne (C := kC1) (t := (.array .long)) (t' := (.array .int)) (Or.inl (tw hw 17 rfl)) (Or.inl (tw hw 19 rfl)) (by decide) (by decide) (by decide)))
  have F2298 := F2284.other W2286 (Ne.symm ne2269)
  refine C.aloadN d1_36 rfl rfl rfl ?_
  refine C.bipush 16 d1_37 rfl rfl ?_
  refine C.newarr 16 d1_39 rfl rfl (tw hw 11 rfl) (by decide) (by decide) (by decide) (by decide) (by decide) (fun a2299 h2300 z2303 g2304 X2301 F2302 => ?_)
  have gz2305 : h0.size ≤ a2299 := by rw [z2303]; exact (((((((((Keep.refl h0 [o0]).ext X2171).wr W2187 (Or.inl (List.mem_of_getElem? (i := 0) rfl))).ext X2199).wr W2217 (Or.inl (List.mem_of_getElem? (i := 0) rfl))).ext X2230).wr W2250 (Or.inl (List.mem_of_getElem? (i := 0) rfl))).ext X2264).wr W2286 (Or.inl (List.mem_of_getElem? (i := 0) rfl))).1
  have ne2306 : o0 ≠ a2299 := by rw [z2303]; exact Nat.ne_of_lt F2288.lt
  have ne2307 : a2169 ≠ a2299 := by rw [z2303]; exact Nat.ne_of_lt F2292.lt
  have ne2308 : a2197 ≠ a2299 := by rw [z2303]; exact Nat.ne_of_lt F2294.lt
  have ne2309 : a2228 ≠ a2299 := by rw [z2303]; exact Nat.ne_of_lt F2296.lt
  have ne2310 : a2262 ≠ a2299 := by rw [z2303]; exact Nat.ne_of_lt F2298.lt
  have F2311 := Exa.ext X2301 F2288
  have F2312 := Fld.ext X2301 F2289
  have F2313 := Fld.ext X2301 F2290
  have F2314 := Fld.ext X2301 F2291
  have F2315 := F2292.ext X2301
  have F2316 := Fld.ext X2301 F2293
  have F2317 := F2294.ext X2301
  have F2318 := Fld.ext X2301 F2295
  have F2319 := F2296.ext X2301
  have F2320 := Fld.ext X2301 F2297
  have F2321 := F2298.ext X2301
  have F2322 := Fld.ext X2301 F2287
  have F2323 : Av Z h2300 a2299 .int zI16 := F2302
  refine C.putF d1_41 rfl (tw hw 20 rfl) F2312 F2311 (Or.inl (tw hw 21 rfl)) (tw hw 3 rfl) (ty := (.array .int)) (by decide) rfl rfl g_o0 (fun h2324 W2325 F2326 => ?_)
  have F2327 := Exa.wr W2325 F2311
  have F2328 := Fld.other W2325 F2313 (Or.inr (slot_ne (C := kC1) (t := .int) (t' := (.array .int)) (Or.inl (tw hw 78 rfl)) (Or.inl (tw hw 21 rfl)) (by decide) (by decide) (by decide)))
  have F2329 := Fld.other W2325 F2314 (Or.inr (slot_ne (C := kC1) (t := (.array .int)) (t' := (.array .int)) (Or.inl (tw hw 23 rfl)) (Or.inl (tw hw 21 rfl)) (by decide) (by decide) (by decide)))
  have F2330 := F2315.other W2325 (Ne.symm ne2176)
  have F2331 := Fld.other W2325 F2316 (Or.inr (slot_ne (C := kC1) (t := (.array .int)) (t' := (.array .int)) (Or.inl (tw hw 13 rfl)) (Or.inl (tw hw 21 rfl)) (by decide) (by decide) (by decide)))
  have F2332 := F2317.other W2325 (Ne.symm ne2204)
  have F2333 := Fld.other W2325 F2318 (Or.inr (slot_ne (C := kC1) (t := (.array .int)) (t' := (.array .int)) (Or.inl (tw hw 15 rfl)) (Or.inl (tw hw 21 rfl)) (by decide) (by decide) (by decide)))
  have F2334 := F2319.other W2325 (Ne.symm ne2235)
  have F2335 := Fld.other W2325 F2320 (Or.inr (slot_ne (C := kC1) (t := (.array .long)) (t' := (.array .int)) (Or.inl (tw hw 17 rfl)) (Or.inl (tw hw 21 rfl)) (by decide) (by decide) (by decide)))
  have F2336 := F2321.other W2325 (Ne.symm ne2269)
  have F2337 := Fld.other W2325 F2322 (Or.inr (slot_ne (C := kC1) (t := (.array .int)) (t' := (.array .int)) (Or.inl (tw hw 19 rfl)) (Or.inl (tw hw 21 rfl)) (by decide) (by decide) (by decide)))
  have F2338 := F2323.other W2325 (Ne.symm ne2306)
  refine C.aloadN d1_44 rfl rfl rfl ?_
  refine C.bipush 32 d1_45 rfl rfl ?_
  refine C.newarr 32 d1_47 rfl rfl (tw hw 11 rfl) (by decide) (by decide) (by decide) (by decide) (by decide) (fun a2339 h2340 z2343 g2344 X2341 F2342 => ?_)
  have gz2345 : h0.size ≤ a2339 := by rw [z2343]; exact (((((((((((Keep.refl h0 [o0]).ext X2171).wr W2187 (Or.inl (List.mem_of_getElem? (i := 0) rfl))).ext X2199).wr W2217 (Or.inl (List.mem_of_getElem? (i := 0) rfl))).ext X2230).wr W2250 (Or.inl (List.mem_of_getElem? (i := 0) rfl))).ext X2264).wr W2286 (Or.inl (List.mem_of_getElem? (i := 0) rfl))).ext X2301).wr W2325 (Or.inl (List.mem_of_getElem? (i := 0) rfl))).1
  have ne2346 : o0 ≠ a2339 := by rw [z2343]; exact Nat.ne_of_lt F2327.lt
  have ne2347 : a2169 ≠ a2339 := by rw [z2343]; exact Nat.ne_of_lt F2330.lt
  have ne2348 : a2197 ≠ a2339 := by rw [z2343]; exact Nat.ne_of_lt F2332.lt
  have ne2349 : a2228 ≠ a2339 := by rw [z2343]; exact Nat.ne_of_lt F2334.lt
  have ne2350 : a2262 ≠ a2339 := by rw [z2343]; exact Nat.ne_of_lt F2336.lt
  have ne2351 : a2299 ≠ a2339 := by rw [z2343]; exact Nat.ne_of_lt F2338.lt
  have F2352 := Exa.ext X2341 F2327
  have F2353 := Fld.ext X2341 F2328
  have F2354 := Fld.ext X2341 F2329
  have F2355 := F2330.ext X2341
  have F2356 := Fld.ext X2341 F2331
  have F2357 := F2332.ext X2341
  have F2358 := Fld.ext X2341 F2333
  have F2359 := F2334.ext X2341
  have F2360 := Fld.ext X2341 F2335
  have F2361 := F2336.ext X2341
  have F2362 := Fld.ext X2341 F2337
  have F2363 := F2338.ext X2341
  have F2364 := Fld.ext X2341 F2326
  have F2365 : Av Z h2340 a2339 .int zI32 := F2342
  refine C.putF d1_49 rfl (tw hw 22 rfl) F2354 F2352 (Or.inl (tw hw 23 rfl)) (tw hw 3 rfl) (ty := (.array .int)) (by decide) rfl rfl g_o0 (fun h2366 W2367 F2368 => ?_)
  have F2369 := Exa.wr W2367 F2352
  have F2370 := Fld.other W2367 F2353 (Or.inr (slot_ne (C := kC1) (t := .int) (t' := (.array .int)) (Or.inl (tw hw 78 rfl)) (Or.inl (tw hw 23 rfl)) (by decide) (by decide) (by decide)))
  have F2371 := F2355.other W2367 (Ne.symm ne2176)
  have F2372 := Fld.other W2367 F2356 (Or.inr (slot_ne (C := kC1) (t := (.array .int)) (t' := (.array .int)) (Or.inl (tw hw 13 rfl)) (Or.inl (tw hw 23 rfl)) (by decide) (by decide) (by decide)))
  have F2373 := F2357.other W2367 (Ne.symm ne2204)
  have F2374 := Fld.other W2367 F2358 (Or.inr (slot_ne (C := kC1) (t := (.array .int)) (t' := (.array .int)) (Or.inl (tw hw 15 rfl)) (Or.inl (tw hw 23 rfl)) (by decide) (by decide) (by decide)))
  have F2375 := F2359.other W2367 (Ne.symm ne2235)
  have F2376 := Fld.other W2367 F2360 (Or.inr (slot_ne (C := kC1) (t := (.array .long)) (t' := (.array .int)) (Or.inl (tw hw 17 rfl)) (Or.inl (tw hw 23 rfl)) (by decide) (by decide) (by decide)))
  have F2377 := F2361.other W2367 (Ne.symm ne2269)
  have F2378 := Fld.other W2367 F2362 (Or.inr (slot_ne (C := kC1) (t := (.array .int)) (t' := (.array .int)) (Or.inl (tw hw 19 rfl)) (Or.inl (tw hw 23 rfl)) (by decide) (by decide) (by decide)))
  have F2379 := F2363.other W2367 (Ne.symm ne2306)
  have F2380 := Fld.other W2367 F2364 (Or.inr (slot_ne (C := kC1) (t := (.array .int)) (t' := (.array .int)) (Or.inl (tw hw 21 rfl)) (Or.inl (tw hw 23 rfl)) (by decide) (by decide) (by decide)))
  have F2381 := F2365.other W2367 (Ne.symm ne2346)
  exact C.ret0 d1_52 (by decide) (by decide) ⟨a2299, a2197, a2262, a2169, a2339, a2228, rfl, (((((((((((((Keep.refl h0 [o0]).ext X2171).wr W2187 (Or.inl (List.mem_of_getElem? (i := 0) rfl))).ext X2199).wr W2217 (Or.inl (List.mem_of_getElem? (i := 0) rfl))).ext X2230).wr W2250 (Or.inl (List.mem_of_getElem? (i := 0) rfl))).ext X2264).wr W2286 (Or.inl (List.mem_of_getElem? (i := 0) rfl))).ext X2301).wr W2325 (Or.inl (List.mem_of_getElem? (i := 0) rfl))).ext X2341).wr W2367 (Or.inl (List.mem_of_getElem? (i := 0) rfl))), g2304, gz2305, g2202, gz2203, g2267, gz2268, g2174, gz2175, g2344, gz2345, g2233, gz2234, (Ne.symm ne2308), (Ne.symm ne2310), (Ne.symm ne2307), ne2351, (Ne.symm ne2309), ne2271, (Ne.symm ne2205), ne2348, ne2237, (Ne.symm ne2270), ne2350, (Ne.symm ne2272), ne2347, ne2236, (Ne.symm ne2349), F2380, F2374, F2370, F2378, F2372, F2368, F2376, F2379, F2373, F2377, F2371, F2381, F2375⟩
theorem d3_0 : decode prog_21_method_1_code 0 = .ok (.aload_n 0, 1) := by decide +kernel
theorem d3_1 : decode prog_21_method_1_code 1 = .ok (.invokespecial 1, 3) := by decide +kernel
theorem d3_4 : decode prog_21_method_1_code 4 = .ok (.iload_n 1, 1) := by decide +kernel
theorem d3_5 : decode prog_21_method_1_code 5 = .ok (.bipush 64, 2) := by decide +kernel
theorem d3_7 : decode prog_21_method_1_code 7 = .ok (.iadd, 1) := by decide +kernel
theorem d3_8 : decode prog_21_method_1_code 8 = .ok (.iconst 1, 1) := by decide +kernel
theorem d3_9 : decode prog_21_method_1_code 9 = .ok (.isub, 1) := by decide +kernel
theorem d3_10 : decode prog_21_method_1_code 10 = .ok (.bipush 64, 2) := by decide +kernel
theorem d3_12 : decode prog_21_method_1_code 12 = .ok (.idiv, 1) := by decide +kernel
theorem d3_13 : decode prog_21_method_1_code 13 = .ok (.istore_n 2, 1) := by decide +kernel
theorem d3_14 : decode prog_21_method_1_code 14 = .ok (.aload_n 0, 1) := by decide +kernel
theorem d3_15 : decode prog_21_method_1_code 15 = .ok (.iload_n 2, 1) := by decide +kernel
theorem d3_16 : decode prog_21_method_1_code 16 = .ok (.newarray .long, 2) := by decide +kernel
theorem d3_18 : decode prog_21_method_1_code 18 = .ok (.putfield 9, 3) := by decide +kernel
theorem d3_21 : decode prog_21_method_1_code 21 = .ok (.aload_n 0, 1) := by decide +kernel
theorem d3_22 : decode prog_21_method_1_code 22 = .ok (.iload_n 2, 1) := by decide +kernel
theorem d3_23 : decode prog_21_method_1_code 23 = .ok (.bipush 16, 2) := by decide +kernel
theorem d3_25 : decode prog_21_method_1_code 25 = .ok (.if_icmp .le 7, 3) := by decide +kernel
theorem d3_32 : decode prog_21_method_1_code 32 = .ok (.iconst 0, 1) := by decide +kernel
theorem d3_33 : decode prog_21_method_1_code 33 = .ok (.putfield 15, 3) := by decide +kernel
theorem d3_36 : decode prog_21_method_1_code 36 = .ok (.aload_n 0, 1) := by decide +kernel
theorem d3_37 : decode prog_21_method_1_code 37 = .ok (.iload_n 2, 1) := by decide +kernel
theorem d3_38 : decode prog_21_method_1_code 38 = .ok (.newarray .int, 2) := by decide +kernel
theorem d3_40 : decode prog_21_method_1_code 40 = .ok (.putfield 19, 3) := by decide +kernel
theorem d3_43 : decode prog_21_method_1_code 43 = .ok (.return_, 1) := by decide +kernel
theorem pf_13 : plainFor (⟨"com/example/detra/detra/SetWords", "<init>", "(I)V"⟩ : MethodName) = true := by first | exact plainFor_of_name (by first | (simp [plainName, overriddenIn]; done) | decide +kernel) | decide +kernel
def Qau2532_3 (Z : State) (n0 : Nat) (h0 : Heap) (o0 : Addr) (v : Option Value) (h' : Heap) : Prop := ∃ (f0 : Addr) (f1 : Addr), (v = none) ∧ (Keep h0 h' [o0]) ∧ (n0 ≤ f0) ∧ (h0.size ≤ f0) ∧ (n0 ≤ f1) ∧ (h0.size ≤ f1) ∧ (f0 ≠ f1) ∧ (Fld Z h' o0 kC0 "count" "I" (.int 0)) ∧ (Fld Z h' o0 kC0 "held" "[I" (.ref f0)) ∧ (Fld Z h' o0 kC0 "listing" "Z" (.int 0)) ∧ (Fld Z h' o0 kC0 "words" "[J" (.ref f1)) ∧ (Av Z h' f0 .int ([.int 0, .int 0, .int 0])) ∧ (Av Z h' f1 .long ([.long 0, .long 0, .long 0]))
theorem ef_au2532_3 (m : MethodId) (o0 : Addr) : entryFrame m #[(.ref o0), (.int 192)] 3 = mkF m 0 #[rv o0, iv 192, .unset] [] := by first | (simp [entryFrame, mkF, argsToLocals, Value.category]; done) | rfl
set_option maxRecDepth 65536 in
set_option maxHeartbeats 40000000 in
theorem au2532_3 (l : Launch) (Z : State) (a0 : Array Value) (hw : ∀ d ∈ tables_1, d.before a0 Z = true) (n0 : Nat) (h0 : Heap) (hn0 : n0 ≤ h0.size) (o0 : Addr) (P0 : Exa Z h0 o0 kC0) (P1 : Fld Z h0 o0 kC0 "count" "I" (.int 0)) (P2 : Fld Z h0 o0 kC0 "held" "[I" (.null)) (P3 : Fld Z h0 o0 kC0 "listing" "Z" (.int 0)) (P4 : Fld Z h0 o0 kC0 "words" "[J" (.null)) (g_o0 : n0 ≤ o0) :
    Con l Z n0 [] (⟨"com/example/detra/detra/SetWords", "<init>", "(I)V"⟩ : MethodName) prog_21_method_1_code 3 none ({ frames := 1, cells := 2, slots := 6, locals := 12 } : Room) #[(.ref o0), (.int 192)] h0 (Qau2532_3 Z n0 h0 o0) := by
  refine Con.of pf_13 (fun m => ef_au2532_3 m o0) hn0 ?_
  intro p e s m below meth c C
  refine C.aloadN d3_0 rfl rfl rfl ?_
  refine C.initO 0 d3_1 rfl (tw hw 30 rfl) (tw hw 9 rfl) (tw hw 10 rfl) rfl (by decide) (Nat.le_of_eq rfl) (by decide) ?_
  refine C.iloadN d3_4 rfl rfl ?_
  refine C.bipush 64 d3_5 rfl rfl ?_
  refine C.iadd d3_7 rfl ?_
  refine Go.cI (y := 256) rfl ?_
  refine C.iconst 1 d3_8 rfl rfl ?_
  refine C.isub d3_9 rfl ?_
  refine Go.cI (y := 255) rfl ?_
  refine C.bipush 64 d3_10 rfl rfl ?_
  refine C.idiv d3_12 rfl (by decide) ?_
  refine Go.cI (y := 3) rfl ?_
  refine C.istoreN (Ls' := #[rv o0, iv 192, iv 3]) d3_13 rfl rfl ?_
  refine C.aloadN d3_14 rfl rfl rfl ?_
  refine C.iloadN d3_15 rfl rfl ?_
  refine C.newarr 3 d3_16 rfl rfl (tw hw 0 rfl) (by decide) (by decide) (by decide) (by decide) (by decide) (fun a2643 h2644 z2647 g2648 X2645 F2646 => ?_)
  have gz2649 : h0.size ≤ a2643 := by rw [z2647]; exact (Keep.refl h0 [o0]).1
  have ne2650 : o0 ≠ a2643 := by rw [z2647]; exact Nat.ne_of_lt P0.lt
  have F2651 := Exa.ext X2645 P0
  have F2652 := Fld.ext X2645 P1
  have F2653 := Fld.ext X2645 P2
  have F2654 := Fld.ext X2645 P3
  have F2655 := Fld.ext X2645 P4
  have F2656 : Av Z h2644 a2643 .long ([.long 0, .long 0, .long 0]) := F2646
  refine C.putF d3_18 rfl (tw hw 31 rfl) F2655 F2651 (Or.inr ⟨(tw hw 32 rfl), rfl, rfl⟩) (tw hw 25 rfl) (ty := (.array .long)) (by decide) rfl rfl g_o0 (fun h2657 W2658 F2659 => ?_)
  have F2660 := Exa.wr W2658 F2651
  have F2661 := Fld.other W2658 F2652 (Or.inr (slot_ne (C := kC0) (t := .int) (t' := (.array .long)) (Or.inl (tw hw 53 rfl)) (Or.inr (tw hw 32 rfl)) (by decide) (by decide) (by decide)))
  have F2662 := Fld.other W2658 F2653 (Or.inr (slot_ne (C := kC0) (t := (.array .int)) (t' := (.array .long)) (Or.inr (tw hw 36 rfl)) (Or.inr (tw hw 32 rfl)) (by decide) (by decide) (by decide)))
  have F2663 := Fld.other W2658 F2654 (Or.inr (slot_ne (C := kC0) (t := .boolean) (t' := (.array .long)) (Or.inr (tw hw 34 rfl)) (Or.inr (tw hw 32 rfl)) (by decide) (by decide) (by decide)))
  have F2664 := F2656.other W2658 (Ne.symm ne2650)
  refine C.aloadN d3_21 rfl rfl rfl ?_
  refine C.iloadN d3_22 rfl rfl ?_
  refine C.bipush 16 d3_23 rfl rfl ?_
  refine C.icmp_le_t d3_25 (by decide) rfl (by decide) ?_
  refine C.iconst 0 d3_32 rfl rfl ?_
  refine C.putF d3_33 rfl (tw hw 33 rfl) F2663 F2660 (Or.inr ⟨(tw hw 34 rfl), rfl, rfl⟩) (tw hw 25 rfl) (ty := .boolean) (by decide) rfl rfl g_o0 (fun h2665 W2666 F2667 => ?_)
  have F2668 := Exa.wr W2666 F2660
  have F2669 := Fld.other W2666 F2661 (Or.inr (slot_ne (C := kC0) (t := .int) (t' := .boolean) (Or.inl (tw hw 53 rfl)) (Or.inr (tw hw 34 rfl)) (by decide) (by decide) (by decide)))
  have F2670 := Fld.other W2666 F2662 (Or.inr (slot_ne (C := kC0) (t := (.array .int)) (t' := .boolean) (Or.inr (tw hw 36 rfl)) (Or.inr (tw hw 34 rfl)) (by decide) (by decide) (by decide)))
  have F2671 := F2664.other W2666 (Ne.symm ne2650)
  have F2672 := Fld.other W2666 F2659 (Or.inr (slot_ne (C := kC0) (t := (.array .long)) (t' := .boolean) (Or.inr (tw hw 32 rfl)) (Or.inr (tw hw 34 rfl)) (by decide) (by decide) (by decide)))
  refine C.aloadN d3_36 rfl rfl rfl ?_
  refine C.iloadN d3_37 rfl rfl ?_
  refine C.newarr 3 d3_38 rfl rfl (tw hw 11 rfl) (by decide) (by decide) (by decide) (by decide) (by decide) (fun a2673 h2674 z2677 g2678 X2675 F2676 => ?_)
  have gz2679 : h0.size ≤ a2673 := by rw [z2677]; exact ((((Keep.refl h0 [o0]).ext X2645).wr W2658 (Or.inl (List.mem_of_getElem? (i := 0) rfl))).wr W2666 (Or.inl (List.mem_of_getElem? (i := 0) rfl))).1
  have ne2680 : o0 ≠ a2673 := by rw [z2677]; exact Nat.ne_of_lt F2668.lt
  have ne2681 : a2643 ≠ a2673 := by rw [z2677]; exact Nat.ne_of_lt F2671.lt
  have F2682 := Exa.ext X2675 F2668
  have F2683 := Fld.ext X2675 F2669
  have F2684 := Fld.ext X2675 F2670
  have F2685 := F2671.ext X2675
  have F2686 := Fld.ext X2675 F2672
  have F2687 := Fld.ext X2675 F2667
  have F2688 : Av Z h2674 a2673 .int ([.int 0, .int 0, .int 0]) := F2676
  refine C.putF d3_40 rfl (tw hw 35 rfl) F2684 F2682 (Or.inr ⟨(tw hw 36 rfl), rfl, rfl⟩) (tw hw 25 rfl) (ty := (.array .int)) (by decide) rfl rfl g_o0 (fun h2689 W2690 F2691 => ?_)
  have F2692 := Exa.wr W2690 F2682
  have F2693 := Fld.other W2690 F2683 (Or.inr (slot_ne (C := kC0) (t := .int) (t' := (.array .int)) (Or.inl (tw hw 53 rfl)) (Or.inr (tw hw 36 rfl)) (by decide) (by decide) (by decide)))
  have F2694 := F2685.other W2690 (Ne.symm ne2650)
  have F2695 := Fld.other W2690 F2686 (Or.inr (slot_ne (C := kC0) (t := (.array .long)) (t' := (.array .int)) (Or.inr (tw hw 32 rfl)) (Or.inr (tw hw 36 rfl)) (by decide) (by decide) (by decide)))
  have F2696 := Fld.other W2690 F2687 (Or.inr (slot_ne (C := kC0) (t := .boolean) (t' := (.array .int)) (Or.inr (tw hw 34 rfl)) (Or.inr (tw hw 36 rfl)) (by decide) (by decide) (by decide)))
  have F2697 := F2688.other W2690 (Ne.symm ne2680)
  exact C.ret0 d3_43 (by decide) (by decide) ⟨a2673, a2643, rfl, ((((((Keep.refl h0 [o0]).ext X2645).wr W2658 (Or.inl (List.mem_of_getElem? (i := 0) rfl))).wr W2666 (Or.inl (List.mem_of_getElem? (i := 0) rfl))).ext X2675).wr W2690 (Or.inl (List.mem_of_getElem? (i := 0) rfl))), g2678, gz2679, g2648, gz2649, (Ne.symm ne2681), F2693, F2691, F2696, F2695, F2697, F2694⟩
theorem pd_8 : parseMethodDescriptor "(I)V" = some ⟨[.int], none⟩ := by decide +kernel
theorem d4_0 : decode prog_21_method_4_code 0 = .ok (.iconst 0, 1) := by decide +kernel
theorem d4_1 : decode prog_21_method_4_code 1 = .ok (.istore 4, 2) := by decide +kernel
theorem d4_3 : decode prog_21_method_4_code 3 = .ok (.iload 4, 2) := by decide +kernel
theorem d4_5 : decode prog_21_method_4_code 5 = .ok (.iload_n 3, 1) := by decide +kernel
theorem d4_6 : decode prog_21_method_4_code 6 = .ok (.if_icmp .ge 73, 3) := by decide +kernel
theorem d4_9 : decode prog_21_method_4_code 9 = .ok (.aload_n 0, 1) := by decide +kernel
theorem d4_10 : decode prog_21_method_4_code 10 = .ok (.getfield 15, 3) := by decide +kernel
theorem d4_13 : decode prog_21_method_4_code 13 = .ok (.ifCond .eq 44, 3) := by decide +kernel
theorem d4_57 : decode prog_21_method_4_code 57 = .ok (.aload_n 0, 1) := by decide +kernel
theorem d4_58 : decode prog_21_method_4_code 58 = .ok (.getfield 9, 3) := by decide +kernel
theorem d4_61 : decode prog_21_method_4_code 61 = .ok (.iload 4, 2) := by decide +kernel
theorem d4_63 : decode prog_21_method_4_code 63 = .ok (.dup2, 1) := by decide +kernel
theorem d4_64 : decode prog_21_method_4_code 64 = .ok (.laload, 1) := by decide +kernel
theorem d4_65 : decode prog_21_method_4_code 65 = .ok (.aload_n 1, 1) := by decide +kernel
theorem d4_66 : decode prog_21_method_4_code 66 = .ok (.iload_n 2, 1) := by decide +kernel
theorem d4_67 : decode prog_21_method_4_code 67 = .ok (.iload 4, 2) := by decide +kernel
theorem d4_69 : decode prog_21_method_4_code 69 = .ok (.iadd, 1) := by decide +kernel
theorem d4_70 : decode prog_21_method_4_code 70 = .ok (.laload, 1) := by decide +kernel
theorem d4_71 : decode prog_21_method_4_code 71 = .ok (.lor, 1) := by decide +kernel
theorem d4_72 : decode prog_21_method_4_code 72 = .ok (.lastore, 1) := by decide +kernel
theorem d4_73 : decode prog_21_method_4_code 73 = .ok (.iinc 4 1, 3) := by decide +kernel
theorem d4_76 : decode prog_21_method_4_code 76 = .ok (.goto (-73), 3) := by decide +kernel
theorem d4_79 : decode prog_21_method_4_code 79 = .ok (.return_, 1) := by decide +kernel
theorem pf_14 : plainFor (⟨"com/example/detra/detra/SetWords", "addWords", "([JII)V"⟩ : MethodName) = true := by first | exact plainFor_of_name (by first | (simp [plainName, overriddenIn]; done) | decide +kernel) | decide +kernel
def Qau2768_4 (Z : State) (n0 : Nat) (h0 : Heap) (o0 : Addr) (o1 : Addr) (o2 : Addr) (o3 : Addr) (j0 : Int64) (j1 : Int64) (j2 : Int64) (v : Option Value) (h' : Heap) : Prop := (v = none) ∧ (Keep h0 h' [o3]) ∧ (Av Z h' o3 .long ([.long j0, .long j1, .long j2]))
theorem ef_au2768_4 (m : MethodId) (o0 : Addr) (o1 : Addr) : entryFrame m #[(.ref o0), (.ref o1), (.int 0), (.int 3)] 5 = mkF m 0 #[rv o0, rv o1, iv 0, iv 3, .unset] [] := by first | (simp [entryFrame, mkF, argsToLocals, Value.category]; done) | rfl
set_option maxRecDepth 65536 in
set_option maxHeartbeats 40000000 in
theorem au2768_4 (l : Launch) (Z : State) (a0 : Array Value) (hw : ∀ d ∈ tables_1, d.before a0 Z = true) (n0 : Nat) (h0 : Heap) (hn0 : n0 ≤ h0.size) (o0 : Addr) (o1 : Addr) (o2 : Addr) (o3 : Addr) (j0 : Int64) (j1 : Int64) (j2 : Int64) (P0 : Exa Z h0 o0 kC0) (P1 : Fld Z h0 o0 kC0 "count" "I" (.int 0)) (P2 : Fld Z h0 o0 kC0 "held" "[I" (.ref o2)) (P3 : Fld Z h0 o0 kC0 "listing" "Z" (.int 0)) (P4 : Fld Z h0 o0 kC0 "words" "[J" (.ref o3)) (P5 : Av Z h0 o1 .long ([.long j0, .long j1, .long j2])) (P6 : Av Z h0 o2 .int ([.int 0, .int 0, .int 0])) (P7 : Av Z h0 o3 .long ([.long 0, .long 0, .long 0])) (g_o0 : n0 ≤ o0) (g_o1 : n0 ≤ o1) (g_o2 : n0 ≤ o2) (g_o3 : n0 ≤ o3) (ne_o0_o1 : o0 ≠ o1) (ne_o0_o2 : o0 ≠ o2) (ne_o0_o3 : o0 ≠ o3) (ne_o1_o2 : o1 ≠ o2) (ne_o1_o3 : o1 ≠ o3) (ne_o2_o3 : o2 ≠ o3) :
    Con l Z n0 [] (⟨"com/example/detra/detra/SetWords", "addWords", "([JII)V"⟩ : MethodName) prog_21_method_4_code 5 none ({ frames := 0, cells := 0, slots := 0, locals := 0 } : Room) #[(.ref o0), (.ref o1), (.int 0), (.int 3)] h0 (Qau2768_4 Z n0 h0 o0 o1 o2 o3 j0 j1 j2) := by
  refine Con.of pf_14 (fun m => ef_au2768_4 m o0 o1) hn0 ?_
  intro p e s m below meth c C
  refine C.iconst 0 d4_0 rfl rfl ?_
  refine C.istore (Ls' := #[rv o0, rv o1, iv 0, iv 3, iv 0]) d4_1 rfl rfl ?_
  refine C.iload d4_3 rfl rfl ?_
  refine C.iloadN d4_5 rfl rfl ?_
  refine C.icmp_ge_f d4_6 rfl (by decide) ?_
  refine C.aloadN d4_9 rfl rfl rfl ?_
  refine C.getF d4_10 rfl (tw hw 33 rfl) P3 ?_
  refine C.if_eq_t d4_13 (by decide) rfl (by decide) ?_
  refine C.aloadN d4_57 rfl rfl rfl ?_
  refine C.getF d4_58 rfl (tw hw 31 rfl) P4 ?_
  refine C.iload d4_61 rfl rfl ?_
  refine C.dup2 d4_63 rfl rfl rfl ?_
  refine C.laload (.long 0) d4_64 rfl P7 (by decide) rfl ?_
  refine C.aloadN d4_65 rfl rfl rfl ?_
  refine C.iloadN d4_66 rfl rfl ?_
  refine C.iload d4_67 rfl rfl ?_
  refine C.iadd d4_69 rfl ?_
  refine Go.cI (y := 0) rfl ?_
  refine C.laload (.long j0) d4_70 rfl P5 (by decide) rfl ?_
  refine C.lor d4_71 rfl ?_
  rw [Int64.zero_or]
  refine C.lastore d4_72 rfl P7 g_o3 (by decide) (Nat.le_of_ble_eq_true rfl) (fun h2835 W2836 F2837 => ?_)
  have F2838 := Exa.wr W2836 P0
  have F2839 := Fld.other W2836 P1 (Or.inl ne_o0_o3)
  have F2840 := Fld.other W2836 P2 (Or.inl ne_o0_o3)
  have F2841 := Fld.other W2836 P3 (Or.inl ne_o0_o3)
  have F2842 := Fld.other W2836 P4 (Or.inl ne_o0_o3)
  have F2843 := P5.other W2836 ne_o1_o3
  have F2844 := P6.other W2836 ne_o2_o3
  have F2845 : Av Z h2835 o3 .long ([.long j0, .long 0, .long 0]) := F2837
  refine C.iinc (Ls' := #[rv o0, rv o1, iv 0, iv 3, iv 1]) 1 d4_73 rfl rfl rfl rfl ?_
  refine C.goto d4_76 (by decide) rfl ?_
  refine C.iload d4_3 rfl rfl ?_
  refine C.iloadN d4_5 rfl rfl ?_
  refine C.icmp_ge_f d4_6 rfl (by decide) ?_
  refine C.aloadN d4_9 rfl rfl rfl ?_
  refine C.getF d4_10 rfl (tw hw 33 rfl) F2841 ?_
  refine C.if_eq_t d4_13 (by decide) rfl (by decide) ?_
  refine C.aloadN d4_57 rfl rfl rfl ?_
  refine C.getF d4_58 rfl (tw hw 31 rfl) F2842 ?_
  refine C.iload d4_61 rfl rfl ?_
  refine C.dup2 d4_63 rfl rfl rfl ?_
  refine C.laload (.long 0) d4_64 rfl F2845 (by decide) rfl ?_
  refine C.aloadN d4_65 rfl rfl rfl ?_
  refine C.iloadN d4_66 rfl rfl ?_
  refine C.iload d4_67 rfl rfl ?_
  refine C.iadd d4_69 rfl ?_
  refine Go.cI (y := 1) rfl ?_
  refine C.laload (.long j1) d4_70 rfl F2843 (by decide) rfl ?_
  refine C.lor d4_71 rfl ?_
  rw [Int64.zero_or]
  refine C.lastore d4_72 rfl F2845 g_o3 (by decide) (Nat.le_of_ble_eq_true rfl) (fun h2846 W2847 F2848 => ?_)
  have F2849 := Exa.wr W2847 F2838
  have F2850 := Fld.other W2847 F2839 (Or.inl ne_o0_o3)
  have F2851 := Fld.other W2847 F2840 (Or.inl ne_o0_o3)
  have F2852 := Fld.other W2847 F2841 (Or.inl ne_o0_o3)
  have F2853 := Fld.other W2847 F2842 (Or.inl ne_o0_o3)
  have F2854 := F2843.other W2847 ne_o1_o3
  have F2855 := F2844.other W2847 ne_o2_o3
  have F2856 : Av Z h2846 o3 .long ([.long j0, .long j1, .long 0]) := F2848
  refine C.iinc (Ls' := #[rv o0, rv o1, iv 0, iv 3, iv 2]) 1 d4_73 rfl rfl rfl rfl ?_
  refine C.goto d4_76 (by decide) rfl ?_
  refine C.iload d4_3 rfl rfl ?_
  refine C.iloadN d4_5 rfl rfl ?_
  refine C.icmp_ge_f d4_6 rfl (by decide) ?_
  refine C.aloadN d4_9 rfl rfl rfl ?_
  refine C.getF d4_10 rfl (tw hw 33 rfl) F2852 ?_
  refine C.if_eq_t d4_13 (by decide) rfl (by decide) ?_
  refine C.aloadN d4_57 rfl rfl rfl ?_
  refine C.getF d4_58 rfl (tw hw 31 rfl) F2853 ?_
  refine C.iload d4_61 rfl rfl ?_
  refine C.dup2 d4_63 rfl rfl rfl ?_
  refine C.laload (.long 0) d4_64 rfl F2856 (by decide) rfl ?_
  refine C.aloadN d4_65 rfl rfl rfl ?_
  refine C.iloadN d4_66 rfl rfl ?_
  refine C.iload d4_67 rfl rfl ?_
  refine C.iadd d4_69 rfl ?_
  refine Go.cI (y := 2) rfl ?_
  refine C.laload (.long j2) d4_70 rfl F2854 (by decide) rfl ?_
  refine C.lor d4_71 rfl ?_
  rw [Int64.zero_or]
  refine C.lastore d4_72 rfl F2856 g_o3 (by decide) (Nat.le_of_ble_eq_true rfl) (fun h2857 W2858 F2859 => ?_)
  have F2860 := Exa.wr W2858 F2849
  have F2861 := Fld.other W2858 F2850 (Or.inl ne_o0_o3)
  have F2862 := Fld.other W2858 F2851 (Or.inl ne_o0_o3)
  have F2863 := Fld.other W2858 F2852 (Or.inl ne_o0_o3)
  have F2864 := Fld.other W2858 F2853 (Or.inl ne_o0_o3)
  have F2865 := F2854.other W2858 ne_o1_o3
  have F2866 := F2855.other W2858 ne_o2_o3
  have F2867 : Av Z h2857 o3 .long ([.long j0, .long j1, .long j2]) := F2859
  refine C.iinc (Ls' := #[rv o0, rv o1, iv 0, iv 3, iv 3]) 1 d4_73 rfl rfl rfl rfl ?_
  refine C.goto d4_76 (by decide) rfl ?_
  refine C.iload d4_3 rfl rfl ?_
  refine C.iloadN d4_5 rfl rfl ?_
  refine C.icmp_ge_t d4_6 (by decide) rfl (by decide) ?_
  exact C.ret0 d4_79 (by decide) (by decide) ⟨rfl, ((((Keep.refl h0 [o3]).wr W2836 (Or.inl (List.mem_of_getElem? (i := 0) rfl))).wr W2847 (Or.inl (List.mem_of_getElem? (i := 0) rfl))).wr W2858 (Or.inl (List.mem_of_getElem? (i := 0) rfl))), F2867⟩
theorem pd_9 : parseMethodDescriptor "([JII)V" = some ⟨[(.array .long), .int, .int], none⟩ := by decide +kernel
theorem pd_10 : parseMethodDescriptor "(I[J)Z" = some ⟨[.int, (.array .long)], some .boolean⟩ := by decide +kernel
theorem pd_11 : parseMethodDescriptor "(JJJJJJI)Z" = some ⟨[.long, .long, .long, .long, .long, .long, .int], some .boolean⟩ := by decide +kernel
theorem d15_0 : decode prog_21_method_6_code 0 = .ok (.aload_n 0, 1) := by decide +kernel
theorem d15_1 : decode prog_21_method_6_code 1 = .ok (.getfield 15, 3) := by decide +kernel
theorem d15_4 : decode prog_21_method_6_code 4 = .ok (.ifCond .eq 34, 3) := by decide +kernel
theorem d15_38 : decode prog_21_method_6_code 38 = .ok (.aload_n 0, 1) := by decide +kernel
theorem d15_39 : decode prog_21_method_6_code 39 = .ok (.getfield 9, 3) := by decide +kernel
theorem d15_42 : decode prog_21_method_6_code 42 = .ok (.lconst 0, 1) := by decide +kernel
theorem d15_43 : decode prog_21_method_6_code 43 = .ok (.invokestatic 46, 3) := by decide +kernel
theorem d15_46 : decode prog_21_method_6_code 46 = .ok (.aload_n 0, 1) := by decide +kernel
theorem d15_47 : decode prog_21_method_6_code 47 = .ok (.iconst 0, 1) := by decide +kernel
theorem d15_48 : decode prog_21_method_6_code 48 = .ok (.putfield 23, 3) := by decide +kernel
theorem d15_51 : decode prog_21_method_6_code 51 = .ok (.return_, 1) := by decide +kernel
theorem pf_15 : plainFor (⟨"com/example/detra/detra/SetWords", "clear", "()V"⟩ : MethodName) = true := by first | exact plainFor_of_name (by first | (simp [plainName, overriddenIn]; done) | decide +kernel) | decide +kernel
theorem d16_0 : decode jdk_65_method_101_code 0 = .ok (.iconst 0, 1) := by decide +kernel
theorem d16_1 : decode jdk_65_method_101_code 1 = .ok (.istore_n 3, 1) := by decide +kernel
theorem d16_2 : decode jdk_65_method_101_code 2 = .ok (.aload_n 0, 1) := by decide +kernel
theorem d16_3 : decode jdk_65_method_101_code 3 = .ok (.arraylength, 1) := by decide +kernel
theorem d16_4 : decode jdk_65_method_101_code 4 = .ok (.istore 4, 2) := by decide +kernel
theorem d16_6 : decode jdk_65_method_101_code 6 = .ok (.iload_n 3, 1) := by decide +kernel
theorem d16_7 : decode jdk_65_method_101_code 7 = .ok (.iload 4, 2) := by decide +kernel
theorem d16_9 : decode jdk_65_method_101_code 9 = .ok (.if_icmp .ge 13, 3) := by decide +kernel
theorem d16_12 : decode jdk_65_method_101_code 12 = .ok (.aload_n 0, 1) := by decide +kernel
theorem d16_13 : decode jdk_65_method_101_code 13 = .ok (.iload_n 3, 1) := by decide +kernel
theorem d16_14 : decode jdk_65_method_101_code 14 = .ok (.lload_n 1, 1) := by decide +kernel
theorem d16_15 : decode jdk_65_method_101_code 15 = .ok (.lastore, 1) := by decide +kernel
theorem d16_16 : decode jdk_65_method_101_code 16 = .ok (.iinc 3 1, 3) := by decide +kernel
theorem d16_19 : decode jdk_65_method_101_code 19 = .ok (.goto (-13), 3) := by decide +kernel
theorem d16_22 : decode jdk_65_method_101_code 22 = .ok (.return_, 1) := by decide +kernel
theorem pf_16 : plainFor (⟨"java/util/Arrays", "fill", "([JJ)V"⟩ : MethodName) = true := by first | exact plainFor_of_name (by first | (simp [plainName, overriddenIn]; done) | decide +kernel) | decide +kernel
def Qau3051_16 (Z : State) (n0 : Nat) (h0 : Heap) (o0 : Addr) (j0 : Int64) (j1 : Int64) (j2 : Int64) (v : Option Value) (h' : Heap) : Prop := (v = none) ∧ (Keep h0 h' [o0]) ∧ (Av Z h' o0 .long ([.long 0, .long 0, .long 0]))
theorem ef_au3051_16 (m : MethodId) (o0 : Addr) : entryFrame m #[(.ref o0), (.long 0)] 5 = mkF m 0 #[rv o0, .val (.long 0), .second, .unset, .unset] [] := by first | (simp [entryFrame, mkF, argsToLocals, Value.category]; done) | rfl
set_option maxRecDepth 65536 in
set_option maxHeartbeats 40000000 in
theorem au3051_16 (l : Launch) (Z : State) (a0 : Array Value) (hw : ∀ d ∈ tables_1, d.before a0 Z = true) (n0 : Nat) (h0 : Heap) (hn0 : n0 ≤ h0.size) (o0 : Addr) (j0 : Int64) (j1 : Int64) (j2 : Int64) (P0 : Av Z h0 o0 .long ([.long j0, .long j1, .long j2])) (g_o0 : n0 ≤ o0) :
    Con l Z n0 [] (⟨"java/util/Arrays", "fill", "([JJ)V"⟩ : MethodName) jdk_65_method_101_code 5 none ({ frames := 0, cells := 0, slots := 0, locals := 0 } : Room) #[(.ref o0), (.long 0)] h0 (Qau3051_16 Z n0 h0 o0 j0 j1 j2) := by
  refine Con.of pf_16 (fun m => ef_au3051_16 m o0) hn0 ?_
  intro p e s m below meth c C
  refine C.iconst 0 d16_0 rfl rfl ?_
  refine C.istoreN (Ls' := #[rv o0, .val (.long 0), .second, iv 0, .unset]) d16_1 rfl rfl ?_
  refine C.aloadN d16_2 rfl rfl rfl ?_
  refine C.alen d16_3 rfl P0 ?_
  refine Go.cI (y := 3) rfl ?_
  refine C.istore (Ls' := #[rv o0, .val (.long 0), .second, iv 0, iv 3]) d16_4 rfl rfl ?_
  refine C.iloadN d16_6 rfl rfl ?_
  refine C.iload d16_7 rfl rfl ?_
  refine C.icmp_ge_f d16_9 rfl (by decide) ?_
  refine C.aloadN d16_12 rfl rfl rfl ?_
  refine C.iloadN d16_13 rfl rfl ?_
  refine C.lloadN d16_14 rfl rfl ?_
  refine C.lastore d16_15 rfl P0 g_o0 (by decide) (Nat.le_of_ble_eq_true rfl) (fun h3076 W3077 F3078 => ?_)
  have F3079 : Av Z h3076 o0 .long ([.long 0, .long j1, .long j2]) := F3078
  refine C.iinc (Ls' := #[rv o0, .val (.long 0), .second, iv 1, iv 3]) 1 d16_16 rfl rfl rfl rfl ?_
  refine C.goto d16_19 (by decide) rfl ?_
  refine C.iloadN d16_6 rfl rfl ?_
  refine C.iload d16_7 rfl rfl ?_
  refine C.icmp_ge_f d16_9 rfl (by decide) ?_
  refine C.aloadN d16_12 rfl rfl rfl ?_
  refine C.iloadN d16_13 rfl rfl ?_
  refine C.lloadN d16_14 rfl rfl ?_
  refine C.lastore d16_15 rfl F3079 g_o0 (by decide) (Nat.le_of_ble_eq_true rfl) (fun h3080 W3081 F3082 => ?_)
  have F3083 : Av Z h3080 o0 .long ([.long 0, .long 0, .long j2]) := F3082
  refine C.iinc (Ls' := #[rv o0, .val (.long 0), .second, iv 2, iv 3]) 1 d16_16 rfl rfl rfl rfl ?_
  refine C.goto d16_19 (by decide) rfl ?_
  refine C.iloadN d16_6 rfl rfl ?_
  refine C.iload d16_7 rfl rfl ?_
  refine C.icmp_ge_f d16_9 rfl (by decide) ?_
  refine C.aloadN d16_12 rfl rfl rfl ?_
  refine C.iloadN d16_13 rfl rfl ?_
  refine C.lloadN d16_14 rfl rfl ?_
  refine C.lastore d16_15 rfl F3083 g_o0 (by decide) (Nat.le_of_ble_eq_true rfl) (fun h3084 W3085 F3086 => ?_)
  have F3087 : Av Z h3084 o0 .long ([.long 0, .long 0, .long 0]) := F3086
  refine C.iinc (Ls' := #[rv o0, .val (.long 0), .second, iv 3, iv 3]) 1 d16_16 rfl rfl rfl rfl ?_
  refine C.goto d16_19 (by decide) rfl ?_
  refine C.iloadN d16_6 rfl rfl ?_
  refine C.iload d16_7 rfl rfl ?_
  refine C.icmp_ge_t d16_9 (by decide) rfl (by decide) ?_
  exact C.ret0 d16_22 (by decide) (by decide) ⟨rfl, ((((Keep.refl h0 [o0]).wr W3077 (Or.inl (List.mem_of_getElem? (i := 0) rfl))).wr W3081 (Or.inl (List.mem_of_getElem? (i := 0) rfl))).wr W3085 (Or.inl (List.mem_of_getElem? (i := 0) rfl))), F3087⟩
theorem pd_12 : parseMethodDescriptor "([JJ)V" = some ⟨[(.array .long), .long], none⟩ := by decide +kernel
def Qau3050_15 (Z : State) (n0 : Nat) (h0 : Heap) (o0 : Addr) (i0 : Int32) (o1 : Addr) (o2 : Addr) (vso1 : List Value) (j0 : Int64) (j1 : Int64) (j2 : Int64) (v : Option Value) (h' : Heap) : Prop := (v = none) ∧ (Keep h0 h' [o0, o2]) ∧ (Fld Z h' o0 kC0 "count" "I" (.int 0)) ∧ (Fld Z h' o0 kC0 "held" "[I" (.ref o1)) ∧ (Fld Z h' o0 kC0 "listing" "Z" (.int 0)) ∧ (Fld Z h' o0 kC0 "words" "[J" (.ref o2)) ∧ (Av Z h' o2 .long ([.long 0, .long 0, .long 0]))
theorem ef_au3050_15 (m : MethodId) (o0 : Addr) : entryFrame m #[(.ref o0)] 2 = mkF m 0 #[rv o0, .unset] [] := by first | (simp [entryFrame, mkF, argsToLocals, Value.category]; done) | rfl
set_option maxRecDepth 65536 in
set_option maxHeartbeats 40000000 in
theorem au3050_15 (l : Launch) (Z : State) (a0 : Array Value) (hw : ∀ d ∈ tables_1, d.before a0 Z = true) (n0 : Nat) (h0 : Heap) (hn0 : n0 ≤ h0.size) (o0 : Addr) (i0 : Int32) (o1 : Addr) (o2 : Addr) (vso1 : List Value) (j0 : Int64) (j1 : Int64) (j2 : Int64) (P0 : Exa Z h0 o0 kC0) (P1 : Fld Z h0 o0 kC0 "count" "I" (.int i0)) (P2 : Fld Z h0 o0 kC0 "held" "[I" (.ref o1)) (P3 : Fld Z h0 o0 kC0 "listing" "Z" (.int 0)) (P4 : Fld Z h0 o0 kC0 "words" "[J" (.ref o2)) (P5 : Av Z h0 o1 .int vso1) (P6 : Av Z h0 o2 .long ([.long j0, .long j1, .long j2])) (g_o0 : n0 ≤ o0) (g_o1 : n0 ≤ o1) (g_o2 : n0 ≤ o2) (ne_o0_o1 : o0 ≠ o1) (ne_o0_o2 : o0 ≠ o2) (ne_o1_o2 : o1 ≠ o2) :
    Con l Z n0 [] (⟨"com/example/detra/detra/SetWords", "clear", "()V"⟩ : MethodName) prog_21_method_6_code 2 none ({ frames := 1, cells := 0, slots := 0, locals := 16 } : Room) #[(.ref o0)] h0 (Qau3050_15 Z n0 h0 o0 i0 o1 o2 vso1 j0 j1 j2) := by
  refine Con.of pf_15 (fun m => ef_au3050_15 m o0) hn0 ?_
  intro p e s m below meth c C
  refine C.aloadN d15_0 rfl rfl rfl ?_
  refine C.getF d15_1 rfl (tw hw 33 rfl) P3 ?_
  refine C.if_eq_t d15_4 (by decide) rfl (by decide) ?_
  refine C.aloadN d15_38 rfl rfl rfl ?_
  refine C.getF d15_39 rfl (tw hw 31 rfl) P4 ?_
  refine C.lconst 0 d15_42 rfl rfl ?_
  refine C.callS (argsL := [(.ref o2), (.long 0)]) (rest := []) 0 (fun zz => au3051_16 l Z a0 hw n0 h0 zz o2 j0 j1 j2 P6 g_o2) d15_43 rfl (tw hw 100 rfl) (tw hw 101 rfl) (tw hw 102 rfl) (tw hw 103 rfl) (by decide) pd_12 rfl rfl rfl (Nat.le_of_eq rfl) (by decide) (by decide) (by decide) (by decide) (fun v3130 h3131 r3132 => ?_)
  obtain ⟨rfl, K3133, F3134⟩ := r3132
  have F3135 := P0.keep K3133
  have F3136 := P1.keep K3133 (ninS ne_o0_o2 nin0)
  have F3137 := P2.keep K3133 (ninS ne_o0_o2 nin0)
  have F3138 := P3.keep K3133 (ninS ne_o0_o2 nin0)
  have F3139 := P4.keep K3133 (ninS ne_o0_o2 nin0)
  have F3140 := P5.keep K3133 (ninS ne_o1_o2 nin0)
  refine C.aloadN d15_46 rfl rfl rfl ?_
  refine C.iconst 0 d15_47 rfl rfl ?_
  refine C.putF d15_48 rfl (tw hw 52 rfl) F3136 F3135 (Or.inl (tw hw 53 rfl)) (tw hw 25 rfl) (ty := .int) (by decide) rfl rfl g_o0 (fun h3142 W3143 F3144 => ?_)
  have F3145 := Exa.wr W3143 F3135
  have F3146 := Fld.other W3143 F3137 (Or.inr (slot_ne (C := kC0) (t := (.array .int)) (t' := .int) (Or.inr (tw hw 36 rfl)) (Or.inl (tw hw 53 rfl)) (by decide) (by decide) (by decide)))
  have F3147 := Fld.other W3143 F3138 (Or.inr (slot_ne (C := kC0) (t := .boolean) (t' := .int) (Or.inr (tw hw 34 rfl)) (Or.inl (tw hw 53 rfl)) (by decide) (by decide) (by decide)))
  have F3148 := Fld.other W3143 F3139 (Or.inr (slot_ne (C := kC0) (t := (.array .long)) (t' := .int) (Or.inr (tw hw 32 rfl)) (Or.inl (tw hw 53 rfl)) (by decide) (by decide) (by decide)))
  have F3149 := F3140.other W3143 (Ne.symm ne_o0_o1)
  have F3150 := F3134.other W3143 (Ne.symm ne_o0_o2)
  exact C.ret0 d15_51 (by decide) (by decide) ⟨rfl, (((Keep.refl h0 [o0, o2]).trans K3133 (allS (Or.inl (List.mem_of_getElem? (i := 1) rfl)) all0)).wr W3143 (Or.inl (List.mem_of_getElem? (i := 0) rfl))), F3144, F3146, F3147, F3148, F3150⟩
def Qau3187_4 (Z : State) (n0 : Nat) (h0 : Heap) (o0 : Addr) (o1 : Addr) (o2 : Addr) (o3 : Addr) (j0 : Int64) (j1 : Int64) (j2 : Int64) (vso2 : List Value) (v : Option Value) (h' : Heap) : Prop := (v = none) ∧ (Keep h0 h' [o3]) ∧ (Av Z h' o3 .long ([.long j0, .long j1, .long j2]))
theorem ef_au3187_4 (m : MethodId) (o0 : Addr) (o1 : Addr) : entryFrame m #[(.ref o0), (.ref o1), (.int 0), (.int 3)] 5 = mkF m 0 #[rv o0, rv o1, iv 0, iv 3, .unset] [] := by first | (simp [entryFrame, mkF, argsToLocals, Value.category]; done) | rfl
set_option maxRecDepth 65536 in
set_option maxHeartbeats 40000000 in
theorem au3187_4 (l : Launch) (Z : State) (a0 : Array Value) (hw : ∀ d ∈ tables_1, d.before a0 Z = true) (n0 : Nat) (h0 : Heap) (hn0 : n0 ≤ h0.size) (o0 : Addr) (o1 : Addr) (o2 : Addr) (o3 : Addr) (j0 : Int64) (j1 : Int64) (j2 : Int64) (vso2 : List Value) (P0 : Exa Z h0 o0 kC0) (P1 : Fld Z h0 o0 kC0 "count" "I" (.int 0)) (P2 : Fld Z h0 o0 kC0 "held" "[I" (.ref o2)) (P3 : Fld Z h0 o0 kC0 "listing" "Z" (.int 0)) (P4 : Fld Z h0 o0 kC0 "words" "[J" (.ref o3)) (P5 : Av Z h0 o1 .long ([.long j0, .long j1, .long j2])) (P6 : Av Z h0 o2 .int vso2) (P7 : Av Z h0 o3 .long ([.long 0, .long 0, .long 0])) (g_o0 : n0 ≤ o0) (g_o1 : n0 ≤ o1) (g_o2 : n0 ≤ o2) (g_o3 : n0 ≤ o3) (ne_o0_o1 : o0 ≠ o1) (ne_o0_o2 : o0 ≠ o2) (ne_o0_o3 : o0 ≠ o3) (ne_o1_o2 : o1 ≠ o2) (ne_o1_o3 : o1 ≠ o3) (ne_o2_o3 : o2 ≠ o3) :
    Con l Z n0 [] (⟨"com/example/detra/detra/SetWords", "addWords", "([JII)V"⟩ : MethodName) prog_21_method_4_code 5 none ({ frames := 0, cells := 0, slots := 0, locals := 0 } : Room) #[(.ref o0), (.ref o1), (.int 0), (.int 3)] h0 (Qau3187_4 Z n0 h0 o0 o1 o2 o3 j0 j1 j2 vso2) := by
  refine Con.of pf_14 (fun m => ef_au3187_4 m o0 o1) hn0 ?_
  intro p e s m below meth c C
  refine C.iconst 0 d4_0 rfl rfl ?_
  refine C.istore (Ls' := #[rv o0, rv o1, iv 0, iv 3, iv 0]) d4_1 rfl rfl ?_
  refine C.iload d4_3 rfl rfl ?_
  refine C.iloadN d4_5 rfl rfl ?_
  refine C.icmp_ge_f d4_6 rfl (by decide) ?_
  refine C.aloadN d4_9 rfl rfl rfl ?_
  refine C.getF d4_10 rfl (tw hw 33 rfl) P3 ?_
  refine C.if_eq_t d4_13 (by decide) rfl (by decide) ?_
  refine C.aloadN d4_57 rfl rfl rfl ?_
  refine C.getF d4_58 rfl (tw hw 31 rfl) P4 ?_
  refine C.iload d4_61 rfl rfl ?_
  refine C.dup2 d4_63 rfl rfl rfl ?_
  refine C.laload (.long 0) d4_64 rfl P7 (by decide) rfl ?_
  refine C.aloadN d4_65 rfl rfl rfl ?_
  refine C.iloadN d4_66 rfl rfl ?_
  refine C.iload d4_67 rfl rfl ?_
  refine C.iadd d4_69 rfl ?_
  refine Go.cI (y := 0) rfl ?_
  refine C.laload (.long j0) d4_70 rfl P5 (by decide) rfl ?_
  refine C.lor d4_71 rfl ?_
  rw [Int64.zero_or]
  refine C.lastore d4_72 rfl P7 g_o3 (by decide) (Nat.le_of_ble_eq_true rfl) (fun h3254 W3255 F3256 => ?_)
  have F3257 := Exa.wr W3255 P0
  have F3258 := Fld.other W3255 P1 (Or.inl ne_o0_o3)
  have F3259 := Fld.other W3255 P2 (Or.inl ne_o0_o3)
  have F3260 := Fld.other W3255 P3 (Or.inl ne_o0_o3)
  have F3261 := Fld.other W3255 P4 (Or.inl ne_o0_o3)
  have F3262 := P5.other W3255 ne_o1_o3
  have F3263 := P6.other W3255 ne_o2_o3
  have F3264 : Av Z h3254 o3 .long ([.long j0, .long 0, .long 0]) := F3256
  refine C.iinc (Ls' := #[rv o0, rv o1, iv 0, iv 3, iv 1]) 1 d4_73 rfl rfl rfl rfl ?_
  refine C.goto d4_76 (by decide) rfl ?_
  refine C.iload d4_3 rfl rfl ?_
  refine C.iloadN d4_5 rfl rfl ?_
  refine C.icmp_ge_f d4_6 rfl (by decide) ?_
  refine C.aloadN d4_9 rfl rfl rfl ?_
  refine C.getF d4_10 rfl (tw hw 33 rfl) F3260 ?_
  refine C.if_eq_t d4_13 (by decide) rfl (by decide) ?_
  refine C.aloadN d4_57 rfl rfl rfl ?_
  refine C.getF d4_58 rfl (tw hw 31 rfl) F3261 ?_
  refine C.iload d4_61 rfl rfl ?_
  refine C.dup2 d4_63 rfl rfl rfl ?_
  refine C.laload (.long 0) d4_64 rfl F3264 (by decide) rfl ?_
  refine C.aloadN d4_65 rfl rfl rfl ?_
  refine C.iloadN d4_66 rfl rfl ?_
  refine C.iload d4_67 rfl rfl ?_
  refine C.iadd d4_69 rfl ?_
  refine Go.cI (y := 1) rfl ?_
  refine C.laload (.long j1) d4_70 rfl F3262 (by decide) rfl ?_
  refine C.lor d4_71 rfl ?_
  rw [Int64.zero_or]
  refine C.lastore d4_72 rfl F3264 g_o3 (by decide) (Nat.le_of_ble_eq_true rfl) (fun h3265 W3266 F3267 => ?_)
  have F3268 := Exa.wr W3266 F3257
  have F3269 := Fld.other W3266 F3258 (Or.inl ne_o0_o3)
  have F3270 := Fld.other W3266 F3259 (Or.inl ne_o0_o3)
  have F3271 := Fld.other W3266 F3260 (Or.inl ne_o0_o3)
  have F3272 := Fld.other W3266 F3261 (Or.inl ne_o0_o3)
  have F3273 := F3262.other W3266 ne_o1_o3
  have F3274 := F3263.other W3266 ne_o2_o3
  have F3275 : Av Z h3265 o3 .long ([.long j0, .long j1, .long 0]) := F3267
  refine C.iinc (Ls' := #[rv o0, rv o1, iv 0, iv 3, iv 2]) 1 d4_73 rfl rfl rfl rfl ?_
  refine C.goto d4_76 (by decide) rfl ?_
  refine C.iload d4_3 rfl rfl ?_
  refine C.iloadN d4_5 rfl rfl ?_
  refine C.icmp_ge_f d4_6 rfl (by decide) ?_
  refine C.aloadN d4_9 rfl rfl rfl ?_
  refine C.getF d4_10 rfl (tw hw 33 rfl) F3271 ?_
  refine C.if_eq_t d4_13 (by decide) rfl (by decide) ?_
  refine C.aloadN d4_57 rfl rfl rfl ?_
  refine C.getF d4_58 rfl (tw hw 31 rfl) F3272 ?_
  refine C.iload d4_61 rfl rfl ?_
  refine C.dup2 d4_63 rfl rfl rfl ?_
  refine C.laload (.long 0) d4_64 rfl F3275 (by decide) rfl ?_
  refine C.aloadN d4_65 rfl rfl rfl ?_
  refine C.iloadN d4_66 rfl rfl ?_
  refine C.iload d4_67 rfl rfl ?_
  refine C.iadd d4_69 rfl ?_
  refine Go.cI (y := 2) rfl ?_
  refine C.laload (.long j2) d4_70 rfl F3273 (by decide) rfl ?_
  refine C.lor d4_71 rfl ?_
  rw [Int64.zero_or]
  refine C.lastore d4_72 rfl F3275 g_o3 (by decide) (Nat.le_of_ble_eq_true rfl) (fun h3276 W3277 F3278 => ?_)
  have F3279 := Exa.wr W3277 F3268
  have F3280 := Fld.other W3277 F3269 (Or.inl ne_o0_o3)
  have F3281 := Fld.other W3277 F3270 (Or.inl ne_o0_o3)
  have F3282 := Fld.other W3277 F3271 (Or.inl ne_o0_o3)
  have F3283 := Fld.other W3277 F3272 (Or.inl ne_o0_o3)
  have F3284 := F3273.other W3277 ne_o1_o3
  have F3285 := F3274.other W3277 ne_o2_o3
  have F3286 : Av Z h3276 o3 .long ([.long j0, .long j1, .long j2]) := F3278
  refine C.iinc (Ls' := #[rv o0, rv o1, iv 0, iv 3, iv 3]) 1 d4_73 rfl rfl rfl rfl ?_
  refine C.goto d4_76 (by decide) rfl ?_
  refine C.iload d4_3 rfl rfl ?_
  refine C.iloadN d4_5 rfl rfl ?_
  refine C.icmp_ge_t d4_6 (by decide) rfl (by decide) ?_
  exact C.ret0 d4_79 (by decide) (by decide) ⟨rfl, ((((Keep.refl h0 [o3]).wr W3255 (Or.inl (List.mem_of_getElem? (i := 0) rfl))).wr W3266 (Or.inl (List.mem_of_getElem? (i := 0) rfl))).wr W3277 (Or.inl (List.mem_of_getElem? (i := 0) rfl))), F3286⟩
def Qcon0 (Z : State) (n0 : Nat) (h0 : Heap) (x0 : Int64) (x1 : Int64) (x2 : Int64) (x3 : Int64) (x4 : Int64) (x5 : Int32) (v : Option Value) (h' : Heap) : Prop := v = some (.int 1) ∧ True
theorem ef_con0 (m : MethodId) (x0 : Int64) (x1 : Int64) (x2 : Int64) (x3 : Int64) (x4 : Int64) (x5 : Int32) : entryFrame m #[(.long x0), (.long x1), (.long x2), (.long x3), (.long x4), (.int x5)] maxLocals = mkF m 0 #[.val (.long x0), .second, .val (.long x1), .second, .val (.long x2), .second, .val (.long x3), .second, .val (.long x4), .second, iv x5, .unset, .unset, .unset, .unset, .unset, .unset, .unset, .unset, .unset, .unset, .unset, .unset, .unset, .unset, .unset, .unset] [] := by first | (simp [entryFrame, mkF, argsToLocals, Value.category, maxLocals]; done) | rfl
set_option maxRecDepth 65536 in
set_option maxHeartbeats 40000000 in
theorem con0 (l : Launch) (Z : State) (a0 : Array Value) (hw : ∀ d ∈ tables_1, d.before a0 Z = true) (n0 : Nat) (h0 : Heap) (hn0 : n0 ≤ h0.size) (x0 : Int64) (x1 : Int64) (x2 : Int64) (x3 : Int64) (x4 : Int64) (x5 : Int32) :
    Con l Z n0 tables_1 x code maxLocals ret room_1 #[(.long x0), (.long x1), (.long x2), (.long x3), (.long x4), (.int x5)] h0 (Qcon0 Z n0 h0 x0 x1 x2 x3 x4 x5) := by
  refine Con.of pf_11 (fun m => ef_con0 m x0 x1 x2 x3 x4 x5) hn0 ?_
  intro p e s m below meth c C
  refine C.iload at_0 rfl rfl ?_
  refine C.iconst 3 at_2 rfl rfl ?_
  refine C.iand at_3 rfl ?_
  refine C.istore (Ls' := #[.val (.long x0), .second, .val (.long x1), .second, .val (.long x2), .second, .val (.long x3), .second, .val (.long x4), .second, iv x5, iv (x5 &&& 3), .unset, .unset, .unset, .unset, .unset, .unset, .unset, .unset, .unset, .unset, .unset, .unset, .unset, .unset, .unset]) at_4 rfl rfl ?_
  rcases own_four x5 with ql | ql | ql | ql
  · rw [ql]
    refine C.iload at_6 rfl rfl ?_
    refine C.iconst 4 at_8 rfl rfl ?_
    refine C.iand at_9 rfl ?_
    have J20_1565 : ∀ (c12 : Int64) , Go p l e room_1 s m #[(.long x0), (.long x1), (.long x2), (.long x3), (.long x4), (.int x5)] below meth c n0 (FinQ s n0 (Qcon0 Z n0 h0 x0 x1 x2 x3 x4 x5) room_1.cells room_1.slots) h0 0 0 20 #[.val (.long x0), .second, .val (.long x1), .second, .val (.long x2), .second, .val (.long x3), .second, .val (.long x4), .second, iv x5, iv 0, .unset, .unset, .unset, .unset, .unset, .unset, .unset, .unset, .unset, .unset, .unset, .unset, .unset, .unset, .unset] [(.long c12)] := by
      intro c12
      refine C.lstore (Ls' := #[.val (.long x0), .second, .val (.long x1), .second, .val (.long x2), .second, .val (.long x3), .second, .val (.long x4), .second, iv x5, iv 0, .val (.long c12), .second, .unset, .unset, .unset, .unset, .unset, .unset, .unset, .unset, .unset, .unset, .unset, .unset, .unset]) at_20 rfl rfl ?_
      refine C.iload at_22 rfl rfl ?_
      refine C.bipush 8 at_24 rfl rfl ?_
      refine C.iand at_26 rfl ?_
      have J35_1566 : ∀ (b14 : Int32) (h14 : b14 = 0 ∨ b14 = 1), Go p l e room_1 s m #[(.long x0), (.long x1), (.long x2), (.long x3), (.long x4), (.int x5)] below meth c n0 (FinQ s n0 (Qcon0 Z n0 h0 x0 x1 x2 x3 x4 x5) room_1.cells room_1.slots) h0 0 0 35 #[.val (.long x0), .second, .val (.long x1), .second, .val (.long x2), .second, .val (.long x3), .second, .val (.long x4), .second, iv x5, iv 0, .val (.long c12), .second, .unset, .unset, .unset, .unset, .unset, .unset, .unset, .unset, .unset, .unset, .unset, .unset, .unset] [(.int b14)] := by
        intro b14 h14
        refine C.istore (Ls' := #[.val (.long x0), .second, .val (.long x1), .second, .val (.long x2), .second, .val (.long x3), .second, .val (.long x4), .second, iv x5, iv 0, .val (.long c12), .second, iv b14, .unset, .unset, .unset, .unset, .unset, .unset, .unset, .unset, .unset, .unset, .unset, .unset]) at_35 rfl rfl ?_
        refine C.iconst 3 at_37 rfl rfl ?_
        refine C.newarr 3 at_38 rfl rfl (tw hw 0 rfl) (by decide) (by decide) (by decide) (by decide) (by decide) (fun a1567 h1568 z1571 g1572 X1569 F1570 => ?_)
        have F1573 : Av Z h1568 a1567 .long ([.long 0, .long 0, .long 0]) := F1570
        refine C.dup at_40 rfl rfl ?_
        refine C.iconst 0 at_41 rfl rfl ?_
        refine C.lloadN at_42 rfl rfl ?_
        refine C.lastore at_43 rfl F1573 g1572 (by decide) (Nat.le_of_ble_eq_true rfl) (fun h1574 W1575 F1576 => ?_)
        have F1577 : Av Z h1574 a1567 .long ([.long x0, .long 0, .long 0]) := F1576
        refine C.dup at_44 rfl rfl ?_
        refine C.iconst 1 at_45 rfl rfl ?_
        refine C.lloadN at_46 rfl rfl ?_
        refine C.lastore at_47 rfl F1577 g1572 (by decide) (Nat.le_of_ble_eq_true rfl) (fun h1578 W1579 F1580 => ?_)
        have F1581 : Av Z h1578 a1567 .long ([.long x0, .long x1, .long 0]) := F1580
        refine C.dup at_48 rfl rfl ?_
        refine C.iconst 2 at_49 rfl rfl ?_
        refine C.lload at_50 rfl rfl ?_
        refine C.lastore at_52 rfl F1581 g1572 (by decide) (Nat.le_of_ble_eq_true rfl) (fun h1582 W1583 F1584 => ?_)
        have F1585 : Av Z h1582 a1567 .long ([.long x0, .long x1, .long x2]) := F1584
        refine C.astore (Ls' := #[.val (.long x0), .second, .val (.long x1), .second, .val (.long x2), .second, .val (.long x3), .second, .val (.long x4), .second, iv x5, iv 0, .val (.long c12), .second, iv b14, rv a1567, .unset, .unset, .unset, .unset, .unset, .unset, .unset, .unset, .unset, .unset, .unset]) at_53 rfl rfl rfl ?_
        refine C.iconst 3 at_55 rfl rfl ?_
        refine C.newarr 3 at_56 rfl rfl (tw hw 0 rfl) (by decide) (by decide) (by decide) (by decide) (by decide) (fun a1586 h1587 z1590 g1591 X1588 F1589 => ?_)
        have ne1592 : a1567 ≠ a1586 := by rw [z1590]; exact Nat.ne_of_lt F1585.lt
        have F1593 := F1585.ext X1588
        have F1594 : Av Z h1587 a1586 .long ([.long 0, .long 0, .long 0]) := F1589
        refine C.dup at_58 rfl rfl ?_
        refine C.iconst 0 at_59 rfl rfl ?_
        refine C.lloadN at_60 rfl rfl ?_
        refine C.ldc2J at_61 rfl (tw hw 1 rfl) ?_
        refine C.lxor at_64 rfl ?_
        refine C.lastore at_65 rfl F1594 g1591 (by decide) (Nat.le_of_ble_eq_true rfl) (fun h1595 W1596 F1597 => ?_)
        have F1598 := F1593.other W1596 ne1592
        have F1599 : Av Z h1595 a1586 .long ([.long (x0 ^^^ (-1 : Int64)), .long 0, .long 0]) := F1597
        refine C.dup at_66 rfl rfl ?_
        refine C.iconst 1 at_67 rfl rfl ?_
        refine C.lloadN at_68 rfl rfl ?_
        refine C.ldc2J at_69 rfl (tw hw 1 rfl) ?_
        refine C.lxor at_72 rfl ?_
        refine C.lastore at_73 rfl F1599 g1591 (by decide) (Nat.le_of_ble_eq_true rfl) (fun h1600 W1601 F1602 => ?_)
        have F1603 := F1598.other W1601 ne1592
        have F1604 : Av Z h1600 a1586 .long ([.long (x0 ^^^ (-1 : Int64)), .long (x1 ^^^ (-1 : Int64)), .long 0]) := F1602
        refine C.dup at_74 rfl rfl ?_
        refine C.iconst 2 at_75 rfl rfl ?_
        refine C.lload at_76 rfl rfl ?_
        refine C.ldc2J at_78 rfl (tw hw 1 rfl) ?_
        refine C.lxor at_81 rfl ?_
        refine C.lastore at_82 rfl F1604 g1591 (by decide) (Nat.le_of_ble_eq_true rfl) (fun h1605 W1606 F1607 => ?_)
        have F1608 := F1603.other W1606 ne1592
        have F1609 : Av Z h1605 a1586 .long ([.long (x0 ^^^ (-1 : Int64)), .long (x1 ^^^ (-1 : Int64)), .long (x2 ^^^ (-1 : Int64))]) := F1607
        refine C.astore (Ls' := #[.val (.long x0), .second, .val (.long x1), .second, .val (.long x2), .second, .val (.long x3), .second, .val (.long x4), .second, iv x5, iv 0, .val (.long c12), .second, iv b14, rv a1567, rv a1586, .unset, .unset, .unset, .unset, .unset, .unset, .unset, .unset, .unset, .unset]) at_83 rfl rfl rfl ?_
        refine C.iconst 0 at_85 rfl rfl ?_
        refine C.newarr 0 at_86 rfl rfl (tw hw 0 rfl) (by decide) (by decide) (by decide) (by decide) (by decide) (fun a1610 h1611 z1614 g1615 X1612 F1613 => ?_)
        have ne1616 : a1567 ≠ a1610 := by rw [z1614]; exact Nat.ne_of_lt F1608.lt
        have ne1617 : a1586 ≠ a1610 := by rw [z1614]; exact Nat.ne_of_lt F1609.lt
        have F1618 := F1608.ext X1612
        have F1619 := F1609.ext X1612
        have F1620 : Av Z h1611 a1610 .long ([]) := F1613
        refine C.astore (Ls' := #[.val (.long x0), .second, .val (.long x1), .second, .val (.long x2), .second, .val (.long x3), .second, .val (.long x4), .second, iv x5, iv 0, .val (.long c12), .second, iv b14, rv a1567, rv a1586, rv a1610, .unset, .unset, .unset, .unset, .unset, .unset, .unset, .unset, .unset]) at_88 rfl rfl rfl ?_
        refine C.iconst 1 at_90 rfl rfl ?_
        refine C.newarr 1 at_91 rfl rfl (tw hw 0 rfl) (by decide) (by decide) (by decide) (by decide) (by decide) (fun a1621 h1622 z1625 g1626 X1623 F1624 => ?_)
        have ne1627 : a1567 ≠ a1621 := by rw [z1625]; exact Nat.ne_of_lt F1618.lt
        have ne1628 : a1586 ≠ a1621 := by rw [z1625]; exact Nat.ne_of_lt F1619.lt
        have ne1629 : a1610 ≠ a1621 := by rw [z1625]; exact Nat.ne_of_lt F1620.lt
        have F1630 := F1618.ext X1623
        have F1631 := F1619.ext X1623
        have F1632 := F1620.ext X1623
        have F1633 : Av Z h1622 a1621 .long ([.long 0]) := F1624
        refine C.dup at_93 rfl rfl ?_
        refine C.iconst 0 at_94 rfl rfl ?_
        refine C.lload at_95 rfl rfl ?_
        refine C.lastore at_97 rfl F1633 g1626 (by decide) (Nat.le_of_ble_eq_true rfl) (fun h1634 W1635 F1636 => ?_)
        have F1637 := F1630.other W1635 ne1627
        have F1638 := F1631.other W1635 ne1628
        have F1639 := F1632.other W1635 ne1629
        have F1640 : Av Z h1634 a1621 .long ([.long x3]) := F1636
        refine C.astore (Ls' := #[.val (.long x0), .second, .val (.long x1), .second, .val (.long x2), .second, .val (.long x3), .second, .val (.long x4), .second, iv x5, iv 0, .val (.long c12), .second, iv b14, rv a1567, rv a1586, rv a1610, rv a1621, .unset, .unset, .unset, .unset, .unset, .unset, .unset, .unset]) at_98 rfl rfl rfl ?_
        refine C.iconst 2 at_100 rfl rfl ?_
        refine C.newarr 2 at_101 rfl rfl (tw hw 0 rfl) (by decide) (by decide) (by decide) (by decide) (by decide) (fun a1641 h1642 z1645 g1646 X1643 F1644 => ?_)
        have ne1647 : a1567 ≠ a1641 := by rw [z1645]; exact Nat.ne_of_lt F1637.lt
        have ne1648 : a1586 ≠ a1641 := by rw [z1645]; exact Nat.ne_of_lt F1638.lt
        have ne1649 : a1610 ≠ a1641 := by rw [z1645]; exact Nat.ne_of_lt F1639.lt
        have ne1650 : a1621 ≠ a1641 := by rw [z1645]; exact Nat.ne_of_lt F1640.lt
        have F1651 := F1637.ext X1643
        have F1652 := F1638.ext X1643
        have F1653 := F1639.ext X1643
        have F1654 := F1640.ext X1643
        have F1655 : Av Z h1642 a1641 .long ([.long 0, .long 0]) := F1644
        refine C.dup at_103 rfl rfl ?_
        refine C.iconst 0 at_104 rfl rfl ?_
        refine C.lload at_105 rfl rfl ?_
        refine C.lastore at_107 rfl F1655 g1646 (by decide) (Nat.le_of_ble_eq_true rfl) (fun h1656 W1657 F1658 => ?_)
        have F1659 := F1651.other W1657 ne1647
        have F1660 := F1652.other W1657 ne1648
        have F1661 := F1653.other W1657 ne1649
        have F1662 := F1654.other W1657 ne1650
        have F1663 : Av Z h1656 a1641 .long ([.long x3, .long 0]) := F1658
        refine C.dup at_108 rfl rfl ?_
        refine C.iconst 1 at_109 rfl rfl ?_
        refine C.lload at_110 rfl rfl ?_
        refine C.lastore at_112 rfl F1663 g1646 (by decide) (Nat.le_of_ble_eq_true rfl) (fun h1664 W1665 F1666 => ?_)
        have F1667 := F1659.other W1665 ne1647
        have F1668 := F1660.other W1665 ne1648
        have F1669 := F1661.other W1665 ne1649
        have F1670 := F1662.other W1665 ne1650
        have F1671 : Av Z h1664 a1641 .long ([.long x3, .long x4]) := F1666
        refine C.astore (Ls' := #[.val (.long x0), .second, .val (.long x1), .second, .val (.long x2), .second, .val (.long x3), .second, .val (.long x4), .second, iv x5, iv 0, .val (.long c12), .second, iv b14, rv a1567, rv a1586, rv a1610, rv a1621, rv a1641, .unset, .unset, .unset, .unset, .unset, .unset, .unset]) at_113 rfl rfl rfl ?_
        refine C.iconst 3 at_115 rfl rfl ?_
        refine C.newarr 3 at_116 rfl rfl (tw hw 0 rfl) (by decide) (by decide) (by decide) (by decide) (by decide) (fun a1672 h1673 z1676 g1677 X1674 F1675 => ?_)
        have ne1678 : a1567 ≠ a1672 := by rw [z1676]; exact Nat.ne_of_lt F1667.lt
        have ne1679 : a1586 ≠ a1672 := by rw [z1676]; exact Nat.ne_of_lt F1668.lt
        have ne1680 : a1610 ≠ a1672 := by rw [z1676]; exact Nat.ne_of_lt F1669.lt
        have ne1681 : a1621 ≠ a1672 := by rw [z1676]; exact Nat.ne_of_lt F1670.lt
        have ne1682 : a1641 ≠ a1672 := by rw [z1676]; exact Nat.ne_of_lt F1671.lt
        have F1683 := F1667.ext X1674
        have F1684 := F1668.ext X1674
        have F1685 := F1669.ext X1674
        have F1686 := F1670.ext X1674
        have F1687 := F1671.ext X1674
        have F1688 : Av Z h1673 a1672 .long ([.long 0, .long 0, .long 0]) := F1675
        refine C.dup at_118 rfl rfl ?_
        refine C.iconst 0 at_119 rfl rfl ?_
        refine C.lload at_120 rfl rfl ?_
        refine C.lastore at_122 rfl F1688 g1677 (by decide) (Nat.le_of_ble_eq_true rfl) (fun h1689 W1690 F1691 => ?_)
        have F1692 := F1683.other W1690 ne1678
        have F1693 := F1684.other W1690 ne1679
        have F1694 := F1685.other W1690 ne1680
        have F1695 := F1686.other W1690 ne1681
        have F1696 := F1687.other W1690 ne1682
        have F1697 : Av Z h1689 a1672 .long ([.long x3, .long 0, .long 0]) := F1691
        refine C.dup at_123 rfl rfl ?_
        refine C.iconst 1 at_124 rfl rfl ?_
        refine C.lload at_125 rfl rfl ?_
        refine C.lastore at_127 rfl F1697 g1677 (by decide) (Nat.le_of_ble_eq_true rfl) (fun h1698 W1699 F1700 => ?_)
        have F1701 := F1692.other W1699 ne1678
        have F1702 := F1693.other W1699 ne1679
        have F1703 := F1694.other W1699 ne1680
        have F1704 := F1695.other W1699 ne1681
        have F1705 := F1696.other W1699 ne1682
        have F1706 : Av Z h1698 a1672 .long ([.long x3, .long x4, .long 0]) := F1700
        refine C.dup at_128 rfl rfl ?_
        refine C.iconst 2 at_129 rfl rfl ?_
        refine C.lload at_130 rfl rfl ?_
        refine C.lastore at_132 rfl F1706 g1677 (by decide) (Nat.le_of_ble_eq_true rfl) (fun h1707 W1708 F1709 => ?_)
        have F1710 := F1701.other W1708 ne1678
        have F1711 := F1702.other W1708 ne1679
        have F1712 := F1703.other W1708 ne1680
        have F1713 := F1704.other W1708 ne1681
        have F1714 := F1705.other W1708 ne1682
        have F1715 : Av Z h1707 a1672 .long ([.long x3, .long x4, .long c12]) := F1709
        refine C.astore (Ls' := #[.val (.long x0), .second, .val (.long x1), .second, .val (.long x2), .second, .val (.long x3), .second, .val (.long x4), .second, iv x5, iv 0, .val (.long c12), .second, iv b14, rv a1567, rv a1586, rv a1610, rv a1621, rv a1641, rv a1672, .unset, .unset, .unset, .unset, .unset, .unset]) at_133 rfl rfl rfl ?_
        refine C.iload at_135 rfl rfl ?_
        refine C.if_ne_f at_137 rfl (by decide) ?_
        refine C.aload at_140 rfl rfl rfl ?_
        refine C.goto at_142 (by decide) rfl ?_
        refine C.astore (Ls' := #[.val (.long x0), .second, .val (.long x1), .second, .val (.long x2), .second, .val (.long x3), .second, .val (.long x4), .second, iv x5, iv 0, .val (.long c12), .second, iv b14, rv a1567, rv a1586, rv a1610, rv a1621, rv a1641, rv a1672, rv a1610, .unset, .unset, .unset, .unset, .unset]) at_169 rfl rfl rfl ?_
        refine C.new at_171 rfl (tw hw 2 rfl) (tw hw 3 rfl) (tw hw 4 rfl) (by decide) (by decide) (fun a1716 h1717 z1721 g1722 X1719 E1718 D1720 => ?_)
        have ne1723 : a1567 ≠ a1716 := by rw [z1721]; exact Nat.ne_of_lt F1710.lt
        have ne1724 : a1586 ≠ a1716 := by rw [z1721]; exact Nat.ne_of_lt F1711.lt
        have ne1725 : a1610 ≠ a1716 := by rw [z1721]; exact Nat.ne_of_lt F1712.lt
        have ne1726 : a1621 ≠ a1716 := by rw [z1721]; exact Nat.ne_of_lt F1713.lt
        have ne1727 : a1641 ≠ a1716 := by rw [z1721]; exact Nat.ne_of_lt F1714.lt
        have ne1728 : a1672 ≠ a1716 := by rw [z1721]; exact Nat.ne_of_lt F1715.lt
        have F1729 := F1710.ext X1719
        have F1730 := F1711.ext X1719
        have F1731 := F1712.ext X1719
        have F1732 := F1713.ext X1719
        have F1733 := F1714.ext X1719
        have F1734 := F1715.ext X1719
        have F1735 : Fld Z h1717 a1716 kC1 "starts" "[I" (.null) := D1720 (Or.inl (tw hw 13 rfl)) (ty := (.array .int)) (by decide)
        have F1736 : Fld Z h1717 a1716 kC1 "indices" "[I" (.null) := D1720 (Or.inl (tw hw 15 rfl)) (ty := (.array .int)) (by decide)
        have F1737 : Fld Z h1717 a1716 kC1 "words" "[J" (.null) := D1720 (Or.inl (tw hw 17 rfl)) (ty := (.array .long)) (by decide)
        have F1738 : Fld Z h1717 a1716 kC1 "sizes" "[I" (.null) := D1720 (Or.inl (tw hw 19 rfl)) (ty := (.array .int)) (by decide)
        have F1739 : Fld Z h1717 a1716 kC1 "hashes" "[I" (.null) := D1720 (Or.inl (tw hw 21 rfl)) (ty := (.array .int)) (by decide)
        have F1740 : Fld Z h1717 a1716 kC1 "table" "[I" (.null) := D1720 (Or.inl (tw hw 23 rfl)) (ty := (.array .int)) (by decide)
        have F1741 : Fld Z h1717 a1716 kC1 "size" "I" (.int 0) := D1720 (Or.inl (tw hw 78 rfl)) (ty := .int) (by decide)
        refine C.dup at_174 rfl rfl ?_
        refine C.callN (argsL := []) (rest := [(.ref a1716)]) 1 (fun zz => au1742_1 l Z a0 hw n0 h1717 zz a1716 E1718 F1739 F1736 F1741 F1738 F1735 F1740 F1737 g1722) at_175 rfl rfl (tw hw 5 rfl) (tw hw 6 rfl) (tw hw 4 rfl) (tw hw 7 rfl) (by decide) pd_4 rfl rfl rfl (Nat.le_of_eq rfl) (by decide) (by decide) (by decide) (by decide) (fun v2382 h2383 r2384 => ?_)
        obtain ⟨a2385, a2386, a2387, a2388, a2389, a2390, rfl, K2391, g2420, gz2421, g2422, gz2423, g2424, gz2425, g2426, gz2427, g2428, gz2429, g2430, gz2431, ne2392, ne2393, ne2394, ne2395, ne2396, ne2397, ne2398, ne2399, ne2400, ne2401, ne2402, ne2403, ne2404, ne2405, ne2406, F2407, F2408, F2409, F2410, F2411, F2412, F2413, F2414, F2415, F2416, F2417, F2418, F2419⟩ := r2384
        have ne2432 : a1567 ≠ a2385 := Nat.ne_of_lt (Nat.lt_of_lt_of_le F1729.lt gz2421)
        have ne2433 : a1586 ≠ a2385 := Nat.ne_of_lt (Nat.lt_of_lt_of_le F1730.lt gz2421)
        have ne2434 : a1610 ≠ a2385 := Nat.ne_of_lt (Nat.lt_of_lt_of_le F1731.lt gz2421)
        have ne2435 : a1621 ≠ a2385 := Nat.ne_of_lt (Nat.lt_of_lt_of_le F1732.lt gz2421)
        have ne2436 : a1641 ≠ a2385 := Nat.ne_of_lt (Nat.lt_of_lt_of_le F1733.lt gz2421)
        have ne2437 : a1672 ≠ a2385 := Nat.ne_of_lt (Nat.lt_of_lt_of_le F1734.lt gz2421)
        have ne2438 : a1716 ≠ a2385 := Nat.ne_of_lt (Nat.lt_of_lt_of_le E1718.lt gz2421)
        have ne2439 : a1567 ≠ a2386 := Nat.ne_of_lt (Nat.lt_of_lt_of_le F1729.lt gz2423)
        have ne2440 : a1586 ≠ a2386 := Nat.ne_of_lt (Nat.lt_of_lt_of_le F1730.lt gz2423)
        have ne2441 : a1610 ≠ a2386 := Nat.ne_of_lt (Nat.lt_of_lt_of_le F1731.lt gz2423)
        have ne2442 : a1621 ≠ a2386 := Nat.ne_of_lt (Nat.lt_of_lt_of_le F1732.lt gz2423)
        have ne2443 : a1641 ≠ a2386 := Nat.ne_of_lt (Nat.lt_of_lt_of_le F1733.lt gz2423)
        have ne2444 : a1672 ≠ a2386 := Nat.ne_of_lt (Nat.lt_of_lt_of_le F1734.lt gz2423)
        have ne2445 : a1716 ≠ a2386 := Nat.ne_of_lt (Nat.lt_of_lt_of_le E1718.lt gz2423)
        have ne2446 : a1567 ≠ a2387 := Nat.ne_of_lt (Nat.lt_of_lt_of_le F1729.lt gz2425)
        have ne2447 : a1586 ≠ a2387 := Nat.ne_of_lt (Nat.lt_of_lt_of_le F1730.lt gz2425)
        have ne2448 : a1610 ≠ a2387 := Nat.ne_of_lt (Nat.lt_of_lt_of_le F1731.lt gz2425)
        have ne2449 : a1621 ≠ a2387 := Nat.ne_of_lt (Nat.lt_of_lt_of_le F1732.lt gz2425)
        have ne2450 : a1641 ≠ a2387 := Nat.ne_of_lt (Nat.lt_of_lt_of_le F1733.lt gz2425)
        have ne2451 : a1672 ≠ a2387 := Nat.ne_of_lt (Nat.lt_of_lt_of_le F1734.lt gz2425)
        have ne2452 : a1716 ≠ a2387 := Nat.ne_of_lt (Nat.lt_of_lt_of_le E1718.lt gz2425)
        have ne2453 : a1567 ≠ a2388 := Nat.ne_of_lt (Nat.lt_of_lt_of_le F1729.lt gz2427)
        have ne2454 : a1586 ≠ a2388 := Nat.ne_of_lt (Nat.lt_of_lt_of_le F1730.lt gz2427)
        have ne2455 : a1610 ≠ a2388 := Nat.ne_of_lt (Nat.lt_of_lt_of_le F1731.lt gz2427)
        have ne2456 : a1621 ≠ a2388 := Nat.ne_of_lt (Nat.lt_of_lt_of_le F1732.lt gz2427)
        have ne2457 : a1641 ≠ a2388 := Nat.ne_of_lt (Nat.lt_of_lt_of_le F1733.lt gz2427)
        have ne2458 : a1672 ≠ a2388 := Nat.ne_of_lt (Nat.lt_of_lt_of_le F1734.lt gz2427)
        have ne2459 : a1716 ≠ a2388 := Nat.ne_of_lt (Nat.lt_of_lt_of_le E1718.lt gz2427)
        have ne2460 : a1567 ≠ a2389 := Nat.ne_of_lt (Nat.lt_of_lt_of_le F1729.lt gz2429)
        have ne2461 : a1586 ≠ a2389 := Nat.ne_of_lt (Nat.lt_of_lt_of_le F1730.lt gz2429)
        have ne2462 : a1610 ≠ a2389 := Nat.ne_of_lt (Nat.lt_of_lt_of_le F1731.lt gz2429)
        have ne2463 : a1621 ≠ a2389 := Nat.ne_of_lt (Nat.lt_of_lt_of_le F1732.lt gz2429)
        have ne2464 : a1641 ≠ a2389 := Nat.ne_of_lt (Nat.lt_of_lt_of_le F1733.lt gz2429)
        have ne2465 : a1672 ≠ a2389 := Nat.ne_of_lt (Nat.lt_of_lt_of_le F1734.lt gz2429)
        have ne2466 : a1716 ≠ a2389 := Nat.ne_of_lt (Nat.lt_of_lt_of_le E1718.lt gz2429)
        have ne2467 : a1567 ≠ a2390 := Nat.ne_of_lt (Nat.lt_of_lt_of_le F1729.lt gz2431)
        have ne2468 : a1586 ≠ a2390 := Nat.ne_of_lt (Nat.lt_of_lt_of_le F1730.lt gz2431)
        have ne2469 : a1610 ≠ a2390 := Nat.ne_of_lt (Nat.lt_of_lt_of_le F1731.lt gz2431)
        have ne2470 : a1621 ≠ a2390 := Nat.ne_of_lt (Nat.lt_of_lt_of_le F1732.lt gz2431)
        have ne2471 : a1641 ≠ a2390 := Nat.ne_of_lt (Nat.lt_of_lt_of_le F1733.lt gz2431)
        have ne2472 : a1672 ≠ a2390 := Nat.ne_of_lt (Nat.lt_of_lt_of_le F1734.lt gz2431)
        have ne2473 : a1716 ≠ a2390 := Nat.ne_of_lt (Nat.lt_of_lt_of_le E1718.lt gz2431)
        have F2474 := F1729.keep K2391 (ninS ne1723 nin0)
        have F2475 := F1730.keep K2391 (ninS ne1724 nin0)
        have F2476 := F1731.keep K2391 (ninS ne1725 nin0)
        have F2477 := F1732.keep K2391 (ninS ne1726 nin0)
        have F2478 := F1733.keep K2391 (ninS ne1727 nin0)
        have F2479 := F1734.keep K2391 (ninS ne1728 nin0)
        have F2480 := E1718.keep K2391
        refine C.astore (Ls' := #[.val (.long x0), .second, .val (.long x1), .second, .val (.long x2), .second, .val (.long x3), .second, .val (.long x4), .second, iv x5, iv 0, .val (.long c12), .second, iv b14, rv a1567, rv a1586, rv a1610, rv a1621, rv a1641, rv a1672, rv a1610, rv a1716, .unset, .unset, .unset, .unset]) at_178 rfl rfl rfl ?_
        refine C.new at_180 rfl (tw hw 24 rfl) (tw hw 25 rfl) (tw hw 26 rfl) (by decide) (by decide) (fun a2488 h2489 z2493 g2494 X2491 E2490 D2492 => ?_)
        have ne2495 : a1567 ≠ a2488 := by rw [z2493]; exact Nat.ne_of_lt F2474.lt
        have ne2496 : a1586 ≠ a2488 := by rw [z2493]; exact Nat.ne_of_lt F2475.lt
        have ne2497 : a1610 ≠ a2488 := by rw [z2493]; exact Nat.ne_of_lt F2476.lt
        have ne2498 : a1621 ≠ a2488 := by rw [z2493]; exact Nat.ne_of_lt F2477.lt
        have ne2499 : a1641 ≠ a2488 := by rw [z2493]; exact Nat.ne_of_lt F2478.lt
        have ne2500 : a1672 ≠ a2488 := by rw [z2493]; exact Nat.ne_of_lt F2479.lt
        have ne2501 : a1716 ≠ a2488 := by rw [z2493]; exact Nat.ne_of_lt F2480.lt
        have ne2502 : a2385 ≠ a2488 := by rw [z2493]; exact Nat.ne_of_lt F2414.lt
        have ne2503 : a2386 ≠ a2488 := by rw [z2493]; exact Nat.ne_of_lt F2415.lt
        have ne2504 : a2387 ≠ a2488 := by rw [z2493]; exact Nat.ne_of_lt F2416.lt
        have ne2505 : a2388 ≠ a2488 := by rw [z2493]; exact Nat.ne_of_lt F2417.lt
        have ne2506 : a2389 ≠ a2488 := by rw [z2493]; exact Nat.ne_of_lt F2418.lt
        have ne2507 : a2390 ≠ a2488 := by rw [z2493]; exact Nat.ne_of_lt F2419.lt
        have F2508 := F2474.ext X2491
        have F2509 := F2475.ext X2491
        have F2510 := F2476.ext X2491
        have F2511 := F2477.ext X2491
        have F2512 := F2478.ext X2491
        have F2513 := F2479.ext X2491
        have F2514 := Exa.ext X2491 F2480
        have F2515 := Fld.ext X2491 F2407
        have F2516 := Fld.ext X2491 F2408
        have F2517 := Fld.ext X2491 F2409
        have F2518 := Fld.ext X2491 F2410
        have F2519 := Fld.ext X2491 F2411
        have F2520 := Fld.ext X2491 F2412
        have F2521 := Fld.ext X2491 F2413
        have F2522 := F2414.ext X2491
        have F2523 := F2415.ext X2491
        have F2524 := F2416.ext X2491
        have F2525 := F2417.ext X2491
        have F2526 := F2418.ext X2491
        have F2527 := F2419.ext X2491
        have F2528 : Fld Z h2489 a2488 kC0 "words" "[J" (.null) := D2492 (Or.inr (tw hw 32 rfl)) (ty := (.array .long)) (by decide)
        have F2529 : Fld Z h2489 a2488 kC0 "listing" "Z" (.int 0) := D2492 (Or.inr (tw hw 34 rfl)) (ty := .boolean) (by decide)
        have F2530 : Fld Z h2489 a2488 kC0 "held" "[I" (.null) := D2492 (Or.inr (tw hw 36 rfl)) (ty := (.array .int)) (by decide)
        have F2531 : Fld Z h2489 a2488 kC0 "count" "I" (.int 0) := D2492 (Or.inl (tw hw 53 rfl)) (ty := .int) (by decide)
        refine C.dup at_183 rfl rfl ?_
        refine C.sipush 192 at_184 rfl rfl ?_
        refine C.callN (argsL := [(.int 192)]) (rest := [(.ref a2488)]) 1 (fun zz => au2532_3 l Z a0 hw n0 h2489 zz a2488 E2490 F2531 F2530 F2529 F2528 g2494) at_187 rfl rfl (tw hw 27 rfl) (tw hw 28 rfl) (tw hw 26 rfl) (tw hw 29 rfl) (by decide) pd_8 rfl rfl rfl (Nat.le_of_eq rfl) (by decide) (by decide) (by decide) (by decide) (fun v2698 h2699 r2700 => ?_)
        obtain ⟨a2701, a2702, rfl, K2703, g2711, gz2712, g2713, gz2714, ne2704, F2705, F2706, F2707, F2708, F2709, F2710⟩ := r2700
        have ne2715 : a1567 ≠ a2701 := Nat.ne_of_lt (Nat.lt_of_lt_of_le F2508.lt gz2712)
        have ne2716 : a1586 ≠ a2701 := Nat.ne_of_lt (Nat.lt_of_lt_of_le F2509.lt gz2712)
        have ne2717 : a1610 ≠ a2701 := Nat.ne_of_lt (Nat.lt_of_lt_of_le F2510.lt gz2712)
        have ne2718 : a1621 ≠ a2701 := Nat.ne_of_lt (Nat.lt_of_lt_of_le F2511.lt gz2712)
        have ne2719 : a1641 ≠ a2701 := Nat.ne_of_lt (Nat.lt_of_lt_of_le F2512.lt gz2712)
        have ne2720 : a1672 ≠ a2701 := Nat.ne_of_lt (Nat.lt_of_lt_of_le F2513.lt gz2712)
        have ne2721 : a1716 ≠ a2701 := Nat.ne_of_lt (Nat.lt_of_lt_of_le F2514.lt gz2712)
        have ne2722 : a2385 ≠ a2701 := Nat.ne_of_lt (Nat.lt_of_lt_of_le F2522.lt gz2712)
        have ne2723 : a2386 ≠ a2701 := Nat.ne_of_lt (Nat.lt_of_lt_of_le F2523.lt gz2712)
        have ne2724 : a2387 ≠ a2701 := Nat.ne_of_lt (Nat.lt_of_lt_of_le F2524.lt gz2712)
        have ne2725 : a2388 ≠ a2701 := Nat.ne_of_lt (Nat.lt_of_lt_of_le F2525.lt gz2712)
        have ne2726 : a2389 ≠ a2701 := Nat.ne_of_lt (Nat.lt_of_lt_of_le F2526.lt gz2712)
        have ne2727 : a2390 ≠ a2701 := Nat.ne_of_lt (Nat.lt_of_lt_of_le F2527.lt gz2712)
        have ne2728 : a2488 ≠ a2701 := Nat.ne_of_lt (Nat.lt_of_lt_of_le E2490.lt gz2712)
        have ne2729 : a1567 ≠ a2702 := Nat.ne_of_lt (Nat.lt_of_lt_of_le F2508.lt gz2714)
        have ne2730 : a1586 ≠ a2702 := Nat.ne_of_lt (Nat.lt_of_lt_of_le F2509.lt gz2714)
        have ne2731 : a1610 ≠ a2702 := Nat.ne_of_lt (Nat.lt_of_lt_of_le F2510.lt gz2714)
        have ne2732 : a1621 ≠ a2702 := Nat.ne_of_lt (Nat.lt_of_lt_of_le F2511.lt gz2714)
        have ne2733 : a1641 ≠ a2702 := Nat.ne_of_lt (Nat.lt_of_lt_of_le F2512.lt gz2714)
        have ne2734 : a1672 ≠ a2702 := Nat.ne_of_lt (Nat.lt_of_lt_of_le F2513.lt gz2714)
        have ne2735 : a1716 ≠ a2702 := Nat.ne_of_lt (Nat.lt_of_lt_of_le F2514.lt gz2714)
        have ne2736 : a2385 ≠ a2702 := Nat.ne_of_lt (Nat.lt_of_lt_of_le F2522.lt gz2714)
        have ne2737 : a2386 ≠ a2702 := Nat.ne_of_lt (Nat.lt_of_lt_of_le F2523.lt gz2714)
        have ne2738 : a2387 ≠ a2702 := Nat.ne_of_lt (Nat.lt_of_lt_of_le F2524.lt gz2714)
        have ne2739 : a2388 ≠ a2702 := Nat.ne_of_lt (Nat.lt_of_lt_of_le F2525.lt gz2714)
        have ne2740 : a2389 ≠ a2702 := Nat.ne_of_lt (Nat.lt_of_lt_of_le F2526.lt gz2714)
        have ne2741 : a2390 ≠ a2702 := Nat.ne_of_lt (Nat.lt_of_lt_of_le F2527.lt gz2714)
        have ne2742 : a2488 ≠ a2702 := Nat.ne_of_lt (Nat.lt_of_lt_of_le E2490.lt gz2714)
        have F2743 := F2508.keep K2703 (ninS ne2495 nin0)
        have F2744 := F2509.keep K2703 (ninS ne2496 nin0)
        have F2745 := F2510.keep K2703 (ninS ne2497 nin0)
        have F2746 := F2511.keep K2703 (ninS ne2498 nin0)
        have F2747 := F2512.keep K2703 (ninS ne2499 nin0)
        have F2748 := F2513.keep K2703 (ninS ne2500 nin0)
        have F2749 := F2514.keep K2703
        have F2750 := F2515.keep K2703 (ninS ne2501 nin0)
        have F2751 := F2516.keep K2703 (ninS ne2501 nin0)
        have F2752 := F2517.keep K2703 (ninS ne2501 nin0)
        have F2753 := F2518.keep K2703 (ninS ne2501 nin0)
        have F2754 := F2519.keep K2703 (ninS ne2501 nin0)
        have F2755 := F2520.keep K2703 (ninS ne2501 nin0)
        have F2756 := F2521.keep K2703 (ninS ne2501 nin0)
        have F2757 := F2522.keep K2703 (ninS ne2502 nin0)
        have F2758 := F2523.keep K2703 (ninS ne2503 nin0)
        have F2759 := F2524.keep K2703 (ninS ne2504 nin0)
        have F2760 := F2525.keep K2703 (ninS ne2505 nin0)
        have F2761 := F2526.keep K2703 (ninS ne2506 nin0)
        have F2762 := F2527.keep K2703 (ninS ne2507 nin0)
        have F2763 := E2490.keep K2703
        refine C.astore (Ls' := #[.val (.long x0), .second, .val (.long x1), .second, .val (.long x2), .second, .val (.long x3), .second, .val (.long x4), .second, iv x5, iv 0, .val (.long c12), .second, iv b14, rv a1567, rv a1586, rv a1610, rv a1621, rv a1641, rv a1672, rv a1610, rv a1716, rv a2488, .unset, .unset, .unset]) at_190 rfl rfl rfl ?_
        refine C.iconst (-1) at_192 rfl rfl ?_
        refine C.istore (Ls' := #[.val (.long x0), .second, .val (.long x1), .second, .val (.long x2), .second, .val (.long x3), .second, .val (.long x4), .second, iv x5, iv 0, .val (.long c12), .second, iv b14, rv a1567, rv a1586, rv a1610, rv a1621, rv a1641, rv a1672, rv a1610, rv a1716, rv a2488, iv (-1), .unset, .unset]) at_193 rfl rfl ?_
        rcases h14 with q14 | q14
        · rw [q14]
          refine C.iload at_195 rfl rfl ?_
          refine C.if_eq_t at_197 (by decide) rfl (by decide) ?_
          refine C.aload at_223 rfl rfl rfl ?_
          refine C.aload at_225 rfl rfl rfl ?_
          refine C.iconst 0 at_227 rfl rfl ?_
          refine C.iconst 3 at_228 rfl rfl ?_
          refine C.callV (argsL := [(.ref a1567), (.int 0), (.int 3)]) (rest := []) 0 (fun zz => au2768_4 l Z a0 hw n0 h2699 zz a2488 a1567 a2701 a2702 x0 x1 x2 F2763 F2705 F2706 F2707 F2708 F2743 F2709 F2710 g2494 g1572 g2711 g2713 (Ne.symm ne2495) ne2728 ne2742 ne2715 ne2729 ne2704) F2763 at_229 rfl (tw hw 37 rfl) (tw hw 38 rfl) (tw hw 39 rfl) (tw hw 40 rfl) (tw hw 26 rfl) (tw hw 41 rfl) (by decide) pd_9 rfl rfl rfl (Nat.le_of_eq rfl) (by decide) (by decide) (by decide) (by decide) (fun v2868 h2869 r2870 => ?_)
          obtain ⟨rfl, K2871, F2872⟩ := r2870
          have F2873 := F2743.keep K2871 (ninS ne2729 nin0)
          have F2874 := F2744.keep K2871 (ninS ne2730 nin0)
          have F2875 := F2745.keep K2871 (ninS ne2731 nin0)
          have F2876 := F2746.keep K2871 (ninS ne2732 nin0)
          have F2877 := F2747.keep K2871 (ninS ne2733 nin0)
          have F2878 := F2748.keep K2871 (ninS ne2734 nin0)
          have F2879 := F2749.keep K2871
          have F2880 := F2750.keep K2871 (ninS ne2735 nin0)
          have F2881 := F2751.keep K2871 (ninS ne2735 nin0)
          have F2882 := F2752.keep K2871 (ninS ne2735 nin0)
          have F2883 := F2753.keep K2871 (ninS ne2735 nin0)
          have F2884 := F2754.keep K2871 (ninS ne2735 nin0)
          have F2885 := F2755.keep K2871 (ninS ne2735 nin0)
          have F2886 := F2756.keep K2871 (ninS ne2735 nin0)
          have F2887 := F2757.keep K2871 (ninS ne2736 nin0)
          have F2888 := F2758.keep K2871 (ninS ne2737 nin0)
          have F2889 := F2759.keep K2871 (ninS ne2738 nin0)
          have F2890 := F2760.keep K2871 (ninS ne2739 nin0)
          have F2891 := F2761.keep K2871 (ninS ne2740 nin0)
          have F2892 := F2762.keep K2871 (ninS ne2741 nin0)
          have F2893 := F2763.keep K2871
          have F2894 := F2705.keep K2871 (ninS ne2742 nin0)
          have F2895 := F2706.keep K2871 (ninS ne2742 nin0)
          have F2896 := F2707.keep K2871 (ninS ne2742 nin0)
          have F2897 := F2708.keep K2871 (ninS ne2742 nin0)
          have F2898 := F2709.keep K2871 (ninS ne2704 nin0)
          refine C.aload at_232 rfl rfl rfl ?_
          refine C.aload at_234 rfl rfl rfl ?_
          refine C.callV (argsL := [(.ref a2488)]) (rest := []) 0 (fun zz => con_num0 l Z a0 hw n0 h2869 zz a1716 a2388 a2386 a2390 a2387 a2385 a2389 a2488 a2702 a2701 x0 x1 x2 0 ([.int 0, .int 0, .int 0]) F2879 F2884 F2881 F2886 F2883 F2880 F2885 F2882 F2890 F2888 F2892 F2889 F2887 F2891 F2893 F2897 F2895 F2896 F2894 F2872 F2898 g1722 g2426 g2422 g2430 g2424 g2420 g2428 g2494 g2711 ne2459 ne2445 ne2473 ne2452 ne2438 ne2466 ne2501 ne2735 ne2721 (Ne.symm ne2398) ne2405 (Ne.symm ne2401) (Ne.symm ne2394) ne2404 ne2505 ne2739 ne2725 ne2400 ne2397 (Ne.symm ne2392) ne2399 ne2503 ne2737 ne2723 (Ne.symm ne2403) (Ne.symm ne2396) (Ne.symm ne2406) ne2507 ne2741 ne2727 (Ne.symm ne2393) ne2402 ne2504 ne2738 ne2724 ne2395 ne2502 ne2736 ne2722 ne2506 ne2740 ne2726 ne2742 ne2728 (Ne.symm ne2704) rfl) F2879 at_236 rfl (tw hw 42 rfl) (tw hw 43 rfl) (tw hw 44 rfl) (tw hw 45 rfl) (tw hw 4 rfl) (tw hw 46 rfl) (by decide) pd_5 rfl rfl rfl (Nat.le_of_eq rfl) (by decide) (by decide) (by decide) (by decide) (fun v2900 h2901 r2902 => ?_)
          obtain ⟨y2903, y2904, y2905, y2906, rfl, K2907, F2908, F2909, F2910, F2911, F2912, F2913, F2914, F2915, F2916, F2917, F2918, F2919, F2920, F2921, F2922, F2923, F2924, F2925, u2926, u2927⟩ := r2902
          have F2928 := F2873.keep K2907 (ninS ne1723 (ninS ne2453 (ninS ne2439 (ninS ne2467 (ninS ne2446 (ninS ne2432 (ninS ne2460 (ninS ne2495 (ninS ne2715 nin0)))))))))
          have F2929 := F2874.keep K2907 (ninS ne1724 (ninS ne2454 (ninS ne2440 (ninS ne2468 (ninS ne2447 (ninS ne2433 (ninS ne2461 (ninS ne2496 (ninS ne2716 nin0)))))))))
          have F2930 := F2875.keep K2907 (ninS ne1725 (ninS ne2455 (ninS ne2441 (ninS ne2469 (ninS ne2448 (ninS ne2434 (ninS ne2462 (ninS ne2497 (ninS ne2717 nin0)))))))))
          have F2931 := F2876.keep K2907 (ninS ne1726 (ninS ne2456 (ninS ne2442 (ninS ne2470 (ninS ne2449 (ninS ne2435 (ninS ne2463 (ninS ne2498 (ninS ne2718 nin0)))))))))
          have F2932 := F2877.keep K2907 (ninS ne1727 (ninS ne2457 (ninS ne2443 (ninS ne2471 (ninS ne2450 (ninS ne2436 (ninS ne2464 (ninS ne2499 (ninS ne2719 nin0)))))))))
          have F2933 := F2878.keep K2907 (ninS ne1728 (ninS ne2458 (ninS ne2444 (ninS ne2472 (ninS ne2451 (ninS ne2437 (ninS ne2465 (ninS ne2500 (ninS ne2720 nin0)))))))))
          have F2934 := F2879.keep K2907
          have F2948 := F2893.keep K2907
          have F2954 := F2872.keep K2907 (ninS (Ne.symm ne2735) (ninS (Ne.symm ne2739) (ninS (Ne.symm ne2737) (ninS (Ne.symm ne2741) (ninS (Ne.symm ne2738) (ninS (Ne.symm ne2736) (ninS (Ne.symm ne2740) (ninS (Ne.symm ne2742) (ninS (Ne.symm ne2704) nin0)))))))))
          refine C.istore (Ls' := #[.val (.long x0), .second, .val (.long x1), .second, .val (.long x2), .second, .val (.long x3), .second, .val (.long x4), .second, iv x5, iv 0, .val (.long c12), .second, iv 0, rv a1567, rv a1586, rv a1610, rv a1621, rv a1641, rv a1672, rv a1610, rv a1716, rv a2488, iv (-1), iv 0, .unset]) at_239 rfl rfl ?_
          refine C.aload at_241 rfl rfl rfl ?_
          refine C.iload at_243 rfl rfl ?_
          refine C.aload at_245 rfl rfl rfl ?_
          refine C.callV (argsL := [(.int 0), (.ref a1610)]) (rest := []) 0 (fun zz => con_is0 l Z a0 hw n0 h2901 zz a1716 a2388 a2386 a2390 a1610 0 (own_c3 x0 x1 x2) (.int 0 :: .int (Int32.ofNat (own_c3 x0 x1 x2).length) :: zI15) (own_ix (own_c3 x0 x1 x2)) (own_wd (own_c3 x0 x1 x2)) (.int (own_sz (own_c3 x0 x1 x2)) :: zI15) F2908 F2909 F2910 F2915 F2916 F2917 F2930 (by have q := own_set0 (own_c3 x0 x1 x2) [] [] zI15 zI15 (own_c3len x0 x1 x2); rw [List.append_nil] at q; exact q) (own_c3len x0 x1 x2) (own_c3rg x0 x1 x2)) F2934 at_247 rfl (tw hw 86 rfl) (tw hw 87 rfl) (tw hw 88 rfl) (tw hw 89 rfl) (tw hw 4 rfl) (tw hw 90 rfl) (by decide) pd_10 rfl rfl rfl (Nat.le_of_eq rfl) (by decide) (by decide) (by decide) (by decide) (fun v2955 h2956 r2957 => ?_)
          obtain ⟨rfl, rfl⟩ := r2957
          refine C.lloadN at_250 rfl rfl ?_
          refine C.lloadN at_251 rfl rfl ?_
          refine C.lload at_252 rfl rfl ?_
          refine C.lload at_254 rfl rfl ?_
          refine C.lload at_256 rfl rfl ?_
          refine C.lload at_258 rfl rfl ?_
          refine C.iload at_260 rfl rfl ?_
          refine C.callS (argsL := [(.long x0), (.long x1), (.long x2), (.long x3), (.long x4), (.long c12), (.int 0)]) (rest := [(.int (own_mt 0 0 0 0 (own_c3 x0 x1 x2)))]) 1 (fun zz => con_ep l Z a0 hw n0 h2901 zz x0 x1 x2 x3 x4 c12 0 ) at_262 rfl (tw hw 91 rfl) (tw hw 92 rfl) (tw hw 93 rfl) (tw hw 94 rfl) (by decide) pd_11 rfl rfl rfl (Nat.le_of_eq rfl) (by decide) (by decide) (by decide) (by decide) (fun v2959 h2960 r2961 => ?_)
          obtain ⟨rfl, rfl⟩ := r2961
          refine C.icmp_ne_f at_265 rfl ((own_pl _ _ _ _ _ _ _).trans (own_epq0 _ _ _ _ _ _ _ _ _)) ?_
          refine C.iconst 1 at_268 rfl rfl ?_
          refine C.goto at_269 (by decide) rfl ?_
          refine C.istore (Ls' := #[.val (.long x0), .second, .val (.long x1), .second, .val (.long x2), .second, .val (.long x3), .second, .val (.long x4), .second, iv x5, iv 0, .val (.long c12), .second, iv 0, rv a1567, rv a1586, rv a1610, rv a1621, rv a1641, rv a1672, rv a1610, rv a1716, rv a2488, iv (-1), iv 0, iv 1]) at_273 rfl rfl ?_
          refine C.iload at_275 rfl rfl ?_
          refine C.if_eq_t at_277 (by decide) rfl (by decide) ?_
          refine C.iload at_338 rfl rfl ?_
          exact C.retZ at_340 rfl (by decide) (by decide) ⟨rfl, trivial⟩
        rw [q14]
        refine C.iload at_195 rfl rfl ?_
        refine C.if_eq_f at_197 rfl (by decide) ?_
        refine C.aload at_200 rfl rfl rfl ?_
        refine C.aload at_202 rfl rfl rfl ?_
        refine C.iconst 0 at_204 rfl rfl ?_
        refine C.iconst 3 at_205 rfl rfl ?_
        refine C.callV (argsL := [(.ref a1586), (.int 0), (.int 3)]) (rest := []) 0 (fun zz => au2768_4 l Z a0 hw n0 h2699 zz a2488 a1586 a2701 a2702 (x0 ^^^ (-1 : Int64)) (x1 ^^^ (-1 : Int64)) (x2 ^^^ (-1 : Int64)) F2763 F2705 F2706 F2707 F2708 F2744 F2709 F2710 g2494 g1591 g2711 g2713 (Ne.symm ne2496) ne2728 ne2742 ne2716 ne2730 ne2704) F2763 at_206 rfl (tw hw 37 rfl) (tw hw 38 rfl) (tw hw 39 rfl) (tw hw 40 rfl) (tw hw 26 rfl) (tw hw 41 rfl) (by decide) pd_9 rfl rfl rfl (Nat.le_of_eq rfl) (by decide) (by decide) (by decide) (by decide) (fun v2963 h2964 r2965 => ?_)
        obtain ⟨rfl, K2966, F2967⟩ := r2965
        have F2968 := F2743.keep K2966 (ninS ne2729 nin0)
        have F2969 := F2744.keep K2966 (ninS ne2730 nin0)
        have F2970 := F2745.keep K2966 (ninS ne2731 nin0)
        have F2971 := F2746.keep K2966 (ninS ne2732 nin0)
        have F2972 := F2747.keep K2966 (ninS ne2733 nin0)
        have F2973 := F2748.keep K2966 (ninS ne2734 nin0)
        have F2974 := F2749.keep K2966
        have F2975 := F2750.keep K2966 (ninS ne2735 nin0)
        have F2976 := F2751.keep K2966 (ninS ne2735 nin0)
        have F2977 := F2752.keep K2966 (ninS ne2735 nin0)
        have F2978 := F2753.keep K2966 (ninS ne2735 nin0)
        have F2979 := F2754.keep K2966 (ninS ne2735 nin0)
        have F2980 := F2755.keep K2966 (ninS ne2735 nin0)
        have F2981 := F2756.keep K2966 (ninS ne2735 nin0)
        have F2982 := F2757.keep K2966 (ninS ne2736 nin0)
        have F2983 := F2758.keep K2966 (ninS ne2737 nin0)
        have F2984 := F2759.keep K2966 (ninS ne2738 nin0)
        have F2985 := F2760.keep K2966 (ninS ne2739 nin0)
        have F2986 := F2761.keep K2966 (ninS ne2740 nin0)
        have F2987 := F2762.keep K2966 (ninS ne2741 nin0)
        have F2988 := F2763.keep K2966
        have F2989 := F2705.keep K2966 (ninS ne2742 nin0)
        have F2990 := F2706.keep K2966 (ninS ne2742 nin0)
        have F2991 := F2707.keep K2966 (ninS ne2742 nin0)
        have F2992 := F2708.keep K2966 (ninS ne2742 nin0)
        have F2993 := F2709.keep K2966 (ninS ne2704 nin0)
        refine C.aload at_209 rfl rfl rfl ?_
        refine C.aload at_211 rfl rfl rfl ?_
        refine C.callV (argsL := [(.ref a2488)]) (rest := []) 0 (fun zz => con_num0 l Z a0 hw n0 h2964 zz a1716 a2388 a2386 a2390 a2387 a2385 a2389 a2488 a2702 a2701 (x0 ^^^ (-1 : Int64)) (x1 ^^^ (-1 : Int64)) (x2 ^^^ (-1 : Int64)) 0 ([.int 0, .int 0, .int 0]) F2974 F2979 F2976 F2981 F2978 F2975 F2980 F2977 F2985 F2983 F2987 F2984 F2982 F2986 F2988 F2992 F2990 F2991 F2989 F2967 F2993 g1722 g2426 g2422 g2430 g2424 g2420 g2428 g2494 g2711 ne2459 ne2445 ne2473 ne2452 ne2438 ne2466 ne2501 ne2735 ne2721 (Ne.symm ne2398) ne2405 (Ne.symm ne2401) (Ne.symm ne2394) ne2404 ne2505 ne2739 ne2725 ne2400 ne2397 (Ne.symm ne2392) ne2399 ne2503 ne2737 ne2723 (Ne.symm ne2403) (Ne.symm ne2396) (Ne.symm ne2406) ne2507 ne2741 ne2727 (Ne.symm ne2393) ne2402 ne2504 ne2738 ne2724 ne2395 ne2502 ne2736 ne2722 ne2506 ne2740 ne2726 ne2742 ne2728 (Ne.symm ne2704) rfl) F2974 at_213 rfl (tw hw 42 rfl) (tw hw 43 rfl) (tw hw 44 rfl) (tw hw 45 rfl) (tw hw 4 rfl) (tw hw 46 rfl) (by decide) pd_5 rfl rfl rfl (Nat.le_of_eq rfl) (by decide) (by decide) (by decide) (by decide) (fun v2995 h2996 r2997 => ?_)
        obtain ⟨y2998, y2999, y3000, y3001, rfl, K3002, F3003, F3004, F3005, F3006, F3007, F3008, F3009, F3010, F3011, F3012, F3013, F3014, F3015, F3016, F3017, F3018, F3019, F3020, u3021, u3022⟩ := r2997
        have F3023 := F2968.keep K3002 (ninS ne1723 (ninS ne2453 (ninS ne2439 (ninS ne2467 (ninS ne2446 (ninS ne2432 (ninS ne2460 (ninS ne2495 (ninS ne2715 nin0)))))))))
        have F3024 := F2969.keep K3002 (ninS ne1724 (ninS ne2454 (ninS ne2440 (ninS ne2468 (ninS ne2447 (ninS ne2433 (ninS ne2461 (ninS ne2496 (ninS ne2716 nin0)))))))))
        have F3025 := F2970.keep K3002 (ninS ne1725 (ninS ne2455 (ninS ne2441 (ninS ne2469 (ninS ne2448 (ninS ne2434 (ninS ne2462 (ninS ne2497 (ninS ne2717 nin0)))))))))
        have F3026 := F2971.keep K3002 (ninS ne1726 (ninS ne2456 (ninS ne2442 (ninS ne2470 (ninS ne2449 (ninS ne2435 (ninS ne2463 (ninS ne2498 (ninS ne2718 nin0)))))))))
        have F3027 := F2972.keep K3002 (ninS ne1727 (ninS ne2457 (ninS ne2443 (ninS ne2471 (ninS ne2450 (ninS ne2436 (ninS ne2464 (ninS ne2499 (ninS ne2719 nin0)))))))))
        have F3028 := F2973.keep K3002 (ninS ne1728 (ninS ne2458 (ninS ne2444 (ninS ne2472 (ninS ne2451 (ninS ne2437 (ninS ne2465 (ninS ne2500 (ninS ne2720 nin0)))))))))
        have F3029 := F2974.keep K3002
        have F3043 := F2988.keep K3002
        have F3049 := F2967.keep K3002 (ninS (Ne.symm ne2735) (ninS (Ne.symm ne2739) (ninS (Ne.symm ne2737) (ninS (Ne.symm ne2741) (ninS (Ne.symm ne2738) (ninS (Ne.symm ne2736) (ninS (Ne.symm ne2740) (ninS (Ne.symm ne2742) (ninS (Ne.symm ne2704) nin0)))))))))
        refine C.istore (Ls' := #[.val (.long x0), .second, .val (.long x1), .second, .val (.long x2), .second, .val (.long x3), .second, .val (.long x4), .second, iv x5, iv 0, .val (.long c12), .second, iv 1, rv a1567, rv a1586, rv a1610, rv a1621, rv a1641, rv a1672, rv a1610, rv a1716, rv a2488, iv 0, .unset, .unset]) at_216 rfl rfl ?_
        refine C.aload at_218 rfl rfl rfl ?_
        refine C.callV (argsL := []) (rest := []) 0 (fun zz => au3050_15 l Z a0 hw n0 h2996 zz a2488 y2999 a2701 a2702 y2998 (x0 ^^^ (-1 : Int64)) (x1 ^^^ (-1 : Int64)) (x2 ^^^ (-1 : Int64)) F3043 F3019 F3017 F3018 F3016 F3020 F3049 g2494 g2711 g2713 ne2728 ne2742 ne2704) F3043 at_220 rfl (tw hw 95 rfl) (tw hw 96 rfl) (tw hw 97 rfl) (tw hw 98 rfl) (tw hw 26 rfl) (tw hw 99 rfl) (by decide) pd_4 rfl rfl rfl (Nat.le_of_eq rfl) (by decide) (by decide) (by decide) (by decide) (fun v3151 h3152 r3153 => ?_)
        obtain ⟨rfl, K3154, F3155, F3156, F3157, F3158, F3159⟩ := r3153
        have F3160 := F3023.keep K3154 (ninS ne2495 (ninS ne2729 nin0))
        have F3161 := F3024.keep K3154 (ninS ne2496 (ninS ne2730 nin0))
        have F3162 := F3025.keep K3154 (ninS ne2497 (ninS ne2731 nin0))
        have F3163 := F3026.keep K3154 (ninS ne2498 (ninS ne2732 nin0))
        have F3164 := F3027.keep K3154 (ninS ne2499 (ninS ne2733 nin0))
        have F3165 := F3028.keep K3154 (ninS ne2500 (ninS ne2734 nin0))
        have F3166 := F3029.keep K3154
        have F3167 := F3043.keep K3154
        have F3169 := F3003.keep K3154 (ninS ne2501 (ninS ne2735 nin0))
        have F3170 := F3004.keep K3154 (ninS ne2501 (ninS ne2735 nin0))
        have F3171 := F3005.keep K3154 (ninS ne2501 (ninS ne2735 nin0))
        have F3172 := F3006.keep K3154 (ninS ne2501 (ninS ne2735 nin0))
        have F3173 := F3007.keep K3154 (ninS ne2501 (ninS ne2735 nin0))
        have F3174 := F3008.keep K3154 (ninS ne2501 (ninS ne2735 nin0))
        have F3175 := F3009.keep K3154 (ninS ne2501 (ninS ne2735 nin0))
        have F3176 := F3010.keep K3154 (ninS ne2505 (ninS ne2739 nin0))
        have F3177 := F3011.keep K3154 (ninS ne2503 (ninS ne2737 nin0))
        have F3178 := F3012.keep K3154 (ninS ne2507 (ninS ne2741 nin0))
        have F3179 := F3013.keep K3154 (ninS ne2504 (ninS ne2738 nin0))
        have F3180 := F3014.keep K3154 (ninS ne2502 (ninS ne2736 nin0))
        have F3181 := F3015.keep K3154 (ninS ne2506 (ninS ne2740 nin0))
        have F3186 := F3020.keep K3154 (ninS (Ne.symm ne2728) (ninS ne2704 nin0))
        refine C.aload at_223 rfl rfl rfl ?_
        refine C.aload at_225 rfl rfl rfl ?_
        refine C.iconst 0 at_227 rfl rfl ?_
        refine C.iconst 3 at_228 rfl rfl ?_
        refine C.callV (argsL := [(.ref a1567), (.int 0), (.int 3)]) (rest := []) 0 (fun zz => au3187_4 l Z a0 hw n0 h3152 zz a2488 a1567 a2701 a2702 x0 x1 x2 y2998 F3167 F3155 F3156 F3157 F3158 F3160 F3186 F3159 g2494 g1572 g2711 g2713 (Ne.symm ne2495) ne2728 ne2742 ne2715 ne2729 ne2704) F3167 at_229 rfl (tw hw 37 rfl) (tw hw 38 rfl) (tw hw 39 rfl) (tw hw 40 rfl) (tw hw 26 rfl) (tw hw 41 rfl) (by decide) pd_9 rfl rfl rfl (Nat.le_of_eq rfl) (by decide) (by decide) (by decide) (by decide) (fun v3287 h3288 r3289 => ?_)
        obtain ⟨rfl, K3290, F3291⟩ := r3289
        have F3292 := F3160.keep K3290 (ninS ne2729 nin0)
        have F3293 := F3161.keep K3290 (ninS ne2730 nin0)
        have F3294 := F3162.keep K3290 (ninS ne2731 nin0)
        have F3295 := F3163.keep K3290 (ninS ne2732 nin0)
        have F3296 := F3164.keep K3290 (ninS ne2733 nin0)
        have F3297 := F3165.keep K3290 (ninS ne2734 nin0)
        have F3298 := F3166.keep K3290
        have F3299 := F3167.keep K3290
        have F3300 := F3169.keep K3290 (ninS ne2735 nin0)
        have F3301 := F3170.keep K3290 (ninS ne2735 nin0)
        have F3302 := F3171.keep K3290 (ninS ne2735 nin0)
        have F3303 := F3172.keep K3290 (ninS ne2735 nin0)
        have F3304 := F3173.keep K3290 (ninS ne2735 nin0)
        have F3305 := F3174.keep K3290 (ninS ne2735 nin0)
        have F3306 := F3175.keep K3290 (ninS ne2735 nin0)
        have F3307 := F3176.keep K3290 (ninS ne2739 nin0)
        have F3308 := F3177.keep K3290 (ninS ne2737 nin0)
        have F3309 := F3178.keep K3290 (ninS ne2741 nin0)
        have F3310 := F3179.keep K3290 (ninS ne2738 nin0)
        have F3311 := F3180.keep K3290 (ninS ne2736 nin0)
        have F3312 := F3181.keep K3290 (ninS ne2740 nin0)
        have F3313 := F3186.keep K3290 (ninS ne2704 nin0)
        have F3314 := F3155.keep K3290 (ninS ne2742 nin0)
        have F3315 := F3156.keep K3290 (ninS ne2742 nin0)
        have F3316 := F3157.keep K3290 (ninS ne2742 nin0)
        have F3317 := F3158.keep K3290 (ninS ne2742 nin0)
        refine C.aload at_232 rfl rfl rfl ?_
        refine C.aload at_234 rfl rfl rfl ?_
        refine C.callV (argsL := [(.ref a2488)]) (rest := []) 0 (fun zz => con_num1 l Z a0 hw n0 h3288 zz a1716 a2388 a2386 a2390 a2387 a2385 a2389 a2488 a2702 a2701 x0 x1 x2 0 y2998 (own_c3 (x0 ^^^ (-1 : Int64)) (x1 ^^^ (-1 : Int64)) (x2 ^^^ (-1 : Int64))) y3000 y3001 F3298 F3300 F3301 F3302 F3303 F3304 F3305 F3306 F3307 F3308 F3309 F3310 F3311 F3312 F3299 F3317 F3315 F3316 F3314 F3291 F3313 g1722 g2426 g2422 g2430 g2424 g2420 g2428 g2494 g2711 ne2459 ne2445 ne2473 ne2452 ne2438 ne2466 ne2501 ne2735 ne2721 (Ne.symm ne2398) ne2405 (Ne.symm ne2401) (Ne.symm ne2394) ne2404 ne2505 ne2739 ne2725 ne2400 ne2397 (Ne.symm ne2392) ne2399 ne2503 ne2737 ne2723 (Ne.symm ne2403) (Ne.symm ne2396) (Ne.symm ne2406) ne2507 ne2741 ne2727 (Ne.symm ne2393) ne2402 ne2504 ne2738 ne2724 ne2395 ne2502 ne2736 ne2722 ne2506 ne2740 ne2726 ne2742 ne2728 (Ne.symm ne2704) u3021 (own_c3len (x0 ^^^ (-1 : Int64)) (x1 ^^^ (-1 : Int64)) (x2 ^^^ (-1 : Int64))) u3022) F3298 at_236 rfl (tw hw 42 rfl) (tw hw 43 rfl) (tw hw 44 rfl) (tw hw 45 rfl) (tw hw 4 rfl) (tw hw 46 rfl) (by decide) pd_5 rfl rfl rfl (Nat.le_of_eq rfl) (by decide) (by decide) (by decide) (by decide) (fun v3319 h3320 r3321 => ?_)
        obtain ⟨y3322, y3323, y3324, y3325, y3326, y3327, y3328, rfl, K3329, F3330, F3331, F3332, F3333, F3334, F3335, F3336, F3337, F3338, F3339, F3340, F3341, F3342, F3343, F3344, u3345, u3346, u3347, u3348⟩ := r3321
        have F3349 := F3292.keep K3329 (ninS ne1723 (ninS ne2453 (ninS ne2439 (ninS ne2467 (ninS ne2446 (ninS ne2432 (ninS ne2460 (ninS ne2495 (ninS ne2715 nin0)))))))))
        have F3350 := F3293.keep K3329 (ninS ne1724 (ninS ne2454 (ninS ne2440 (ninS ne2468 (ninS ne2447 (ninS ne2433 (ninS ne2461 (ninS ne2496 (ninS ne2716 nin0)))))))))
        have F3351 := F3294.keep K3329 (ninS ne1725 (ninS ne2455 (ninS ne2441 (ninS ne2469 (ninS ne2448 (ninS ne2434 (ninS ne2462 (ninS ne2497 (ninS ne2717 nin0)))))))))
        have F3352 := F3295.keep K3329 (ninS ne1726 (ninS ne2456 (ninS ne2442 (ninS ne2470 (ninS ne2449 (ninS ne2435 (ninS ne2463 (ninS ne2498 (ninS ne2718 nin0)))))))))
        have F3353 := F3296.keep K3329 (ninS ne1727 (ninS ne2457 (ninS ne2443 (ninS ne2471 (ninS ne2450 (ninS ne2436 (ninS ne2464 (ninS ne2499 (ninS ne2719 nin0)))))))))
        have F3354 := F3297.keep K3329 (ninS ne1728 (ninS ne2458 (ninS ne2444 (ninS ne2472 (ninS ne2451 (ninS ne2437 (ninS ne2465 (ninS ne2500 (ninS ne2720 nin0)))))))))
        have F3355 := F3298.keep K3329
        have F3356 := F3299.keep K3329
        have F3375 := F3291.keep K3329 (ninS (Ne.symm ne2735) (ninS (Ne.symm ne2739) (ninS (Ne.symm ne2737) (ninS (Ne.symm ne2741) (ninS (Ne.symm ne2738) (ninS (Ne.symm ne2736) (ninS (Ne.symm ne2740) (ninS (Ne.symm ne2742) (ninS (Ne.symm ne2704) nin0)))))))))
        refine C.istore (Ls' := #[.val (.long x0), .second, .val (.long x1), .second, .val (.long x2), .second, .val (.long x3), .second, .val (.long x4), .second, iv x5, iv 0, .val (.long c12), .second, iv 1, rv a1567, rv a1586, rv a1610, rv a1621, rv a1641, rv a1672, rv a1610, rv a1716, rv a2488, iv 0, iv y3324, .unset]) at_239 rfl rfl ?_
        refine C.aload at_241 rfl rfl rfl ?_
        refine C.iload at_243 rfl rfl ?_
        refine C.aload at_245 rfl rfl rfl ?_
        refine C.callV (argsL := [(.int y3324), (.ref a1610)]) (rest := []) 0 (fun zz => con_is0 l Z a0 hw n0 h3320 zz a1716 a2388 a2386 a2390 a1610 y3324 (own_c3 x0 x1 x2) y3325 y3326 y3327 y3328 F3330 F3331 F3332 F3336 F3337 F3338 F3351 u3347 (own_c3len x0 x1 x2) (own_c3rg x0 x1 x2)) F3355 at_247 rfl (tw hw 86 rfl) (tw hw 87 rfl) (tw hw 88 rfl) (tw hw 89 rfl) (tw hw 4 rfl) (tw hw 90 rfl) (by decide) pd_10 rfl rfl rfl (Nat.le_of_eq rfl) (by decide) (by decide) (by decide) (by decide) (fun v3376 h3377 r3378 => ?_)
        obtain ⟨rfl, rfl⟩ := r3378
        refine C.lloadN at_250 rfl rfl ?_
        refine C.lloadN at_251 rfl rfl ?_
        refine C.lload at_252 rfl rfl ?_
        refine C.lload at_254 rfl rfl ?_
        refine C.lload at_256 rfl rfl ?_
        refine C.lload at_258 rfl rfl ?_
        refine C.iload at_260 rfl rfl ?_
        refine C.callS (argsL := [(.long x0), (.long x1), (.long x2), (.long x3), (.long x4), (.long c12), (.int 0)]) (rest := [(.int (own_mt 0 0 0 0 (own_c3 x0 x1 x2)))]) 1 (fun zz => con_ep l Z a0 hw n0 h3320 zz x0 x1 x2 x3 x4 c12 0 ) at_262 rfl (tw hw 91 rfl) (tw hw 92 rfl) (tw hw 93 rfl) (tw hw 94 rfl) (by decide) pd_11 rfl rfl rfl (Nat.le_of_eq rfl) (by decide) (by decide) (by decide) (by decide) (fun v3380 h3381 r3382 => ?_)
        obtain ⟨rfl, rfl⟩ := r3382
        refine C.icmp_ne_f at_265 rfl ((own_pl _ _ _ _ _ _ _).trans (own_epq0 _ _ _ _ _ _ _ _ _)) ?_
        refine C.iconst 1 at_268 rfl rfl ?_
        refine C.goto at_269 (by decide) rfl ?_
        refine C.istore (Ls' := #[.val (.long x0), .second, .val (.long x1), .second, .val (.long x2), .second, .val (.long x3), .second, .val (.long x4), .second, iv x5, iv 0, .val (.long c12), .second, iv 1, rv a1567, rv a1586, rv a1610, rv a1621, rv a1641, rv a1672, rv a1610, rv a1716, rv a2488, iv 0, iv y3324, iv 1]) at_273 rfl rfl ?_
        refine C.iload at_275 rfl rfl ?_
        refine C.if_eq_f at_277 rfl (by decide) ?_
        refine C.iload at_280 rfl rfl ?_
        refine C.if_eq_f at_282 rfl (by decide) ?_
        refine C.iload at_285 rfl rfl ?_
        refine C.iload at_287 rfl rfl ?_
        refine C.icmp_eq_f at_289 rfl (fun q => own_cpl x0 (own_c3inj (u3348 q.symm))) ?_
        refine C.aload at_292 rfl rfl rfl ?_
        refine C.iload at_294 rfl rfl ?_
        refine C.aload at_296 rfl rfl rfl ?_
        refine C.callV (argsL := [(.int 0), (.ref a1610)]) (rest := []) 0 (fun zz => con_is0 l Z a0 hw n0 h3320 zz a1716 a2388 a2386 a2390 a1610 0 (own_c3 (x0 ^^^ (-1 : Int64)) (x1 ^^^ (-1 : Int64)) (x2 ^^^ (-1 : Int64))) y3325 y3326 y3327 y3328 F3330 F3331 F3332 F3336 F3337 F3338 F3351 u3346 (own_c3len (x0 ^^^ (-1 : Int64)) (x1 ^^^ (-1 : Int64)) (x2 ^^^ (-1 : Int64))) (own_c3rg (x0 ^^^ (-1 : Int64)) (x1 ^^^ (-1 : Int64)) (x2 ^^^ (-1 : Int64)))) F3355 at_298 rfl (tw hw 86 rfl) (tw hw 87 rfl) (tw hw 88 rfl) (tw hw 89 rfl) (tw hw 4 rfl) (tw hw 90 rfl) (by decide) pd_10 rfl rfl rfl (Nat.le_of_eq rfl) (by decide) (by decide) (by decide) (by decide) (fun v3384 h3385 r3386 => ?_)
        obtain ⟨rfl, rfl⟩ := r3386
        refine C.lloadN at_301 rfl rfl ?_
        refine C.ldc2J at_302 rfl (tw hw 1 rfl) ?_
        refine C.lxor at_305 rfl ?_
        refine C.lloadN at_306 rfl rfl ?_
        refine C.ldc2J at_307 rfl (tw hw 1 rfl) ?_
        refine C.lxor at_310 rfl ?_
        refine C.lload at_311 rfl rfl ?_
        refine C.ldc2J at_313 rfl (tw hw 1 rfl) ?_
        refine C.lxor at_316 rfl ?_
        refine C.lload at_317 rfl rfl ?_
        refine C.lload at_319 rfl rfl ?_
        refine C.lload at_321 rfl rfl ?_
        refine C.iload at_323 rfl rfl ?_
        refine C.callS (argsL := [(.long (x0 ^^^ (-1 : Int64))), (.long (x1 ^^^ (-1 : Int64))), (.long (x2 ^^^ (-1 : Int64))), (.long x3), (.long x4), (.long c12), (.int 0)]) (rest := [(.int (own_mt 0 0 0 0 (own_c3 (x0 ^^^ (-1 : Int64)) (x1 ^^^ (-1 : Int64)) (x2 ^^^ (-1 : Int64)))))]) 1 (fun zz => con_ep l Z a0 hw n0 h3320 zz (x0 ^^^ (-1 : Int64)) (x1 ^^^ (-1 : Int64)) (x2 ^^^ (-1 : Int64)) x3 x4 c12 0 ) at_325 rfl (tw hw 91 rfl) (tw hw 92 rfl) (tw hw 93 rfl) (tw hw 94 rfl) (by decide) pd_11 rfl rfl rfl (Nat.le_of_eq rfl) (by decide) (by decide) (by decide) (by decide) (fun v3388 h3389 r3390 => ?_)
        obtain ⟨rfl, rfl⟩ := r3390
        refine C.icmp_ne_f at_328 rfl ((own_pl _ _ _ _ _ _ _).trans (own_epq0 _ _ _ _ _ _ _ _ _)) ?_
        refine C.iconst 1 at_331 rfl rfl ?_
        refine C.goto at_332 (by decide) rfl ?_
        refine C.istore (Ls' := #[.val (.long x0), .second, .val (.long x1), .second, .val (.long x2), .second, .val (.long x3), .second, .val (.long x4), .second, iv x5, iv 0, .val (.long c12), .second, iv 1, rv a1567, rv a1586, rv a1610, rv a1621, rv a1641, rv a1672, rv a1610, rv a1716, rv a2488, iv 0, iv y3324, iv 1]) at_336 rfl rfl ?_
        refine C.iload at_338 rfl rfl ?_
        exact C.retZ at_340 rfl (by decide) (by decide) ⟨rfl, trivial⟩
      refine C.if_eq at_27 (by decide) rfl rfl (fun q27 => ?_) (fun q27 => ?_)
      · refine C.iconst 0 at_34 rfl rfl ?_
        exact (J35_1566 0 (Or.inl rfl)).more (by decide) (by decide)
      refine C.iconst 1 at_30 rfl rfl ?_
      refine C.goto at_31 (by decide) rfl ?_
      exact (J35_1566 1 (Or.inr rfl)).more (by decide) (by decide)
    refine C.if_eq at_10 (by decide) rfl rfl (fun q10 => ?_) (fun q10 => ?_)
    · refine C.lload at_18 rfl rfl ?_
      exact J20_1565 x4
    refine C.lload at_13 rfl rfl ?_
    refine C.goto at_15 (by decide) rfl ?_
    exact J20_1565 x3
  · rw [ql]
    refine C.iload at_6 rfl rfl ?_
    refine C.iconst 4 at_8 rfl rfl ?_
    refine C.iand at_9 rfl ?_
    have J20_3392 : ∀ (c12 : Int64) , Go p l e room_1 s m #[(.long x0), (.long x1), (.long x2), (.long x3), (.long x4), (.int x5)] below meth c n0 (FinQ s n0 (Qcon0 Z n0 h0 x0 x1 x2 x3 x4 x5) room_1.cells room_1.slots) h0 0 0 20 #[.val (.long x0), .second, .val (.long x1), .second, .val (.long x2), .second, .val (.long x3), .second, .val (.long x4), .second, iv x5, iv 1, .unset, .unset, .unset, .unset, .unset, .unset, .unset, .unset, .unset, .unset, .unset, .unset, .unset, .unset, .unset] [(.long c12)] := by
      intro c12
      refine C.lstore (Ls' := #[.val (.long x0), .second, .val (.long x1), .second, .val (.long x2), .second, .val (.long x3), .second, .val (.long x4), .second, iv x5, iv 1, .val (.long c12), .second, .unset, .unset, .unset, .unset, .unset, .unset, .unset, .unset, .unset, .unset, .unset, .unset, .unset]) at_20 rfl rfl ?_
      refine C.iload at_22 rfl rfl ?_
      refine C.bipush 8 at_24 rfl rfl ?_
      refine C.iand at_26 rfl ?_
      have J35_3393 : ∀ (b14 : Int32) (h14 : b14 = 0 ∨ b14 = 1), Go p l e room_1 s m #[(.long x0), (.long x1), (.long x2), (.long x3), (.long x4), (.int x5)] below meth c n0 (FinQ s n0 (Qcon0 Z n0 h0 x0 x1 x2 x3 x4 x5) room_1.cells room_1.slots) h0 0 0 35 #[.val (.long x0), .second, .val (.long x1), .second, .val (.long x2), .second, .val (.long x3), .second, .val (.long x4), .second, iv x5, iv 1, .val (.long c12), .second, .unset, .unset, .unset, .unset, .unset, .unset, .unset, .unset, .unset, .unset, .unset, .unset, .unset] [(.int b14)] := by
        intro b14 h14
        refine C.istore (Ls' := #[.val (.long x0), .second, .val (.long x1), .second, .val (.long x2), .second, .val (.long x3), .second, .val (.long x4), .second, iv x5, iv 1, .val (.long c12), .second, iv b14, .unset, .unset, .unset, .unset, .unset, .unset, .unset, .unset, .unset, .unset, .unset, .unset]) at_35 rfl rfl ?_
        refine C.iconst 3 at_37 rfl rfl ?_
        refine C.newarr 3 at_38 rfl rfl (tw hw 0 rfl) (by decide) (by decide) (by decide) (by decide) (by decide) (fun a3394 h3395 z3398 g3399 X3396 F3397 => ?_)
        have F3400 : Av Z h3395 a3394 .long ([.long 0, .long 0, .long 0]) := F3397
        refine C.dup at_40 rfl rfl ?_
        refine C.iconst 0 at_41 rfl rfl ?_
        refine C.lloadN at_42 rfl rfl ?_
        refine C.lastore at_43 rfl F3400 g3399 (by decide) (Nat.le_of_ble_eq_true rfl) (fun h3401 W3402 F3403 => ?_)
        have F3404 : Av Z h3401 a3394 .long ([.long x0, .long 0, .long 0]) := F3403
        refine C.dup at_44 rfl rfl ?_
        refine C.iconst 1 at_45 rfl rfl ?_
        refine C.lloadN at_46 rfl rfl ?_
        refine C.lastore at_47 rfl F3404 g3399 (by decide) (Nat.le_of_ble_eq_true rfl) (fun h3405 W3406 F3407 => ?_)
        have F3408 : Av Z h3405 a3394 .long ([.long x0, .long x1, .long 0]) := F3407
        refine C.dup at_48 rfl rfl ?_
        refine C.iconst 2 at_49 rfl rfl ?_
        refine C.lload at_50 rfl rfl ?_
        refine C.lastore at_52 rfl F3408 g3399 (by decide) (Nat.le_of_ble_eq_true rfl) (fun h3409 W3410 F3411 => ?_)
        have F3412 : Av Z h3409 a3394 .long ([.long x0, .long x1, .long x2]) := F3411
        refine C.astore (Ls' := #[.val (.long x0), .second, .val (.long x1), .second, .val (.long x2), .second, .val (.long x3), .second, .val (.long x4), .second, iv x5, iv 1, .val (.long c12), .second, iv b14, rv a3394, .unset, .unset, .unset, .unset, .unset, .unset, .unset, .unset, .unset, .unset, .unset]) at_53 rfl rfl rfl ?_
        refine C.iconst 3 at_55 rfl rfl ?_
        refine C.newarr 3 at_56 rfl rfl (tw hw 0 rfl) (by decide) (by decide) (by decide) (by decide) (by decide) (fun a3413 h3414 z3417 g3418 X3415 F3416 => ?_)
        have ne3419 : a3394 ≠ a3413 := by rw [z3417]; exact Nat.ne_of_lt F3412.lt
        have F3420 := F3412.ext X3415
        have F3421 : Av Z h3414 a3413 .long ([.long 0, .long 0, .long 0]) := F3416
        refine C.dup at_58 rfl rfl ?_
        refine C.iconst 0 at_59 rfl rfl ?_
        refine C.lloadN at_60 rfl rfl ?_
        refine C.ldc2J at_61 rfl (tw hw 1 rfl) ?_
        refine C.lxor at_64 rfl ?_
        refine C.lastore at_65 rfl F3421 g3418 (by decide) (Nat.le_of_ble_eq_true rfl) (fun h3422 W3423 F3424 => ?_)
        have F3425 := F3420.other W3423 ne3419
        have F3426 : Av Z h3422 a3413 .long ([.long (x0 ^^^ (-1 : Int64)), .long 0, .long 0]) := F3424
        refine C.dup at_66 rfl rfl ?_
        refine C.iconst 1 at_67 rfl rfl ?_
        refine C.lloadN at_68 rfl rfl ?_
        refine C.ldc2J at_69 rfl (tw hw 1 rfl) ?_
        refine C.lxor at_72 rfl ?_
        refine C.lastore at_73 rfl F3426 g3418 (by decide) (Nat.le_of_ble_eq_true rfl) (fun h3427 W3428 F3429 => ?_)
        have F3430 := F3425.other W3428 ne3419
        have F3431 : Av Z h3427 a3413 .long ([.long (x0 ^^^ (-1 : Int64)), .long (x1 ^^^ (-1 : Int64)), .long 0]) := F3429
        refine C.dup at_74 rfl rfl ?_
        refine C.iconst 2 at_75 rfl rfl ?_
        refine C.lload at_76 rfl rfl ?_
        refine C.ldc2J at_78 rfl (tw hw 1 rfl) ?_
        refine C.lxor at_81 rfl ?_
        refine C.lastore at_82 rfl F3431 g3418 (by decide) (Nat.le_of_ble_eq_true rfl) (fun h3432 W3433 F3434 => ?_)
        have F3435 := F3430.other W3433 ne3419
        have F3436 : Av Z h3432 a3413 .long ([.long (x0 ^^^ (-1 : Int64)), .long (x1 ^^^ (-1 : Int64)), .long (x2 ^^^ (-1 : Int64))]) := F3434
        refine C.astore (Ls' := #[.val (.long x0), .second, .val (.long x1), .second, .val (.long x2), .second, .val (.long x3), .second, .val (.long x4), .second, iv x5, iv 1, .val (.long c12), .second, iv b14, rv a3394, rv a3413, .unset, .unset, .unset, .unset, .unset, .unset, .unset, .unset, .unset, .unset]) at_83 rfl rfl rfl ?_
        refine C.iconst 0 at_85 rfl rfl ?_
        refine C.newarr 0 at_86 rfl rfl (tw hw 0 rfl) (by decide) (by decide) (by decide) (by decide) (by decide) (fun a3437 h3438 z3441 g3442 X3439 F3440 => ?_)
        have ne3443 : a3394 ≠ a3437 := by rw [z3441]; exact Nat.ne_of_lt F3435.lt
        have ne3444 : a3413 ≠ a3437 := by rw [z3441]; exact Nat.ne_of_lt F3436.lt
        have F3445 := F3435.ext X3439
        have F3446 := F3436.ext X3439
        have F3447 : Av Z h3438 a3437 .long ([]) := F3440
        refine C.astore (Ls' := #[.val (.long x0), .second, .val (.long x1), .second, .val (.long x2), .second, .val (.long x3), .second, .val (.long x4), .second, iv x5, iv 1, .val (.long c12), .second, iv b14, rv a3394, rv a3413, rv a3437, .unset, .unset, .unset, .unset, .unset, .unset, .unset, .unset, .unset]) at_88 rfl rfl rfl ?_
        refine C.iconst 1 at_90 rfl rfl ?_
        refine C.newarr 1 at_91 rfl rfl (tw hw 0 rfl) (by decide) (by decide) (by decide) (by decide) (by decide) (fun a3448 h3449 z3452 g3453 X3450 F3451 => ?_)
        have ne3454 : a3394 ≠ a3448 := by rw [z3452]; exact Nat.ne_of_lt F3445.lt
        have ne3455 : a3413 ≠ a3448 := by rw [z3452]; exact Nat.ne_of_lt F3446.lt
        have ne3456 : a3437 ≠ a3448 := by rw [z3452]; exact Nat.ne_of_lt F3447.lt
        have F3457 := F3445.ext X3450
        have F3458 := F3446.ext X3450
        have F3459 := F3447.ext X3450
        have F3460 : Av Z h3449 a3448 .long ([.long 0]) := F3451
        refine C.dup at_93 rfl rfl ?_
        refine C.iconst 0 at_94 rfl rfl ?_
        refine C.lload at_95 rfl rfl ?_
        refine C.lastore at_97 rfl F3460 g3453 (by decide) (Nat.le_of_ble_eq_true rfl) (fun h3461 W3462 F3463 => ?_)
        have F3464 := F3457.other W3462 ne3454
        have F3465 := F3458.other W3462 ne3455
        have F3466 := F3459.other W3462 ne3456
        have F3467 : Av Z h3461 a3448 .long ([.long x3]) := F3463
        refine C.astore (Ls' := #[.val (.long x0), .second, .val (.long x1), .second, .val (.long x2), .second, .val (.long x3), .second, .val (.long x4), .second, iv x5, iv 1, .val (.long c12), .second, iv b14, rv a3394, rv a3413, rv a3437, rv a3448, .unset, .unset, .unset, .unset, .unset, .unset, .unset, .unset]) at_98 rfl rfl rfl ?_
        refine C.iconst 2 at_100 rfl rfl ?_
        refine C.newarr 2 at_101 rfl rfl (tw hw 0 rfl) (by decide) (by decide) (by decide) (by decide) (by decide) (fun a3468 h3469 z3472 g3473 X3470 F3471 => ?_)
        have ne3474 : a3394 ≠ a3468 := by rw [z3472]; exact Nat.ne_of_lt F3464.lt
        have ne3475 : a3413 ≠ a3468 := by rw [z3472]; exact Nat.ne_of_lt F3465.lt
        have ne3476 : a3437 ≠ a3468 := by rw [z3472]; exact Nat.ne_of_lt F3466.lt
        have ne3477 : a3448 ≠ a3468 := by rw [z3472]; exact Nat.ne_of_lt F3467.lt
        have F3478 := F3464.ext X3470
        have F3479 := F3465.ext X3470
        have F3480 := F3466.ext X3470
        have F3481 := F3467.ext X3470
        have F3482 : Av Z h3469 a3468 .long ([.long 0, .long 0]) := F3471
        refine C.dup at_103 rfl rfl ?_
        refine C.iconst 0 at_104 rfl rfl ?_
        refine C.lload at_105 rfl rfl ?_
        refine C.lastore at_107 rfl F3482 g3473 (by decide) (Nat.le_of_ble_eq_true rfl) (fun h3483 W3484 F3485 => ?_)
        have F3486 := F3478.other W3484 ne3474
        have F3487 := F3479.other W3484 ne3475
        have F3488 := F3480.other W3484 ne3476
        have F3489 := F3481.other W3484 ne3477
        have F3490 : Av Z h3483 a3468 .long ([.long x3, .long 0]) := F3485
        refine C.dup at_108 rfl rfl ?_
        refine C.iconst 1 at_109 rfl rfl ?_
        refine C.lload at_110 rfl rfl ?_
        refine C.lastore at_112 rfl F3490 g3473 (by decide) (Nat.le_of_ble_eq_true rfl) (fun h3491 W3492 F3493 => ?_)
        have F3494 := F3486.other W3492 ne3474
        have F3495 := F3487.other W3492 ne3475
        have F3496 := F3488.other W3492 ne3476
        have F3497 := F3489.other W3492 ne3477
        have F3498 : Av Z h3491 a3468 .long ([.long x3, .long x4]) := F3493
        refine C.astore (Ls' := #[.val (.long x0), .second, .val (.long x1), .second, .val (.long x2), .second, .val (.long x3), .second, .val (.long x4), .second, iv x5, iv 1, .val (.long c12), .second, iv b14, rv a3394, rv a3413, rv a3437, rv a3448, rv a3468, .unset, .unset, .unset, .unset, .unset, .unset, .unset]) at_113 rfl rfl rfl ?_
        refine C.iconst 3 at_115 rfl rfl ?_
        refine C.newarr 3 at_116 rfl rfl (tw hw 0 rfl) (by decide) (by decide) (by decide) (by decide) (by decide) (fun a3499 h3500 z3503 g3504 X3501 F3502 => ?_)
        have ne3505 : a3394 ≠ a3499 := by rw [z3503]; exact Nat.ne_of_lt F3494.lt
        have ne3506 : a3413 ≠ a3499 := by rw [z3503]; exact Nat.ne_of_lt F3495.lt
        have ne3507 : a3437 ≠ a3499 := by rw [z3503]; exact Nat.ne_of_lt F3496.lt
        have ne3508 : a3448 ≠ a3499 := by rw [z3503]; exact Nat.ne_of_lt F3497.lt
        have ne3509 : a3468 ≠ a3499 := by rw [z3503]; exact Nat.ne_of_lt F3498.lt
        have F3510 := F3494.ext X3501
        have F3511 := F3495.ext X3501
        have F3512 := F3496.ext X3501
        have F3513 := F3497.ext X3501
        have F3514 := F3498.ext X3501
        have F3515 : Av Z h3500 a3499 .long ([.long 0, .long 0, .long 0]) := F3502
        refine C.dup at_118 rfl rfl ?_
        refine C.iconst 0 at_119 rfl rfl ?_
        refine C.lload at_120 rfl rfl ?_
        refine C.lastore at_122 rfl F3515 g3504 (by decide) (Nat.le_of_ble_eq_true rfl) (fun h3516 W3517 F3518 => ?_)
        have F3519 := F3510.other W3517 ne3505
        have F3520 := F3511.other W3517 ne3506
        have F3521 := F3512.other W3517 ne3507
        have F3522 := F3513.other W3517 ne3508
        have F3523 := F3514.other W3517 ne3509
        have F3524 : Av Z h3516 a3499 .long ([.long x3, .long 0, .long 0]) := F3518
        refine C.dup at_123 rfl rfl ?_
        refine C.iconst 1 at_124 rfl rfl ?_
        refine C.lload at_125 rfl rfl ?_
        refine C.lastore at_127 rfl F3524 g3504 (by decide) (Nat.le_of_ble_eq_true rfl) (fun h3525 W3526 F3527 => ?_)
        have F3528 := F3519.other W3526 ne3505
        have F3529 := F3520.other W3526 ne3506
        have F3530 := F3521.other W3526 ne3507
        have F3531 := F3522.other W3526 ne3508
        have F3532 := F3523.other W3526 ne3509
        have F3533 : Av Z h3525 a3499 .long ([.long x3, .long x4, .long 0]) := F3527
        refine C.dup at_128 rfl rfl ?_
        refine C.iconst 2 at_129 rfl rfl ?_
        refine C.lload at_130 rfl rfl ?_
        refine C.lastore at_132 rfl F3533 g3504 (by decide) (Nat.le_of_ble_eq_true rfl) (fun h3534 W3535 F3536 => ?_)
        have F3537 := F3528.other W3535 ne3505
        have F3538 := F3529.other W3535 ne3506
        have F3539 := F3530.other W3535 ne3507
        have F3540 := F3531.other W3535 ne3508
        have F3541 := F3532.other W3535 ne3509
        have F3542 : Av Z h3534 a3499 .long ([.long x3, .long x4, .long c12]) := F3536
        refine C.astore (Ls' := #[.val (.long x0), .second, .val (.long x1), .second, .val (.long x2), .second, .val (.long x3), .second, .val (.long x4), .second, iv x5, iv 1, .val (.long c12), .second, iv b14, rv a3394, rv a3413, rv a3437, rv a3448, rv a3468, rv a3499, .unset, .unset, .unset, .unset, .unset, .unset]) at_133 rfl rfl rfl ?_
        refine C.iload at_135 rfl rfl ?_
        refine C.if_ne_t at_137 (by decide) rfl (by decide) ?_
        refine C.iload at_145 rfl rfl ?_
        refine C.iconst 1 at_147 rfl rfl ?_
        refine C.icmp_ne_f at_148 rfl (by decide) ?_
        refine C.aload at_151 rfl rfl rfl ?_
        refine C.goto at_153 (by decide) rfl ?_
        refine C.astore (Ls' := #[.val (.long x0), .second, .val (.long x1), .second, .val (.long x2), .second, .val (.long x3), .second, .val (.long x4), .second, iv x5, iv 1, .val (.long c12), .second, iv b14, rv a3394, rv a3413, rv a3437, rv a3448, rv a3468, rv a3499, rv a3448, .unset, .unset, .unset, .unset, .unset]) at_169 rfl rfl rfl ?_
        refine C.new at_171 rfl (tw hw 2 rfl) (tw hw 3 rfl) (tw hw 4 rfl) (by decide) (by decide) (fun a3543 h3544 z3548 g3549 X3546 E3545 D3547 => ?_)
        have ne3550 : a3394 ≠ a3543 := by rw [z3548]; exact Nat.ne_of_lt F3537.lt
        have ne3551 : a3413 ≠ a3543 := by rw [z3548]; exact Nat.ne_of_lt F3538.lt
        have ne3552 : a3437 ≠ a3543 := by rw [z3548]; exact Nat.ne_of_lt F3539.lt
        have ne3553 : a3448 ≠ a3543 := by rw [z3548]; exact Nat.ne_of_lt F3540.lt
        have ne3554 : a3468 ≠ a3543 := by rw [z3548]; exact Nat.ne_of_lt F3541.lt
        have ne3555 : a3499 ≠ a3543 := by rw [z3548]; exact Nat.ne_of_lt F3542.lt
        have F3556 := F3537.ext X3546
        have F3557 := F3538.ext X3546
        have F3558 := F3539.ext X3546
        have F3559 := F3540.ext X3546
        have F3560 := F3541.ext X3546
        have F3561 := F3542.ext X3546
        have F3562 : Fld Z h3544 a3543 kC1 "starts" "[I" (.null) := D3547 (Or.inl (tw hw 13 rfl)) (ty := (.array .int)) (by decide)
        have F3563 : Fld Z h3544 a3543 kC1 "indices" "[I" (.null) := D3547 (Or.inl (tw hw 15 rfl)) (ty := (.array .int)) (by decide)
        have F3564 : Fld Z h3544 a3543 kC1 "words" "[J" (.null) := D3547 (Or.inl (tw hw 17 rfl)) (ty := (.array .long)) (by decide)
        have F3565 : Fld Z h3544 a3543 kC1 "sizes" "[I" (.null) := D3547 (Or.inl (tw hw 19 rfl)) (ty := (.array .int)) (by decide)
        have F3566 : Fld Z h3544 a3543 kC1 "hashes" "[I" (.null) := D3547 (Or.inl (tw hw 21 rfl)) (ty := (.array .int)) (by decide)
        have F3567 : Fld Z h3544 a3543 kC1 "table" "[I" (.null) := D3547 (Or.inl (tw hw 23 rfl)) (ty := (.array .int)) (by decide)
        have F3568 : Fld Z h3544 a3543 kC1 "size" "I" (.int 0) := D3547 (Or.inl (tw hw 78 rfl)) (ty := .int) (by decide)
        refine C.dup at_174 rfl rfl ?_
        refine C.callN (argsL := []) (rest := [(.ref a3543)]) 1 (fun zz => au1742_1 l Z a0 hw n0 h3544 zz a3543 E3545 F3566 F3563 F3568 F3565 F3562 F3567 F3564 g3549) at_175 rfl rfl (tw hw 5 rfl) (tw hw 6 rfl) (tw hw 4 rfl) (tw hw 7 rfl) (by decide) pd_4 rfl rfl rfl (Nat.le_of_eq rfl) (by decide) (by decide) (by decide) (by decide) (fun v3569 h3570 r3571 => ?_)
        obtain ⟨a3572, a3573, a3574, a3575, a3576, a3577, rfl, K3578, g3607, gz3608, g3609, gz3610, g3611, gz3612, g3613, gz3614, g3615, gz3616, g3617, gz3618, ne3579, ne3580, ne3581, ne3582, ne3583, ne3584, ne3585, ne3586, ne3587, ne3588, ne3589, ne3590, ne3591, ne3592, ne3593, F3594, F3595, F3596, F3597, F3598, F3599, F3600, F3601, F3602, F3603, F3604, F3605, F3606⟩ := r3571
        have ne3619 : a3394 ≠ a3572 := Nat.ne_of_lt (Nat.lt_of_lt_of_le F3556.lt gz3608)
        have ne3620 : a3413 ≠ a3572 := Nat.ne_of_lt (Nat.lt_of_lt_of_le F3557.lt gz3608)
        have ne3621 : a3437 ≠ a3572 := Nat.ne_of_lt (Nat.lt_of_lt_of_le F3558.lt gz3608)
        have ne3622 : a3448 ≠ a3572 := Nat.ne_of_lt (Nat.lt_of_lt_of_le F3559.lt gz3608)
        have ne3623 : a3468 ≠ a3572 := Nat.ne_of_lt (Nat.lt_of_lt_of_le F3560.lt gz3608)
        have ne3624 : a3499 ≠ a3572 := Nat.ne_of_lt (Nat.lt_of_lt_of_le F3561.lt gz3608)
        have ne3625 : a3543 ≠ a3572 := Nat.ne_of_lt (Nat.lt_of_lt_of_le E3545.lt gz3608)
        have ne3626 : a3394 ≠ a3573 := Nat.ne_of_lt (Nat.lt_of_lt_of_le F3556.lt gz3610)
        have ne3627 : a3413 ≠ a3573 := Nat.ne_of_lt (Nat.lt_of_lt_of_le F3557.lt gz3610)
        have ne3628 : a3437 ≠ a3573 := Nat.ne_of_lt (Nat.lt_of_lt_of_le F3558.lt gz3610)
        have ne3629 : a3448 ≠ a3573 := Nat.ne_of_lt (Nat.lt_of_lt_of_le F3559.lt gz3610)
        have ne3630 : a3468 ≠ a3573 := Nat.ne_of_lt (Nat.lt_of_lt_of_le F3560.lt gz3610)
        have ne3631 : a3499 ≠ a3573 := Nat.ne_of_lt (Nat.lt_of_lt_of_le F3561.lt gz3610)
        have ne3632 : a3543 ≠ a3573 := Nat.ne_of_lt (Nat.lt_of_lt_of_le E3545.lt gz3610)
        have ne3633 : a3394 ≠ a3574 := Nat.ne_of_lt (Nat.lt_of_lt_of_le F3556.lt gz3612)
        have ne3634 : a3413 ≠ a3574 := Nat.ne_of_lt (Nat.lt_of_lt_of_le F3557.lt gz3612)
        have ne3635 : a3437 ≠ a3574 := Nat.ne_of_lt (Nat.lt_of_lt_of_le F3558.lt gz3612)
        have ne3636 : a3448 ≠ a3574 := Nat.ne_of_lt (Nat.lt_of_lt_of_le F3559.lt gz3612)
        have ne3637 : a3468 ≠ a3574 := Nat.ne_of_lt (Nat.lt_of_lt_of_le F3560.lt gz3612)
        have ne3638 : a3499 ≠ a3574 := Nat.ne_of_lt (Nat.lt_of_lt_of_le F3561.lt gz3612)
        have ne3639 : a3543 ≠ a3574 := Nat.ne_of_lt (Nat.lt_of_lt_of_le E3545.lt gz3612)
        have ne3640 : a3394 ≠ a3575 := Nat.ne_of_lt (Nat.lt_of_lt_of_le F3556.lt gz3614)
        have ne3641 : a3413 ≠ a3575 := Nat.ne_of_lt (Nat.lt_of_lt_of_le F3557.lt gz3614)
        have ne3642 : a3437 ≠ a3575 := Nat.ne_of_lt (Nat.lt_of_lt_of_le F3558.lt gz3614)
        have ne3643 : a3448 ≠ a3575 := Nat.ne_of_lt (Nat.lt_of_lt_of_le F3559.lt gz3614)
        have ne3644 : a3468 ≠ a3575 := Nat.ne_of_lt (Nat.lt_of_lt_of_le F3560.lt gz3614)
        have ne3645 : a3499 ≠ a3575 := Nat.ne_of_lt (Nat.lt_of_lt_of_le F3561.lt gz3614)
        have ne3646 : a3543 ≠ a3575 := Nat.ne_of_lt (Nat.lt_of_lt_of_le E3545.lt gz3614)
        have ne3647 : a3394 ≠ a3576 := Nat.ne_of_lt (Nat.lt_of_lt_of_le F3556.lt gz3616)
        have ne3648 : a3413 ≠ a3576 := Nat.ne_of_lt (Nat.lt_of_lt_of_le F3557.lt gz3616)
        have ne3649 : a3437 ≠ a3576 := Nat.ne_of_lt (Nat.lt_of_lt_of_le F3558.lt gz3616)
        have ne3650 : a3448 ≠ a3576 := Nat.ne_of_lt (Nat.lt_of_lt_of_le F3559.lt gz3616)
        have ne3651 : a3468 ≠ a3576 := Nat.ne_of_lt (Nat.lt_of_lt_of_le F3560.lt gz3616)
        have ne3652 : a3499 ≠ a3576 := Nat.ne_of_lt (Nat.lt_of_lt_of_le F3561.lt gz3616)
        have ne3653 : a3543 ≠ a3576 := Nat.ne_of_lt (Nat.lt_of_lt_of_le E3545.lt gz3616)
        have ne3654 : a3394 ≠ a3577 := Nat.ne_of_lt (Nat.lt_of_lt_of_le F3556.lt gz3618)
        have ne3655 : a3413 ≠ a3577 := Nat.ne_of_lt (Nat.lt_of_lt_of_le F3557.lt gz3618)
        have ne3656 : a3437 ≠ a3577 := Nat.ne_of_lt (Nat.lt_of_lt_of_le F3558.lt gz3618)
        have ne3657 : a3448 ≠ a3577 := Nat.ne_of_lt (Nat.lt_of_lt_of_le F3559.lt gz3618)
        have ne3658 : a3468 ≠ a3577 := Nat.ne_of_lt (Nat.lt_of_lt_of_le F3560.lt gz3618)
        have ne3659 : a3499 ≠ a3577 := Nat.ne_of_lt (Nat.lt_of_lt_of_le F3561.lt gz3618)
        have ne3660 : a3543 ≠ a3577 := Nat.ne_of_lt (Nat.lt_of_lt_of_le E3545.lt gz3618)
        have F3661 := F3556.keep K3578 (ninS ne3550 nin0)
        have F3662 := F3557.keep K3578 (ninS ne3551 nin0)
        have F3663 := F3558.keep K3578 (ninS ne3552 nin0)
        have F3664 := F3559.keep K3578 (ninS ne3553 nin0)
        have F3665 := F3560.keep K3578 (ninS ne3554 nin0)
        have F3666 := F3561.keep K3578 (ninS ne3555 nin0)
        have F3667 := E3545.keep K3578
        refine C.astore (Ls' := #[.val (.long x0), .second, .val (.long x1), .second, .val (.long x2), .second, .val (.long x3), .second, .val (.long x4), .second, iv x5, iv 1, .val (.long c12), .second, iv b14, rv a3394, rv a3413, rv a3437, rv a3448, rv a3468, rv a3499, rv a3448, rv a3543, .unset, .unset, .unset, .unset]) at_178 rfl rfl rfl ?_
        refine C.new at_180 rfl (tw hw 24 rfl) (tw hw 25 rfl) (tw hw 26 rfl) (by decide) (by decide) (fun a3675 h3676 z3680 g3681 X3678 E3677 D3679 => ?_)
        have ne3682 : a3394 ≠ a3675 := by rw [z3680]; exact Nat.ne_of_lt F3661.lt
        have ne3683 : a3413 ≠ a3675 := by rw [z3680]; exact Nat.ne_of_lt F3662.lt
        have ne3684 : a3437 ≠ a3675 := by rw [z3680]; exact Nat.ne_of_lt F3663.lt
        have ne3685 : a3448 ≠ a3675 := by rw [z3680]; exact Nat.ne_of_lt F3664.lt
        have ne3686 : a3468 ≠ a3675 := by rw [z3680]; exact Nat.ne_of_lt F3665.lt
        have ne3687 : a3499 ≠ a3675 := by rw [z3680]; exact Nat.ne_of_lt F3666.lt
        have ne3688 : a3543 ≠ a3675 := by rw [z3680]; exact Nat.ne_of_lt F3667.lt
        have ne3689 : a3572 ≠ a3675 := by rw [z3680]; exact Nat.ne_of_lt F3601.lt
        have ne3690 : a3573 ≠ a3675 := by rw [z3680]; exact Nat.ne_of_lt F3602.lt
        have ne3691 : a3574 ≠ a3675 := by rw [z3680]; exact Nat.ne_of_lt F3603.lt
        have ne3692 : a3575 ≠ a3675 := by rw [z3680]; exact Nat.ne_of_lt F3604.lt
        have ne3693 : a3576 ≠ a3675 := by rw [z3680]; exact Nat.ne_of_lt F3605.lt
        have ne3694 : a3577 ≠ a3675 := by rw [z3680]; exact Nat.ne_of_lt F3606.lt
        have F3695 := F3661.ext X3678
        have F3696 := F3662.ext X3678
        have F3697 := F3663.ext X3678
        have F3698 := F3664.ext X3678
        have F3699 := F3665.ext X3678
        have F3700 := F3666.ext X3678
        have F3701 := Exa.ext X3678 F3667
        have F3702 := Fld.ext X3678 F3594
        have F3703 := Fld.ext X3678 F3595
        have F3704 := Fld.ext X3678 F3596
        have F3705 := Fld.ext X3678 F3597
        have F3706 := Fld.ext X3678 F3598
        have F3707 := Fld.ext X3678 F3599
        have F3708 := Fld.ext X3678 F3600
        have F3709 := F3601.ext X3678
        have F3710 := F3602.ext X3678
        have F3711 := F3603.ext X3678
        have F3712 := F3604.ext X3678
        have F3713 := F3605.ext X3678
        have F3714 := F3606.ext X3678
        have F3715 : Fld Z h3676 a3675 kC0 "words" "[J" (.null) := D3679 (Or.inr (tw hw 32 rfl)) (ty := (.array .long)) (by decide)
        have F3716 : Fld Z h3676 a3675 kC0 "listing" "Z" (.int 0) := D3679 (Or.inr (tw hw 34 rfl)) (ty := .boolean) (by decide)
        have F3717 : Fld Z h3676 a3675 kC0 "held" "[I" (.null) := D3679 (Or.inr (tw hw 36 rfl)) (ty := (.array .int)) (by decide)
        have F3718 : Fld Z h3676 a3675 kC0 "count" "I" (.int 0) := D3679 (Or.inl (tw hw 53 rfl)) (ty := .int) (by decide)
        refine C.dup at_183 rfl rfl ?_
        refine C.sipush 192 at_184 rfl rfl ?_
        refine C.callN (argsL := [(.int 192)]) (rest := [(.ref a3675)]) 1 (fun zz => au2532_3 l Z a0 hw n0 h3676 zz a3675 E3677 F3718 F3717 F3716 F3715 g3681) at_187 rfl rfl (tw hw 27 rfl) (tw hw 28 rfl) (tw hw 26 rfl) (tw hw 29 rfl) (by decide) pd_8 rfl rfl rfl (Nat.le_of_eq rfl) (by decide) (by decide) (by decide) (by decide) (fun v3719 h3720 r3721 => ?_)
        obtain ⟨a3722, a3723, rfl, K3724, g3732, gz3733, g3734, gz3735, ne3725, F3726, F3727, F3728, F3729, F3730, F3731⟩ := r3721
        have ne3736 : a3394 ≠ a3722 := Nat.ne_of_lt (Nat.lt_of_lt_of_le F3695.lt gz3733)
        have ne3737 : a3413 ≠ a3722 := Nat.ne_of_lt (Nat.lt_of_lt_of_le F3696.lt gz3733)
        have ne3738 : a3437 ≠ a3722 := Nat.ne_of_lt (Nat.lt_of_lt_of_le F3697.lt gz3733)
        have ne3739 : a3448 ≠ a3722 := Nat.ne_of_lt (Nat.lt_of_lt_of_le F3698.lt gz3733)
        have ne3740 : a3468 ≠ a3722 := Nat.ne_of_lt (Nat.lt_of_lt_of_le F3699.lt gz3733)
        have ne3741 : a3499 ≠ a3722 := Nat.ne_of_lt (Nat.lt_of_lt_of_le F3700.lt gz3733)
        have ne3742 : a3543 ≠ a3722 := Nat.ne_of_lt (Nat.lt_of_lt_of_le F3701.lt gz3733)
        have ne3743 : a3572 ≠ a3722 := Nat.ne_of_lt (Nat.lt_of_lt_of_le F3709.lt gz3733)
        have ne3744 : a3573 ≠ a3722 := Nat.ne_of_lt (Nat.lt_of_lt_of_le F3710.lt gz3733)
        have ne3745 : a3574 ≠ a3722 := Nat.ne_of_lt (Nat.lt_of_lt_of_le F3711.lt gz3733)
        have ne3746 : a3575 ≠ a3722 := Nat.ne_of_lt (Nat.lt_of_lt_of_le F3712.lt gz3733)
        have ne3747 : a3576 ≠ a3722 := Nat.ne_of_lt (Nat.lt_of_lt_of_le F3713.lt gz3733)
        have ne3748 : a3577 ≠ a3722 := Nat.ne_of_lt (Nat.lt_of_lt_of_le F3714.lt gz3733)
        have ne3749 : a3675 ≠ a3722 := Nat.ne_of_lt (Nat.lt_of_lt_of_le E3677.lt gz3733)
        have ne3750 : a3394 ≠ a3723 := Nat.ne_of_lt (Nat.lt_of_lt_of_le F3695.lt gz3735)
        have ne3751 : a3413 ≠ a3723 := Nat.ne_of_lt (Nat.lt_of_lt_of_le F3696.lt gz3735)
        have ne3752 : a3437 ≠ a3723 := Nat.ne_of_lt (Nat.lt_of_lt_of_le F3697.lt gz3735)
        have ne3753 : a3448 ≠ a3723 := Nat.ne_of_lt (Nat.lt_of_lt_of_le F3698.lt gz3735)
        have ne3754 : a3468 ≠ a3723 := Nat.ne_of_lt (Nat.lt_of_lt_of_le F3699.lt gz3735)
        have ne3755 : a3499 ≠ a3723 := Nat.ne_of_lt (Nat.lt_of_lt_of_le F3700.lt gz3735)
        have ne3756 : a3543 ≠ a3723 := Nat.ne_of_lt (Nat.lt_of_lt_of_le F3701.lt gz3735)
        have ne3757 : a3572 ≠ a3723 := Nat.ne_of_lt (Nat.lt_of_lt_of_le F3709.lt gz3735)
        have ne3758 : a3573 ≠ a3723 := Nat.ne_of_lt (Nat.lt_of_lt_of_le F3710.lt gz3735)
        have ne3759 : a3574 ≠ a3723 := Nat.ne_of_lt (Nat.lt_of_lt_of_le F3711.lt gz3735)
        have ne3760 : a3575 ≠ a3723 := Nat.ne_of_lt (Nat.lt_of_lt_of_le F3712.lt gz3735)
        have ne3761 : a3576 ≠ a3723 := Nat.ne_of_lt (Nat.lt_of_lt_of_le F3713.lt gz3735)
        have ne3762 : a3577 ≠ a3723 := Nat.ne_of_lt (Nat.lt_of_lt_of_le F3714.lt gz3735)
        have ne3763 : a3675 ≠ a3723 := Nat.ne_of_lt (Nat.lt_of_lt_of_le E3677.lt gz3735)
        have F3764 := F3695.keep K3724 (ninS ne3682 nin0)
        have F3765 := F3696.keep K3724 (ninS ne3683 nin0)
        have F3766 := F3697.keep K3724 (ninS ne3684 nin0)
        have F3767 := F3698.keep K3724 (ninS ne3685 nin0)
        have F3768 := F3699.keep K3724 (ninS ne3686 nin0)
        have F3769 := F3700.keep K3724 (ninS ne3687 nin0)
        have F3770 := F3701.keep K3724
        have F3771 := F3702.keep K3724 (ninS ne3688 nin0)
        have F3772 := F3703.keep K3724 (ninS ne3688 nin0)
        have F3773 := F3704.keep K3724 (ninS ne3688 nin0)
        have F3774 := F3705.keep K3724 (ninS ne3688 nin0)
        have F3775 := F3706.keep K3724 (ninS ne3688 nin0)
        have F3776 := F3707.keep K3724 (ninS ne3688 nin0)
        have F3777 := F3708.keep K3724 (ninS ne3688 nin0)
        have F3778 := F3709.keep K3724 (ninS ne3689 nin0)
        have F3779 := F3710.keep K3724 (ninS ne3690 nin0)
        have F3780 := F3711.keep K3724 (ninS ne3691 nin0)
        have F3781 := F3712.keep K3724 (ninS ne3692 nin0)
        have F3782 := F3713.keep K3724 (ninS ne3693 nin0)
        have F3783 := F3714.keep K3724 (ninS ne3694 nin0)
        have F3784 := E3677.keep K3724
        refine C.astore (Ls' := #[.val (.long x0), .second, .val (.long x1), .second, .val (.long x2), .second, .val (.long x3), .second, .val (.long x4), .second, iv x5, iv 1, .val (.long c12), .second, iv b14, rv a3394, rv a3413, rv a3437, rv a3448, rv a3468, rv a3499, rv a3448, rv a3543, rv a3675, .unset, .unset, .unset]) at_190 rfl rfl rfl ?_
        refine C.iconst (-1) at_192 rfl rfl ?_
        refine C.istore (Ls' := #[.val (.long x0), .second, .val (.long x1), .second, .val (.long x2), .second, .val (.long x3), .second, .val (.long x4), .second, iv x5, iv 1, .val (.long c12), .second, iv b14, rv a3394, rv a3413, rv a3437, rv a3448, rv a3468, rv a3499, rv a3448, rv a3543, rv a3675, iv (-1), .unset, .unset]) at_193 rfl rfl ?_
        rcases h14 with q14 | q14
        · rw [q14]
          refine C.iload at_195 rfl rfl ?_
          refine C.if_eq_t at_197 (by decide) rfl (by decide) ?_
          refine C.aload at_223 rfl rfl rfl ?_
          refine C.aload at_225 rfl rfl rfl ?_
          refine C.iconst 0 at_227 rfl rfl ?_
          refine C.iconst 3 at_228 rfl rfl ?_
          refine C.callV (argsL := [(.ref a3394), (.int 0), (.int 3)]) (rest := []) 0 (fun zz => au2768_4 l Z a0 hw n0 h3720 zz a3675 a3394 a3722 a3723 x0 x1 x2 F3784 F3726 F3727 F3728 F3729 F3764 F3730 F3731 g3681 g3399 g3732 g3734 (Ne.symm ne3682) ne3749 ne3763 ne3736 ne3750 ne3725) F3784 at_229 rfl (tw hw 37 rfl) (tw hw 38 rfl) (tw hw 39 rfl) (tw hw 40 rfl) (tw hw 26 rfl) (tw hw 41 rfl) (by decide) pd_9 rfl rfl rfl (Nat.le_of_eq rfl) (by decide) (by decide) (by decide) (by decide) (fun v3789 h3790 r3791 => ?_)
          obtain ⟨rfl, K3792, F3793⟩ := r3791
          have F3794 := F3764.keep K3792 (ninS ne3750 nin0)
          have F3795 := F3765.keep K3792 (ninS ne3751 nin0)
          have F3796 := F3766.keep K3792 (ninS ne3752 nin0)
          have F3797 := F3767.keep K3792 (ninS ne3753 nin0)
          have F3798 := F3768.keep K3792 (ninS ne3754 nin0)
          have F3799 := F3769.keep K3792 (ninS ne3755 nin0)
          have F3800 := F3770.keep K3792
          have F3801 := F3771.keep K3792 (ninS ne3756 nin0)
          have F3802 := F3772.keep K3792 (ninS ne3756 nin0)
          have F3803 := F3773.keep K3792 (ninS ne3756 nin0)
          have F3804 := F3774.keep K3792 (ninS ne3756 nin0)
          have F3805 := F3775.keep K3792 (ninS ne3756 nin0)
          have F3806 := F3776.keep K3792 (ninS ne3756 nin0)
          have F3807 := F3777.keep K3792 (ninS ne3756 nin0)
          have F3808 := F3778.keep K3792 (ninS ne3757 nin0)
          have F3809 := F3779.keep K3792 (ninS ne3758 nin0)
          have F3810 := F3780.keep K3792 (ninS ne3759 nin0)
          have F3811 := F3781.keep K3792 (ninS ne3760 nin0)
          have F3812 := F3782.keep K3792 (ninS ne3761 nin0)
          have F3813 := F3783.keep K3792 (ninS ne3762 nin0)
          have F3814 := F3784.keep K3792
          have F3815 := F3726.keep K3792 (ninS ne3763 nin0)
          have F3816 := F3727.keep K3792 (ninS ne3763 nin0)
          have F3817 := F3728.keep K3792 (ninS ne3763 nin0)
          have F3818 := F3729.keep K3792 (ninS ne3763 nin0)
          have F3819 := F3730.keep K3792 (ninS ne3725 nin0)
          refine C.aload at_232 rfl rfl rfl ?_
          refine C.aload at_234 rfl rfl rfl ?_
          refine C.callV (argsL := [(.ref a3675)]) (rest := []) 0 (fun zz => con_num0 l Z a0 hw n0 h3790 zz a3543 a3575 a3573 a3577 a3574 a3572 a3576 a3675 a3723 a3722 x0 x1 x2 0 ([.int 0, .int 0, .int 0]) F3800 F3805 F3802 F3807 F3804 F3801 F3806 F3803 F3811 F3809 F3813 F3810 F3808 F3812 F3814 F3818 F3816 F3817 F3815 F3793 F3819 g3549 g3613 g3609 g3617 g3611 g3607 g3615 g3681 g3732 ne3646 ne3632 ne3660 ne3639 ne3625 ne3653 ne3688 ne3756 ne3742 (Ne.symm ne3585) ne3592 (Ne.symm ne3588) (Ne.symm ne3581) ne3591 ne3692 ne3760 ne3746 ne3587 ne3584 (Ne.symm ne3579) ne3586 ne3690 ne3758 ne3744 (Ne.symm ne3590) (Ne.symm ne3583) (Ne.symm ne3593) ne3694 ne3762 ne3748 (Ne.symm ne3580) ne3589 ne3691 ne3759 ne3745 ne3582 ne3689 ne3757 ne3743 ne3693 ne3761 ne3747 ne3763 ne3749 (Ne.symm ne3725) rfl) F3800 at_236 rfl (tw hw 42 rfl) (tw hw 43 rfl) (tw hw 44 rfl) (tw hw 45 rfl) (tw hw 4 rfl) (tw hw 46 rfl) (by decide) pd_5 rfl rfl rfl (Nat.le_of_eq rfl) (by decide) (by decide) (by decide) (by decide) (fun v3821 h3822 r3823 => ?_)
          obtain ⟨y3824, y3825, y3826, y3827, rfl, K3828, F3829, F3830, F3831, F3832, F3833, F3834, F3835, F3836, F3837, F3838, F3839, F3840, F3841, F3842, F3843, F3844, F3845, F3846, u3847, u3848⟩ := r3823
          have F3849 := F3794.keep K3828 (ninS ne3550 (ninS ne3640 (ninS ne3626 (ninS ne3654 (ninS ne3633 (ninS ne3619 (ninS ne3647 (ninS ne3682 (ninS ne3736 nin0)))))))))
          have F3850 := F3795.keep K3828 (ninS ne3551 (ninS ne3641 (ninS ne3627 (ninS ne3655 (ninS ne3634 (ninS ne3620 (ninS ne3648 (ninS ne3683 (ninS ne3737 nin0)))))))))
          have F3851 := F3796.keep K3828 (ninS ne3552 (ninS ne3642 (ninS ne3628 (ninS ne3656 (ninS ne3635 (ninS ne3621 (ninS ne3649 (ninS ne3684 (ninS ne3738 nin0)))))))))
          have F3852 := F3797.keep K3828 (ninS ne3553 (ninS ne3643 (ninS ne3629 (ninS ne3657 (ninS ne3636 (ninS ne3622 (ninS ne3650 (ninS ne3685 (ninS ne3739 nin0)))))))))
          have F3853 := F3798.keep K3828 (ninS ne3554 (ninS ne3644 (ninS ne3630 (ninS ne3658 (ninS ne3637 (ninS ne3623 (ninS ne3651 (ninS ne3686 (ninS ne3740 nin0)))))))))
          have F3854 := F3799.keep K3828 (ninS ne3555 (ninS ne3645 (ninS ne3631 (ninS ne3659 (ninS ne3638 (ninS ne3624 (ninS ne3652 (ninS ne3687 (ninS ne3741 nin0)))))))))
          have F3855 := F3800.keep K3828
          have F3869 := F3814.keep K3828
          have F3875 := F3793.keep K3828 (ninS (Ne.symm ne3756) (ninS (Ne.symm ne3760) (ninS (Ne.symm ne3758) (ninS (Ne.symm ne3762) (ninS (Ne.symm ne3759) (ninS (Ne.symm ne3757) (ninS (Ne.symm ne3761) (ninS (Ne.symm ne3763) (ninS (Ne.symm ne3725) nin0)))))))))
          refine C.istore (Ls' := #[.val (.long x0), .second, .val (.long x1), .second, .val (.long x2), .second, .val (.long x3), .second, .val (.long x4), .second, iv x5, iv 1, .val (.long c12), .second, iv 0, rv a3394, rv a3413, rv a3437, rv a3448, rv a3468, rv a3499, rv a3448, rv a3543, rv a3675, iv (-1), iv 0, .unset]) at_239 rfl rfl ?_
          refine C.aload at_241 rfl rfl rfl ?_
          refine C.iload at_243 rfl rfl ?_
          refine C.aload at_245 rfl rfl rfl ?_
          refine C.callV (argsL := [(.int 0), (.ref a3448)]) (rest := []) 0 (fun zz => con_is1 l Z a0 hw n0 h3822 zz a3543 a3575 a3573 a3577 a3448 0 (own_c3 x0 x1 x2) (.int 0 :: .int (Int32.ofNat (own_c3 x0 x1 x2).length) :: zI15) (own_ix (own_c3 x0 x1 x2)) (own_wd (own_c3 x0 x1 x2)) (.int (own_sz (own_c3 x0 x1 x2)) :: zI15) x3 F3829 F3830 F3831 F3836 F3837 F3838 F3852 (by have q := own_set0 (own_c3 x0 x1 x2) [] [] zI15 zI15 (own_c3len x0 x1 x2); rw [List.append_nil] at q; exact q) (own_c3len x0 x1 x2) (own_c3rg x0 x1 x2)) F3855 at_247 rfl (tw hw 86 rfl) (tw hw 87 rfl) (tw hw 88 rfl) (tw hw 89 rfl) (tw hw 4 rfl) (tw hw 90 rfl) (by decide) pd_10 rfl rfl rfl (Nat.le_of_eq rfl) (by decide) (by decide) (by decide) (by decide) (fun v3876 h3877 r3878 => ?_)
          obtain ⟨rfl, rfl⟩ := r3878
          refine C.lloadN at_250 rfl rfl ?_
          refine C.lloadN at_251 rfl rfl ?_
          refine C.lload at_252 rfl rfl ?_
          refine C.lload at_254 rfl rfl ?_
          refine C.lload at_256 rfl rfl ?_
          refine C.lload at_258 rfl rfl ?_
          refine C.iload at_260 rfl rfl ?_
          refine C.callS (argsL := [(.long x0), (.long x1), (.long x2), (.long x3), (.long x4), (.long c12), (.int 1)]) (rest := [(.int (own_mt 1 x3 0 0 (own_c3 x0 x1 x2)))]) 1 (fun zz => con_ep l Z a0 hw n0 h3822 zz x0 x1 x2 x3 x4 c12 1 ) at_262 rfl (tw hw 91 rfl) (tw hw 92 rfl) (tw hw 93 rfl) (tw hw 94 rfl) (by decide) pd_11 rfl rfl rfl (Nat.le_of_eq rfl) (by decide) (by decide) (by decide) (by decide) (fun v3880 h3881 r3882 => ?_)
          obtain ⟨rfl, rfl⟩ := r3882
          refine C.icmp_ne_f at_265 rfl ((own_pl _ _ _ _ _ _ _).trans (own_epq1 _ _ _ _ _ _ _ _)) ?_
          refine C.iconst 1 at_268 rfl rfl ?_
          refine C.goto at_269 (by decide) rfl ?_
          refine C.istore (Ls' := #[.val (.long x0), .second, .val (.long x1), .second, .val (.long x2), .second, .val (.long x3), .second, .val (.long x4), .second, iv x5, iv 1, .val (.long c12), .second, iv 0, rv a3394, rv a3413, rv a3437, rv a3448, rv a3468, rv a3499, rv a3448, rv a3543, rv a3675, iv (-1), iv 0, iv 1]) at_273 rfl rfl ?_
          refine C.iload at_275 rfl rfl ?_
          refine C.if_eq_t at_277 (by decide) rfl (by decide) ?_
          refine C.iload at_338 rfl rfl ?_
          exact C.retZ at_340 rfl (by decide) (by decide) ⟨rfl, trivial⟩
        rw [q14]
        refine C.iload at_195 rfl rfl ?_
        refine C.if_eq_f at_197 rfl (by decide) ?_
        refine C.aload at_200 rfl rfl rfl ?_
        refine C.aload at_202 rfl rfl rfl ?_
        refine C.iconst 0 at_204 rfl rfl ?_
        refine C.iconst 3 at_205 rfl rfl ?_
        refine C.callV (argsL := [(.ref a3413), (.int 0), (.int 3)]) (rest := []) 0 (fun zz => au2768_4 l Z a0 hw n0 h3720 zz a3675 a3413 a3722 a3723 (x0 ^^^ (-1 : Int64)) (x1 ^^^ (-1 : Int64)) (x2 ^^^ (-1 : Int64)) F3784 F3726 F3727 F3728 F3729 F3765 F3730 F3731 g3681 g3418 g3732 g3734 (Ne.symm ne3683) ne3749 ne3763 ne3737 ne3751 ne3725) F3784 at_206 rfl (tw hw 37 rfl) (tw hw 38 rfl) (tw hw 39 rfl) (tw hw 40 rfl) (tw hw 26 rfl) (tw hw 41 rfl) (by decide) pd_9 rfl rfl rfl (Nat.le_of_eq rfl) (by decide) (by decide) (by decide) (by decide) (fun v3884 h3885 r3886 => ?_)
        obtain ⟨rfl, K3887, F3888⟩ := r3886
        have F3889 := F3764.keep K3887 (ninS ne3750 nin0)
        have F3890 := F3765.keep K3887 (ninS ne3751 nin0)
        have F3891 := F3766.keep K3887 (ninS ne3752 nin0)
        have F3892 := F3767.keep K3887 (ninS ne3753 nin0)
        have F3893 := F3768.keep K3887 (ninS ne3754 nin0)
        have F3894 := F3769.keep K3887 (ninS ne3755 nin0)
        have F3895 := F3770.keep K3887
        have F3896 := F3771.keep K3887 (ninS ne3756 nin0)
        have F3897 := F3772.keep K3887 (ninS ne3756 nin0)
        have F3898 := F3773.keep K3887 (ninS ne3756 nin0)
        have F3899 := F3774.keep K3887 (ninS ne3756 nin0)
        have F3900 := F3775.keep K3887 (ninS ne3756 nin0)
        have F3901 := F3776.keep K3887 (ninS ne3756 nin0)
        have F3902 := F3777.keep K3887 (ninS ne3756 nin0)
        have F3903 := F3778.keep K3887 (ninS ne3757 nin0)
        have F3904 := F3779.keep K3887 (ninS ne3758 nin0)
        have F3905 := F3780.keep K3887 (ninS ne3759 nin0)
        have F3906 := F3781.keep K3887 (ninS ne3760 nin0)
        have F3907 := F3782.keep K3887 (ninS ne3761 nin0)
        have F3908 := F3783.keep K3887 (ninS ne3762 nin0)
        have F3909 := F3784.keep K3887
        have F3910 := F3726.keep K3887 (ninS ne3763 nin0)
        have F3911 := F3727.keep K3887 (ninS ne3763 nin0)
        have F3912 := F3728.keep K3887 (ninS ne3763 nin0)
        have F3913 := F3729.keep K3887 (ninS ne3763 nin0)
        have F3914 := F3730.keep K3887 (ninS ne3725 nin0)
        refine C.aload at_209 rfl rfl rfl ?_
        refine C.aload at_211 rfl rfl rfl ?_
        refine C.callV (argsL := [(.ref a3675)]) (rest := []) 0 (fun zz => con_num0 l Z a0 hw n0 h3885 zz a3543 a3575 a3573 a3577 a3574 a3572 a3576 a3675 a3723 a3722 (x0 ^^^ (-1 : Int64)) (x1 ^^^ (-1 : Int64)) (x2 ^^^ (-1 : Int64)) 0 ([.int 0, .int 0, .int 0]) F3895 F3900 F3897 F3902 F3899 F3896 F3901 F3898 F3906 F3904 F3908 F3905 F3903 F3907 F3909 F3913 F3911 F3912 F3910 F3888 F3914 g3549 g3613 g3609 g3617 g3611 g3607 g3615 g3681 g3732 ne3646 ne3632 ne3660 ne3639 ne3625 ne3653 ne3688 ne3756 ne3742 (Ne.symm ne3585) ne3592 (Ne.symm ne3588) (Ne.symm ne3581) ne3591 ne3692 ne3760 ne3746 ne3587 ne3584 (Ne.symm ne3579) ne3586 ne3690 ne3758 ne3744 (Ne.symm ne3590) (Ne.symm ne3583) (Ne.symm ne3593) ne3694 ne3762 ne3748 (Ne.symm ne3580) ne3589 ne3691 ne3759 ne3745 ne3582 ne3689 ne3757 ne3743 ne3693 ne3761 ne3747 ne3763 ne3749 (Ne.symm ne3725) rfl) F3895 at_213 rfl (tw hw 42 rfl) (tw hw 43 rfl) (tw hw 44 rfl) (tw hw 45 rfl) (tw hw 4 rfl) (tw hw 46 rfl) (by decide) pd_5 rfl rfl rfl (Nat.le_of_eq rfl) (by decide) (by decide) (by decide) (by decide) (fun v3916 h3917 r3918 => ?_)
        obtain ⟨y3919, y3920, y3921, y3922, rfl, K3923, F3924, F3925, F3926, F3927, F3928, F3929, F3930, F3931, F3932, F3933, F3934, F3935, F3936, F3937, F3938, F3939, F3940, F3941, u3942, u3943⟩ := r3918
        have F3944 := F3889.keep K3923 (ninS ne3550 (ninS ne3640 (ninS ne3626 (ninS ne3654 (ninS ne3633 (ninS ne3619 (ninS ne3647 (ninS ne3682 (ninS ne3736 nin0)))))))))
        have F3945 := F3890.keep K3923 (ninS ne3551 (ninS ne3641 (ninS ne3627 (ninS ne3655 (ninS ne3634 (ninS ne3620 (ninS ne3648 (ninS ne3683 (ninS ne3737 nin0)))))))))
        have F3946 := F3891.keep K3923 (ninS ne3552 (ninS ne3642 (ninS ne3628 (ninS ne3656 (ninS ne3635 (ninS ne3621 (ninS ne3649 (ninS ne3684 (ninS ne3738 nin0)))))))))
        have F3947 := F3892.keep K3923 (ninS ne3553 (ninS ne3643 (ninS ne3629 (ninS ne3657 (ninS ne3636 (ninS ne3622 (ninS ne3650 (ninS ne3685 (ninS ne3739 nin0)))))))))
        have F3948 := F3893.keep K3923 (ninS ne3554 (ninS ne3644 (ninS ne3630 (ninS ne3658 (ninS ne3637 (ninS ne3623 (ninS ne3651 (ninS ne3686 (ninS ne3740 nin0)))))))))
        have F3949 := F3894.keep K3923 (ninS ne3555 (ninS ne3645 (ninS ne3631 (ninS ne3659 (ninS ne3638 (ninS ne3624 (ninS ne3652 (ninS ne3687 (ninS ne3741 nin0)))))))))
        have F3950 := F3895.keep K3923
        have F3964 := F3909.keep K3923
        have F3970 := F3888.keep K3923 (ninS (Ne.symm ne3756) (ninS (Ne.symm ne3760) (ninS (Ne.symm ne3758) (ninS (Ne.symm ne3762) (ninS (Ne.symm ne3759) (ninS (Ne.symm ne3757) (ninS (Ne.symm ne3761) (ninS (Ne.symm ne3763) (ninS (Ne.symm ne3725) nin0)))))))))
        refine C.istore (Ls' := #[.val (.long x0), .second, .val (.long x1), .second, .val (.long x2), .second, .val (.long x3), .second, .val (.long x4), .second, iv x5, iv 1, .val (.long c12), .second, iv 1, rv a3394, rv a3413, rv a3437, rv a3448, rv a3468, rv a3499, rv a3448, rv a3543, rv a3675, iv 0, .unset, .unset]) at_216 rfl rfl ?_
        refine C.aload at_218 rfl rfl rfl ?_
        refine C.callV (argsL := []) (rest := []) 0 (fun zz => au3050_15 l Z a0 hw n0 h3917 zz a3675 y3920 a3722 a3723 y3919 (x0 ^^^ (-1 : Int64)) (x1 ^^^ (-1 : Int64)) (x2 ^^^ (-1 : Int64)) F3964 F3940 F3938 F3939 F3937 F3941 F3970 g3681 g3732 g3734 ne3749 ne3763 ne3725) F3964 at_220 rfl (tw hw 95 rfl) (tw hw 96 rfl) (tw hw 97 rfl) (tw hw 98 rfl) (tw hw 26 rfl) (tw hw 99 rfl) (by decide) pd_4 rfl rfl rfl (Nat.le_of_eq rfl) (by decide) (by decide) (by decide) (by decide) (fun v3971 h3972 r3973 => ?_)
        obtain ⟨rfl, K3974, F3975, F3976, F3977, F3978, F3979⟩ := r3973
        have F3980 := F3944.keep K3974 (ninS ne3682 (ninS ne3750 nin0))
        have F3981 := F3945.keep K3974 (ninS ne3683 (ninS ne3751 nin0))
        have F3982 := F3946.keep K3974 (ninS ne3684 (ninS ne3752 nin0))
        have F3983 := F3947.keep K3974 (ninS ne3685 (ninS ne3753 nin0))
        have F3984 := F3948.keep K3974 (ninS ne3686 (ninS ne3754 nin0))
        have F3985 := F3949.keep K3974 (ninS ne3687 (ninS ne3755 nin0))
        have F3986 := F3950.keep K3974
        have F3987 := F3964.keep K3974
        have F3989 := F3924.keep K3974 (ninS ne3688 (ninS ne3756 nin0))
        have F3990 := F3925.keep K3974 (ninS ne3688 (ninS ne3756 nin0))
        have F3991 := F3926.keep K3974 (ninS ne3688 (ninS ne3756 nin0))
        have F3992 := F3927.keep K3974 (ninS ne3688 (ninS ne3756 nin0))
        have F3993 := F3928.keep K3974 (ninS ne3688 (ninS ne3756 nin0))
        have F3994 := F3929.keep K3974 (ninS ne3688 (ninS ne3756 nin0))
        have F3995 := F3930.keep K3974 (ninS ne3688 (ninS ne3756 nin0))
        have F3996 := F3931.keep K3974 (ninS ne3692 (ninS ne3760 nin0))
        have F3997 := F3932.keep K3974 (ninS ne3690 (ninS ne3758 nin0))
        have F3998 := F3933.keep K3974 (ninS ne3694 (ninS ne3762 nin0))
        have F3999 := F3934.keep K3974 (ninS ne3691 (ninS ne3759 nin0))
        have F4000 := F3935.keep K3974 (ninS ne3689 (ninS ne3757 nin0))
        have F4001 := F3936.keep K3974 (ninS ne3693 (ninS ne3761 nin0))
        have F4006 := F3941.keep K3974 (ninS (Ne.symm ne3749) (ninS ne3725 nin0))
        refine C.aload at_223 rfl rfl rfl ?_
        refine C.aload at_225 rfl rfl rfl ?_
        refine C.iconst 0 at_227 rfl rfl ?_
        refine C.iconst 3 at_228 rfl rfl ?_
        refine C.callV (argsL := [(.ref a3394), (.int 0), (.int 3)]) (rest := []) 0 (fun zz => au3187_4 l Z a0 hw n0 h3972 zz a3675 a3394 a3722 a3723 x0 x1 x2 y3919 F3987 F3975 F3976 F3977 F3978 F3980 F4006 F3979 g3681 g3399 g3732 g3734 (Ne.symm ne3682) ne3749 ne3763 ne3736 ne3750 ne3725) F3987 at_229 rfl (tw hw 37 rfl) (tw hw 38 rfl) (tw hw 39 rfl) (tw hw 40 rfl) (tw hw 26 rfl) (tw hw 41 rfl) (by decide) pd_9 rfl rfl rfl (Nat.le_of_eq rfl) (by decide) (by decide) (by decide) (by decide) (fun v4007 h4008 r4009 => ?_)
        obtain ⟨rfl, K4010, F4011⟩ := r4009
        have F4012 := F3980.keep K4010 (ninS ne3750 nin0)
        have F4013 := F3981.keep K4010 (ninS ne3751 nin0)
        have F4014 := F3982.keep K4010 (ninS ne3752 nin0)
        have F4015 := F3983.keep K4010 (ninS ne3753 nin0)
        have F4016 := F3984.keep K4010 (ninS ne3754 nin0)
        have F4017 := F3985.keep K4010 (ninS ne3755 nin0)
        have F4018 := F3986.keep K4010
        have F4019 := F3987.keep K4010
        have F4020 := F3989.keep K4010 (ninS ne3756 nin0)
        have F4021 := F3990.keep K4010 (ninS ne3756 nin0)
        have F4022 := F3991.keep K4010 (ninS ne3756 nin0)
        have F4023 := F3992.keep K4010 (ninS ne3756 nin0)
        have F4024 := F3993.keep K4010 (ninS ne3756 nin0)
        have F4025 := F3994.keep K4010 (ninS ne3756 nin0)
        have F4026 := F3995.keep K4010 (ninS ne3756 nin0)
        have F4027 := F3996.keep K4010 (ninS ne3760 nin0)
        have F4028 := F3997.keep K4010 (ninS ne3758 nin0)
        have F4029 := F3998.keep K4010 (ninS ne3762 nin0)
        have F4030 := F3999.keep K4010 (ninS ne3759 nin0)
        have F4031 := F4000.keep K4010 (ninS ne3757 nin0)
        have F4032 := F4001.keep K4010 (ninS ne3761 nin0)
        have F4033 := F4006.keep K4010 (ninS ne3725 nin0)
        have F4034 := F3975.keep K4010 (ninS ne3763 nin0)
        have F4035 := F3976.keep K4010 (ninS ne3763 nin0)
        have F4036 := F3977.keep K4010 (ninS ne3763 nin0)
        have F4037 := F3978.keep K4010 (ninS ne3763 nin0)
        refine C.aload at_232 rfl rfl rfl ?_
        refine C.aload at_234 rfl rfl rfl ?_
        refine C.callV (argsL := [(.ref a3675)]) (rest := []) 0 (fun zz => con_num1 l Z a0 hw n0 h4008 zz a3543 a3575 a3573 a3577 a3574 a3572 a3576 a3675 a3723 a3722 x0 x1 x2 0 y3919 (own_c3 (x0 ^^^ (-1 : Int64)) (x1 ^^^ (-1 : Int64)) (x2 ^^^ (-1 : Int64))) y3921 y3922 F4018 F4020 F4021 F4022 F4023 F4024 F4025 F4026 F4027 F4028 F4029 F4030 F4031 F4032 F4019 F4037 F4035 F4036 F4034 F4011 F4033 g3549 g3613 g3609 g3617 g3611 g3607 g3615 g3681 g3732 ne3646 ne3632 ne3660 ne3639 ne3625 ne3653 ne3688 ne3756 ne3742 (Ne.symm ne3585) ne3592 (Ne.symm ne3588) (Ne.symm ne3581) ne3591 ne3692 ne3760 ne3746 ne3587 ne3584 (Ne.symm ne3579) ne3586 ne3690 ne3758 ne3744 (Ne.symm ne3590) (Ne.symm ne3583) (Ne.symm ne3593) ne3694 ne3762 ne3748 (Ne.symm ne3580) ne3589 ne3691 ne3759 ne3745 ne3582 ne3689 ne3757 ne3743 ne3693 ne3761 ne3747 ne3763 ne3749 (Ne.symm ne3725) u3942 (own_c3len (x0 ^^^ (-1 : Int64)) (x1 ^^^ (-1 : Int64)) (x2 ^^^ (-1 : Int64))) u3943) F4018 at_236 rfl (tw hw 42 rfl) (tw hw 43 rfl) (tw hw 44 rfl) (tw hw 45 rfl) (tw hw 4 rfl) (tw hw 46 rfl) (by decide) pd_5 rfl rfl rfl (Nat.le_of_eq rfl) (by decide) (by decide) (by decide) (by decide) (fun v4039 h4040 r4041 => ?_)
        obtain ⟨y4042, y4043, y4044, y4045, y4046, y4047, y4048, rfl, K4049, F4050, F4051, F4052, F4053, F4054, F4055, F4056, F4057, F4058, F4059, F4060, F4061, F4062, F4063, F4064, u4065, u4066, u4067, u4068⟩ := r4041
        have F4069 := F4012.keep K4049 (ninS ne3550 (ninS ne3640 (ninS ne3626 (ninS ne3654 (ninS ne3633 (ninS ne3619 (ninS ne3647 (ninS ne3682 (ninS ne3736 nin0)))))))))
        have F4070 := F4013.keep K4049 (ninS ne3551 (ninS ne3641 (ninS ne3627 (ninS ne3655 (ninS ne3634 (ninS ne3620 (ninS ne3648 (ninS ne3683 (ninS ne3737 nin0)))))))))
        have F4071 := F4014.keep K4049 (ninS ne3552 (ninS ne3642 (ninS ne3628 (ninS ne3656 (ninS ne3635 (ninS ne3621 (ninS ne3649 (ninS ne3684 (ninS ne3738 nin0)))))))))
        have F4072 := F4015.keep K4049 (ninS ne3553 (ninS ne3643 (ninS ne3629 (ninS ne3657 (ninS ne3636 (ninS ne3622 (ninS ne3650 (ninS ne3685 (ninS ne3739 nin0)))))))))
        have F4073 := F4016.keep K4049 (ninS ne3554 (ninS ne3644 (ninS ne3630 (ninS ne3658 (ninS ne3637 (ninS ne3623 (ninS ne3651 (ninS ne3686 (ninS ne3740 nin0)))))))))
        have F4074 := F4017.keep K4049 (ninS ne3555 (ninS ne3645 (ninS ne3631 (ninS ne3659 (ninS ne3638 (ninS ne3624 (ninS ne3652 (ninS ne3687 (ninS ne3741 nin0)))))))))
        have F4075 := F4018.keep K4049
        have F4076 := F4019.keep K4049
        have F4095 := F4011.keep K4049 (ninS (Ne.symm ne3756) (ninS (Ne.symm ne3760) (ninS (Ne.symm ne3758) (ninS (Ne.symm ne3762) (ninS (Ne.symm ne3759) (ninS (Ne.symm ne3757) (ninS (Ne.symm ne3761) (ninS (Ne.symm ne3763) (ninS (Ne.symm ne3725) nin0)))))))))
        refine C.istore (Ls' := #[.val (.long x0), .second, .val (.long x1), .second, .val (.long x2), .second, .val (.long x3), .second, .val (.long x4), .second, iv x5, iv 1, .val (.long c12), .second, iv 1, rv a3394, rv a3413, rv a3437, rv a3448, rv a3468, rv a3499, rv a3448, rv a3543, rv a3675, iv 0, iv y4044, .unset]) at_239 rfl rfl ?_
        refine C.aload at_241 rfl rfl rfl ?_
        refine C.iload at_243 rfl rfl ?_
        refine C.aload at_245 rfl rfl rfl ?_
        refine C.callV (argsL := [(.int y4044), (.ref a3448)]) (rest := []) 0 (fun zz => con_is1 l Z a0 hw n0 h4040 zz a3543 a3575 a3573 a3577 a3448 y4044 (own_c3 x0 x1 x2) y4045 y4046 y4047 y4048 x3 F4050 F4051 F4052 F4056 F4057 F4058 F4072 u4067 (own_c3len x0 x1 x2) (own_c3rg x0 x1 x2)) F4075 at_247 rfl (tw hw 86 rfl) (tw hw 87 rfl) (tw hw 88 rfl) (tw hw 89 rfl) (tw hw 4 rfl) (tw hw 90 rfl) (by decide) pd_10 rfl rfl rfl (Nat.le_of_eq rfl) (by decide) (by decide) (by decide) (by decide) (fun v4096 h4097 r4098 => ?_)
        obtain ⟨rfl, rfl⟩ := r4098
        refine C.lloadN at_250 rfl rfl ?_
        refine C.lloadN at_251 rfl rfl ?_
        refine C.lload at_252 rfl rfl ?_
        refine C.lload at_254 rfl rfl ?_
        refine C.lload at_256 rfl rfl ?_
        refine C.lload at_258 rfl rfl ?_
        refine C.iload at_260 rfl rfl ?_
        refine C.callS (argsL := [(.long x0), (.long x1), (.long x2), (.long x3), (.long x4), (.long c12), (.int 1)]) (rest := [(.int (own_mt 1 x3 0 0 (own_c3 x0 x1 x2)))]) 1 (fun zz => con_ep l Z a0 hw n0 h4040 zz x0 x1 x2 x3 x4 c12 1 ) at_262 rfl (tw hw 91 rfl) (tw hw 92 rfl) (tw hw 93 rfl) (tw hw 94 rfl) (by decide) pd_11 rfl rfl rfl (Nat.le_of_eq rfl) (by decide) (by decide) (by decide) (by decide) (fun v4100 h4101 r4102 => ?_)
        obtain ⟨rfl, rfl⟩ := r4102
        refine C.icmp_ne_f at_265 rfl ((own_pl _ _ _ _ _ _ _).trans (own_epq1 _ _ _ _ _ _ _ _)) ?_
        refine C.iconst 1 at_268 rfl rfl ?_
        refine C.goto at_269 (by decide) rfl ?_
        refine C.istore (Ls' := #[.val (.long x0), .second, .val (.long x1), .second, .val (.long x2), .second, .val (.long x3), .second, .val (.long x4), .second, iv x5, iv 1, .val (.long c12), .second, iv 1, rv a3394, rv a3413, rv a3437, rv a3448, rv a3468, rv a3499, rv a3448, rv a3543, rv a3675, iv 0, iv y4044, iv 1]) at_273 rfl rfl ?_
        refine C.iload at_275 rfl rfl ?_
        refine C.if_eq_f at_277 rfl (by decide) ?_
        refine C.iload at_280 rfl rfl ?_
        refine C.if_eq_f at_282 rfl (by decide) ?_
        refine C.iload at_285 rfl rfl ?_
        refine C.iload at_287 rfl rfl ?_
        refine C.icmp_eq_f at_289 rfl (fun q => own_cpl x0 (own_c3inj (u4068 q.symm))) ?_
        refine C.aload at_292 rfl rfl rfl ?_
        refine C.iload at_294 rfl rfl ?_
        refine C.aload at_296 rfl rfl rfl ?_
        refine C.callV (argsL := [(.int 0), (.ref a3448)]) (rest := []) 0 (fun zz => con_is1 l Z a0 hw n0 h4040 zz a3543 a3575 a3573 a3577 a3448 0 (own_c3 (x0 ^^^ (-1 : Int64)) (x1 ^^^ (-1 : Int64)) (x2 ^^^ (-1 : Int64))) y4045 y4046 y4047 y4048 x3 F4050 F4051 F4052 F4056 F4057 F4058 F4072 u4066 (own_c3len (x0 ^^^ (-1 : Int64)) (x1 ^^^ (-1 : Int64)) (x2 ^^^ (-1 : Int64))) (own_c3rg (x0 ^^^ (-1 : Int64)) (x1 ^^^ (-1 : Int64)) (x2 ^^^ (-1 : Int64)))) F4075 at_298 rfl (tw hw 86 rfl) (tw hw 87 rfl) (tw hw 88 rfl) (tw hw 89 rfl) (tw hw 4 rfl) (tw hw 90 rfl) (by decide) pd_10 rfl rfl rfl (Nat.le_of_eq rfl) (by decide) (by decide) (by decide) (by decide) (fun v4104 h4105 r4106 => ?_)
        obtain ⟨rfl, rfl⟩ := r4106
        refine C.lloadN at_301 rfl rfl ?_
        refine C.ldc2J at_302 rfl (tw hw 1 rfl) ?_
        refine C.lxor at_305 rfl ?_
        refine C.lloadN at_306 rfl rfl ?_
        refine C.ldc2J at_307 rfl (tw hw 1 rfl) ?_
        refine C.lxor at_310 rfl ?_
        refine C.lload at_311 rfl rfl ?_
        refine C.ldc2J at_313 rfl (tw hw 1 rfl) ?_
        refine C.lxor at_316 rfl ?_
        refine C.lload at_317 rfl rfl ?_
        refine C.lload at_319 rfl rfl ?_
        refine C.lload at_321 rfl rfl ?_
        refine C.iload at_323 rfl rfl ?_
        refine C.callS (argsL := [(.long (x0 ^^^ (-1 : Int64))), (.long (x1 ^^^ (-1 : Int64))), (.long (x2 ^^^ (-1 : Int64))), (.long x3), (.long x4), (.long c12), (.int 1)]) (rest := [(.int (own_mt 1 x3 0 0 (own_c3 (x0 ^^^ (-1 : Int64)) (x1 ^^^ (-1 : Int64)) (x2 ^^^ (-1 : Int64)))))]) 1 (fun zz => con_ep l Z a0 hw n0 h4040 zz (x0 ^^^ (-1 : Int64)) (x1 ^^^ (-1 : Int64)) (x2 ^^^ (-1 : Int64)) x3 x4 c12 1 ) at_325 rfl (tw hw 91 rfl) (tw hw 92 rfl) (tw hw 93 rfl) (tw hw 94 rfl) (by decide) pd_11 rfl rfl rfl (Nat.le_of_eq rfl) (by decide) (by decide) (by decide) (by decide) (fun v4108 h4109 r4110 => ?_)
        obtain ⟨rfl, rfl⟩ := r4110
        refine C.icmp_ne_f at_328 rfl ((own_pl _ _ _ _ _ _ _).trans (own_epq1 _ _ _ _ _ _ _ _)) ?_
        refine C.iconst 1 at_331 rfl rfl ?_
        refine C.goto at_332 (by decide) rfl ?_
        refine C.istore (Ls' := #[.val (.long x0), .second, .val (.long x1), .second, .val (.long x2), .second, .val (.long x3), .second, .val (.long x4), .second, iv x5, iv 1, .val (.long c12), .second, iv 1, rv a3394, rv a3413, rv a3437, rv a3448, rv a3468, rv a3499, rv a3448, rv a3543, rv a3675, iv 0, iv y4044, iv 1]) at_336 rfl rfl ?_
        refine C.iload at_338 rfl rfl ?_
        exact C.retZ at_340 rfl (by decide) (by decide) ⟨rfl, trivial⟩
      refine C.if_eq at_27 (by decide) rfl rfl (fun q27 => ?_) (fun q27 => ?_)
      · refine C.iconst 0 at_34 rfl rfl ?_
        exact (J35_3393 0 (Or.inl rfl)).more (by decide) (by decide)
      refine C.iconst 1 at_30 rfl rfl ?_
      refine C.goto at_31 (by decide) rfl ?_
      exact (J35_3393 1 (Or.inr rfl)).more (by decide) (by decide)
    refine C.if_eq at_10 (by decide) rfl rfl (fun q10 => ?_) (fun q10 => ?_)
    · refine C.lload at_18 rfl rfl ?_
      exact J20_3392 x4
    refine C.lload at_13 rfl rfl ?_
    refine C.goto at_15 (by decide) rfl ?_
    exact J20_3392 x3
  · rw [ql]
    refine C.iload at_6 rfl rfl ?_
    refine C.iconst 4 at_8 rfl rfl ?_
    refine C.iand at_9 rfl ?_
    have J20_4112 : ∀ (c12 : Int64) , Go p l e room_1 s m #[(.long x0), (.long x1), (.long x2), (.long x3), (.long x4), (.int x5)] below meth c n0 (FinQ s n0 (Qcon0 Z n0 h0 x0 x1 x2 x3 x4 x5) room_1.cells room_1.slots) h0 0 0 20 #[.val (.long x0), .second, .val (.long x1), .second, .val (.long x2), .second, .val (.long x3), .second, .val (.long x4), .second, iv x5, iv 2, .unset, .unset, .unset, .unset, .unset, .unset, .unset, .unset, .unset, .unset, .unset, .unset, .unset, .unset, .unset] [(.long c12)] := by
      intro c12
      refine C.lstore (Ls' := #[.val (.long x0), .second, .val (.long x1), .second, .val (.long x2), .second, .val (.long x3), .second, .val (.long x4), .second, iv x5, iv 2, .val (.long c12), .second, .unset, .unset, .unset, .unset, .unset, .unset, .unset, .unset, .unset, .unset, .unset, .unset, .unset]) at_20 rfl rfl ?_
      refine C.iload at_22 rfl rfl ?_
      refine C.bipush 8 at_24 rfl rfl ?_
      refine C.iand at_26 rfl ?_
      have J35_4113 : ∀ (b14 : Int32) (h14 : b14 = 0 ∨ b14 = 1), Go p l e room_1 s m #[(.long x0), (.long x1), (.long x2), (.long x3), (.long x4), (.int x5)] below meth c n0 (FinQ s n0 (Qcon0 Z n0 h0 x0 x1 x2 x3 x4 x5) room_1.cells room_1.slots) h0 0 0 35 #[.val (.long x0), .second, .val (.long x1), .second, .val (.long x2), .second, .val (.long x3), .second, .val (.long x4), .second, iv x5, iv 2, .val (.long c12), .second, .unset, .unset, .unset, .unset, .unset, .unset, .unset, .unset, .unset, .unset, .unset, .unset, .unset] [(.int b14)] := by
        intro b14 h14
        refine C.istore (Ls' := #[.val (.long x0), .second, .val (.long x1), .second, .val (.long x2), .second, .val (.long x3), .second, .val (.long x4), .second, iv x5, iv 2, .val (.long c12), .second, iv b14, .unset, .unset, .unset, .unset, .unset, .unset, .unset, .unset, .unset, .unset, .unset, .unset]) at_35 rfl rfl ?_
        refine C.iconst 3 at_37 rfl rfl ?_
        refine C.newarr 3 at_38 rfl rfl (tw hw 0 rfl) (by decide) (by decide) (by decide) (by decide) (by decide) (fun a4114 h4115 z4118 g4119 X4116 F4117 => ?_)
        have F4120 : Av Z h4115 a4114 .long ([.long 0, .long 0, .long 0]) := F4117
        refine C.dup at_40 rfl rfl ?_
        refine C.iconst 0 at_41 rfl rfl ?_
        refine C.lloadN at_42 rfl rfl ?_
        refine C.lastore at_43 rfl F4120 g4119 (by decide) (Nat.le_of_ble_eq_true rfl) (fun h4121 W4122 F4123 => ?_)
        have F4124 : Av Z h4121 a4114 .long ([.long x0, .long 0, .long 0]) := F4123
        refine C.dup at_44 rfl rfl ?_
        refine C.iconst 1 at_45 rfl rfl ?_
        refine C.lloadN at_46 rfl rfl ?_
        refine C.lastore at_47 rfl F4124 g4119 (by decide) (Nat.le_of_ble_eq_true rfl) (fun h4125 W4126 F4127 => ?_)
        have F4128 : Av Z h4125 a4114 .long ([.long x0, .long x1, .long 0]) := F4127
        refine C.dup at_48 rfl rfl ?_
        refine C.iconst 2 at_49 rfl rfl ?_
        refine C.lload at_50 rfl rfl ?_
        refine C.lastore at_52 rfl F4128 g4119 (by decide) (Nat.le_of_ble_eq_true rfl) (fun h4129 W4130 F4131 => ?_)
        have F4132 : Av Z h4129 a4114 .long ([.long x0, .long x1, .long x2]) := F4131
        refine C.astore (Ls' := #[.val (.long x0), .second, .val (.long x1), .second, .val (.long x2), .second, .val (.long x3), .second, .val (.long x4), .second, iv x5, iv 2, .val (.long c12), .second, iv b14, rv a4114, .unset, .unset, .unset, .unset, .unset, .unset, .unset, .unset, .unset, .unset, .unset]) at_53 rfl rfl rfl ?_
        refine C.iconst 3 at_55 rfl rfl ?_
        refine C.newarr 3 at_56 rfl rfl (tw hw 0 rfl) (by decide) (by decide) (by decide) (by decide) (by decide) (fun a4133 h4134 z4137 g4138 X4135 F4136 => ?_)
        have ne4139 : a4114 ≠ a4133 := by rw [z4137]; exact Nat.ne_of_lt F4132.lt
        have F4140 := F4132.ext X4135
        have F4141 : Av Z h4134 a4133 .long ([.long 0, .long 0, .long 0]) := F4136
        refine C.dup at_58 rfl rfl ?_
        refine C.iconst 0 at_59 rfl rfl ?_
        refine C.lloadN at_60 rfl rfl ?_
        refine C.ldc2J at_61 rfl (tw hw 1 rfl) ?_
        refine C.lxor at_64 rfl ?_
        refine C.lastore at_65 rfl F4141 g4138 (by decide) (Nat.le_of_ble_eq_true rfl) (fun h4142 W4143 F4144 => ?_)
        have F4145 := F4140.other W4143 ne4139
        have F4146 : Av Z h4142 a4133 .long ([.long (x0 ^^^ (-1 : Int64)), .long 0, .long 0]) := F4144
        refine C.dup at_66 rfl rfl ?_
        refine C.iconst 1 at_67 rfl rfl ?_
        refine C.lloadN at_68 rfl rfl ?_
        refine C.ldc2J at_69 rfl (tw hw 1 rfl) ?_
        refine C.lxor at_72 rfl ?_
        refine C.lastore at_73 rfl F4146 g4138 (by decide) (Nat.le_of_ble_eq_true rfl) (fun h4147 W4148 F4149 => ?_)
        have F4150 := F4145.other W4148 ne4139
        have F4151 : Av Z h4147 a4133 .long ([.long (x0 ^^^ (-1 : Int64)), .long (x1 ^^^ (-1 : Int64)), .long 0]) := F4149
        refine C.dup at_74 rfl rfl ?_
        refine C.iconst 2 at_75 rfl rfl ?_
        refine C.lload at_76 rfl rfl ?_
        refine C.ldc2J at_78 rfl (tw hw 1 rfl) ?_
        refine C.lxor at_81 rfl ?_
        refine C.lastore at_82 rfl F4151 g4138 (by decide) (Nat.le_of_ble_eq_true rfl) (fun h4152 W4153 F4154 => ?_)
        have F4155 := F4150.other W4153 ne4139
        have F4156 : Av Z h4152 a4133 .long ([.long (x0 ^^^ (-1 : Int64)), .long (x1 ^^^ (-1 : Int64)), .long (x2 ^^^ (-1 : Int64))]) := F4154
        refine C.astore (Ls' := #[.val (.long x0), .second, .val (.long x1), .second, .val (.long x2), .second, .val (.long x3), .second, .val (.long x4), .second, iv x5, iv 2, .val (.long c12), .second, iv b14, rv a4114, rv a4133, .unset, .unset, .unset, .unset, .unset, .unset, .unset, .unset, .unset, .unset]) at_83 rfl rfl rfl ?_
        refine C.iconst 0 at_85 rfl rfl ?_
        refine C.newarr 0 at_86 rfl rfl (tw hw 0 rfl) (by decide) (by decide) (by decide) (by decide) (by decide) (fun a4157 h4158 z4161 g4162 X4159 F4160 => ?_)
        have ne4163 : a4114 ≠ a4157 := by rw [z4161]; exact Nat.ne_of_lt F4155.lt
        have ne4164 : a4133 ≠ a4157 := by rw [z4161]; exact Nat.ne_of_lt F4156.lt
        have F4165 := F4155.ext X4159
        have F4166 := F4156.ext X4159
        have F4167 : Av Z h4158 a4157 .long ([]) := F4160
        refine C.astore (Ls' := #[.val (.long x0), .second, .val (.long x1), .second, .val (.long x2), .second, .val (.long x3), .second, .val (.long x4), .second, iv x5, iv 2, .val (.long c12), .second, iv b14, rv a4114, rv a4133, rv a4157, .unset, .unset, .unset, .unset, .unset, .unset, .unset, .unset, .unset]) at_88 rfl rfl rfl ?_
        refine C.iconst 1 at_90 rfl rfl ?_
        refine C.newarr 1 at_91 rfl rfl (tw hw 0 rfl) (by decide) (by decide) (by decide) (by decide) (by decide) (fun a4168 h4169 z4172 g4173 X4170 F4171 => ?_)
        have ne4174 : a4114 ≠ a4168 := by rw [z4172]; exact Nat.ne_of_lt F4165.lt
        have ne4175 : a4133 ≠ a4168 := by rw [z4172]; exact Nat.ne_of_lt F4166.lt
        have ne4176 : a4157 ≠ a4168 := by rw [z4172]; exact Nat.ne_of_lt F4167.lt
        have F4177 := F4165.ext X4170
        have F4178 := F4166.ext X4170
        have F4179 := F4167.ext X4170
        have F4180 : Av Z h4169 a4168 .long ([.long 0]) := F4171
        refine C.dup at_93 rfl rfl ?_
        refine C.iconst 0 at_94 rfl rfl ?_
        refine C.lload at_95 rfl rfl ?_
        refine C.lastore at_97 rfl F4180 g4173 (by decide) (Nat.le_of_ble_eq_true rfl) (fun h4181 W4182 F4183 => ?_)
        have F4184 := F4177.other W4182 ne4174
        have F4185 := F4178.other W4182 ne4175
        have F4186 := F4179.other W4182 ne4176
        have F4187 : Av Z h4181 a4168 .long ([.long x3]) := F4183
        refine C.astore (Ls' := #[.val (.long x0), .second, .val (.long x1), .second, .val (.long x2), .second, .val (.long x3), .second, .val (.long x4), .second, iv x5, iv 2, .val (.long c12), .second, iv b14, rv a4114, rv a4133, rv a4157, rv a4168, .unset, .unset, .unset, .unset, .unset, .unset, .unset, .unset]) at_98 rfl rfl rfl ?_
        refine C.iconst 2 at_100 rfl rfl ?_
        refine C.newarr 2 at_101 rfl rfl (tw hw 0 rfl) (by decide) (by decide) (by decide) (by decide) (by decide) (fun a4188 h4189 z4192 g4193 X4190 F4191 => ?_)
        have ne4194 : a4114 ≠ a4188 := by rw [z4192]; exact Nat.ne_of_lt F4184.lt
        have ne4195 : a4133 ≠ a4188 := by rw [z4192]; exact Nat.ne_of_lt F4185.lt
        have ne4196 : a4157 ≠ a4188 := by rw [z4192]; exact Nat.ne_of_lt F4186.lt
        have ne4197 : a4168 ≠ a4188 := by rw [z4192]; exact Nat.ne_of_lt F4187.lt
        have F4198 := F4184.ext X4190
        have F4199 := F4185.ext X4190
        have F4200 := F4186.ext X4190
        have F4201 := F4187.ext X4190
        have F4202 : Av Z h4189 a4188 .long ([.long 0, .long 0]) := F4191
        refine C.dup at_103 rfl rfl ?_
        refine C.iconst 0 at_104 rfl rfl ?_
        refine C.lload at_105 rfl rfl ?_
        refine C.lastore at_107 rfl F4202 g4193 (by decide) (Nat.le_of_ble_eq_true rfl) (fun h4203 W4204 F4205 => ?_)
        have F4206 := F4198.other W4204 ne4194
        have F4207 := F4199.other W4204 ne4195
        have F4208 := F4200.other W4204 ne4196
        have F4209 := F4201.other W4204 ne4197
        have F4210 : Av Z h4203 a4188 .long ([.long x3, .long 0]) := F4205
        refine C.dup at_108 rfl rfl ?_
        refine C.iconst 1 at_109 rfl rfl ?_
        refine C.lload at_110 rfl rfl ?_
        refine C.lastore at_112 rfl F4210 g4193 (by decide) (Nat.le_of_ble_eq_true rfl) (fun h4211 W4212 F4213 => ?_)
        have F4214 := F4206.other W4212 ne4194
        have F4215 := F4207.other W4212 ne4195
        have F4216 := F4208.other W4212 ne4196
        have F4217 := F4209.other W4212 ne4197
        have F4218 : Av Z h4211 a4188 .long ([.long x3, .long x4]) := F4213
        refine C.astore (Ls' := #[.val (.long x0), .second, .val (.long x1), .second, .val (.long x2), .second, .val (.long x3), .second, .val (.long x4), .second, iv x5, iv 2, .val (.long c12), .second, iv b14, rv a4114, rv a4133, rv a4157, rv a4168, rv a4188, .unset, .unset, .unset, .unset, .unset, .unset, .unset]) at_113 rfl rfl rfl ?_
        refine C.iconst 3 at_115 rfl rfl ?_
        refine C.newarr 3 at_116 rfl rfl (tw hw 0 rfl) (by decide) (by decide) (by decide) (by decide) (by decide) (fun a4219 h4220 z4223 g4224 X4221 F4222 => ?_)
        have ne4225 : a4114 ≠ a4219 := by rw [z4223]; exact Nat.ne_of_lt F4214.lt
        have ne4226 : a4133 ≠ a4219 := by rw [z4223]; exact Nat.ne_of_lt F4215.lt
        have ne4227 : a4157 ≠ a4219 := by rw [z4223]; exact Nat.ne_of_lt F4216.lt
        have ne4228 : a4168 ≠ a4219 := by rw [z4223]; exact Nat.ne_of_lt F4217.lt
        have ne4229 : a4188 ≠ a4219 := by rw [z4223]; exact Nat.ne_of_lt F4218.lt
        have F4230 := F4214.ext X4221
        have F4231 := F4215.ext X4221
        have F4232 := F4216.ext X4221
        have F4233 := F4217.ext X4221
        have F4234 := F4218.ext X4221
        have F4235 : Av Z h4220 a4219 .long ([.long 0, .long 0, .long 0]) := F4222
        refine C.dup at_118 rfl rfl ?_
        refine C.iconst 0 at_119 rfl rfl ?_
        refine C.lload at_120 rfl rfl ?_
        refine C.lastore at_122 rfl F4235 g4224 (by decide) (Nat.le_of_ble_eq_true rfl) (fun h4236 W4237 F4238 => ?_)
        have F4239 := F4230.other W4237 ne4225
        have F4240 := F4231.other W4237 ne4226
        have F4241 := F4232.other W4237 ne4227
        have F4242 := F4233.other W4237 ne4228
        have F4243 := F4234.other W4237 ne4229
        have F4244 : Av Z h4236 a4219 .long ([.long x3, .long 0, .long 0]) := F4238
        refine C.dup at_123 rfl rfl ?_
        refine C.iconst 1 at_124 rfl rfl ?_
        refine C.lload at_125 rfl rfl ?_
        refine C.lastore at_127 rfl F4244 g4224 (by decide) (Nat.le_of_ble_eq_true rfl) (fun h4245 W4246 F4247 => ?_)
        have F4248 := F4239.other W4246 ne4225
        have F4249 := F4240.other W4246 ne4226
        have F4250 := F4241.other W4246 ne4227
        have F4251 := F4242.other W4246 ne4228
        have F4252 := F4243.other W4246 ne4229
        have F4253 : Av Z h4245 a4219 .long ([.long x3, .long x4, .long 0]) := F4247
        refine C.dup at_128 rfl rfl ?_
        refine C.iconst 2 at_129 rfl rfl ?_
        refine C.lload at_130 rfl rfl ?_
        refine C.lastore at_132 rfl F4253 g4224 (by decide) (Nat.le_of_ble_eq_true rfl) (fun h4254 W4255 F4256 => ?_)
        have F4257 := F4248.other W4255 ne4225
        have F4258 := F4249.other W4255 ne4226
        have F4259 := F4250.other W4255 ne4227
        have F4260 := F4251.other W4255 ne4228
        have F4261 := F4252.other W4255 ne4229
        have F4262 : Av Z h4254 a4219 .long ([.long x3, .long x4, .long c12]) := F4256
        refine C.astore (Ls' := #[.val (.long x0), .second, .val (.long x1), .second, .val (.long x2), .second, .val (.long x3), .second, .val (.long x4), .second, iv x5, iv 2, .val (.long c12), .second, iv b14, rv a4114, rv a4133, rv a4157, rv a4168, rv a4188, rv a4219, .unset, .unset, .unset, .unset, .unset, .unset]) at_133 rfl rfl rfl ?_
        refine C.iload at_135 rfl rfl ?_
        refine C.if_ne_t at_137 (by decide) rfl (by decide) ?_
        refine C.iload at_145 rfl rfl ?_
        refine C.iconst 1 at_147 rfl rfl ?_
        refine C.icmp_ne_t at_148 (by decide) rfl (by decide) ?_
        refine C.iload at_156 rfl rfl ?_
        refine C.iconst 2 at_158 rfl rfl ?_
        refine C.icmp_ne_f at_159 rfl (by decide) ?_
        refine C.aload at_162 rfl rfl rfl ?_
        refine C.goto at_164 (by decide) rfl ?_
        refine C.astore (Ls' := #[.val (.long x0), .second, .val (.long x1), .second, .val (.long x2), .second, .val (.long x3), .second, .val (.long x4), .second, iv x5, iv 2, .val (.long c12), .second, iv b14, rv a4114, rv a4133, rv a4157, rv a4168, rv a4188, rv a4219, rv a4188, .unset, .unset, .unset, .unset, .unset]) at_169 rfl rfl rfl ?_
        refine C.new at_171 rfl (tw hw 2 rfl) (tw hw 3 rfl) (tw hw 4 rfl) (by decide) (by decide) (fun a4263 h4264 z4268 g4269 X4266 E4265 D4267 => ?_)
        have ne4270 : a4114 ≠ a4263 := by rw [z4268]; exact Nat.ne_of_lt F4257.lt
        have ne4271 : a4133 ≠ a4263 := by rw [z4268]; exact Nat.ne_of_lt F4258.lt
        have ne4272 : a4157 ≠ a4263 := by rw [z4268]; exact Nat.ne_of_lt F4259.lt
        have ne4273 : a4168 ≠ a4263 := by rw [z4268]; exact Nat.ne_of_lt F4260.lt
        have ne4274 : a4188 ≠ a4263 := by rw [z4268]; exact Nat.ne_of_lt F4261.lt
        have ne4275 : a4219 ≠ a4263 := by rw [z4268]; exact Nat.ne_of_lt F4262.lt
        have F4276 := F4257.ext X4266
        have F4277 := F4258.ext X4266
        have F4278 := F4259.ext X4266
        have F4279 := F4260.ext X4266
        have F4280 := F4261.ext X4266
        have F4281 := F4262.ext X4266
        have F4282 : Fld Z h4264 a4263 kC1 "starts" "[I" (.null) := D4267 (Or.inl (tw hw 13 rfl)) (ty := (.array .int)) (by decide)
        have F4283 : Fld Z h4264 a4263 kC1 "indices" "[I" (.null) := D4267 (Or.inl (tw hw 15 rfl)) (ty := (.array .int)) (by decide)
        have F4284 : Fld Z h4264 a4263 kC1 "words" "[J" (.null) := D4267 (Or.inl (tw hw 17 rfl)) (ty := (.array .long)) (by decide)
        have F4285 : Fld Z h4264 a4263 kC1 "sizes" "[I" (.null) := D4267 (Or.inl (tw hw 19 rfl)) (ty := (.array .int)) (by decide)
        have F4286 : Fld Z h4264 a4263 kC1 "hashes" "[I" (.null) := D4267 (Or.inl (tw hw 21 rfl)) (ty := (.array .int)) (by decide)
        have F4287 : Fld Z h4264 a4263 kC1 "table" "[I" (.null) := D4267 (Or.inl (tw hw 23 rfl)) (ty := (.array .int)) (by decide)
        have F4288 : Fld Z h4264 a4263 kC1 "size" "I" (.int 0) := D4267 (Or.inl (tw hw 78 rfl)) (ty := .int) (by decide)
        refine C.dup at_174 rfl rfl ?_
        refine C.callN (argsL := []) (rest := [(.ref a4263)]) 1 (fun zz => au1742_1 l Z a0 hw n0 h4264 zz a4263 E4265 F4286 F4283 F4288 F4285 F4282 F4287 F4284 g4269) at_175 rfl rfl (tw hw 5 rfl) (tw hw 6 rfl) (tw hw 4 rfl) (tw hw 7 rfl) (by decide) pd_4 rfl rfl rfl (Nat.le_of_eq rfl) (by decide) (by decide) (by decide) (by decide) (fun v4289 h4290 r4291 => ?_)
        obtain ⟨a4292, a4293, a4294, a4295, a4296, a4297, rfl, K4298, g4327, gz4328, g4329, gz4330, g4331, gz4332, g4333, gz4334, g4335, gz4336, g4337, gz4338, ne4299, ne4300, ne4301, ne4302, ne4303, ne4304, ne4305, ne4306, ne4307, ne4308, ne4309, ne4310, ne4311, ne4312, ne4313, F4314, F4315, F4316, F4317, F4318, F4319, F4320, F4321, F4322, F4323, F4324, F4325, F4326⟩ := r4291
        have ne4339 : a4114 ≠ a4292 := Nat.ne_of_lt (Nat.lt_of_lt_of_le F4276.lt gz4328)
        have ne4340 : a4133 ≠ a4292 := Nat.ne_of_lt (Nat.lt_of_lt_of_le F4277.lt gz4328)
        have ne4341 : a4157 ≠ a4292 := Nat.ne_of_lt (Nat.lt_of_lt_of_le F4278.lt gz4328)
        have ne4342 : a4168 ≠ a4292 := Nat.ne_of_lt (Nat.lt_of_lt_of_le F4279.lt gz4328)
        have ne4343 : a4188 ≠ a4292 := Nat.ne_of_lt (Nat.lt_of_lt_of_le F4280.lt gz4328)
        have ne4344 : a4219 ≠ a4292 := Nat.ne_of_lt (Nat.lt_of_lt_of_le F4281.lt gz4328)
        have ne4345 : a4263 ≠ a4292 := Nat.ne_of_lt (Nat.lt_of_lt_of_le E4265.lt gz4328)
        have ne4346 : a4114 ≠ a4293 := Nat.ne_of_lt (Nat.lt_of_lt_of_le F4276.lt gz4330)
        have ne4347 : a4133 ≠ a4293 := Nat.ne_of_lt (Nat.lt_of_lt_of_le F4277.lt gz4330)
        have ne4348 : a4157 ≠ a4293 := Nat.ne_of_lt (Nat.lt_of_lt_of_le F4278.lt gz4330)
        have ne4349 : a4168 ≠ a4293 := Nat.ne_of_lt (Nat.lt_of_lt_of_le F4279.lt gz4330)
        have ne4350 : a4188 ≠ a4293 := Nat.ne_of_lt (Nat.lt_of_lt_of_le F4280.lt gz4330)
        have ne4351 : a4219 ≠ a4293 := Nat.ne_of_lt (Nat.lt_of_lt_of_le F4281.lt gz4330)
        have ne4352 : a4263 ≠ a4293 := Nat.ne_of_lt (Nat.lt_of_lt_of_le E4265.lt gz4330)
        have ne4353 : a4114 ≠ a4294 := Nat.ne_of_lt (Nat.lt_of_lt_of_le F4276.lt gz4332)
        have ne4354 : a4133 ≠ a4294 := Nat.ne_of_lt (Nat.lt_of_lt_of_le F4277.lt gz4332)
        have ne4355 : a4157 ≠ a4294 := Nat.ne_of_lt (Nat.lt_of_lt_of_le F4278.lt gz4332)
        have ne4356 : a4168 ≠ a4294 := Nat.ne_of_lt (Nat.lt_of_lt_of_le F4279.lt gz4332)
        have ne4357 : a4188 ≠ a4294 := Nat.ne_of_lt (Nat.lt_of_lt_of_le F4280.lt gz4332)
        have ne4358 : a4219 ≠ a4294 := Nat.ne_of_lt (Nat.lt_of_lt_of_le F4281.lt gz4332)
        have ne4359 : a4263 ≠ a4294 := Nat.ne_of_lt (Nat.lt_of_lt_of_le E4265.lt gz4332)
        have ne4360 : a4114 ≠ a4295 := Nat.ne_of_lt (Nat.lt_of_lt_of_le F4276.lt gz4334)
        have ne4361 : a4133 ≠ a4295 := Nat.ne_of_lt (Nat.lt_of_lt_of_le F4277.lt gz4334)
        have ne4362 : a4157 ≠ a4295 := Nat.ne_of_lt (Nat.lt_of_lt_of_le F4278.lt gz4334)
        have ne4363 : a4168 ≠ a4295 := Nat.ne_of_lt (Nat.lt_of_lt_of_le F4279.lt gz4334)
        have ne4364 : a4188 ≠ a4295 := Nat.ne_of_lt (Nat.lt_of_lt_of_le F4280.lt gz4334)
        have ne4365 : a4219 ≠ a4295 := Nat.ne_of_lt (Nat.lt_of_lt_of_le F4281.lt gz4334)
        have ne4366 : a4263 ≠ a4295 := Nat.ne_of_lt (Nat.lt_of_lt_of_le E4265.lt gz4334)
        have ne4367 : a4114 ≠ a4296 := Nat.ne_of_lt (Nat.lt_of_lt_of_le F4276.lt gz4336)
        have ne4368 : a4133 ≠ a4296 := Nat.ne_of_lt (Nat.lt_of_lt_of_le F4277.lt gz4336)
        have ne4369 : a4157 ≠ a4296 := Nat.ne_of_lt (Nat.lt_of_lt_of_le F4278.lt gz4336)
        have ne4370 : a4168 ≠ a4296 := Nat.ne_of_lt (Nat.lt_of_lt_of_le F4279.lt gz4336)
        have ne4371 : a4188 ≠ a4296 := Nat.ne_of_lt (Nat.lt_of_lt_of_le F4280.lt gz4336)
        have ne4372 : a4219 ≠ a4296 := Nat.ne_of_lt (Nat.lt_of_lt_of_le F4281.lt gz4336)
        have ne4373 : a4263 ≠ a4296 := Nat.ne_of_lt (Nat.lt_of_lt_of_le E4265.lt gz4336)
        have ne4374 : a4114 ≠ a4297 := Nat.ne_of_lt (Nat.lt_of_lt_of_le F4276.lt gz4338)
        have ne4375 : a4133 ≠ a4297 := Nat.ne_of_lt (Nat.lt_of_lt_of_le F4277.lt gz4338)
        have ne4376 : a4157 ≠ a4297 := Nat.ne_of_lt (Nat.lt_of_lt_of_le F4278.lt gz4338)
        have ne4377 : a4168 ≠ a4297 := Nat.ne_of_lt (Nat.lt_of_lt_of_le F4279.lt gz4338)
        have ne4378 : a4188 ≠ a4297 := Nat.ne_of_lt (Nat.lt_of_lt_of_le F4280.lt gz4338)
        have ne4379 : a4219 ≠ a4297 := Nat.ne_of_lt (Nat.lt_of_lt_of_le F4281.lt gz4338)
        have ne4380 : a4263 ≠ a4297 := Nat.ne_of_lt (Nat.lt_of_lt_of_le E4265.lt gz4338)
        have F4381 := F4276.keep K4298 (ninS ne4270 nin0)
        have F4382 := F4277.keep K4298 (ninS ne4271 nin0)
        have F4383 := F4278.keep K4298 (ninS ne4272 nin0)
        have F4384 := F4279.keep K4298 (ninS ne4273 nin0)
        have F4385 := F4280.keep K4298 (ninS ne4274 nin0)
        have F4386 := F4281.keep K4298 (ninS ne4275 nin0)
        have F4387 := E4265.keep K4298
        refine C.astore (Ls' := #[.val (.long x0), .second, .val (.long x1), .second, .val (.long x2), .second, .val (.long x3), .second, .val (.long x4), .second, iv x5, iv 2, .val (.long c12), .second, iv b14, rv a4114, rv a4133, rv a4157, rv a4168, rv a4188, rv a4219, rv a4188, rv a4263, .unset, .unset, .unset, .unset]) at_178 rfl rfl rfl ?_
        refine C.new at_180 rfl (tw hw 24 rfl) (tw hw 25 rfl) (tw hw 26 rfl) (by decide) (by decide) (fun a4395 h4396 z4400 g4401 X4398 E4397 D4399 => ?_)
        have ne4402 : a4114 ≠ a4395 := by rw [z4400]; exact Nat.ne_of_lt F4381.lt
        have ne4403 : a4133 ≠ a4395 := by rw [z4400]; exact Nat.ne_of_lt F4382.lt
        have ne4404 : a4157 ≠ a4395 := by rw [z4400]; exact Nat.ne_of_lt F4383.lt
        have ne4405 : a4168 ≠ a4395 := by rw [z4400]; exact Nat.ne_of_lt F4384.lt
        have ne4406 : a4188 ≠ a4395 := by rw [z4400]; exact Nat.ne_of_lt F4385.lt
        have ne4407 : a4219 ≠ a4395 := by rw [z4400]; exact Nat.ne_of_lt F4386.lt
        have ne4408 : a4263 ≠ a4395 := by rw [z4400]; exact Nat.ne_of_lt F4387.lt
        have ne4409 : a4292 ≠ a4395 := by rw [z4400]; exact Nat.ne_of_lt F4321.lt
        have ne4410 : a4293 ≠ a4395 := by rw [z4400]; exact Nat.ne_of_lt F4322.lt
        have ne4411 : a4294 ≠ a4395 := by rw [z4400]; exact Nat.ne_of_lt F4323.lt
        have ne4412 : a4295 ≠ a4395 := by rw [z4400]; exact Nat.ne_of_lt F4324.lt
        have ne4413 : a4296 ≠ a4395 := by rw [z4400]; exact Nat.ne_of_lt F4325.lt
        have ne4414 : a4297 ≠ a4395 := by rw [z4400]; exact Nat.ne_of_lt F4326.lt
        have F4415 := F4381.ext X4398
        have F4416 := F4382.ext X4398
        have F4417 := F4383.ext X4398
        have F4418 := F4384.ext X4398
        have F4419 := F4385.ext X4398
        have F4420 := F4386.ext X4398
        have F4421 := Exa.ext X4398 F4387
        have F4422 := Fld.ext X4398 F4314
        have F4423 := Fld.ext X4398 F4315
        have F4424 := Fld.ext X4398 F4316
        have F4425 := Fld.ext X4398 F4317
        have F4426 := Fld.ext X4398 F4318
        have F4427 := Fld.ext X4398 F4319
        have F4428 := Fld.ext X4398 F4320
        have F4429 := F4321.ext X4398
        have F4430 := F4322.ext X4398
        have F4431 := F4323.ext X4398
        have F4432 := F4324.ext X4398
        have F4433 := F4325.ext X4398
        have F4434 := F4326.ext X4398
        have F4435 : Fld Z h4396 a4395 kC0 "words" "[J" (.null) := D4399 (Or.inr (tw hw 32 rfl)) (ty := (.array .long)) (by decide)
        have F4436 : Fld Z h4396 a4395 kC0 "listing" "Z" (.int 0) := D4399 (Or.inr (tw hw 34 rfl)) (ty := .boolean) (by decide)
        have F4437 : Fld Z h4396 a4395 kC0 "held" "[I" (.null) := D4399 (Or.inr (tw hw 36 rfl)) (ty := (.array .int)) (by decide)
        have F4438 : Fld Z h4396 a4395 kC0 "count" "I" (.int 0) := D4399 (Or.inl (tw hw 53 rfl)) (ty := .int) (by decide)
        refine C.dup at_183 rfl rfl ?_
        refine C.sipush 192 at_184 rfl rfl ?_
        refine C.callN (argsL := [(.int 192)]) (rest := [(.ref a4395)]) 1 (fun zz => au2532_3 l Z a0 hw n0 h4396 zz a4395 E4397 F4438 F4437 F4436 F4435 g4401) at_187 rfl rfl (tw hw 27 rfl) (tw hw 28 rfl) (tw hw 26 rfl) (tw hw 29 rfl) (by decide) pd_8 rfl rfl rfl (Nat.le_of_eq rfl) (by decide) (by decide) (by decide) (by decide) (fun v4439 h4440 r4441 => ?_)
        obtain ⟨a4442, a4443, rfl, K4444, g4452, gz4453, g4454, gz4455, ne4445, F4446, F4447, F4448, F4449, F4450, F4451⟩ := r4441
        have ne4456 : a4114 ≠ a4442 := Nat.ne_of_lt (Nat.lt_of_lt_of_le F4415.lt gz4453)
        have ne4457 : a4133 ≠ a4442 := Nat.ne_of_lt (Nat.lt_of_lt_of_le F4416.lt gz4453)
        have ne4458 : a4157 ≠ a4442 := Nat.ne_of_lt (Nat.lt_of_lt_of_le F4417.lt gz4453)
        have ne4459 : a4168 ≠ a4442 := Nat.ne_of_lt (Nat.lt_of_lt_of_le F4418.lt gz4453)
        have ne4460 : a4188 ≠ a4442 := Nat.ne_of_lt (Nat.lt_of_lt_of_le F4419.lt gz4453)
        have ne4461 : a4219 ≠ a4442 := Nat.ne_of_lt (Nat.lt_of_lt_of_le F4420.lt gz4453)
        have ne4462 : a4263 ≠ a4442 := Nat.ne_of_lt (Nat.lt_of_lt_of_le F4421.lt gz4453)
        have ne4463 : a4292 ≠ a4442 := Nat.ne_of_lt (Nat.lt_of_lt_of_le F4429.lt gz4453)
        have ne4464 : a4293 ≠ a4442 := Nat.ne_of_lt (Nat.lt_of_lt_of_le F4430.lt gz4453)
        have ne4465 : a4294 ≠ a4442 := Nat.ne_of_lt (Nat.lt_of_lt_of_le F4431.lt gz4453)
        have ne4466 : a4295 ≠ a4442 := Nat.ne_of_lt (Nat.lt_of_lt_of_le F4432.lt gz4453)
        have ne4467 : a4296 ≠ a4442 := Nat.ne_of_lt (Nat.lt_of_lt_of_le F4433.lt gz4453)
        have ne4468 : a4297 ≠ a4442 := Nat.ne_of_lt (Nat.lt_of_lt_of_le F4434.lt gz4453)
        have ne4469 : a4395 ≠ a4442 := Nat.ne_of_lt (Nat.lt_of_lt_of_le E4397.lt gz4453)
        have ne4470 : a4114 ≠ a4443 := Nat.ne_of_lt (Nat.lt_of_lt_of_le F4415.lt gz4455)
        have ne4471 : a4133 ≠ a4443 := Nat.ne_of_lt (Nat.lt_of_lt_of_le F4416.lt gz4455)
        have ne4472 : a4157 ≠ a4443 := Nat.ne_of_lt (Nat.lt_of_lt_of_le F4417.lt gz4455)
        have ne4473 : a4168 ≠ a4443 := Nat.ne_of_lt (Nat.lt_of_lt_of_le F4418.lt gz4455)
        have ne4474 : a4188 ≠ a4443 := Nat.ne_of_lt (Nat.lt_of_lt_of_le F4419.lt gz4455)
        have ne4475 : a4219 ≠ a4443 := Nat.ne_of_lt (Nat.lt_of_lt_of_le F4420.lt gz4455)
        have ne4476 : a4263 ≠ a4443 := Nat.ne_of_lt (Nat.lt_of_lt_of_le F4421.lt gz4455)
        have ne4477 : a4292 ≠ a4443 := Nat.ne_of_lt (Nat.lt_of_lt_of_le F4429.lt gz4455)
        have ne4478 : a4293 ≠ a4443 := Nat.ne_of_lt (Nat.lt_of_lt_of_le F4430.lt gz4455)
        have ne4479 : a4294 ≠ a4443 := Nat.ne_of_lt (Nat.lt_of_lt_of_le F4431.lt gz4455)
        have ne4480 : a4295 ≠ a4443 := Nat.ne_of_lt (Nat.lt_of_lt_of_le F4432.lt gz4455)
        have ne4481 : a4296 ≠ a4443 := Nat.ne_of_lt (Nat.lt_of_lt_of_le F4433.lt gz4455)
        have ne4482 : a4297 ≠ a4443 := Nat.ne_of_lt (Nat.lt_of_lt_of_le F4434.lt gz4455)
        have ne4483 : a4395 ≠ a4443 := Nat.ne_of_lt (Nat.lt_of_lt_of_le E4397.lt gz4455)
        have F4484 := F4415.keep K4444 (ninS ne4402 nin0)
        have F4485 := F4416.keep K4444 (ninS ne4403 nin0)
        have F4486 := F4417.keep K4444 (ninS ne4404 nin0)
        have F4487 := F4418.keep K4444 (ninS ne4405 nin0)
        have F4488 := F4419.keep K4444 (ninS ne4406 nin0)
        have F4489 := F4420.keep K4444 (ninS ne4407 nin0)
        have F4490 := F4421.keep K4444
        have F4491 := F4422.keep K4444 (ninS ne4408 nin0)
        have F4492 := F4423.keep K4444 (ninS ne4408 nin0)
        have F4493 := F4424.keep K4444 (ninS ne4408 nin0)
        have F4494 := F4425.keep K4444 (ninS ne4408 nin0)
        have F4495 := F4426.keep K4444 (ninS ne4408 nin0)
        have F4496 := F4427.keep K4444 (ninS ne4408 nin0)
        have F4497 := F4428.keep K4444 (ninS ne4408 nin0)
        have F4498 := F4429.keep K4444 (ninS ne4409 nin0)
        have F4499 := F4430.keep K4444 (ninS ne4410 nin0)
        have F4500 := F4431.keep K4444 (ninS ne4411 nin0)
        have F4501 := F4432.keep K4444 (ninS ne4412 nin0)
        have F4502 := F4433.keep K4444 (ninS ne4413 nin0)
        have F4503 := F4434.keep K4444 (ninS ne4414 nin0)
        have F4504 := E4397.keep K4444
        refine C.astore (Ls' := #[.val (.long x0), .second, .val (.long x1), .second, .val (.long x2), .second, .val (.long x3), .second, .val (.long x4), .second, iv x5, iv 2, .val (.long c12), .second, iv b14, rv a4114, rv a4133, rv a4157, rv a4168, rv a4188, rv a4219, rv a4188, rv a4263, rv a4395, .unset, .unset, .unset]) at_190 rfl rfl rfl ?_
        refine C.iconst (-1) at_192 rfl rfl ?_
        refine C.istore (Ls' := #[.val (.long x0), .second, .val (.long x1), .second, .val (.long x2), .second, .val (.long x3), .second, .val (.long x4), .second, iv x5, iv 2, .val (.long c12), .second, iv b14, rv a4114, rv a4133, rv a4157, rv a4168, rv a4188, rv a4219, rv a4188, rv a4263, rv a4395, iv (-1), .unset, .unset]) at_193 rfl rfl ?_
        rcases h14 with q14 | q14
        · rw [q14]
          refine C.iload at_195 rfl rfl ?_
          refine C.if_eq_t at_197 (by decide) rfl (by decide) ?_
          refine C.aload at_223 rfl rfl rfl ?_
          refine C.aload at_225 rfl rfl rfl ?_
          refine C.iconst 0 at_227 rfl rfl ?_
          refine C.iconst 3 at_228 rfl rfl ?_
          refine C.callV (argsL := [(.ref a4114), (.int 0), (.int 3)]) (rest := []) 0 (fun zz => au2768_4 l Z a0 hw n0 h4440 zz a4395 a4114 a4442 a4443 x0 x1 x2 F4504 F4446 F4447 F4448 F4449 F4484 F4450 F4451 g4401 g4119 g4452 g4454 (Ne.symm ne4402) ne4469 ne4483 ne4456 ne4470 ne4445) F4504 at_229 rfl (tw hw 37 rfl) (tw hw 38 rfl) (tw hw 39 rfl) (tw hw 40 rfl) (tw hw 26 rfl) (tw hw 41 rfl) (by decide) pd_9 rfl rfl rfl (Nat.le_of_eq rfl) (by decide) (by decide) (by decide) (by decide) (fun v4509 h4510 r4511 => ?_)
          obtain ⟨rfl, K4512, F4513⟩ := r4511
          have F4514 := F4484.keep K4512 (ninS ne4470 nin0)
          have F4515 := F4485.keep K4512 (ninS ne4471 nin0)
          have F4516 := F4486.keep K4512 (ninS ne4472 nin0)
          have F4517 := F4487.keep K4512 (ninS ne4473 nin0)
          have F4518 := F4488.keep K4512 (ninS ne4474 nin0)
          have F4519 := F4489.keep K4512 (ninS ne4475 nin0)
          have F4520 := F4490.keep K4512
          have F4521 := F4491.keep K4512 (ninS ne4476 nin0)
          have F4522 := F4492.keep K4512 (ninS ne4476 nin0)
          have F4523 := F4493.keep K4512 (ninS ne4476 nin0)
          have F4524 := F4494.keep K4512 (ninS ne4476 nin0)
          have F4525 := F4495.keep K4512 (ninS ne4476 nin0)
          have F4526 := F4496.keep K4512 (ninS ne4476 nin0)
          have F4527 := F4497.keep K4512 (ninS ne4476 nin0)
          have F4528 := F4498.keep K4512 (ninS ne4477 nin0)
          have F4529 := F4499.keep K4512 (ninS ne4478 nin0)
          have F4530 := F4500.keep K4512 (ninS ne4479 nin0)
          have F4531 := F4501.keep K4512 (ninS ne4480 nin0)
          have F4532 := F4502.keep K4512 (ninS ne4481 nin0)
          have F4533 := F4503.keep K4512 (ninS ne4482 nin0)
          have F4534 := F4504.keep K4512
          have F4535 := F4446.keep K4512 (ninS ne4483 nin0)
          have F4536 := F4447.keep K4512 (ninS ne4483 nin0)
          have F4537 := F4448.keep K4512 (ninS ne4483 nin0)
          have F4538 := F4449.keep K4512 (ninS ne4483 nin0)
          have F4539 := F4450.keep K4512 (ninS ne4445 nin0)
          refine C.aload at_232 rfl rfl rfl ?_
          refine C.aload at_234 rfl rfl rfl ?_
          refine C.callV (argsL := [(.ref a4395)]) (rest := []) 0 (fun zz => con_num0 l Z a0 hw n0 h4510 zz a4263 a4295 a4293 a4297 a4294 a4292 a4296 a4395 a4443 a4442 x0 x1 x2 0 ([.int 0, .int 0, .int 0]) F4520 F4525 F4522 F4527 F4524 F4521 F4526 F4523 F4531 F4529 F4533 F4530 F4528 F4532 F4534 F4538 F4536 F4537 F4535 F4513 F4539 g4269 g4333 g4329 g4337 g4331 g4327 g4335 g4401 g4452 ne4366 ne4352 ne4380 ne4359 ne4345 ne4373 ne4408 ne4476 ne4462 (Ne.symm ne4305) ne4312 (Ne.symm ne4308) (Ne.symm ne4301) ne4311 ne4412 ne4480 ne4466 ne4307 ne4304 (Ne.symm ne4299) ne4306 ne4410 ne4478 ne4464 (Ne.symm ne4310) (Ne.symm ne4303) (Ne.symm ne4313) ne4414 ne4482 ne4468 (Ne.symm ne4300) ne4309 ne4411 ne4479 ne4465 ne4302 ne4409 ne4477 ne4463 ne4413 ne4481 ne4467 ne4483 ne4469 (Ne.symm ne4445) rfl) F4520 at_236 rfl (tw hw 42 rfl) (tw hw 43 rfl) (tw hw 44 rfl) (tw hw 45 rfl) (tw hw 4 rfl) (tw hw 46 rfl) (by decide) pd_5 rfl rfl rfl (Nat.le_of_eq rfl) (by decide) (by decide) (by decide) (by decide) (fun v4541 h4542 r4543 => ?_)
          obtain ⟨y4544, y4545, y4546, y4547, rfl, K4548, F4549, F4550, F4551, F4552, F4553, F4554, F4555, F4556, F4557, F4558, F4559, F4560, F4561, F4562, F4563, F4564, F4565, F4566, u4567, u4568⟩ := r4543
          have F4569 := F4514.keep K4548 (ninS ne4270 (ninS ne4360 (ninS ne4346 (ninS ne4374 (ninS ne4353 (ninS ne4339 (ninS ne4367 (ninS ne4402 (ninS ne4456 nin0)))))))))
          have F4570 := F4515.keep K4548 (ninS ne4271 (ninS ne4361 (ninS ne4347 (ninS ne4375 (ninS ne4354 (ninS ne4340 (ninS ne4368 (ninS ne4403 (ninS ne4457 nin0)))))))))
          have F4571 := F4516.keep K4548 (ninS ne4272 (ninS ne4362 (ninS ne4348 (ninS ne4376 (ninS ne4355 (ninS ne4341 (ninS ne4369 (ninS ne4404 (ninS ne4458 nin0)))))))))
          have F4572 := F4517.keep K4548 (ninS ne4273 (ninS ne4363 (ninS ne4349 (ninS ne4377 (ninS ne4356 (ninS ne4342 (ninS ne4370 (ninS ne4405 (ninS ne4459 nin0)))))))))
          have F4573 := F4518.keep K4548 (ninS ne4274 (ninS ne4364 (ninS ne4350 (ninS ne4378 (ninS ne4357 (ninS ne4343 (ninS ne4371 (ninS ne4406 (ninS ne4460 nin0)))))))))
          have F4574 := F4519.keep K4548 (ninS ne4275 (ninS ne4365 (ninS ne4351 (ninS ne4379 (ninS ne4358 (ninS ne4344 (ninS ne4372 (ninS ne4407 (ninS ne4461 nin0)))))))))
          have F4575 := F4520.keep K4548
          have F4589 := F4534.keep K4548
          have F4595 := F4513.keep K4548 (ninS (Ne.symm ne4476) (ninS (Ne.symm ne4480) (ninS (Ne.symm ne4478) (ninS (Ne.symm ne4482) (ninS (Ne.symm ne4479) (ninS (Ne.symm ne4477) (ninS (Ne.symm ne4481) (ninS (Ne.symm ne4483) (ninS (Ne.symm ne4445) nin0)))))))))
          refine C.istore (Ls' := #[.val (.long x0), .second, .val (.long x1), .second, .val (.long x2), .second, .val (.long x3), .second, .val (.long x4), .second, iv x5, iv 2, .val (.long c12), .second, iv 0, rv a4114, rv a4133, rv a4157, rv a4168, rv a4188, rv a4219, rv a4188, rv a4263, rv a4395, iv (-1), iv 0, .unset]) at_239 rfl rfl ?_
          refine C.aload at_241 rfl rfl rfl ?_
          refine C.iload at_243 rfl rfl ?_
          refine C.aload at_245 rfl rfl rfl ?_
          refine C.callV (argsL := [(.int 0), (.ref a4188)]) (rest := []) 0 (fun zz => con_is2 l Z a0 hw n0 h4542 zz a4263 a4295 a4293 a4297 a4188 0 (own_c3 x0 x1 x2) (.int 0 :: .int (Int32.ofNat (own_c3 x0 x1 x2).length) :: zI15) (own_ix (own_c3 x0 x1 x2)) (own_wd (own_c3 x0 x1 x2)) (.int (own_sz (own_c3 x0 x1 x2)) :: zI15) x3 x4 F4549 F4550 F4551 F4556 F4557 F4558 F4573 (by have q := own_set0 (own_c3 x0 x1 x2) [] [] zI15 zI15 (own_c3len x0 x1 x2); rw [List.append_nil] at q; exact q) (own_c3len x0 x1 x2) (own_c3rg x0 x1 x2)) F4575 at_247 rfl (tw hw 86 rfl) (tw hw 87 rfl) (tw hw 88 rfl) (tw hw 89 rfl) (tw hw 4 rfl) (tw hw 90 rfl) (by decide) pd_10 rfl rfl rfl (Nat.le_of_eq rfl) (by decide) (by decide) (by decide) (by decide) (fun v4596 h4597 r4598 => ?_)
          obtain ⟨rfl, rfl⟩ := r4598
          refine C.lloadN at_250 rfl rfl ?_
          refine C.lloadN at_251 rfl rfl ?_
          refine C.lload at_252 rfl rfl ?_
          refine C.lload at_254 rfl rfl ?_
          refine C.lload at_256 rfl rfl ?_
          refine C.lload at_258 rfl rfl ?_
          refine C.iload at_260 rfl rfl ?_
          refine C.callS (argsL := [(.long x0), (.long x1), (.long x2), (.long x3), (.long x4), (.long c12), (.int 2)]) (rest := [(.int (own_mt 2 x3 x4 0 (own_c3 x0 x1 x2)))]) 1 (fun zz => con_ep l Z a0 hw n0 h4542 zz x0 x1 x2 x3 x4 c12 2 ) at_262 rfl (tw hw 91 rfl) (tw hw 92 rfl) (tw hw 93 rfl) (tw hw 94 rfl) (by decide) pd_11 rfl rfl rfl (Nat.le_of_eq rfl) (by decide) (by decide) (by decide) (by decide) (fun v4600 h4601 r4602 => ?_)
          obtain ⟨rfl, rfl⟩ := r4602
          refine C.icmp_ne_f at_265 rfl ((own_pl _ _ _ _ _ _ _).trans (own_epq2 _ _ _ _ _ _ _)) ?_
          refine C.iconst 1 at_268 rfl rfl ?_
          refine C.goto at_269 (by decide) rfl ?_
          refine C.istore (Ls' := #[.val (.long x0), .second, .val (.long x1), .second, .val (.long x2), .second, .val (.long x3), .second, .val (.long x4), .second, iv x5, iv 2, .val (.long c12), .second, iv 0, rv a4114, rv a4133, rv a4157, rv a4168, rv a4188, rv a4219, rv a4188, rv a4263, rv a4395, iv (-1), iv 0, iv 1]) at_273 rfl rfl ?_
          refine C.iload at_275 rfl rfl ?_
          refine C.if_eq_t at_277 (by decide) rfl (by decide) ?_
          refine C.iload at_338 rfl rfl ?_
          exact C.retZ at_340 rfl (by decide) (by decide) ⟨rfl, trivial⟩
        rw [q14]
        refine C.iload at_195 rfl rfl ?_
        refine C.if_eq_f at_197 rfl (by decide) ?_
        refine C.aload at_200 rfl rfl rfl ?_
        refine C.aload at_202 rfl rfl rfl ?_
        refine C.iconst 0 at_204 rfl rfl ?_
        refine C.iconst 3 at_205 rfl rfl ?_
        refine C.callV (argsL := [(.ref a4133), (.int 0), (.int 3)]) (rest := []) 0 (fun zz => au2768_4 l Z a0 hw n0 h4440 zz a4395 a4133 a4442 a4443 (x0 ^^^ (-1 : Int64)) (x1 ^^^ (-1 : Int64)) (x2 ^^^ (-1 : Int64)) F4504 F4446 F4447 F4448 F4449 F4485 F4450 F4451 g4401 g4138 g4452 g4454 (Ne.symm ne4403) ne4469 ne4483 ne4457 ne4471 ne4445) F4504 at_206 rfl (tw hw 37 rfl) (tw hw 38 rfl) (tw hw 39 rfl) (tw hw 40 rfl) (tw hw 26 rfl) (tw hw 41 rfl) (by decide) pd_9 rfl rfl rfl (Nat.le_of_eq rfl) (by decide) (by decide) (by decide) (by decide) (fun v4604 h4605 r4606 => ?_)
        obtain ⟨rfl, K4607, F4608⟩ := r4606
        have F4609 := F4484.keep K4607 (ninS ne4470 nin0)
        have F4610 := F4485.keep K4607 (ninS ne4471 nin0)
        have F4611 := F4486.keep K4607 (ninS ne4472 nin0)
        have F4612 := F4487.keep K4607 (ninS ne4473 nin0)
        have F4613 := F4488.keep K4607 (ninS ne4474 nin0)
        have F4614 := F4489.keep K4607 (ninS ne4475 nin0)
        have F4615 := F4490.keep K4607
        have F4616 := F4491.keep K4607 (ninS ne4476 nin0)
        have F4617 := F4492.keep K4607 (ninS ne4476 nin0)
        have F4618 := F4493.keep K4607 (ninS ne4476 nin0)
        have F4619 := F4494.keep K4607 (ninS ne4476 nin0)
        have F4620 := F4495.keep K4607 (ninS ne4476 nin0)
        have F4621 := F4496.keep K4607 (ninS ne4476 nin0)
        have F4622 := F4497.keep K4607 (ninS ne4476 nin0)
        have F4623 := F4498.keep K4607 (ninS ne4477 nin0)
        have F4624 := F4499.keep K4607 (ninS ne4478 nin0)
        have F4625 := F4500.keep K4607 (ninS ne4479 nin0)
        have F4626 := F4501.keep K4607 (ninS ne4480 nin0)
        have F4627 := F4502.keep K4607 (ninS ne4481 nin0)
        have F4628 := F4503.keep K4607 (ninS ne4482 nin0)
        have F4629 := F4504.keep K4607
        have F4630 := F4446.keep K4607 (ninS ne4483 nin0)
        have F4631 := F4447.keep K4607 (ninS ne4483 nin0)
        have F4632 := F4448.keep K4607 (ninS ne4483 nin0)
        have F4633 := F4449.keep K4607 (ninS ne4483 nin0)
        have F4634 := F4450.keep K4607 (ninS ne4445 nin0)
        refine C.aload at_209 rfl rfl rfl ?_
        refine C.aload at_211 rfl rfl rfl ?_
        refine C.callV (argsL := [(.ref a4395)]) (rest := []) 0 (fun zz => con_num0 l Z a0 hw n0 h4605 zz a4263 a4295 a4293 a4297 a4294 a4292 a4296 a4395 a4443 a4442 (x0 ^^^ (-1 : Int64)) (x1 ^^^ (-1 : Int64)) (x2 ^^^ (-1 : Int64)) 0 ([.int 0, .int 0, .int 0]) F4615 F4620 F4617 F4622 F4619 F4616 F4621 F4618 F4626 F4624 F4628 F4625 F4623 F4627 F4629 F4633 F4631 F4632 F4630 F4608 F4634 g4269 g4333 g4329 g4337 g4331 g4327 g4335 g4401 g4452 ne4366 ne4352 ne4380 ne4359 ne4345 ne4373 ne4408 ne4476 ne4462 (Ne.symm ne4305) ne4312 (Ne.symm ne4308) (Ne.symm ne4301) ne4311 ne4412 ne4480 ne4466 ne4307 ne4304 (Ne.symm ne4299) ne4306 ne4410 ne4478 ne4464 (Ne.symm ne4310) (Ne.symm ne4303) (Ne.symm ne4313) ne4414 ne4482 ne4468 (Ne.symm ne4300) ne4309 ne4411 ne4479 ne4465 ne4302 ne4409 ne4477 ne4463 ne4413 ne4481 ne4467 ne4483 ne4469 (Ne.symm ne4445) rfl) F4615 at_213 rfl (tw hw 42 rfl) (tw hw 43 rfl) (tw hw 44 rfl) (tw hw 45 rfl) (tw hw 4 rfl) (tw hw 46 rfl) (by decide) pd_5 rfl rfl rfl (Nat.le_of_eq rfl) (by decide) (by decide) (by decide) (by decide) (fun v4636 h4637 r4638 => ?_)
        obtain ⟨y4639, y4640, y4641, y4642, rfl, K4643, F4644, F4645, F4646, F4647, F4648, F4649, F4650, F4651, F4652, F4653, F4654, F4655, F4656, F4657, F4658, F4659, F4660, F4661, u4662, u4663⟩ := r4638
        have F4664 := F4609.keep K4643 (ninS ne4270 (ninS ne4360 (ninS ne4346 (ninS ne4374 (ninS ne4353 (ninS ne4339 (ninS ne4367 (ninS ne4402 (ninS ne4456 nin0)))))))))
        have F4665 := F4610.keep K4643 (ninS ne4271 (ninS ne4361 (ninS ne4347 (ninS ne4375 (ninS ne4354 (ninS ne4340 (ninS ne4368 (ninS ne4403 (ninS ne4457 nin0)))))))))
        have F4666 := F4611.keep K4643 (ninS ne4272 (ninS ne4362 (ninS ne4348 (ninS ne4376 (ninS ne4355 (ninS ne4341 (ninS ne4369 (ninS ne4404 (ninS ne4458 nin0)))))))))
        have F4667 := F4612.keep K4643 (ninS ne4273 (ninS ne4363 (ninS ne4349 (ninS ne4377 (ninS ne4356 (ninS ne4342 (ninS ne4370 (ninS ne4405 (ninS ne4459 nin0)))))))))
        have F4668 := F4613.keep K4643 (ninS ne4274 (ninS ne4364 (ninS ne4350 (ninS ne4378 (ninS ne4357 (ninS ne4343 (ninS ne4371 (ninS ne4406 (ninS ne4460 nin0)))))))))
        have F4669 := F4614.keep K4643 (ninS ne4275 (ninS ne4365 (ninS ne4351 (ninS ne4379 (ninS ne4358 (ninS ne4344 (ninS ne4372 (ninS ne4407 (ninS ne4461 nin0)))))))))
        have F4670 := F4615.keep K4643
        have F4684 := F4629.keep K4643
        have F4690 := F4608.keep K4643 (ninS (Ne.symm ne4476) (ninS (Ne.symm ne4480) (ninS (Ne.symm ne4478) (ninS (Ne.symm ne4482) (ninS (Ne.symm ne4479) (ninS (Ne.symm ne4477) (ninS (Ne.symm ne4481) (ninS (Ne.symm ne4483) (ninS (Ne.symm ne4445) nin0)))))))))
        refine C.istore (Ls' := #[.val (.long x0), .second, .val (.long x1), .second, .val (.long x2), .second, .val (.long x3), .second, .val (.long x4), .second, iv x5, iv 2, .val (.long c12), .second, iv 1, rv a4114, rv a4133, rv a4157, rv a4168, rv a4188, rv a4219, rv a4188, rv a4263, rv a4395, iv 0, .unset, .unset]) at_216 rfl rfl ?_
        refine C.aload at_218 rfl rfl rfl ?_
        refine C.callV (argsL := []) (rest := []) 0 (fun zz => au3050_15 l Z a0 hw n0 h4637 zz a4395 y4640 a4442 a4443 y4639 (x0 ^^^ (-1 : Int64)) (x1 ^^^ (-1 : Int64)) (x2 ^^^ (-1 : Int64)) F4684 F4660 F4658 F4659 F4657 F4661 F4690 g4401 g4452 g4454 ne4469 ne4483 ne4445) F4684 at_220 rfl (tw hw 95 rfl) (tw hw 96 rfl) (tw hw 97 rfl) (tw hw 98 rfl) (tw hw 26 rfl) (tw hw 99 rfl) (by decide) pd_4 rfl rfl rfl (Nat.le_of_eq rfl) (by decide) (by decide) (by decide) (by decide) (fun v4691 h4692 r4693 => ?_)
        obtain ⟨rfl, K4694, F4695, F4696, F4697, F4698, F4699⟩ := r4693
        have F4700 := F4664.keep K4694 (ninS ne4402 (ninS ne4470 nin0))
        have F4701 := F4665.keep K4694 (ninS ne4403 (ninS ne4471 nin0))
        have F4702 := F4666.keep K4694 (ninS ne4404 (ninS ne4472 nin0))
        have F4703 := F4667.keep K4694 (ninS ne4405 (ninS ne4473 nin0))
        have F4704 := F4668.keep K4694 (ninS ne4406 (ninS ne4474 nin0))
        have F4705 := F4669.keep K4694 (ninS ne4407 (ninS ne4475 nin0))
        have F4706 := F4670.keep K4694
        have F4707 := F4684.keep K4694
        have F4709 := F4644.keep K4694 (ninS ne4408 (ninS ne4476 nin0))
        have F4710 := F4645.keep K4694 (ninS ne4408 (ninS ne4476 nin0))
        have F4711 := F4646.keep K4694 (ninS ne4408 (ninS ne4476 nin0))
        have F4712 := F4647.keep K4694 (ninS ne4408 (ninS ne4476 nin0))
        have F4713 := F4648.keep K4694 (ninS ne4408 (ninS ne4476 nin0))
        have F4714 := F4649.keep K4694 (ninS ne4408 (ninS ne4476 nin0))
        have F4715 := F4650.keep K4694 (ninS ne4408 (ninS ne4476 nin0))
        have F4716 := F4651.keep K4694 (ninS ne4412 (ninS ne4480 nin0))
        have F4717 := F4652.keep K4694 (ninS ne4410 (ninS ne4478 nin0))
        have F4718 := F4653.keep K4694 (ninS ne4414 (ninS ne4482 nin0))
        have F4719 := F4654.keep K4694 (ninS ne4411 (ninS ne4479 nin0))
        have F4720 := F4655.keep K4694 (ninS ne4409 (ninS ne4477 nin0))
        have F4721 := F4656.keep K4694 (ninS ne4413 (ninS ne4481 nin0))
        have F4726 := F4661.keep K4694 (ninS (Ne.symm ne4469) (ninS ne4445 nin0))
        refine C.aload at_223 rfl rfl rfl ?_
        refine C.aload at_225 rfl rfl rfl ?_
        refine C.iconst 0 at_227 rfl rfl ?_
        refine C.iconst 3 at_228 rfl rfl ?_
        refine C.callV (argsL := [(.ref a4114), (.int 0), (.int 3)]) (rest := []) 0 (fun zz => au3187_4 l Z a0 hw n0 h4692 zz a4395 a4114 a4442 a4443 x0 x1 x2 y4639 F4707 F4695 F4696 F4697 F4698 F4700 F4726 F4699 g4401 g4119 g4452 g4454 (Ne.symm ne4402) ne4469 ne4483 ne4456 ne4470 ne4445) F4707 at_229 rfl (tw hw 37 rfl) (tw hw 38 rfl) (tw hw 39 rfl) (tw hw 40 rfl) (tw hw 26 rfl) (tw hw 41 rfl) (by decide) pd_9 rfl rfl rfl (Nat.le_of_eq rfl) (by decide) (by decide) (by decide) (by decide) (fun v4727 h4728 r4729 => ?_)
        obtain ⟨rfl, K4730, F4731⟩ := r4729
        have F4732 := F4700.keep K4730 (ninS ne4470 nin0)
        have F4733 := F4701.keep K4730 (ninS ne4471 nin0)
        have F4734 := F4702.keep K4730 (ninS ne4472 nin0)
        have F4735 := F4703.keep K4730 (ninS ne4473 nin0)
        have F4736 := F4704.keep K4730 (ninS ne4474 nin0)
        have F4737 := F4705.keep K4730 (ninS ne4475 nin0)
        have F4738 := F4706.keep K4730
        have F4739 := F4707.keep K4730
        have F4740 := F4709.keep K4730 (ninS ne4476 nin0)
        have F4741 := F4710.keep K4730 (ninS ne4476 nin0)
        have F4742 := F4711.keep K4730 (ninS ne4476 nin0)
        have F4743 := F4712.keep K4730 (ninS ne4476 nin0)
        have F4744 := F4713.keep K4730 (ninS ne4476 nin0)
        have F4745 := F4714.keep K4730 (ninS ne4476 nin0)
        have F4746 := F4715.keep K4730 (ninS ne4476 nin0)
        have F4747 := F4716.keep K4730 (ninS ne4480 nin0)
        have F4748 := F4717.keep K4730 (ninS ne4478 nin0)
        have F4749 := F4718.keep K4730 (ninS ne4482 nin0)
        have F4750 := F4719.keep K4730 (ninS ne4479 nin0)
        have F4751 := F4720.keep K4730 (ninS ne4477 nin0)
        have F4752 := F4721.keep K4730 (ninS ne4481 nin0)
        have F4753 := F4726.keep K4730 (ninS ne4445 nin0)
        have F4754 := F4695.keep K4730 (ninS ne4483 nin0)
        have F4755 := F4696.keep K4730 (ninS ne4483 nin0)
        have F4756 := F4697.keep K4730 (ninS ne4483 nin0)
        have F4757 := F4698.keep K4730 (ninS ne4483 nin0)
        refine C.aload at_232 rfl rfl rfl ?_
        refine C.aload at_234 rfl rfl rfl ?_
        refine C.callV (argsL := [(.ref a4395)]) (rest := []) 0 (fun zz => con_num1 l Z a0 hw n0 h4728 zz a4263 a4295 a4293 a4297 a4294 a4292 a4296 a4395 a4443 a4442 x0 x1 x2 0 y4639 (own_c3 (x0 ^^^ (-1 : Int64)) (x1 ^^^ (-1 : Int64)) (x2 ^^^ (-1 : Int64))) y4641 y4642 F4738 F4740 F4741 F4742 F4743 F4744 F4745 F4746 F4747 F4748 F4749 F4750 F4751 F4752 F4739 F4757 F4755 F4756 F4754 F4731 F4753 g4269 g4333 g4329 g4337 g4331 g4327 g4335 g4401 g4452 ne4366 ne4352 ne4380 ne4359 ne4345 ne4373 ne4408 ne4476 ne4462 (Ne.symm ne4305) ne4312 (Ne.symm ne4308) (Ne.symm ne4301) ne4311 ne4412 ne4480 ne4466 ne4307 ne4304 (Ne.symm ne4299) ne4306 ne4410 ne4478 ne4464 (Ne.symm ne4310) (Ne.symm ne4303) (Ne.symm ne4313) ne4414 ne4482 ne4468 (Ne.symm ne4300) ne4309 ne4411 ne4479 ne4465 ne4302 ne4409 ne4477 ne4463 ne4413 ne4481 ne4467 ne4483 ne4469 (Ne.symm ne4445) u4662 (own_c3len (x0 ^^^ (-1 : Int64)) (x1 ^^^ (-1 : Int64)) (x2 ^^^ (-1 : Int64))) u4663) F4738 at_236 rfl (tw hw 42 rfl) (tw hw 43 rfl) (tw hw 44 rfl) (tw hw 45 rfl) (tw hw 4 rfl) (tw hw 46 rfl) (by decide) pd_5 rfl rfl rfl (Nat.le_of_eq rfl) (by decide) (by decide) (by decide) (by decide) (fun v4759 h4760 r4761 => ?_)
        obtain ⟨y4762, y4763, y4764, y4765, y4766, y4767, y4768, rfl, K4769, F4770, F4771, F4772, F4773, F4774, F4775, F4776, F4777, F4778, F4779, F4780, F4781, F4782, F4783, F4784, u4785, u4786, u4787, u4788⟩ := r4761
        have F4789 := F4732.keep K4769 (ninS ne4270 (ninS ne4360 (ninS ne4346 (ninS ne4374 (ninS ne4353 (ninS ne4339 (ninS ne4367 (ninS ne4402 (ninS ne4456 nin0)))))))))
        have F4790 := F4733.keep K4769 (ninS ne4271 (ninS ne4361 (ninS ne4347 (ninS ne4375 (ninS ne4354 (ninS ne4340 (ninS ne4368 (ninS ne4403 (ninS ne4457 nin0)))))))))
        have F4791 := F4734.keep K4769 (ninS ne4272 (ninS ne4362 (ninS ne4348 (ninS ne4376 (ninS ne4355 (ninS ne4341 (ninS ne4369 (ninS ne4404 (ninS ne4458 nin0)))))))))
        have F4792 := F4735.keep K4769 (ninS ne4273 (ninS ne4363 (ninS ne4349 (ninS ne4377 (ninS ne4356 (ninS ne4342 (ninS ne4370 (ninS ne4405 (ninS ne4459 nin0)))))))))
        have F4793 := F4736.keep K4769 (ninS ne4274 (ninS ne4364 (ninS ne4350 (ninS ne4378 (ninS ne4357 (ninS ne4343 (ninS ne4371 (ninS ne4406 (ninS ne4460 nin0)))))))))
        have F4794 := F4737.keep K4769 (ninS ne4275 (ninS ne4365 (ninS ne4351 (ninS ne4379 (ninS ne4358 (ninS ne4344 (ninS ne4372 (ninS ne4407 (ninS ne4461 nin0)))))))))
        have F4795 := F4738.keep K4769
        have F4796 := F4739.keep K4769
        have F4815 := F4731.keep K4769 (ninS (Ne.symm ne4476) (ninS (Ne.symm ne4480) (ninS (Ne.symm ne4478) (ninS (Ne.symm ne4482) (ninS (Ne.symm ne4479) (ninS (Ne.symm ne4477) (ninS (Ne.symm ne4481) (ninS (Ne.symm ne4483) (ninS (Ne.symm ne4445) nin0)))))))))
        refine C.istore (Ls' := #[.val (.long x0), .second, .val (.long x1), .second, .val (.long x2), .second, .val (.long x3), .second, .val (.long x4), .second, iv x5, iv 2, .val (.long c12), .second, iv 1, rv a4114, rv a4133, rv a4157, rv a4168, rv a4188, rv a4219, rv a4188, rv a4263, rv a4395, iv 0, iv y4764, .unset]) at_239 rfl rfl ?_
        refine C.aload at_241 rfl rfl rfl ?_
        refine C.iload at_243 rfl rfl ?_
        refine C.aload at_245 rfl rfl rfl ?_
        refine C.callV (argsL := [(.int y4764), (.ref a4188)]) (rest := []) 0 (fun zz => con_is2 l Z a0 hw n0 h4760 zz a4263 a4295 a4293 a4297 a4188 y4764 (own_c3 x0 x1 x2) y4765 y4766 y4767 y4768 x3 x4 F4770 F4771 F4772 F4776 F4777 F4778 F4793 u4787 (own_c3len x0 x1 x2) (own_c3rg x0 x1 x2)) F4795 at_247 rfl (tw hw 86 rfl) (tw hw 87 rfl) (tw hw 88 rfl) (tw hw 89 rfl) (tw hw 4 rfl) (tw hw 90 rfl) (by decide) pd_10 rfl rfl rfl (Nat.le_of_eq rfl) (by decide) (by decide) (by decide) (by decide) (fun v4816 h4817 r4818 => ?_)
        obtain ⟨rfl, rfl⟩ := r4818
        refine C.lloadN at_250 rfl rfl ?_
        refine C.lloadN at_251 rfl rfl ?_
        refine C.lload at_252 rfl rfl ?_
        refine C.lload at_254 rfl rfl ?_
        refine C.lload at_256 rfl rfl ?_
        refine C.lload at_258 rfl rfl ?_
        refine C.iload at_260 rfl rfl ?_
        refine C.callS (argsL := [(.long x0), (.long x1), (.long x2), (.long x3), (.long x4), (.long c12), (.int 2)]) (rest := [(.int (own_mt 2 x3 x4 0 (own_c3 x0 x1 x2)))]) 1 (fun zz => con_ep l Z a0 hw n0 h4760 zz x0 x1 x2 x3 x4 c12 2 ) at_262 rfl (tw hw 91 rfl) (tw hw 92 rfl) (tw hw 93 rfl) (tw hw 94 rfl) (by decide) pd_11 rfl rfl rfl (Nat.le_of_eq rfl) (by decide) (by decide) (by decide) (by decide) (fun v4820 h4821 r4822 => ?_)
        obtain ⟨rfl, rfl⟩ := r4822
        refine C.icmp_ne_f at_265 rfl ((own_pl _ _ _ _ _ _ _).trans (own_epq2 _ _ _ _ _ _ _)) ?_
        refine C.iconst 1 at_268 rfl rfl ?_
        refine C.goto at_269 (by decide) rfl ?_
        refine C.istore (Ls' := #[.val (.long x0), .second, .val (.long x1), .second, .val (.long x2), .second, .val (.long x3), .second, .val (.long x4), .second, iv x5, iv 2, .val (.long c12), .second, iv 1, rv a4114, rv a4133, rv a4157, rv a4168, rv a4188, rv a4219, rv a4188, rv a4263, rv a4395, iv 0, iv y4764, iv 1]) at_273 rfl rfl ?_
        refine C.iload at_275 rfl rfl ?_
        refine C.if_eq_f at_277 rfl (by decide) ?_
        refine C.iload at_280 rfl rfl ?_
        refine C.if_eq_f at_282 rfl (by decide) ?_
        refine C.iload at_285 rfl rfl ?_
        refine C.iload at_287 rfl rfl ?_
        refine C.icmp_eq_f at_289 rfl (fun q => own_cpl x0 (own_c3inj (u4788 q.symm))) ?_
        refine C.aload at_292 rfl rfl rfl ?_
        refine C.iload at_294 rfl rfl ?_
        refine C.aload at_296 rfl rfl rfl ?_
        refine C.callV (argsL := [(.int 0), (.ref a4188)]) (rest := []) 0 (fun zz => con_is2 l Z a0 hw n0 h4760 zz a4263 a4295 a4293 a4297 a4188 0 (own_c3 (x0 ^^^ (-1 : Int64)) (x1 ^^^ (-1 : Int64)) (x2 ^^^ (-1 : Int64))) y4765 y4766 y4767 y4768 x3 x4 F4770 F4771 F4772 F4776 F4777 F4778 F4793 u4786 (own_c3len (x0 ^^^ (-1 : Int64)) (x1 ^^^ (-1 : Int64)) (x2 ^^^ (-1 : Int64))) (own_c3rg (x0 ^^^ (-1 : Int64)) (x1 ^^^ (-1 : Int64)) (x2 ^^^ (-1 : Int64)))) F4795 at_298 rfl (tw hw 86 rfl) (tw hw 87 rfl) (tw hw 88 rfl) (tw hw 89 rfl) (tw hw 4 rfl) (tw hw 90 rfl) (by decide) pd_10 rfl rfl rfl (Nat.le_of_eq rfl) (by decide) (by decide) (by decide) (by decide) (fun v4824 h4825 r4826 => ?_)
        obtain ⟨rfl, rfl⟩ := r4826
        refine C.lloadN at_301 rfl rfl ?_
        refine C.ldc2J at_302 rfl (tw hw 1 rfl) ?_
        refine C.lxor at_305 rfl ?_
        refine C.lloadN at_306 rfl rfl ?_
        refine C.ldc2J at_307 rfl (tw hw 1 rfl) ?_
        refine C.lxor at_310 rfl ?_
        refine C.lload at_311 rfl rfl ?_
        refine C.ldc2J at_313 rfl (tw hw 1 rfl) ?_
        refine C.lxor at_316 rfl ?_
        refine C.lload at_317 rfl rfl ?_
        refine C.lload at_319 rfl rfl ?_
        refine C.lload at_321 rfl rfl ?_
        refine C.iload at_323 rfl rfl ?_
        refine C.callS (argsL := [(.long (x0 ^^^ (-1 : Int64))), (.long (x1 ^^^ (-1 : Int64))), (.long (x2 ^^^ (-1 : Int64))), (.long x3), (.long x4), (.long c12), (.int 2)]) (rest := [(.int (own_mt 2 x3 x4 0 (own_c3 (x0 ^^^ (-1 : Int64)) (x1 ^^^ (-1 : Int64)) (x2 ^^^ (-1 : Int64)))))]) 1 (fun zz => con_ep l Z a0 hw n0 h4760 zz (x0 ^^^ (-1 : Int64)) (x1 ^^^ (-1 : Int64)) (x2 ^^^ (-1 : Int64)) x3 x4 c12 2 ) at_325 rfl (tw hw 91 rfl) (tw hw 92 rfl) (tw hw 93 rfl) (tw hw 94 rfl) (by decide) pd_11 rfl rfl rfl (Nat.le_of_eq rfl) (by decide) (by decide) (by decide) (by decide) (fun v4828 h4829 r4830 => ?_)
        obtain ⟨rfl, rfl⟩ := r4830
        refine C.icmp_ne_f at_328 rfl ((own_pl _ _ _ _ _ _ _).trans (own_epq2 _ _ _ _ _ _ _)) ?_
        refine C.iconst 1 at_331 rfl rfl ?_
        refine C.goto at_332 (by decide) rfl ?_
        refine C.istore (Ls' := #[.val (.long x0), .second, .val (.long x1), .second, .val (.long x2), .second, .val (.long x3), .second, .val (.long x4), .second, iv x5, iv 2, .val (.long c12), .second, iv 1, rv a4114, rv a4133, rv a4157, rv a4168, rv a4188, rv a4219, rv a4188, rv a4263, rv a4395, iv 0, iv y4764, iv 1]) at_336 rfl rfl ?_
        refine C.iload at_338 rfl rfl ?_
        exact C.retZ at_340 rfl (by decide) (by decide) ⟨rfl, trivial⟩
      refine C.if_eq at_27 (by decide) rfl rfl (fun q27 => ?_) (fun q27 => ?_)
      · refine C.iconst 0 at_34 rfl rfl ?_
        exact (J35_4113 0 (Or.inl rfl)).more (by decide) (by decide)
      refine C.iconst 1 at_30 rfl rfl ?_
      refine C.goto at_31 (by decide) rfl ?_
      exact (J35_4113 1 (Or.inr rfl)).more (by decide) (by decide)
    refine C.if_eq at_10 (by decide) rfl rfl (fun q10 => ?_) (fun q10 => ?_)
    · refine C.lload at_18 rfl rfl ?_
      exact J20_4112 x4
    refine C.lload at_13 rfl rfl ?_
    refine C.goto at_15 (by decide) rfl ?_
    exact J20_4112 x3
  rw [ql]
  refine C.iload at_6 rfl rfl ?_
  refine C.iconst 4 at_8 rfl rfl ?_
  refine C.iand at_9 rfl ?_
  have J20_4832 : ∀ (c12 : Int64) , Go p l e room_1 s m #[(.long x0), (.long x1), (.long x2), (.long x3), (.long x4), (.int x5)] below meth c n0 (FinQ s n0 (Qcon0 Z n0 h0 x0 x1 x2 x3 x4 x5) room_1.cells room_1.slots) h0 0 0 20 #[.val (.long x0), .second, .val (.long x1), .second, .val (.long x2), .second, .val (.long x3), .second, .val (.long x4), .second, iv x5, iv 3, .unset, .unset, .unset, .unset, .unset, .unset, .unset, .unset, .unset, .unset, .unset, .unset, .unset, .unset, .unset] [(.long c12)] := by
    intro c12
    refine C.lstore (Ls' := #[.val (.long x0), .second, .val (.long x1), .second, .val (.long x2), .second, .val (.long x3), .second, .val (.long x4), .second, iv x5, iv 3, .val (.long c12), .second, .unset, .unset, .unset, .unset, .unset, .unset, .unset, .unset, .unset, .unset, .unset, .unset, .unset]) at_20 rfl rfl ?_
    refine C.iload at_22 rfl rfl ?_
    refine C.bipush 8 at_24 rfl rfl ?_
    refine C.iand at_26 rfl ?_
    have J35_4833 : ∀ (b14 : Int32) (h14 : b14 = 0 ∨ b14 = 1), Go p l e room_1 s m #[(.long x0), (.long x1), (.long x2), (.long x3), (.long x4), (.int x5)] below meth c n0 (FinQ s n0 (Qcon0 Z n0 h0 x0 x1 x2 x3 x4 x5) room_1.cells room_1.slots) h0 0 0 35 #[.val (.long x0), .second, .val (.long x1), .second, .val (.long x2), .second, .val (.long x3), .second, .val (.long x4), .second, iv x5, iv 3, .val (.long c12), .second, .unset, .unset, .unset, .unset, .unset, .unset, .unset, .unset, .unset, .unset, .unset, .unset, .unset] [(.int b14)] := by
      intro b14 h14
      refine C.istore (Ls' := #[.val (.long x0), .second, .val (.long x1), .second, .val (.long x2), .second, .val (.long x3), .second, .val (.long x4), .second, iv x5, iv 3, .val (.long c12), .second, iv b14, .unset, .unset, .unset, .unset, .unset, .unset, .unset, .unset, .unset, .unset, .unset, .unset]) at_35 rfl rfl ?_
      refine C.iconst 3 at_37 rfl rfl ?_
      refine C.newarr 3 at_38 rfl rfl (tw hw 0 rfl) (by decide) (by decide) (by decide) (by decide) (by decide) (fun a4834 h4835 z4838 g4839 X4836 F4837 => ?_)
      have F4840 : Av Z h4835 a4834 .long ([.long 0, .long 0, .long 0]) := F4837
      refine C.dup at_40 rfl rfl ?_
      refine C.iconst 0 at_41 rfl rfl ?_
      refine C.lloadN at_42 rfl rfl ?_
      refine C.lastore at_43 rfl F4840 g4839 (by decide) (Nat.le_of_ble_eq_true rfl) (fun h4841 W4842 F4843 => ?_)
      have F4844 : Av Z h4841 a4834 .long ([.long x0, .long 0, .long 0]) := F4843
      refine C.dup at_44 rfl rfl ?_
      refine C.iconst 1 at_45 rfl rfl ?_
      refine C.lloadN at_46 rfl rfl ?_
      refine C.lastore at_47 rfl F4844 g4839 (by decide) (Nat.le_of_ble_eq_true rfl) (fun h4845 W4846 F4847 => ?_)
      have F4848 : Av Z h4845 a4834 .long ([.long x0, .long x1, .long 0]) := F4847
      refine C.dup at_48 rfl rfl ?_
      refine C.iconst 2 at_49 rfl rfl ?_
      refine C.lload at_50 rfl rfl ?_
      refine C.lastore at_52 rfl F4848 g4839 (by decide) (Nat.le_of_ble_eq_true rfl) (fun h4849 W4850 F4851 => ?_)
      have F4852 : Av Z h4849 a4834 .long ([.long x0, .long x1, .long x2]) := F4851
      refine C.astore (Ls' := #[.val (.long x0), .second, .val (.long x1), .second, .val (.long x2), .second, .val (.long x3), .second, .val (.long x4), .second, iv x5, iv 3, .val (.long c12), .second, iv b14, rv a4834, .unset, .unset, .unset, .unset, .unset, .unset, .unset, .unset, .unset, .unset, .unset]) at_53 rfl rfl rfl ?_
      refine C.iconst 3 at_55 rfl rfl ?_
      refine C.newarr 3 at_56 rfl rfl (tw hw 0 rfl) (by decide) (by decide) (by decide) (by decide) (by decide) (fun a4853 h4854 z4857 g4858 X4855 F4856 => ?_)
      have ne4859 : a4834 ≠ a4853 := by rw [z4857]; exact Nat.ne_of_lt F4852.lt
      have F4860 := F4852.ext X4855
      have F4861 : Av Z h4854 a4853 .long ([.long 0, .long 0, .long 0]) := F4856
      refine C.dup at_58 rfl rfl ?_
      refine C.iconst 0 at_59 rfl rfl ?_
      refine C.lloadN at_60 rfl rfl ?_
      refine C.ldc2J at_61 rfl (tw hw 1 rfl) ?_
      refine C.lxor at_64 rfl ?_
      refine C.lastore at_65 rfl F4861 g4858 (by decide) (Nat.le_of_ble_eq_true rfl) (fun h4862 W4863 F4864 => ?_)
      have F4865 := F4860.other W4863 ne4859
      have F4866 : Av Z h4862 a4853 .long ([.long (x0 ^^^ (-1 : Int64)), .long 0, .long 0]) := F4864
      refine C.dup at_66 rfl rfl ?_
      refine C.iconst 1 at_67 rfl rfl ?_
      refine C.lloadN at_68 rfl rfl ?_
      refine C.ldc2J at_69 rfl (tw hw 1 rfl) ?_
      refine C.lxor at_72 rfl ?_
      refine C.lastore at_73 rfl F4866 g4858 (by decide) (Nat.le_of_ble_eq_true rfl) (fun h4867 W4868 F4869 => ?_)
      have F4870 := F4865.other W4868 ne4859
      have F4871 : Av Z h4867 a4853 .long ([.long (x0 ^^^ (-1 : Int64)), .long (x1 ^^^ (-1 : Int64)), .long 0]) := F4869
      refine C.dup at_74 rfl rfl ?_
      refine C.iconst 2 at_75 rfl rfl ?_
      refine C.lload at_76 rfl rfl ?_
      refine C.ldc2J at_78 rfl (tw hw 1 rfl) ?_
      refine C.lxor at_81 rfl ?_
      refine C.lastore at_82 rfl F4871 g4858 (by decide) (Nat.le_of_ble_eq_true rfl) (fun h4872 W4873 F4874 => ?_)
      have F4875 := F4870.other W4873 ne4859
      have F4876 : Av Z h4872 a4853 .long ([.long (x0 ^^^ (-1 : Int64)), .long (x1 ^^^ (-1 : Int64)), .long (x2 ^^^ (-1 : Int64))]) := F4874
      refine C.astore (Ls' := #[.val (.long x0), .second, .val (.long x1), .second, .val (.long x2), .second, .val (.long x3), .second, .val (.long x4), .second, iv x5, iv 3, .val (.long c12), .second, iv b14, rv a4834, rv a4853, .unset, .unset, .unset, .unset, .unset, .unset, .unset, .unset, .unset, .unset]) at_83 rfl rfl rfl ?_
      refine C.iconst 0 at_85 rfl rfl ?_
      refine C.newarr 0 at_86 rfl rfl (tw hw 0 rfl) (by decide) (by decide) (by decide) (by decide) (by decide) (fun a4877 h4878 z4881 g4882 X4879 F4880 => ?_)
      have ne4883 : a4834 ≠ a4877 := by rw [z4881]; exact Nat.ne_of_lt F4875.lt
      have ne4884 : a4853 ≠ a4877 := by rw [z4881]; exact Nat.ne_of_lt F4876.lt
      have F4885 := F4875.ext X4879
      have F4886 := F4876.ext X4879
      have F4887 : Av Z h4878 a4877 .long ([]) := F4880
      refine C.astore (Ls' := #[.val (.long x0), .second, .val (.long x1), .second, .val (.long x2), .second, .val (.long x3), .second, .val (.long x4), .second, iv x5, iv 3, .val (.long c12), .second, iv b14, rv a4834, rv a4853, rv a4877, .unset, .unset, .unset, .unset, .unset, .unset, .unset, .unset, .unset]) at_88 rfl rfl rfl ?_
      refine C.iconst 1 at_90 rfl rfl ?_
      refine C.newarr 1 at_91 rfl rfl (tw hw 0 rfl) (by decide) (by decide) (by decide) (by decide) (by decide) (fun a4888 h4889 z4892 g4893 X4890 F4891 => ?_)
      have ne4894 : a4834 ≠ a4888 := by rw [z4892]; exact Nat.ne_of_lt F4885.lt
      have ne4895 : a4853 ≠ a4888 := by rw [z4892]; exact Nat.ne_of_lt F4886.lt
      have ne4896 : a4877 ≠ a4888 := by rw [z4892]; exact Nat.ne_of_lt F4887.lt
      have F4897 := F4885.ext X4890
      have F4898 := F4886.ext X4890
      have F4899 := F4887.ext X4890
      have F4900 : Av Z h4889 a4888 .long ([.long 0]) := F4891
      refine C.dup at_93 rfl rfl ?_
      refine C.iconst 0 at_94 rfl rfl ?_
      refine C.lload at_95 rfl rfl ?_
      refine C.lastore at_97 rfl F4900 g4893 (by decide) (Nat.le_of_ble_eq_true rfl) (fun h4901 W4902 F4903 => ?_)
      have F4904 := F4897.other W4902 ne4894
      have F4905 := F4898.other W4902 ne4895
      have F4906 := F4899.other W4902 ne4896
      have F4907 : Av Z h4901 a4888 .long ([.long x3]) := F4903
      refine C.astore (Ls' := #[.val (.long x0), .second, .val (.long x1), .second, .val (.long x2), .second, .val (.long x3), .second, .val (.long x4), .second, iv x5, iv 3, .val (.long c12), .second, iv b14, rv a4834, rv a4853, rv a4877, rv a4888, .unset, .unset, .unset, .unset, .unset, .unset, .unset, .unset]) at_98 rfl rfl rfl ?_
      refine C.iconst 2 at_100 rfl rfl ?_
      refine C.newarr 2 at_101 rfl rfl (tw hw 0 rfl) (by decide) (by decide) (by decide) (by decide) (by decide) (fun a4908 h4909 z4912 g4913 X4910 F4911 => ?_)
      have ne4914 : a4834 ≠ a4908 := by rw [z4912]; exact Nat.ne_of_lt F4904.lt
      have ne4915 : a4853 ≠ a4908 := by rw [z4912]; exact Nat.ne_of_lt F4905.lt
      have ne4916 : a4877 ≠ a4908 := by rw [z4912]; exact Nat.ne_of_lt F4906.lt
      have ne4917 : a4888 ≠ a4908 := by rw [z4912]; exact Nat.ne_of_lt F4907.lt
      have F4918 := F4904.ext X4910
      have F4919 := F4905.ext X4910
      have F4920 := F4906.ext X4910
      have F4921 := F4907.ext X4910
      have F4922 : Av Z h4909 a4908 .long ([.long 0, .long 0]) := F4911
      refine C.dup at_103 rfl rfl ?_
      refine C.iconst 0 at_104 rfl rfl ?_
      refine C.lload at_105 rfl rfl ?_
      refine C.lastore at_107 rfl F4922 g4913 (by decide) (Nat.le_of_ble_eq_true rfl) (fun h4923 W4924 F4925 => ?_)
      have F4926 := F4918.other W4924 ne4914
      have F4927 := F4919.other W4924 ne4915
      have F4928 := F4920.other W4924 ne4916
      have F4929 := F4921.other W4924 ne4917
      have F4930 : Av Z h4923 a4908 .long ([.long x3, .long 0]) := F4925
      refine C.dup at_108 rfl rfl ?_
      refine C.iconst 1 at_109 rfl rfl ?_
      refine C.lload at_110 rfl rfl ?_
      refine C.lastore at_112 rfl F4930 g4913 (by decide) (Nat.le_of_ble_eq_true rfl) (fun h4931 W4932 F4933 => ?_)
      have F4934 := F4926.other W4932 ne4914
      have F4935 := F4927.other W4932 ne4915
      have F4936 := F4928.other W4932 ne4916
      have F4937 := F4929.other W4932 ne4917
      have F4938 : Av Z h4931 a4908 .long ([.long x3, .long x4]) := F4933
      refine C.astore (Ls' := #[.val (.long x0), .second, .val (.long x1), .second, .val (.long x2), .second, .val (.long x3), .second, .val (.long x4), .second, iv x5, iv 3, .val (.long c12), .second, iv b14, rv a4834, rv a4853, rv a4877, rv a4888, rv a4908, .unset, .unset, .unset, .unset, .unset, .unset, .unset]) at_113 rfl rfl rfl ?_
      refine C.iconst 3 at_115 rfl rfl ?_
      refine C.newarr 3 at_116 rfl rfl (tw hw 0 rfl) (by decide) (by decide) (by decide) (by decide) (by decide) (fun a4939 h4940 z4943 g4944 X4941 F4942 => ?_)
      have ne4945 : a4834 ≠ a4939 := by rw [z4943]; exact Nat.ne_of_lt F4934.lt
      have ne4946 : a4853 ≠ a4939 := by rw [z4943]; exact Nat.ne_of_lt F4935.lt
      have ne4947 : a4877 ≠ a4939 := by rw [z4943]; exact Nat.ne_of_lt F4936.lt
      have ne4948 : a4888 ≠ a4939 := by rw [z4943]; exact Nat.ne_of_lt F4937.lt
      have ne4949 : a4908 ≠ a4939 := by rw [z4943]; exact Nat.ne_of_lt F4938.lt
      have F4950 := F4934.ext X4941
      have F4951 := F4935.ext X4941
      have F4952 := F4936.ext X4941
      have F4953 := F4937.ext X4941
      have F4954 := F4938.ext X4941
      have F4955 : Av Z h4940 a4939 .long ([.long 0, .long 0, .long 0]) := F4942
      refine C.dup at_118 rfl rfl ?_
      refine C.iconst 0 at_119 rfl rfl ?_
      refine C.lload at_120 rfl rfl ?_
      refine C.lastore at_122 rfl F4955 g4944 (by decide) (Nat.le_of_ble_eq_true rfl) (fun h4956 W4957 F4958 => ?_)
      have F4959 := F4950.other W4957 ne4945
      have F4960 := F4951.other W4957 ne4946
      have F4961 := F4952.other W4957 ne4947
      have F4962 := F4953.other W4957 ne4948
      have F4963 := F4954.other W4957 ne4949
      have F4964 : Av Z h4956 a4939 .long ([.long x3, .long 0, .long 0]) := F4958
      refine C.dup at_123 rfl rfl ?_
      refine C.iconst 1 at_124 rfl rfl ?_
      refine C.lload at_125 rfl rfl ?_
      refine C.lastore at_127 rfl F4964 g4944 (by decide) (Nat.le_of_ble_eq_true rfl) (fun h4965 W4966 F4967 => ?_)
      have F4968 := F4959.other W4966 ne4945
      have F4969 := F4960.other W4966 ne4946
      have F4970 := F4961.other W4966 ne4947
      have F4971 := F4962.other W4966 ne4948
      have F4972 := F4963.other W4966 ne4949
      have F4973 : Av Z h4965 a4939 .long ([.long x3, .long x4, .long 0]) := F4967
      refine C.dup at_128 rfl rfl ?_
      refine C.iconst 2 at_129 rfl rfl ?_
      refine C.lload at_130 rfl rfl ?_
      refine C.lastore at_132 rfl F4973 g4944 (by decide) (Nat.le_of_ble_eq_true rfl) (fun h4974 W4975 F4976 => ?_)
      have F4977 := F4968.other W4975 ne4945
      have F4978 := F4969.other W4975 ne4946
      have F4979 := F4970.other W4975 ne4947
      have F4980 := F4971.other W4975 ne4948
      have F4981 := F4972.other W4975 ne4949
      have F4982 : Av Z h4974 a4939 .long ([.long x3, .long x4, .long c12]) := F4976
      refine C.astore (Ls' := #[.val (.long x0), .second, .val (.long x1), .second, .val (.long x2), .second, .val (.long x3), .second, .val (.long x4), .second, iv x5, iv 3, .val (.long c12), .second, iv b14, rv a4834, rv a4853, rv a4877, rv a4888, rv a4908, rv a4939, .unset, .unset, .unset, .unset, .unset, .unset]) at_133 rfl rfl rfl ?_
      refine C.iload at_135 rfl rfl ?_
      refine C.if_ne_t at_137 (by decide) rfl (by decide) ?_
      refine C.iload at_145 rfl rfl ?_
      refine C.iconst 1 at_147 rfl rfl ?_
      refine C.icmp_ne_t at_148 (by decide) rfl (by decide) ?_
      refine C.iload at_156 rfl rfl ?_
      refine C.iconst 2 at_158 rfl rfl ?_
      refine C.icmp_ne_t at_159 (by decide) rfl (by decide) ?_
      refine C.aload at_167 rfl rfl rfl ?_
      refine C.astore (Ls' := #[.val (.long x0), .second, .val (.long x1), .second, .val (.long x2), .second, .val (.long x3), .second, .val (.long x4), .second, iv x5, iv 3, .val (.long c12), .second, iv b14, rv a4834, rv a4853, rv a4877, rv a4888, rv a4908, rv a4939, rv a4939, .unset, .unset, .unset, .unset, .unset]) at_169 rfl rfl rfl ?_
      refine C.new at_171 rfl (tw hw 2 rfl) (tw hw 3 rfl) (tw hw 4 rfl) (by decide) (by decide) (fun a4983 h4984 z4988 g4989 X4986 E4985 D4987 => ?_)
      have ne4990 : a4834 ≠ a4983 := by rw [z4988]; exact Nat.ne_of_lt F4977.lt
      have ne4991 : a4853 ≠ a4983 := by rw [z4988]; exact Nat.ne_of_lt F4978.lt
      have ne4992 : a4877 ≠ a4983 := by rw [z4988]; exact Nat.ne_of_lt F4979.lt
      have ne4993 : a4888 ≠ a4983 := by rw [z4988]; exact Nat.ne_of_lt F4980.lt
      have ne4994 : a4908 ≠ a4983 := by rw [z4988]; exact Nat.ne_of_lt F4981.lt
      have ne4995 : a4939 ≠ a4983 := by rw [z4988]; exact Nat.ne_of_lt F4982.lt
      have F4996 := F4977.ext X4986
      have F4997 := F4978.ext X4986
      have F4998 := F4979.ext X4986
      have F4999 := F4980.ext X4986
      have F5000 := F4981.ext X4986
      have F5001 := F4982.ext X4986
      have F5002 : Fld Z h4984 a4983 kC1 "starts" "[I" (.null) := D4987 (Or.inl (tw hw 13 rfl)) (ty := (.array .int)) (by decide)
      have F5003 : Fld Z h4984 a4983 kC1 "indices" "[I" (.null) := D4987 (Or.inl (tw hw 15 rfl)) (ty := (.array .int)) (by decide)
      have F5004 : Fld Z h4984 a4983 kC1 "words" "[J" (.null) := D4987 (Or.inl (tw hw 17 rfl)) (ty := (.array .long)) (by decide)
      have F5005 : Fld Z h4984 a4983 kC1 "sizes" "[I" (.null) := D4987 (Or.inl (tw hw 19 rfl)) (ty := (.array .int)) (by decide)
      have F5006 : Fld Z h4984 a4983 kC1 "hashes" "[I" (.null) := D4987 (Or.inl (tw hw 21 rfl)) (ty := (.array .int)) (by decide)
      have F5007 : Fld Z h4984 a4983 kC1 "table" "[I" (.null) := D4987 (Or.inl (tw hw 23 rfl)) (ty := (.array .int)) (by decide)
      have F5008 : Fld Z h4984 a4983 kC1 "size" "I" (.int 0) := D4987 (Or.inl (tw hw 78 rfl)) (ty := .int) (by decide)
      refine C.dup at_174 rfl rfl ?_
      refine C.callN (argsL := []) (rest := [(.ref a4983)]) 1 (fun zz => au1742_1 l Z a0 hw n0 h4984 zz a4983 E4985 F5006 F5003 F5008 F5005 F5002 F5007 F5004 g4989) at_175 rfl rfl (tw hw 5 rfl) (tw hw 6 rfl) (tw hw 4 rfl) (tw hw 7 rfl) (by decide) pd_4 rfl rfl rfl (Nat.le_of_eq rfl) (by decide) (by decide) (by decide) (by decide) (fun v5009 h5010 r5011 => ?_)
      obtain ⟨a5012, a5013, a5014, a5015, a5016, a5017, rfl, K5018, g5047, gz5048, g5049, gz5050, g5051, gz5052, g5053, gz5054, g5055, gz5056, g5057, gz5058, ne5019, ne5020, ne5021, ne5022, ne5023, ne5024, ne5025, ne5026, ne5027, ne5028, ne5029, ne5030, ne5031, ne5032, ne5033, F5034, F5035, F5036, F5037, F5038, F5039, F5040, F5041, F5042, F5043, F5044, F5045, F5046⟩ := r5011
      have ne5059 : a4834 ≠ a5012 := Nat.ne_of_lt (Nat.lt_of_lt_of_le F4996.lt gz5048)
      have ne5060 : a4853 ≠ a5012 := Nat.ne_of_lt (Nat.lt_of_lt_of_le F4997.lt gz5048)
      have ne5061 : a4877 ≠ a5012 := Nat.ne_of_lt (Nat.lt_of_lt_of_le F4998.lt gz5048)
      have ne5062 : a4888 ≠ a5012 := Nat.ne_of_lt (Nat.lt_of_lt_of_le F4999.lt gz5048)
      have ne5063 : a4908 ≠ a5012 := Nat.ne_of_lt (Nat.lt_of_lt_of_le F5000.lt gz5048)
      have ne5064 : a4939 ≠ a5012 := Nat.ne_of_lt (Nat.lt_of_lt_of_le F5001.lt gz5048)
      have ne5065 : a4983 ≠ a5012 := Nat.ne_of_lt (Nat.lt_of_lt_of_le E4985.lt gz5048)
      have ne5066 : a4834 ≠ a5013 := Nat.ne_of_lt (Nat.lt_of_lt_of_le F4996.lt gz5050)
      have ne5067 : a4853 ≠ a5013 := Nat.ne_of_lt (Nat.lt_of_lt_of_le F4997.lt gz5050)
      have ne5068 : a4877 ≠ a5013 := Nat.ne_of_lt (Nat.lt_of_lt_of_le F4998.lt gz5050)
      have ne5069 : a4888 ≠ a5013 := Nat.ne_of_lt (Nat.lt_of_lt_of_le F4999.lt gz5050)
      have ne5070 : a4908 ≠ a5013 := Nat.ne_of_lt (Nat.lt_of_lt_of_le F5000.lt gz5050)
      have ne5071 : a4939 ≠ a5013 := Nat.ne_of_lt (Nat.lt_of_lt_of_le F5001.lt gz5050)
      have ne5072 : a4983 ≠ a5013 := Nat.ne_of_lt (Nat.lt_of_lt_of_le E4985.lt gz5050)
      have ne5073 : a4834 ≠ a5014 := Nat.ne_of_lt (Nat.lt_of_lt_of_le F4996.lt gz5052)
      have ne5074 : a4853 ≠ a5014 := Nat.ne_of_lt (Nat.lt_of_lt_of_le F4997.lt gz5052)
      have ne5075 : a4877 ≠ a5014 := Nat.ne_of_lt (Nat.lt_of_lt_of_le F4998.lt gz5052)
      have ne5076 : a4888 ≠ a5014 := Nat.ne_of_lt (Nat.lt_of_lt_of_le F4999.lt gz5052)
      have ne5077 : a4908 ≠ a5014 := Nat.ne_of_lt (Nat.lt_of_lt_of_le F5000.lt gz5052)
      have ne5078 : a4939 ≠ a5014 := Nat.ne_of_lt (Nat.lt_of_lt_of_le F5001.lt gz5052)
      have ne5079 : a4983 ≠ a5014 := Nat.ne_of_lt (Nat.lt_of_lt_of_le E4985.lt gz5052)
      have ne5080 : a4834 ≠ a5015 := Nat.ne_of_lt (Nat.lt_of_lt_of_le F4996.lt gz5054)
      have ne5081 : a4853 ≠ a5015 := Nat.ne_of_lt (Nat.lt_of_lt_of_le F4997.lt gz5054)
      have ne5082 : a4877 ≠ a5015 := Nat.ne_of_lt (Nat.lt_of_lt_of_le F4998.lt gz5054)
      have ne5083 : a4888 ≠ a5015 := Nat.ne_of_lt (Nat.lt_of_lt_of_le F4999.lt gz5054)
      have ne5084 : a4908 ≠ a5015 := Nat.ne_of_lt (Nat.lt_of_lt_of_le F5000.lt gz5054)
      have ne5085 : a4939 ≠ a5015 := Nat.ne_of_lt (Nat.lt_of_lt_of_le F5001.lt gz5054)
      have ne5086 : a4983 ≠ a5015 := Nat.ne_of_lt (Nat.lt_of_lt_of_le E4985.lt gz5054)
      have ne5087 : a4834 ≠ a5016 := Nat.ne_of_lt (Nat.lt_of_lt_of_le F4996.lt gz5056)
      have ne5088 : a4853 ≠ a5016 := Nat.ne_of_lt (Nat.lt_of_lt_of_le F4997.lt gz5056)
      have ne5089 : a4877 ≠ a5016 := Nat.ne_of_lt (Nat.lt_of_lt_of_le F4998.lt gz5056)
      have ne5090 : a4888 ≠ a5016 := Nat.ne_of_lt (Nat.lt_of_lt_of_le F4999.lt gz5056)
      have ne5091 : a4908 ≠ a5016 := Nat.ne_of_lt (Nat.lt_of_lt_of_le F5000.lt gz5056)
      have ne5092 : a4939 ≠ a5016 := Nat.ne_of_lt (Nat.lt_of_lt_of_le F5001.lt gz5056)
      have ne5093 : a4983 ≠ a5016 := Nat.ne_of_lt (Nat.lt_of_lt_of_le E4985.lt gz5056)
      have ne5094 : a4834 ≠ a5017 := Nat.ne_of_lt (Nat.lt_of_lt_of_le F4996.lt gz5058)
      have ne5095 : a4853 ≠ a5017 := Nat.ne_of_lt (Nat.lt_of_lt_of_le F4997.lt gz5058)
      have ne5096 : a4877 ≠ a5017 := Nat.ne_of_lt (Nat.lt_of_lt_of_le F4998.lt gz5058)
      have ne5097 : a4888 ≠ a5017 := Nat.ne_of_lt (Nat.lt_of_lt_of_le F4999.lt gz5058)
      have ne5098 : a4908 ≠ a5017 := Nat.ne_of_lt (Nat.lt_of_lt_of_le F5000.lt gz5058)
      have ne5099 : a4939 ≠ a5017 := Nat.ne_of_lt (Nat.lt_of_lt_of_le F5001.lt gz5058)
      have ne5100 : a4983 ≠ a5017 := Nat.ne_of_lt (Nat.lt_of_lt_of_le E4985.lt gz5058)
      have F5101 := F4996.keep K5018 (ninS ne4990 nin0)
      have F5102 := F4997.keep K5018 (ninS ne4991 nin0)
      have F5103 := F4998.keep K5018 (ninS ne4992 nin0)
      have F5104 := F4999.keep K5018 (ninS ne4993 nin0)
      have F5105 := F5000.keep K5018 (ninS ne4994 nin0)
      have F5106 := F5001.keep K5018 (ninS ne4995 nin0)
      have F5107 := E4985.keep K5018
      refine C.astore (Ls' := #[.val (.long x0), .second, .val (.long x1), .second, .val (.long x2), .second, .val (.long x3), .second, .val (.long x4), .second, iv x5, iv 3, .val (.long c12), .second, iv b14, rv a4834, rv a4853, rv a4877, rv a4888, rv a4908, rv a4939, rv a4939, rv a4983, .unset, .unset, .unset, .unset]) at_178 rfl rfl rfl ?_
      refine C.new at_180 rfl (tw hw 24 rfl) (tw hw 25 rfl) (tw hw 26 rfl) (by decide) (by decide) (fun a5115 h5116 z5120 g5121 X5118 E5117 D5119 => ?_)
      have ne5122 : a4834 ≠ a5115 := by rw [z5120]; exact Nat.ne_of_lt F5101.lt
      have ne5123 : a4853 ≠ a5115 := by rw [z5120]; exact Nat.ne_of_lt F5102.lt
      have ne5124 : a4877 ≠ a5115 := by rw [z5120]; exact Nat.ne_of_lt F5103.lt
      have ne5125 : a4888 ≠ a5115 := by rw [z5120]; exact Nat.ne_of_lt F5104.lt
      have ne5126 : a4908 ≠ a5115 := by rw [z5120]; exact Nat.ne_of_lt F5105.lt
      have ne5127 : a4939 ≠ a5115 := by rw [z5120]; exact Nat.ne_of_lt F5106.lt
      have ne5128 : a4983 ≠ a5115 := by rw [z5120]; exact Nat.ne_of_lt F5107.lt
      have ne5129 : a5012 ≠ a5115 := by rw [z5120]; exact Nat.ne_of_lt F5041.lt
      have ne5130 : a5013 ≠ a5115 := by rw [z5120]; exact Nat.ne_of_lt F5042.lt
      have ne5131 : a5014 ≠ a5115 := by rw [z5120]; exact Nat.ne_of_lt F5043.lt
      have ne5132 : a5015 ≠ a5115 := by rw [z5120]; exact Nat.ne_of_lt F5044.lt
      have ne5133 : a5016 ≠ a5115 := by rw [z5120]; exact Nat.ne_of_lt F5045.lt
      have ne5134 : a5017 ≠ a5115 := by rw [z5120]; exact Nat.ne_of_lt F5046.lt
      have F5135 := F5101.ext X5118
      have F5136 := F5102.ext X5118
      have F5137 := F5103.ext X5118
      have F5138 := F5104.ext X5118
      have F5139 := F5105.ext X5118
      have F5140 := F5106.ext X5118
      have F5141 := Exa.ext X5118 F5107
      have F5142 := Fld.ext X5118 F5034
      have F5143 := Fld.ext X5118 F5035
      have F5144 := Fld.ext X5118 F5036
      have F5145 := Fld.ext X5118 F5037
      have F5146 := Fld.ext X5118 F5038
      have F5147 := Fld.ext X5118 F5039
      have F5148 := Fld.ext X5118 F5040
      have F5149 := F5041.ext X5118
      have F5150 := F5042.ext X5118
      have F5151 := F5043.ext X5118
      have F5152 := F5044.ext X5118
      have F5153 := F5045.ext X5118
      have F5154 := F5046.ext X5118
      have F5155 : Fld Z h5116 a5115 kC0 "words" "[J" (.null) := D5119 (Or.inr (tw hw 32 rfl)) (ty := (.array .long)) (by decide)
      have F5156 : Fld Z h5116 a5115 kC0 "listing" "Z" (.int 0) := D5119 (Or.inr (tw hw 34 rfl)) (ty := .boolean) (by decide)
      have F5157 : Fld Z h5116 a5115 kC0 "held" "[I" (.null) := D5119 (Or.inr (tw hw 36 rfl)) (ty := (.array .int)) (by decide)
      have F5158 : Fld Z h5116 a5115 kC0 "count" "I" (.int 0) := D5119 (Or.inl (tw hw 53 rfl)) (ty := .int) (by decide)
      refine C.dup at_183 rfl rfl ?_
      refine C.sipush 192 at_184 rfl rfl ?_
      refine C.callN (argsL := [(.int 192)]) (rest := [(.ref a5115)]) 1 (fun zz => au2532_3 l Z a0 hw n0 h5116 zz a5115 E5117 F5158 F5157 F5156 F5155 g5121) at_187 rfl rfl (tw hw 27 rfl) (tw hw 28 rfl) (tw hw 26 rfl) (tw hw 29 rfl) (by decide) pd_8 rfl rfl rfl (Nat.le_of_eq rfl) (by decide) (by decide) (by decide) (by decide) (fun v5159 h5160 r5161 => ?_)
      obtain ⟨a5162, a5163, rfl, K5164, g5172, gz5173, g5174, gz5175, ne5165, F5166, F5167, F5168, F5169, F5170, F5171⟩ := r5161
      have ne5176 : a4834 ≠ a5162 := Nat.ne_of_lt (Nat.lt_of_lt_of_le F5135.lt gz5173)
      have ne5177 : a4853 ≠ a5162 := Nat.ne_of_lt (Nat.lt_of_lt_of_le F5136.lt gz5173)
      have ne5178 : a4877 ≠ a5162 := Nat.ne_of_lt (Nat.lt_of_lt_of_le F5137.lt gz5173)
      have ne5179 : a4888 ≠ a5162 := Nat.ne_of_lt (Nat.lt_of_lt_of_le F5138.lt gz5173)
      have ne5180 : a4908 ≠ a5162 := Nat.ne_of_lt (Nat.lt_of_lt_of_le F5139.lt gz5173)
      have ne5181 : a4939 ≠ a5162 := Nat.ne_of_lt (Nat.lt_of_lt_of_le F5140.lt gz5173)
      have ne5182 : a4983 ≠ a5162 := Nat.ne_of_lt (Nat.lt_of_lt_of_le F5141.lt gz5173)
      have ne5183 : a5012 ≠ a5162 := Nat.ne_of_lt (Nat.lt_of_lt_of_le F5149.lt gz5173)
      have ne5184 : a5013 ≠ a5162 := Nat.ne_of_lt (Nat.lt_of_lt_of_le F5150.lt gz5173)
      have ne5185 : a5014 ≠ a5162 := Nat.ne_of_lt (Nat.lt_of_lt_of_le F5151.lt gz5173)
      have ne5186 : a5015 ≠ a5162 := Nat.ne_of_lt (Nat.lt_of_lt_of_le F5152.lt gz5173)
      have ne5187 : a5016 ≠ a5162 := Nat.ne_of_lt (Nat.lt_of_lt_of_le F5153.lt gz5173)
      have ne5188 : a5017 ≠ a5162 := Nat.ne_of_lt (Nat.lt_of_lt_of_le F5154.lt gz5173)
      have ne5189 : a5115 ≠ a5162 := Nat.ne_of_lt (Nat.lt_of_lt_of_le E5117.lt gz5173)
      have ne5190 : a4834 ≠ a5163 := Nat.ne_of_lt (Nat.lt_of_lt_of_le F5135.lt gz5175)
      have ne5191 : a4853 ≠ a5163 := Nat.ne_of_lt (Nat.lt_of_lt_of_le F5136.lt gz5175)
      have ne5192 : a4877 ≠ a5163 := Nat.ne_of_lt (Nat.lt_of_lt_of_le F5137.lt gz5175)
      have ne5193 : a4888 ≠ a5163 := Nat.ne_of_lt (Nat.lt_of_lt_of_le F5138.lt gz5175)
      have ne5194 : a4908 ≠ a5163 := Nat.ne_of_lt (Nat.lt_of_lt_of_le F5139.lt gz5175)
      have ne5195 : a4939 ≠ a5163 := Nat.ne_of_lt (Nat.lt_of_lt_of_le F5140.lt gz5175)
      have ne5196 : a4983 ≠ a5163 := Nat.ne_of_lt (Nat.lt_of_lt_of_le F5141.lt gz5175)
      have ne5197 : a5012 ≠ a5163 := Nat.ne_of_lt (Nat.lt_of_lt_of_le F5149.lt gz5175)
      have ne5198 : a5013 ≠ a5163 := Nat.ne_of_lt (Nat.lt_of_lt_of_le F5150.lt gz5175)
      have ne5199 : a5014 ≠ a5163 := Nat.ne_of_lt (Nat.lt_of_lt_of_le F5151.lt gz5175)
      have ne5200 : a5015 ≠ a5163 := Nat.ne_of_lt (Nat.lt_of_lt_of_le F5152.lt gz5175)
      have ne5201 : a5016 ≠ a5163 := Nat.ne_of_lt (Nat.lt_of_lt_of_le F5153.lt gz5175)
      have ne5202 : a5017 ≠ a5163 := Nat.ne_of_lt (Nat.lt_of_lt_of_le F5154.lt gz5175)
      have ne5203 : a5115 ≠ a5163 := Nat.ne_of_lt (Nat.lt_of_lt_of_le E5117.lt gz5175)
      have F5204 := F5135.keep K5164 (ninS ne5122 nin0)
      have F5205 := F5136.keep K5164 (ninS ne5123 nin0)
      have F5206 := F5137.keep K5164 (ninS ne5124 nin0)
      have F5207 := F5138.keep K5164 (ninS ne5125 nin0)
      have F5208 := F5139.keep K5164 (ninS ne5126 nin0)
      have F5209 := F5140.keep K5164 (ninS ne5127 nin0)
      have F5210 := F5141.keep K5164
      have F5211 := F5142.keep K5164 (ninS ne5128 nin0)
      have F5212 := F5143.keep K5164 (ninS ne5128 nin0)
      have F5213 := F5144.keep K5164 (ninS ne5128 nin0)
      have F5214 := F5145.keep K5164 (ninS ne5128 nin0)
      have F5215 := F5146.keep K5164 (ninS ne5128 nin0)
      have F5216 := F5147.keep K5164 (ninS ne5128 nin0)
      have F5217 := F5148.keep K5164 (ninS ne5128 nin0)
      have F5218 := F5149.keep K5164 (ninS ne5129 nin0)
      have F5219 := F5150.keep K5164 (ninS ne5130 nin0)
      have F5220 := F5151.keep K5164 (ninS ne5131 nin0)
      have F5221 := F5152.keep K5164 (ninS ne5132 nin0)
      have F5222 := F5153.keep K5164 (ninS ne5133 nin0)
      have F5223 := F5154.keep K5164 (ninS ne5134 nin0)
      have F5224 := E5117.keep K5164
      refine C.astore (Ls' := #[.val (.long x0), .second, .val (.long x1), .second, .val (.long x2), .second, .val (.long x3), .second, .val (.long x4), .second, iv x5, iv 3, .val (.long c12), .second, iv b14, rv a4834, rv a4853, rv a4877, rv a4888, rv a4908, rv a4939, rv a4939, rv a4983, rv a5115, .unset, .unset, .unset]) at_190 rfl rfl rfl ?_
      refine C.iconst (-1) at_192 rfl rfl ?_
      refine C.istore (Ls' := #[.val (.long x0), .second, .val (.long x1), .second, .val (.long x2), .second, .val (.long x3), .second, .val (.long x4), .second, iv x5, iv 3, .val (.long c12), .second, iv b14, rv a4834, rv a4853, rv a4877, rv a4888, rv a4908, rv a4939, rv a4939, rv a4983, rv a5115, iv (-1), .unset, .unset]) at_193 rfl rfl ?_
      rcases h14 with q14 | q14
      · rw [q14]
        refine C.iload at_195 rfl rfl ?_
        refine C.if_eq_t at_197 (by decide) rfl (by decide) ?_
        refine C.aload at_223 rfl rfl rfl ?_
        refine C.aload at_225 rfl rfl rfl ?_
        refine C.iconst 0 at_227 rfl rfl ?_
        refine C.iconst 3 at_228 rfl rfl ?_
        refine C.callV (argsL := [(.ref a4834), (.int 0), (.int 3)]) (rest := []) 0 (fun zz => au2768_4 l Z a0 hw n0 h5160 zz a5115 a4834 a5162 a5163 x0 x1 x2 F5224 F5166 F5167 F5168 F5169 F5204 F5170 F5171 g5121 g4839 g5172 g5174 (Ne.symm ne5122) ne5189 ne5203 ne5176 ne5190 ne5165) F5224 at_229 rfl (tw hw 37 rfl) (tw hw 38 rfl) (tw hw 39 rfl) (tw hw 40 rfl) (tw hw 26 rfl) (tw hw 41 rfl) (by decide) pd_9 rfl rfl rfl (Nat.le_of_eq rfl) (by decide) (by decide) (by decide) (by decide) (fun v5229 h5230 r5231 => ?_)
        obtain ⟨rfl, K5232, F5233⟩ := r5231
        have F5234 := F5204.keep K5232 (ninS ne5190 nin0)
        have F5235 := F5205.keep K5232 (ninS ne5191 nin0)
        have F5236 := F5206.keep K5232 (ninS ne5192 nin0)
        have F5237 := F5207.keep K5232 (ninS ne5193 nin0)
        have F5238 := F5208.keep K5232 (ninS ne5194 nin0)
        have F5239 := F5209.keep K5232 (ninS ne5195 nin0)
        have F5240 := F5210.keep K5232
        have F5241 := F5211.keep K5232 (ninS ne5196 nin0)
        have F5242 := F5212.keep K5232 (ninS ne5196 nin0)
        have F5243 := F5213.keep K5232 (ninS ne5196 nin0)
        have F5244 := F5214.keep K5232 (ninS ne5196 nin0)
        have F5245 := F5215.keep K5232 (ninS ne5196 nin0)
        have F5246 := F5216.keep K5232 (ninS ne5196 nin0)
        have F5247 := F5217.keep K5232 (ninS ne5196 nin0)
        have F5248 := F5218.keep K5232 (ninS ne5197 nin0)
        have F5249 := F5219.keep K5232 (ninS ne5198 nin0)
        have F5250 := F5220.keep K5232 (ninS ne5199 nin0)
        have F5251 := F5221.keep K5232 (ninS ne5200 nin0)
        have F5252 := F5222.keep K5232 (ninS ne5201 nin0)
        have F5253 := F5223.keep K5232 (ninS ne5202 nin0)
        have F5254 := F5224.keep K5232
        have F5255 := F5166.keep K5232 (ninS ne5203 nin0)
        have F5256 := F5167.keep K5232 (ninS ne5203 nin0)
        have F5257 := F5168.keep K5232 (ninS ne5203 nin0)
        have F5258 := F5169.keep K5232 (ninS ne5203 nin0)
        have F5259 := F5170.keep K5232 (ninS ne5165 nin0)
        refine C.aload at_232 rfl rfl rfl ?_
        refine C.aload at_234 rfl rfl rfl ?_
        refine C.callV (argsL := [(.ref a5115)]) (rest := []) 0 (fun zz => con_num0 l Z a0 hw n0 h5230 zz a4983 a5015 a5013 a5017 a5014 a5012 a5016 a5115 a5163 a5162 x0 x1 x2 0 ([.int 0, .int 0, .int 0]) F5240 F5245 F5242 F5247 F5244 F5241 F5246 F5243 F5251 F5249 F5253 F5250 F5248 F5252 F5254 F5258 F5256 F5257 F5255 F5233 F5259 g4989 g5053 g5049 g5057 g5051 g5047 g5055 g5121 g5172 ne5086 ne5072 ne5100 ne5079 ne5065 ne5093 ne5128 ne5196 ne5182 (Ne.symm ne5025) ne5032 (Ne.symm ne5028) (Ne.symm ne5021) ne5031 ne5132 ne5200 ne5186 ne5027 ne5024 (Ne.symm ne5019) ne5026 ne5130 ne5198 ne5184 (Ne.symm ne5030) (Ne.symm ne5023) (Ne.symm ne5033) ne5134 ne5202 ne5188 (Ne.symm ne5020) ne5029 ne5131 ne5199 ne5185 ne5022 ne5129 ne5197 ne5183 ne5133 ne5201 ne5187 ne5203 ne5189 (Ne.symm ne5165) rfl) F5240 at_236 rfl (tw hw 42 rfl) (tw hw 43 rfl) (tw hw 44 rfl) (tw hw 45 rfl) (tw hw 4 rfl) (tw hw 46 rfl) (by decide) pd_5 rfl rfl rfl (Nat.le_of_eq rfl) (by decide) (by decide) (by decide) (by decide) (fun v5261 h5262 r5263 => ?_)
        obtain ⟨y5264, y5265, y5266, y5267, rfl, K5268, F5269, F5270, F5271, F5272, F5273, F5274, F5275, F5276, F5277, F5278, F5279, F5280, F5281, F5282, F5283, F5284, F5285, F5286, u5287, u5288⟩ := r5263
        have F5289 := F5234.keep K5268 (ninS ne4990 (ninS ne5080 (ninS ne5066 (ninS ne5094 (ninS ne5073 (ninS ne5059 (ninS ne5087 (ninS ne5122 (ninS ne5176 nin0)))))))))
        have F5290 := F5235.keep K5268 (ninS ne4991 (ninS ne5081 (ninS ne5067 (ninS ne5095 (ninS ne5074 (ninS ne5060 (ninS ne5088 (ninS ne5123 (ninS ne5177 nin0)))))))))
        have F5291 := F5236.keep K5268 (ninS ne4992 (ninS ne5082 (ninS ne5068 (ninS ne5096 (ninS ne5075 (ninS ne5061 (ninS ne5089 (ninS ne5124 (ninS ne5178 nin0)))))))))
        have F5292 := F5237.keep K5268 (ninS ne4993 (ninS ne5083 (ninS ne5069 (ninS ne5097 (ninS ne5076 (ninS ne5062 (ninS ne5090 (ninS ne5125 (ninS ne5179 nin0)))))))))
        have F5293 := F5238.keep K5268 (ninS ne4994 (ninS ne5084 (ninS ne5070 (ninS ne5098 (ninS ne5077 (ninS ne5063 (ninS ne5091 (ninS ne5126 (ninS ne5180 nin0)))))))))
        have F5294 := F5239.keep K5268 (ninS ne4995 (ninS ne5085 (ninS ne5071 (ninS ne5099 (ninS ne5078 (ninS ne5064 (ninS ne5092 (ninS ne5127 (ninS ne5181 nin0)))))))))
        have F5295 := F5240.keep K5268
        have F5309 := F5254.keep K5268
        have F5315 := F5233.keep K5268 (ninS (Ne.symm ne5196) (ninS (Ne.symm ne5200) (ninS (Ne.symm ne5198) (ninS (Ne.symm ne5202) (ninS (Ne.symm ne5199) (ninS (Ne.symm ne5197) (ninS (Ne.symm ne5201) (ninS (Ne.symm ne5203) (ninS (Ne.symm ne5165) nin0)))))))))
        refine C.istore (Ls' := #[.val (.long x0), .second, .val (.long x1), .second, .val (.long x2), .second, .val (.long x3), .second, .val (.long x4), .second, iv x5, iv 3, .val (.long c12), .second, iv 0, rv a4834, rv a4853, rv a4877, rv a4888, rv a4908, rv a4939, rv a4939, rv a4983, rv a5115, iv (-1), iv 0, .unset]) at_239 rfl rfl ?_
        refine C.aload at_241 rfl rfl rfl ?_
        refine C.iload at_243 rfl rfl ?_
        refine C.aload at_245 rfl rfl rfl ?_
        refine C.callV (argsL := [(.int 0), (.ref a4939)]) (rest := []) 0 (fun zz => con_is3 l Z a0 hw n0 h5262 zz a4983 a5015 a5013 a5017 a4939 0 (own_c3 x0 x1 x2) (.int 0 :: .int (Int32.ofNat (own_c3 x0 x1 x2).length) :: zI15) (own_ix (own_c3 x0 x1 x2)) (own_wd (own_c3 x0 x1 x2)) (.int (own_sz (own_c3 x0 x1 x2)) :: zI15) x3 x4 c12 F5269 F5270 F5271 F5276 F5277 F5278 F5294 (by have q := own_set0 (own_c3 x0 x1 x2) [] [] zI15 zI15 (own_c3len x0 x1 x2); rw [List.append_nil] at q; exact q) (own_c3len x0 x1 x2) (own_c3rg x0 x1 x2)) F5295 at_247 rfl (tw hw 86 rfl) (tw hw 87 rfl) (tw hw 88 rfl) (tw hw 89 rfl) (tw hw 4 rfl) (tw hw 90 rfl) (by decide) pd_10 rfl rfl rfl (Nat.le_of_eq rfl) (by decide) (by decide) (by decide) (by decide) (fun v5316 h5317 r5318 => ?_)
        obtain ⟨rfl, rfl⟩ := r5318
        refine C.lloadN at_250 rfl rfl ?_
        refine C.lloadN at_251 rfl rfl ?_
        refine C.lload at_252 rfl rfl ?_
        refine C.lload at_254 rfl rfl ?_
        refine C.lload at_256 rfl rfl ?_
        refine C.lload at_258 rfl rfl ?_
        refine C.iload at_260 rfl rfl ?_
        refine C.callS (argsL := [(.long x0), (.long x1), (.long x2), (.long x3), (.long x4), (.long c12), (.int 3)]) (rest := [(.int (own_mt 3 x3 x4 c12 (own_c3 x0 x1 x2)))]) 1 (fun zz => con_ep l Z a0 hw n0 h5262 zz x0 x1 x2 x3 x4 c12 3 ) at_262 rfl (tw hw 91 rfl) (tw hw 92 rfl) (tw hw 93 rfl) (tw hw 94 rfl) (by decide) pd_11 rfl rfl rfl (Nat.le_of_eq rfl) (by decide) (by decide) (by decide) (by decide) (fun v5320 h5321 r5322 => ?_)
        obtain ⟨rfl, rfl⟩ := r5322
        refine C.icmp_ne_f at_265 rfl (own_pl _ _ _ _ _ _ _) ?_
        refine C.iconst 1 at_268 rfl rfl ?_
        refine C.goto at_269 (by decide) rfl ?_
        refine C.istore (Ls' := #[.val (.long x0), .second, .val (.long x1), .second, .val (.long x2), .second, .val (.long x3), .second, .val (.long x4), .second, iv x5, iv 3, .val (.long c12), .second, iv 0, rv a4834, rv a4853, rv a4877, rv a4888, rv a4908, rv a4939, rv a4939, rv a4983, rv a5115, iv (-1), iv 0, iv 1]) at_273 rfl rfl ?_
        refine C.iload at_275 rfl rfl ?_
        refine C.if_eq_t at_277 (by decide) rfl (by decide) ?_
        refine C.iload at_338 rfl rfl ?_
        exact C.retZ at_340 rfl (by decide) (by decide) ⟨rfl, trivial⟩
      rw [q14]
      refine C.iload at_195 rfl rfl ?_
      refine C.if_eq_f at_197 rfl (by decide) ?_
      refine C.aload at_200 rfl rfl rfl ?_
      refine C.aload at_202 rfl rfl rfl ?_
      refine C.iconst 0 at_204 rfl rfl ?_
      refine C.iconst 3 at_205 rfl rfl ?_
      refine C.callV (argsL := [(.ref a4853), (.int 0), (.int 3)]) (rest := []) 0 (fun zz => au2768_4 l Z a0 hw n0 h5160 zz a5115 a4853 a5162 a5163 (x0 ^^^ (-1 : Int64)) (x1 ^^^ (-1 : Int64)) (x2 ^^^ (-1 : Int64)) F5224 F5166 F5167 F5168 F5169 F5205 F5170 F5171 g5121 g4858 g5172 g5174 (Ne.symm ne5123) ne5189 ne5203 ne5177 ne5191 ne5165) F5224 at_206 rfl (tw hw 37 rfl) (tw hw 38 rfl) (tw hw 39 rfl) (tw hw 40 rfl) (tw hw 26 rfl) (tw hw 41 rfl) (by decide) pd_9 rfl rfl rfl (Nat.le_of_eq rfl) (by decide) (by decide) (by decide) (by decide) (fun v5324 h5325 r5326 => ?_)
      obtain ⟨rfl, K5327, F5328⟩ := r5326
      have F5329 := F5204.keep K5327 (ninS ne5190 nin0)
      have F5330 := F5205.keep K5327 (ninS ne5191 nin0)
      have F5331 := F5206.keep K5327 (ninS ne5192 nin0)
      have F5332 := F5207.keep K5327 (ninS ne5193 nin0)
      have F5333 := F5208.keep K5327 (ninS ne5194 nin0)
      have F5334 := F5209.keep K5327 (ninS ne5195 nin0)
      have F5335 := F5210.keep K5327
      have F5336 := F5211.keep K5327 (ninS ne5196 nin0)
      have F5337 := F5212.keep K5327 (ninS ne5196 nin0)
      have F5338 := F5213.keep K5327 (ninS ne5196 nin0)
      have F5339 := F5214.keep K5327 (ninS ne5196 nin0)
      have F5340 := F5215.keep K5327 (ninS ne5196 nin0)
      have F5341 := F5216.keep K5327 (ninS ne5196 nin0)
      have F5342 := F5217.keep K5327 (ninS ne5196 nin0)
      have F5343 := F5218.keep K5327 (ninS ne5197 nin0)
      have F5344 := F5219.keep K5327 (ninS ne5198 nin0)
      have F5345 := F5220.keep K5327 (ninS ne5199 nin0)
      have F5346 := F5221.keep K5327 (ninS ne5200 nin0)
      have F5347 := F5222.keep K5327 (ninS ne5201 nin0)
      have F5348 := F5223.keep K5327 (ninS ne5202 nin0)
      have F5349 := F5224.keep K5327
      have F5350 := F5166.keep K5327 (ninS ne5203 nin0)
      have F5351 := F5167.keep K5327 (ninS ne5203 nin0)
      have F5352 := F5168.keep K5327 (ninS ne5203 nin0)
      have F5353 := F5169.keep K5327 (ninS ne5203 nin0)
      have F5354 := F5170.keep K5327 (ninS ne5165 nin0)
      refine C.aload at_209 rfl rfl rfl ?_
      refine C.aload at_211 rfl rfl rfl ?_
      refine C.callV (argsL := [(.ref a5115)]) (rest := []) 0 (fun zz => con_num0 l Z a0 hw n0 h5325 zz a4983 a5015 a5013 a5017 a5014 a5012 a5016 a5115 a5163 a5162 (x0 ^^^ (-1 : Int64)) (x1 ^^^ (-1 : Int64)) (x2 ^^^ (-1 : Int64)) 0 ([.int 0, .int 0, .int 0]) F5335 F5340 F5337 F5342 F5339 F5336 F5341 F5338 F5346 F5344 F5348 F5345 F5343 F5347 F5349 F5353 F5351 F5352 F5350 F5328 F5354 g4989 g5053 g5049 g5057 g5051 g5047 g5055 g5121 g5172 ne5086 ne5072 ne5100 ne5079 ne5065 ne5093 ne5128 ne5196 ne5182 (Ne.symm ne5025) ne5032 (Ne.symm ne5028) (Ne.symm ne5021) ne5031 ne5132 ne5200 ne5186 ne5027 ne5024 (Ne.symm ne5019) ne5026 ne5130 ne5198 ne5184 (Ne.symm ne5030) (Ne.symm ne5023) (Ne.symm ne5033) ne5134 ne5202 ne5188 (Ne.symm ne5020) ne5029 ne5131 ne5199 ne5185 ne5022 ne5129 ne5197 ne5183 ne5133 ne5201 ne5187 ne5203 ne5189 (Ne.symm ne5165) rfl) F5335 at_213 rfl (tw hw 42 rfl) (tw hw 43 rfl) (tw hw 44 rfl) (tw hw 45 rfl) (tw hw 4 rfl) (tw hw 46 rfl) (by decide) pd_5 rfl rfl rfl (Nat.le_of_eq rfl) (by decide) (by decide) (by decide) (by decide) (fun v5356 h5357 r5358 => ?_)
      obtain ⟨y5359, y5360, y5361, y5362, rfl, K5363, F5364, F5365, F5366, F5367, F5368, F5369, F5370, F5371, F5372, F5373, F5374, F5375, F5376, F5377, F5378, F5379, F5380, F5381, u5382, u5383⟩ := r5358
      have F5384 := F5329.keep K5363 (ninS ne4990 (ninS ne5080 (ninS ne5066 (ninS ne5094 (ninS ne5073 (ninS ne5059 (ninS ne5087 (ninS ne5122 (ninS ne5176 nin0)))))))))
      have F5385 := F5330.keep K5363 (ninS ne4991 (ninS ne5081 (ninS ne5067 (ninS ne5095 (ninS ne5074 (ninS ne5060 (ninS ne5088 (ninS ne5123 (ninS ne5177 nin0)))))))))
      have F5386 := F5331.keep K5363 (ninS ne4992 (ninS ne5082 (ninS ne5068 (ninS ne5096 (ninS ne5075 (ninS ne5061 (ninS ne5089 (ninS ne5124 (ninS ne5178 nin0)))))))))
      have F5387 := F5332.keep K5363 (ninS ne4993 (ninS ne5083 (ninS ne5069 (ninS ne5097 (ninS ne5076 (ninS ne5062 (ninS ne5090 (ninS ne5125 (ninS ne5179 nin0)))))))))
      have F5388 := F5333.keep K5363 (ninS ne4994 (ninS ne5084 (ninS ne5070 (ninS ne5098 (ninS ne5077 (ninS ne5063 (ninS ne5091 (ninS ne5126 (ninS ne5180 nin0)))))))))
      have F5389 := F5334.keep K5363 (ninS ne4995 (ninS ne5085 (ninS ne5071 (ninS ne5099 (ninS ne5078 (ninS ne5064 (ninS ne5092 (ninS ne5127 (ninS ne5181 nin0)))))))))
      have F5390 := F5335.keep K5363
      have F5404 := F5349.keep K5363
      have F5410 := F5328.keep K5363 (ninS (Ne.symm ne5196) (ninS (Ne.symm ne5200) (ninS (Ne.symm ne5198) (ninS (Ne.symm ne5202) (ninS (Ne.symm ne5199) (ninS (Ne.symm ne5197) (ninS (Ne.symm ne5201) (ninS (Ne.symm ne5203) (ninS (Ne.symm ne5165) nin0)))))))))
      refine C.istore (Ls' := #[.val (.long x0), .second, .val (.long x1), .second, .val (.long x2), .second, .val (.long x3), .second, .val (.long x4), .second, iv x5, iv 3, .val (.long c12), .second, iv 1, rv a4834, rv a4853, rv a4877, rv a4888, rv a4908, rv a4939, rv a4939, rv a4983, rv a5115, iv 0, .unset, .unset]) at_216 rfl rfl ?_
      refine C.aload at_218 rfl rfl rfl ?_
      refine C.callV (argsL := []) (rest := []) 0 (fun zz => au3050_15 l Z a0 hw n0 h5357 zz a5115 y5360 a5162 a5163 y5359 (x0 ^^^ (-1 : Int64)) (x1 ^^^ (-1 : Int64)) (x2 ^^^ (-1 : Int64)) F5404 F5380 F5378 F5379 F5377 F5381 F5410 g5121 g5172 g5174 ne5189 ne5203 ne5165) F5404 at_220 rfl (tw hw 95 rfl) (tw hw 96 rfl) (tw hw 97 rfl) (tw hw 98 rfl) (tw hw 26 rfl) (tw hw 99 rfl) (by decide) pd_4 rfl rfl rfl (Nat.le_of_eq rfl) (by decide) (by decide) (by decide) (by decide) (fun v5411 h5412 r5413 => ?_)
      obtain ⟨rfl, K5414, F5415, F5416, F5417, F5418, F5419⟩ := r5413
      have F5420 := F5384.keep K5414 (ninS ne5122 (ninS ne5190 nin0))
      have F5421 := F5385.keep K5414 (ninS ne5123 (ninS ne5191 nin0))
      have F5422 := F5386.keep K5414 (ninS ne5124 (ninS ne5192 nin0))
      have F5423 := F5387.keep K5414 (ninS ne5125 (ninS ne5193 nin0))
      have F5424 := F5388.keep K5414 (ninS ne5126 (ninS ne5194 nin0))
      have F5425 := F5389.keep K5414 (ninS ne5127 (ninS ne5195 nin0))
      have F5426 := F5390.keep K5414
      have F5427 := F5404.keep K5414
      have F5429 := F5364.keep K5414 (ninS ne5128 (ninS ne5196 nin0))
      have F5430 := F5365.keep K5414 (ninS ne5128 (ninS ne5196 nin0))
      have F5431 := F5366.keep K5414 (ninS ne5128 (ninS ne5196 nin0))
      have F5432 := F5367.keep K5414 (ninS ne5128 (ninS ne5196 nin0))
      have F5433 := F5368.keep K5414 (ninS ne5128 (ninS ne5196 nin0))
      have F5434 := F5369.keep K5414 (ninS ne5128 (ninS ne5196 nin0))
      have F5435 := F5370.keep K5414 (ninS ne5128 (ninS ne5196 nin0))
      have F5436 := F5371.keep K5414 (ninS ne5132 (ninS ne5200 nin0))
      have F5437 := F5372.keep K5414 (ninS ne5130 (ninS ne5198 nin0))
      have F5438 := F5373.keep K5414 (ninS ne5134 (ninS ne5202 nin0))
      have F5439 := F5374.keep K5414 (ninS ne5131 (ninS ne5199 nin0))
      have F5440 := F5375.keep K5414 (ninS ne5129 (ninS ne5197 nin0))
      have F5441 := F5376.keep K5414 (ninS ne5133 (ninS ne5201 nin0))
      have F5446 := F5381.keep K5414 (ninS (Ne.symm ne5189) (ninS ne5165 nin0))
      refine C.aload at_223 rfl rfl rfl ?_
      refine C.aload at_225 rfl rfl rfl ?_
      refine C.iconst 0 at_227 rfl rfl ?_
      refine C.iconst 3 at_228 rfl rfl ?_
      refine C.callV (argsL := [(.ref a4834), (.int 0), (.int 3)]) (rest := []) 0 (fun zz => au3187_4 l Z a0 hw n0 h5412 zz a5115 a4834 a5162 a5163 x0 x1 x2 y5359 F5427 F5415 F5416 F5417 F5418 F5420 F5446 F5419 g5121 g4839 g5172 g5174 (Ne.symm ne5122) ne5189 ne5203 ne5176 ne5190 ne5165) F5427 at_229 rfl (tw hw 37 rfl) (tw hw 38 rfl) (tw hw 39 rfl) (tw hw 40 rfl) (tw hw 26 rfl) (tw hw 41 rfl) (by decide) pd_9 rfl rfl rfl (Nat.le_of_eq rfl) (by decide) (by decide) (by decide) (by decide) (fun v5447 h5448 r5449 => ?_)
      obtain ⟨rfl, K5450, F5451⟩ := r5449
      have F5452 := F5420.keep K5450 (ninS ne5190 nin0)
      have F5453 := F5421.keep K5450 (ninS ne5191 nin0)
      have F5454 := F5422.keep K5450 (ninS ne5192 nin0)
      have F5455 := F5423.keep K5450 (ninS ne5193 nin0)
      have F5456 := F5424.keep K5450 (ninS ne5194 nin0)
      have F5457 := F5425.keep K5450 (ninS ne5195 nin0)
      have F5458 := F5426.keep K5450
      have F5459 := F5427.keep K5450
      have F5460 := F5429.keep K5450 (ninS ne5196 nin0)
      have F5461 := F5430.keep K5450 (ninS ne5196 nin0)
      have F5462 := F5431.keep K5450 (ninS ne5196 nin0)
      have F5463 := F5432.keep K5450 (ninS ne5196 nin0)
      have F5464 := F5433.keep K5450 (ninS ne5196 nin0)
      have F5465 := F5434.keep K5450 (ninS ne5196 nin0)
      have F5466 := F5435.keep K5450 (ninS ne5196 nin0)
      have F5467 := F5436.keep K5450 (ninS ne5200 nin0)
      have F5468 := F5437.keep K5450 (ninS ne5198 nin0)
      have F5469 := F5438.keep K5450 (ninS ne5202 nin0)
      have F5470 := F5439.keep K5450 (ninS ne5199 nin0)
      have F5471 := F5440.keep K5450 (ninS ne5197 nin0)
      have F5472 := F5441.keep K5450 (ninS ne5201 nin0)
      have F5473 := F5446.keep K5450 (ninS ne5165 nin0)
      have F5474 := F5415.keep K5450 (ninS ne5203 nin0)
      have F5475 := F5416.keep K5450 (ninS ne5203 nin0)
      have F5476 := F5417.keep K5450 (ninS ne5203 nin0)
      have F5477 := F5418.keep K5450 (ninS ne5203 nin0)
      refine C.aload at_232 rfl rfl rfl ?_
      refine C.aload at_234 rfl rfl rfl ?_
      refine C.callV (argsL := [(.ref a5115)]) (rest := []) 0 (fun zz => con_num1 l Z a0 hw n0 h5448 zz a4983 a5015 a5013 a5017 a5014 a5012 a5016 a5115 a5163 a5162 x0 x1 x2 0 y5359 (own_c3 (x0 ^^^ (-1 : Int64)) (x1 ^^^ (-1 : Int64)) (x2 ^^^ (-1 : Int64))) y5361 y5362 F5458 F5460 F5461 F5462 F5463 F5464 F5465 F5466 F5467 F5468 F5469 F5470 F5471 F5472 F5459 F5477 F5475 F5476 F5474 F5451 F5473 g4989 g5053 g5049 g5057 g5051 g5047 g5055 g5121 g5172 ne5086 ne5072 ne5100 ne5079 ne5065 ne5093 ne5128 ne5196 ne5182 (Ne.symm ne5025) ne5032 (Ne.symm ne5028) (Ne.symm ne5021) ne5031 ne5132 ne5200 ne5186 ne5027 ne5024 (Ne.symm ne5019) ne5026 ne5130 ne5198 ne5184 (Ne.symm ne5030) (Ne.symm ne5023) (Ne.symm ne5033) ne5134 ne5202 ne5188 (Ne.symm ne5020) ne5029 ne5131 ne5199 ne5185 ne5022 ne5129 ne5197 ne5183 ne5133 ne5201 ne5187 ne5203 ne5189 (Ne.symm ne5165) u5382 (own_c3len (x0 ^^^ (-1 : Int64)) (x1 ^^^ (-1 : Int64)) (x2 ^^^ (-1 : Int64))) u5383) F5458 at_236 rfl (tw hw 42 rfl) (tw hw 43 rfl) (tw hw 44 rfl) (tw hw 45 rfl) (tw hw 4 rfl) (tw hw 46 rfl) (by decide) pd_5 rfl rfl rfl (Nat.le_of_eq rfl) (by decide) (by decide) (by decide) (by decide) (fun v5479 h5480 r5481 => ?_)
      obtain ⟨y5482, y5483, y5484, y5485, y5486, y5487, y5488, rfl, K5489, F5490, F5491, F5492, F5493, F5494, F5495, F5496, F5497, F5498, F5499, F5500, F5501, F5502, F5503, F5504, u5505, u5506, u5507, u5508⟩ := r5481
      have F5509 := F5452.keep K5489 (ninS ne4990 (ninS ne5080 (ninS ne5066 (ninS ne5094 (ninS ne5073 (ninS ne5059 (ninS ne5087 (ninS ne5122 (ninS ne5176 nin0)))))))))
      have F5510 := F5453.keep K5489 (ninS ne4991 (ninS ne5081 (ninS ne5067 (ninS ne5095 (ninS ne5074 (ninS ne5060 (ninS ne5088 (ninS ne5123 (ninS ne5177 nin0)))))))))
      have F5511 := F5454.keep K5489 (ninS ne4992 (ninS ne5082 (ninS ne5068 (ninS ne5096 (ninS ne5075 (ninS ne5061 (ninS ne5089 (ninS ne5124 (ninS ne5178 nin0)))))))))
      have F5512 := F5455.keep K5489 (ninS ne4993 (ninS ne5083 (ninS ne5069 (ninS ne5097 (ninS ne5076 (ninS ne5062 (ninS ne5090 (ninS ne5125 (ninS ne5179 nin0)))))))))
      have F5513 := F5456.keep K5489 (ninS ne4994 (ninS ne5084 (ninS ne5070 (ninS ne5098 (ninS ne5077 (ninS ne5063 (ninS ne5091 (ninS ne5126 (ninS ne5180 nin0)))))))))
      have F5514 := F5457.keep K5489 (ninS ne4995 (ninS ne5085 (ninS ne5071 (ninS ne5099 (ninS ne5078 (ninS ne5064 (ninS ne5092 (ninS ne5127 (ninS ne5181 nin0)))))))))
      have F5515 := F5458.keep K5489
      have F5516 := F5459.keep K5489
      have F5535 := F5451.keep K5489 (ninS (Ne.symm ne5196) (ninS (Ne.symm ne5200) (ninS (Ne.symm ne5198) (ninS (Ne.symm ne5202) (ninS (Ne.symm ne5199) (ninS (Ne.symm ne5197) (ninS (Ne.symm ne5201) (ninS (Ne.symm ne5203) (ninS (Ne.symm ne5165) nin0)))))))))
      refine C.istore (Ls' := #[.val (.long x0), .second, .val (.long x1), .second, .val (.long x2), .second, .val (.long x3), .second, .val (.long x4), .second, iv x5, iv 3, .val (.long c12), .second, iv 1, rv a4834, rv a4853, rv a4877, rv a4888, rv a4908, rv a4939, rv a4939, rv a4983, rv a5115, iv 0, iv y5484, .unset]) at_239 rfl rfl ?_
      refine C.aload at_241 rfl rfl rfl ?_
      refine C.iload at_243 rfl rfl ?_
      refine C.aload at_245 rfl rfl rfl ?_
      refine C.callV (argsL := [(.int y5484), (.ref a4939)]) (rest := []) 0 (fun zz => con_is3 l Z a0 hw n0 h5480 zz a4983 a5015 a5013 a5017 a4939 y5484 (own_c3 x0 x1 x2) y5485 y5486 y5487 y5488 x3 x4 c12 F5490 F5491 F5492 F5496 F5497 F5498 F5514 u5507 (own_c3len x0 x1 x2) (own_c3rg x0 x1 x2)) F5515 at_247 rfl (tw hw 86 rfl) (tw hw 87 rfl) (tw hw 88 rfl) (tw hw 89 rfl) (tw hw 4 rfl) (tw hw 90 rfl) (by decide) pd_10 rfl rfl rfl (Nat.le_of_eq rfl) (by decide) (by decide) (by decide) (by decide) (fun v5536 h5537 r5538 => ?_)
      obtain ⟨rfl, rfl⟩ := r5538
      refine C.lloadN at_250 rfl rfl ?_
      refine C.lloadN at_251 rfl rfl ?_
      refine C.lload at_252 rfl rfl ?_
      refine C.lload at_254 rfl rfl ?_
      refine C.lload at_256 rfl rfl ?_
      refine C.lload at_258 rfl rfl ?_
      refine C.iload at_260 rfl rfl ?_
      refine C.callS (argsL := [(.long x0), (.long x1), (.long x2), (.long x3), (.long x4), (.long c12), (.int 3)]) (rest := [(.int (own_mt 3 x3 x4 c12 (own_c3 x0 x1 x2)))]) 1 (fun zz => con_ep l Z a0 hw n0 h5480 zz x0 x1 x2 x3 x4 c12 3 ) at_262 rfl (tw hw 91 rfl) (tw hw 92 rfl) (tw hw 93 rfl) (tw hw 94 rfl) (by decide) pd_11 rfl rfl rfl (Nat.le_of_eq rfl) (by decide) (by decide) (by decide) (by decide) (fun v5540 h5541 r5542 => ?_)
      obtain ⟨rfl, rfl⟩ := r5542
      refine C.icmp_ne_f at_265 rfl (own_pl _ _ _ _ _ _ _) ?_
      refine C.iconst 1 at_268 rfl rfl ?_
      refine C.goto at_269 (by decide) rfl ?_
      refine C.istore (Ls' := #[.val (.long x0), .second, .val (.long x1), .second, .val (.long x2), .second, .val (.long x3), .second, .val (.long x4), .second, iv x5, iv 3, .val (.long c12), .second, iv 1, rv a4834, rv a4853, rv a4877, rv a4888, rv a4908, rv a4939, rv a4939, rv a4983, rv a5115, iv 0, iv y5484, iv 1]) at_273 rfl rfl ?_
      refine C.iload at_275 rfl rfl ?_
      refine C.if_eq_f at_277 rfl (by decide) ?_
      refine C.iload at_280 rfl rfl ?_
      refine C.if_eq_f at_282 rfl (by decide) ?_
      refine C.iload at_285 rfl rfl ?_
      refine C.iload at_287 rfl rfl ?_
      refine C.icmp_eq_f at_289 rfl (fun q => own_cpl x0 (own_c3inj (u5508 q.symm))) ?_
      refine C.aload at_292 rfl rfl rfl ?_
      refine C.iload at_294 rfl rfl ?_
      refine C.aload at_296 rfl rfl rfl ?_
      refine C.callV (argsL := [(.int 0), (.ref a4939)]) (rest := []) 0 (fun zz => con_is3 l Z a0 hw n0 h5480 zz a4983 a5015 a5013 a5017 a4939 0 (own_c3 (x0 ^^^ (-1 : Int64)) (x1 ^^^ (-1 : Int64)) (x2 ^^^ (-1 : Int64))) y5485 y5486 y5487 y5488 x3 x4 c12 F5490 F5491 F5492 F5496 F5497 F5498 F5514 u5506 (own_c3len (x0 ^^^ (-1 : Int64)) (x1 ^^^ (-1 : Int64)) (x2 ^^^ (-1 : Int64))) (own_c3rg (x0 ^^^ (-1 : Int64)) (x1 ^^^ (-1 : Int64)) (x2 ^^^ (-1 : Int64)))) F5515 at_298 rfl (tw hw 86 rfl) (tw hw 87 rfl) (tw hw 88 rfl) (tw hw 89 rfl) (tw hw 4 rfl) (tw hw 90 rfl) (by decide) pd_10 rfl rfl rfl (Nat.le_of_eq rfl) (by decide) (by decide) (by decide) (by decide) (fun v5544 h5545 r5546 => ?_)
      obtain ⟨rfl, rfl⟩ := r5546
      refine C.lloadN at_301 rfl rfl ?_
      refine C.ldc2J at_302 rfl (tw hw 1 rfl) ?_
      refine C.lxor at_305 rfl ?_
      refine C.lloadN at_306 rfl rfl ?_
      refine C.ldc2J at_307 rfl (tw hw 1 rfl) ?_
      refine C.lxor at_310 rfl ?_
      refine C.lload at_311 rfl rfl ?_
      refine C.ldc2J at_313 rfl (tw hw 1 rfl) ?_
      refine C.lxor at_316 rfl ?_
      refine C.lload at_317 rfl rfl ?_
      refine C.lload at_319 rfl rfl ?_
      refine C.lload at_321 rfl rfl ?_
      refine C.iload at_323 rfl rfl ?_
      refine C.callS (argsL := [(.long (x0 ^^^ (-1 : Int64))), (.long (x1 ^^^ (-1 : Int64))), (.long (x2 ^^^ (-1 : Int64))), (.long x3), (.long x4), (.long c12), (.int 3)]) (rest := [(.int (own_mt 3 x3 x4 c12 (own_c3 (x0 ^^^ (-1 : Int64)) (x1 ^^^ (-1 : Int64)) (x2 ^^^ (-1 : Int64)))))]) 1 (fun zz => con_ep l Z a0 hw n0 h5480 zz (x0 ^^^ (-1 : Int64)) (x1 ^^^ (-1 : Int64)) (x2 ^^^ (-1 : Int64)) x3 x4 c12 3 ) at_325 rfl (tw hw 91 rfl) (tw hw 92 rfl) (tw hw 93 rfl) (tw hw 94 rfl) (by decide) pd_11 rfl rfl rfl (Nat.le_of_eq rfl) (by decide) (by decide) (by decide) (by decide) (fun v5548 h5549 r5550 => ?_)
      obtain ⟨rfl, rfl⟩ := r5550
      refine C.icmp_ne_f at_328 rfl (own_pl _ _ _ _ _ _ _) ?_
      refine C.iconst 1 at_331 rfl rfl ?_
      refine C.goto at_332 (by decide) rfl ?_
      refine C.istore (Ls' := #[.val (.long x0), .second, .val (.long x1), .second, .val (.long x2), .second, .val (.long x3), .second, .val (.long x4), .second, iv x5, iv 3, .val (.long c12), .second, iv 1, rv a4834, rv a4853, rv a4877, rv a4888, rv a4908, rv a4939, rv a4939, rv a4983, rv a5115, iv 0, iv y5484, iv 1]) at_336 rfl rfl ?_
      refine C.iload at_338 rfl rfl ?_
      exact C.retZ at_340 rfl (by decide) (by decide) ⟨rfl, trivial⟩
    refine C.if_eq at_27 (by decide) rfl rfl (fun q27 => ?_) (fun q27 => ?_)
    · refine C.iconst 0 at_34 rfl rfl ?_
      exact (J35_4833 0 (Or.inl rfl)).more (by decide) (by decide)
    refine C.iconst 1 at_30 rfl rfl ?_
    refine C.goto at_31 (by decide) rfl ?_
    exact (J35_4833 1 (Or.inr rfl)).more (by decide) (by decide)
  refine C.if_eq at_10 (by decide) rfl rfl (fun q10 => ?_) (fun q10 => ?_)
  · refine C.lload at_18 rfl rfl ?_
    exact J20_4832 x4
  refine C.lload at_13 rfl rfl ?_
  refine C.goto at_15 (by decide) rfl ?_
  exact J20_4832 x3
set_option maxRecDepth 65536 in
set_option maxHeartbeats 40000000 in
theorem comes_1 {Post : Tables → Env → Array Value → State → Outcome → State → Prop} (hpost : ∀ tb e args s v u, (limb_1_1.after args s (.returned v) u = true ∧ limb_1_2.after args s (.returned v) u = true ∧ True) → FrameEnd s (.returned v) u (Jvm.fieldLocs frame_1_writes args s ++ Jvm.arrayLocs frame_1_arrays args s ++ Jvm.staticLocs frame_1_statics s) 40 384 → Post tb e args s (.returned v) u) :
    ArmFor flags0 classFile x code maxLocals ret World_1 tables_1 room_1 Calls_1 rest_1 Pre_1 Post := by
  intro l hfl _ _ p e ha hc hk s m args below hf hA hF happ hP
  obtain ⟨hcalls, hrest, hpre⟩ := hP
  obtain ⟨-, -, -, hnamed, -, -, -, hat⟩ := (Spec.applies_iff hf).mp happ
  obtain ⟨hg, hn⟩ := and_e (Cond.before_iff.mp (show (Jvm.Cond.and given_1 narrow_1).before args s = true from hpre))
  obtain ⟨h1, h2⟩ := and_e hg
  obtain ⟨w0, w1, w2, w3, w4, w5, rfl⟩ : ∃ w0 w1 w2 w3 w4 w5 : Value, args = #[w0, w1, w2, w3, w4, w5] := by
    have hs : args.size = 6 := by simpa [Cond.value, given_1] using h1
    obtain ⟨L⟩ := args
    match L, hs with
    | [w0, w1, w2, w3, w4, w5], _ => exact ⟨w0, w1, w2, w3, w4, w5, rfl⟩
  have hw := fun d (hd : d ∈ tables_1) => atoms_spec (ws := Jvm.Cond.code x code maxLocals ret :: tables_1) hat d (List.mem_cons_of_mem _ hd)
  obtain ⟨u0, t0⟩ := and_e h2
  obtain ⟨i0, e0⟩ := isL_v u0
  obtain rfl : w0 = (.long i0) := Option.some.inj e0
  obtain ⟨u1, t1⟩ := and_e t0
  obtain ⟨i1, e1⟩ := isL_v u1
  obtain rfl : w1 = (.long i1) := Option.some.inj e1
  obtain ⟨u2, t2⟩ := and_e t1
  obtain ⟨i2, e2⟩ := isL_v u2
  obtain rfl : w2 = (.long i2) := Option.some.inj e2
  obtain ⟨u3, t3⟩ := and_e t2
  obtain ⟨i3, e3⟩ := isL_v u3
  obtain rfl : w3 = (.long i3) := Option.some.inj e3
  obtain ⟨u4, t4⟩ := and_e t3
  obtain ⟨i4, e4⟩ := isL_v u4
  obtain rfl : w4 = (.long i4) := Option.some.inj e4
  obtain ⟨i5, e5⟩ := is_v t4
  obtain rfl : w5 = (.int i5) := Option.some.inj e5
  obtain ⟨n, o, h1, h2, h3, _, L, rfl, ⟨⟨rfl, -⟩, N⟩, hq⟩ := con0 l s _ hw s.heap.size s.heap (Nat.le_refl _) i0 i1 i2 i3 i4 i5 p e ha hc hk s m _ below hf ((Spec.applies_iff_loose hf).mp happ).1 ⟨rfl, State.Warmed39.refl s, rfl⟩ trivial
  refine ⟨n, _, h1, h2, h3, hpost _ _ _ _ _ _ ⟨Cond.after_iff.mpr rfl, Cond.after_iff.mpr (eq_i res_at (Term.int_eval (1)) rfl), trivial⟩ ⟨hq.1, hq.2.1, (hq.2.2.sift fun y hy => Or.inr (N y hy)).mono (by decide) (by decide)⟩⟩
theorem main_1_1 : Claimed_1_1 := comes_1 fun _ _ _ _ _ _ h hF => ⟨h.1, hF⟩
theorem main_1_2 : Claimed_1_2 := comes_1 fun _ _ _ _ _ _ h hF => ⟨h.2.1, hF⟩
end Jvm.Pilot.@@N@@
namespace Jvm.Pilot.@@N@@
open Jvm Jvm.ClassFile Sem Op Lib Jvm.Free Jvm.Stand Jvm.Pilot.@@N@@.Jvm.D
/-! MADE BY PROGRAM (witnessworld.py) out of the Statement's table words and the real class files: 18 classes; the members and pool entries that the words name. The judged class is class 1, her method 2. -/
namespace start1
open Jvm.ClassFile
def u (s : String) : CpInfo := .utf8 (stringToUtf16 s)
/-- a pool by its gaps: so many unusable entries, then the entry; so many at the end -/
def gap : Nat → List CpInfo → List CpInfo
  | 0, r => r
  | n + 1, r => .unusable :: gap n r
def poolList (es : List (Nat × CpInfo)) (last : Nat) : List CpInfo := es.foldr (fun e r => gap e.1 (e.2 :: r)) (gap last [])
def pool (es : List (Nat × CpInfo)) (last : Nat) : Array CpInfo := ⟨poolList es last⟩
def fileOf (pool : Array CpInfo) (this : Nat) (attrs : Array Attribute := #[]) (ms : Array MethodInfo := #[]) (fl : Nat := 33) (sup : Nat := 0) (ifs : Array Nat := #[]) (fds : Array FieldInfo := #[]) : ClassFile where
  minorVersion := 0
  majorVersion := 65
  constantPool := pool
  accessFlags := fl
  thisClass := this
  superClass := sup
  interfaces := ifs
  fields := fds
  methods := ms
  attributes := attrs
def plain (name : String) (sup : Option ClassId) : Class where
  name := name
  kind := .ordinary
  loader := none
  accessFlags := 33
  super := sup
  interfaces := #[]
  cf := none
  fields := #[]
  methods := #[]
  instanceTypes := #[]
  staticTypes := #[]
  resolved := #[]
  callSites := []
  init := .initialized
  statics := none
  mirror := none

def pool0 : Array CpInfo := pool [(5, u "<init>"), (0, u "()V"), (1, .class_ 10), (1, u "java/lang/Object")] 113

def k0c0 : Code := { maxStack := 0, maxLocals := 1, code := object_method_1_code, exceptionTable := #[], attributes := #[] }
def k0m0 : Method := { name := "<init>", desc := "()V", sig := { parameters := [], returnType := none }, accessFlags := 1, code := some k0c0 }
/-- java/lang/Object -/
def k0 : Class := { plain "java/lang/Object" none with
  accessFlags := 33
  interfaces := #[]
  cf := some (fileOf pool0 8 #[] #[{ accessFlags := 1, nameIndex := 5, descriptorIndex := 6, attributes := #[] }] 33 0 #[] #[])
  fields := #[]
  methods := #[k0m0]
  instanceTypes := #[]
  staticTypes := #[]
  resolved := Array.replicate 124 none
  statics := none }

def pool1 : Array CpInfo := pool [(2, .class_ 4), (0, .nameAndType 5 6), (0, u "java/lang/Object"), (0, u "<init>"), (0, u "()V"), (0, .long 18446744073709551615), (1, .class_ 10), (0, u "com/example/detra/detra/StateSets"), (0, .methodref 9 3), (0, .class_ 13), (0, u "com/example/detra/detra/SetWords"), (0, .methodref 12 15), (0, .nameAndType 5 16), (0, u "(I)V"), (0, .methodref 12 18), (0, .nameAndType 19 20), (0, u "addWords"), (0, u "([JII)V"), (0, .methodref 9 22), (0, .nameAndType 23 24), (0, u "number"), (0, u "(Lcom/example/detra/detra/SetWords;)I"), (0, .methodref 12 26), (0, .nameAndType 27 6), (0, u "clear"), (0, .methodref 9 29), (0, .nameAndType 30 31), (0, u "intersects"), (0, u "(I[J)Z"), (0, .methodref 33 34), (0, .class_ 35), (0, .nameAndType 36 37), (0, u "com/example/detra/detra/StateSetsIntersectsPinLaw"), (0, u "expect"), (0, u "(JJJJJJI)Z"), (3, u "law"), (0, u "(JJJJJI)Z")] 4

def k1m0 : Method := { name := "<init>", desc := "()V", sig := { parameters := [], returnType := none }, accessFlags := 1, code := none }
def k1c1 : Code := { maxStack := 4, maxLocals := 16, code := method_2_code, exceptionTable := #[], attributes := #[] }
def k1m1 : Method := { name := "expect", desc := "(JJJJJJI)Z", sig := { parameters := [.long, .long, .long, .long, .long, .long, .int], returnType := some .boolean }, accessFlags := 10, code := some k1c1 }
def k1c2 : Code := { maxStack := 14, maxLocals := 27, code := code, exceptionTable := #[], attributes := #[] }
def k1m2 : Method := { name := "law", desc := "(JJJJJI)Z", sig := { parameters := [.long, .long, .long, .long, .long, .int], returnType := some .boolean }, accessFlags := 9, code := some k1c2 }
/-- com/example/detra/detra/StateSetsIntersectsPinLaw -/
def k1 : Class := { plain "com/example/detra/detra/StateSetsIntersectsPinLaw" (some 0) with
  accessFlags := 49
  interfaces := #[]
  cf := some (fileOf pool1 33 #[] #[{ accessFlags := 1, nameIndex := 5, descriptorIndex := 6, attributes := #[] }, { accessFlags := 10, nameIndex := 36, descriptorIndex := 37, attributes := #[] }, { accessFlags := 9, nameIndex := 41, descriptorIndex := 42, attributes := #[] }] 49 2 #[] #[])
  fields := #[]
  methods := #[k1m0, k1m1, k1m2]
  instanceTypes := #[]
  staticTypes := #[]
  resolved := Array.replicate 47 none
  statics := none }

def pool2 : Array CpInfo := pool [(1, .methodref 2 3), (0, .class_ 4), (0, .nameAndType 5 6), (0, u "java/lang/Object"), (0, u "<init>"), (0, u "()V"), (0, .fieldref 8 9), (0, .class_ 10), (0, .nameAndType 11 12), (0, u "com/example/detra/detra/StateSets"), (0, u "starts"), (0, u "[I"), (0, .fieldref 8 14), (0, .nameAndType 15 12), (0, u "indices"), (0, .fieldref 8 17), (0, .nameAndType 18 19), (0, u "words"), (0, u "[J"), (0, .fieldref 8 21), (0, .nameAndType 22 12), (0, u "sizes"), (0, .fieldref 8 24), (0, .nameAndType 25 12), (0, u "hashes"), (0, .fieldref 8 27), (0, .nameAndType 28 12), (0, u "table"), (0, .methodref 30 31), (0, .class_ 32), (0, .nameAndType 33 6), (0, u "com/example/detra/detra/SetWords"), (0, u "listHeld"), (0, .methodref 8 35), (0, .nameAndType 36 37), (0, u "hash"), (0, u "(Lcom/example/detra/detra/SetWords;)I"), (0, .methodref 8 39), (0, .nameAndType 40 41), (0, u "equal"), (0, u "(IILcom/example/detra/detra/SetWords;)Z"), (0, .methodref 8 43), (0, .nameAndType 44 45), (0, u "add"), (0, u "(Lcom/example/detra/detra/SetWords;I)I"), (0, .fieldref 8 47), (0, .nameAndType 48 49), (0, u "size"), (0, u "I"), (3, .class_ 54), (0, u "java/lang/Long"), (3, u "(J)I"), (2, .methodref 30 62), (0, .nameAndType 63 64), (0, u "heldCount"), (0, u "()I"), (15, .methodref 30 81), (0, .nameAndType 82 83), (0, u "heldIndex"), (0, u "(I)I"), (0, .methodref 30 85), (0, .nameAndType 86 87), (0, u "word"), (0, u "(I)J"), (0, .methodref 53 89), (0, .nameAndType 90 58), (0, u "bitCount"), (0, .long 11400714819323198485), (1, u "MIX"), (0, u "J"), (3, u "number"), (7, u "intersects"), (0, u "(I[J)Z")] 2

def k2c0 : Code := { maxStack := 2, maxLocals := 1, code := prog_22_method_1_code, exceptionTable := #[], attributes := #[] }
def k2m0 : Method := { name := "<init>", desc := "()V", sig := { parameters := [], returnType := none }, accessFlags := 0, code := some k2c0 }
def k2c1 : Code := { maxStack := 4, maxLocals := 6, code := prog_22_method_2_code, exceptionTable := #[], attributes := #[] }
def k2m1 : Method := { name := "number", desc := "(Lcom/example/detra/detra/SetWords;)I", sig := { parameters := [(.object "com/example/detra/detra/SetWords")], returnType := some .int }, accessFlags := 0, code := some k2c1 }
def k2c2 : Code := { maxStack := 5, maxLocals := 5, code := prog_22_method_7_code, exceptionTable := #[], attributes := #[] }
def k2m2 : Method := { name := "intersects", desc := "(I[J)Z", sig := { parameters := [.int, (.array .long)], returnType := some .boolean }, accessFlags := 0, code := some k2c2 }
def k2c3 : Code := { maxStack := 5, maxLocals := 7, code := prog_22_method_8_code, exceptionTable := #[], attributes := #[] }
def k2m3 : Method := { name := "add", desc := "(Lcom/example/detra/detra/SetWords;I)I", sig := { parameters := [(.object "com/example/detra/detra/SetWords"), .int], returnType := some .int }, accessFlags := 2, code := some k2c3 }
def k2c4 : Code := { maxStack := 4, maxLocals := 8, code := prog_22_method_10_code, exceptionTable := #[], attributes := #[] }
def k2m4 : Method := { name := "equal", desc := "(IILcom/example/detra/detra/SetWords;)Z", sig := { parameters := [.int, .int, (.object "com/example/detra/detra/SetWords")], returnType := some .boolean }, accessFlags := 2, code := some k2c4 }
def k2c5 : Code := { maxStack := 5, maxLocals := 5, code := prog_22_method_11_code, exceptionTable := #[], attributes := #[] }
def k2m5 : Method := { name := "hash", desc := "(Lcom/example/detra/detra/SetWords;)I", sig := { parameters := [(.object "com/example/detra/detra/SetWords")], returnType := some .int }, accessFlags := 10, code := some k2c5 }
/-- com/example/detra/detra/StateSets -/
def k2 : Class := { plain "com/example/detra/detra/StateSets" (some 0) with
  accessFlags := 48
  interfaces := #[]
  cf := some (fileOf pool2 8 #[] #[{ accessFlags := 0, nameIndex := 5, descriptorIndex := 6, attributes := #[] }, { accessFlags := 0, nameIndex := 98, descriptorIndex := 37, attributes := #[] }, { accessFlags := 0, nameIndex := 106, descriptorIndex := 107, attributes := #[] }, { accessFlags := 2, nameIndex := 44, descriptorIndex := 45, attributes := #[] }, { accessFlags := 2, nameIndex := 40, descriptorIndex := 41, attributes := #[] }, { accessFlags := 10, nameIndex := 36, descriptorIndex := 37, attributes := #[] }] 48 2 #[] #[{ accessFlags := 26, nameIndex := 93, descriptorIndex := 94, attributes := #[] }, { accessFlags := 2, nameIndex := 11, descriptorIndex := 12, attributes := #[] }, { accessFlags := 2, nameIndex := 15, descriptorIndex := 12, attributes := #[] }, { accessFlags := 2, nameIndex := 18, descriptorIndex := 19, attributes := #[] }, { accessFlags := 2, nameIndex := 22, descriptorIndex := 12, attributes := #[] }, { accessFlags := 2, nameIndex := 25, descriptorIndex := 12, attributes := #[] }, { accessFlags := 2, nameIndex := 28, descriptorIndex := 12, attributes := #[] }, { accessFlags := 2, nameIndex := 48, descriptorIndex := 49, attributes := #[] }])
  fields := #[{ name := "MIX", type := .long, accessFlags := 26, slot := 0, constantValue := 0 }, { name := "starts", type := (.array .int), accessFlags := 2, slot := 0, constantValue := 0 }, { name := "indices", type := (.array .int), accessFlags := 2, slot := 1, constantValue := 0 }, { name := "words", type := (.array .long), accessFlags := 2, slot := 2, constantValue := 0 }, { name := "sizes", type := (.array .int), accessFlags := 2, slot := 3, constantValue := 0 }, { name := "hashes", type := (.array .int), accessFlags := 2, slot := 4, constantValue := 0 }, { name := "table", type := (.array .int), accessFlags := 2, slot := 5, constantValue := 0 }, { name := "size", type := .int, accessFlags := 2, slot := 6, constantValue := 0 }]
  methods := #[k2m0, k2m1, k2m2, k2m3, k2m4, k2m5]
  instanceTypes := #[(.array .int), (.array .int), (.array .long), (.array .int), (.array .int), (.array .int), .int]
  staticTypes := #[.long]
  resolved := Array.replicate 110 none
  statics := none }

def pool3 : Array CpInfo := pool [(1, .methodref 2 3), (0, .class_ 4), (0, .nameAndType 5 6), (0, u "java/lang/Object"), (0, u "<init>"), (0, u "()V"), (2, .fieldref 10 11), (0, .class_ 12), (0, .nameAndType 13 14), (0, u "com/example/detra/detra/SetWords"), (0, u "words"), (0, u "[J"), (0, .fieldref 10 16), (0, .nameAndType 17 18), (0, u "listing"), (0, u "Z"), (0, .fieldref 10 20), (0, .nameAndType 21 22), (0, u "held"), (0, u "[I"), (0, .fieldref 10 24), (0, .nameAndType 25 26), (0, u "count"), (0, u "I"), (2, u "clear"), (2, u "addWords"), (0, u "([JII)V"), (7, .class_ 43), (1, u "java/util/Arrays"), (0, u "fill"), (1, .methodref 41 47), (0, .nameAndType 44 48), (0, u "([JJ)V"), (6, u "listHeld"), (10, u "(I)V"), (0, u "FEW_WORDS"), (11, u "heldCount"), (0, u "()I"), (0, u "heldIndex"), (0, u "(I)I"), (0, u "word"), (0, u "(I)J")] 4

def k3c0 : Code := { maxStack := 3, maxLocals := 3, code := prog_21_method_1_code, exceptionTable := #[], attributes := #[] }
def k3m0 : Method := { name := "<init>", desc := "(I)V", sig := { parameters := [.int], returnType := none }, accessFlags := 0, code := some k3c0 }
def k3c1 : Code := { maxStack := 7, maxLocals := 5, code := prog_21_method_4_code, exceptionTable := #[], attributes := #[] }
def k3m1 : Method := { name := "addWords", desc := "([JII)V", sig := { parameters := [(.array .long), .int, .int], returnType := none }, accessFlags := 0, code := some k3c1 }
def k3c2 : Code := { maxStack := 4, maxLocals := 2, code := prog_21_method_6_code, exceptionTable := #[], attributes := #[] }
def k3m2 : Method := { name := "clear", desc := "()V", sig := { parameters := [], returnType := none }, accessFlags := 0, code := some k3c2 }
def k3c3 : Code := { maxStack := 5, maxLocals := 2, code := prog_21_method_7_code, exceptionTable := #[], attributes := #[] }
def k3m3 : Method := { name := "listHeld", desc := "()V", sig := { parameters := [], returnType := none }, accessFlags := 0, code := some k3c3 }
def k3c4 : Code := { maxStack := 1, maxLocals := 1, code := prog_21_method_9_code, exceptionTable := #[], attributes := #[] }
def k3m4 : Method := { name := "heldCount", desc := "()I", sig := { parameters := [], returnType := some .int }, accessFlags := 0, code := some k3c4 }
def k3c5 : Code := { maxStack := 2, maxLocals := 2, code := prog_21_method_10_code, exceptionTable := #[], attributes := #[] }
def k3m5 : Method := { name := "heldIndex", desc := "(I)I", sig := { parameters := [.int], returnType := some .int }, accessFlags := 0, code := some k3c5 }
def k3c6 : Code := { maxStack := 2, maxLocals := 2, code := prog_21_method_11_code, exceptionTable := #[], attributes := #[] }
def k3m6 : Method := { name := "word", desc := "(I)J", sig := { parameters := [.int], returnType := some .long }, accessFlags := 0, code := some k3c6 }
/-- com/example/detra/detra/SetWords -/
def k3 : Class := { plain "com/example/detra/detra/SetWords" (some 0) with
  accessFlags := 48
  interfaces := #[]
  cf := some (fileOf pool3 10 #[] #[{ accessFlags := 0, nameIndex := 5, descriptorIndex := 66, attributes := #[] }, { accessFlags := 0, nameIndex := 32, descriptorIndex := 33, attributes := #[] }, { accessFlags := 0, nameIndex := 29, descriptorIndex := 6, attributes := #[] }, { accessFlags := 0, nameIndex := 55, descriptorIndex := 6, attributes := #[] }, { accessFlags := 0, nameIndex := 79, descriptorIndex := 80, attributes := #[] }, { accessFlags := 0, nameIndex := 81, descriptorIndex := 82, attributes := #[] }, { accessFlags := 0, nameIndex := 83, descriptorIndex := 84, attributes := #[] }] 48 2 #[] #[{ accessFlags := 24, nameIndex := 67, descriptorIndex := 26, attributes := #[] }, { accessFlags := 18, nameIndex := 13, descriptorIndex := 14, attributes := #[] }, { accessFlags := 18, nameIndex := 17, descriptorIndex := 18, attributes := #[] }, { accessFlags := 18, nameIndex := 21, descriptorIndex := 22, attributes := #[] }, { accessFlags := 2, nameIndex := 25, descriptorIndex := 26, attributes := #[] }])
  fields := #[{ name := "FEW_WORDS", type := .int, accessFlags := 24, slot := 0, constantValue := 0 }, { name := "words", type := (.array .long), accessFlags := 18, slot := 0, constantValue := 0 }, { name := "listing", type := .boolean, accessFlags := 18, slot := 1, constantValue := 0 }, { name := "held", type := (.array .int), accessFlags := 18, slot := 2, constantValue := 0 }, { name := "count", type := .int, accessFlags := 2, slot := 3, constantValue := 0 }]
  methods := #[k3m0, k3m1, k3m2, k3m3, k3m4, k3m5, k3m6]
  instanceTypes := #[(.array .long), .boolean, (.array .int), .int]
  staticTypes := #[.int]
  resolved := Array.replicate 89 none
  statics := none }

def pool4 : Array CpInfo := pool [(1, .class_ 2), (0, u "java/io/Serializable"), (0, .class_ 4), (0, u "java/lang/Object")] 2

/-- java/io/Serializable -/
def k4 : Class := { plain "java/io/Serializable" (some 0) with
  accessFlags := 1537
  interfaces := #[]
  cf := some (fileOf pool4 1 #[] #[] 1537 3 #[] #[])
  fields := #[]
  methods := #[]
  instanceTypes := #[]
  staticTypes := #[]
  resolved := Array.replicate 7 none
  statics := none }

def pool5 : Array CpInfo := pool [(2, .class_ 4), (1, u "java/lang/Object"), (0, u "<init>"), (0, u "()V"), (1, .class_ 10), (1, u "java/lang/Number"), (2, .class_ 14), (0, u "java/io/Serializable"), (0, u "serialVersionUID"), (0, u "J")] 20

def k5m0 : Method := { name := "<init>", desc := "()V", sig := { parameters := [], returnType := none }, accessFlags := 1, code := none }
/-- java/lang/Number -/
def k5 : Class := { plain "java/lang/Number" (some 0) with
  accessFlags := 1057
  interfaces := #[4]
  cf := some (fileOf pool5 8 #[] #[{ accessFlags := 1, nameIndex := 5, descriptorIndex := 6, attributes := #[] }] 1057 2 #[13] #[{ accessFlags := 26, nameIndex := 15, descriptorIndex := 16, attributes := #[] }])
  fields := #[{ name := "serialVersionUID", type := .long, accessFlags := 26, slot := 0, constantValue := 0 }]
  methods := #[k5m0]
  instanceTypes := #[]
  staticTypes := #[.long]
  resolved := Array.replicate 37 none
  statics := none }

def pool6 : Array CpInfo := pool [(1, .class_ 2), (0, u "java/lang/Comparable"), (0, .class_ 4), (0, u "java/lang/Object")] 7

/-- java/lang/Comparable -/
def k6 : Class := { plain "java/lang/Comparable" (some 0) with
  accessFlags := 1537
  interfaces := #[]
  cf := some (fileOf pool6 1 #[] #[] 1537 3 #[] #[])
  fields := #[]
  methods := #[]
  instanceTypes := #[]
  staticTypes := #[]
  resolved := Array.replicate 12 none
  statics := none }

def pool7 : Array CpInfo := pool [(1, .class_ 2), (0, u "java/lang/constant/Constable"), (0, .class_ 4), (0, u "java/lang/Object")] 6

/-- java/lang/constant/Constable -/
def k7 : Class := { plain "java/lang/constant/Constable" (some 0) with
  accessFlags := 1537
  interfaces := #[]
  cf := some (fileOf pool7 1 #[] #[] 1537 3 #[] #[])
  fields := #[]
  methods := #[]
  instanceTypes := #[]
  staticTypes := #[]
  resolved := Array.replicate 11 none
  statics := none }

def pool8 : Array CpInfo := pool [(1, .class_ 2), (0, u "java/lang/constant/ConstantDesc"), (0, .class_ 4), (0, u "java/lang/Object")] 32

/-- java/lang/constant/ConstantDesc -/
def k8 : Class := { plain "java/lang/constant/ConstantDesc" (some 0) with
  accessFlags := 1537
  interfaces := #[]
  cf := some (fileOf pool8 1 #[] #[] 1537 3 #[] #[])
  fields := #[]
  methods := #[]
  instanceTypes := #[]
  staticTypes := #[]
  resolved := Array.replicate 37 none
  statics := none }

def pool9 : Array CpInfo := pool [(1, .class_ 2), (0, u "java/lang/Long"), (98, u "(J)I"), (133, .class_ 237), (1, u "java/lang/Long$LongCache"), (33, .class_ 272), (0, u "java/lang/Number"), (2, u "value"), (0, u "J"), (37, .long 6148914691236517205), (1, .long 3689348814741910323), (1, .long 1085102592571150095), (42, u "TYPE"), (0, u "Ljava/lang/Class;"), (0, .class_ 364), (0, u "java/lang/Comparable"), (0, .class_ 366), (0, u "java/lang/constant/Constable"), (0, .class_ 368), (0, u "java/lang/constant/ConstantDesc"), (0, u "MIN_VALUE"), (1, u "MAX_VALUE"), (4, u "SIZE"), (0, u "I"), (1, u "BYTES"), (1, u "serialVersionUID"), (94, u "bitCount")] 47

def k9c0 : Code := { maxStack := 6, maxLocals := 2, code := jdk_35_method_50_code, exceptionTable := #[], attributes := #[] }
def k9m0 : Method := { name := "bitCount", desc := "(J)I", sig := { parameters := [.long], returnType := some .int }, accessFlags := 9, code := some k9c0 }
/-- java/lang/Long -/
def k9 : Class := { plain "java/lang/Long" (some 5) with
  accessFlags := 49
  interfaces := #[6, 7, 8]
  cf := some (fileOf pool9 1 #[.nestMembers #[235]] #[{ accessFlags := 9, nameIndex := 476, descriptorIndex := 101, attributes := #[] }] 49 271 #[363, 365, 367] #[{ accessFlags := 25, nameIndex := 369, descriptorIndex := 276, attributes := #[] }, { accessFlags := 25, nameIndex := 371, descriptorIndex := 276, attributes := #[] }, { accessFlags := 25, nameIndex := 361, descriptorIndex := 362, attributes := #[] }, { accessFlags := 18, nameIndex := 275, descriptorIndex := 276, attributes := #[] }, { accessFlags := 25, nameIndex := 376, descriptorIndex := 377, attributes := #[] }, { accessFlags := 25, nameIndex := 379, descriptorIndex := 377, attributes := #[] }, { accessFlags := 26, nameIndex := 381, descriptorIndex := 276, attributes := #[] }])
  fields := #[{ name := "MIN_VALUE", type := .long, accessFlags := 25, slot := 0, constantValue := 0 }, { name := "MAX_VALUE", type := .long, accessFlags := 25, slot := 1, constantValue := 0 }, { name := "TYPE", type := (.object "java/lang/Class"), accessFlags := 25, slot := 2, constantValue := 0 }, { name := "value", type := .long, accessFlags := 18, slot := 0, constantValue := 0 }, { name := "SIZE", type := .int, accessFlags := 25, slot := 3, constantValue := 0 }, { name := "BYTES", type := .int, accessFlags := 25, slot := 4, constantValue := 0 }, { name := "serialVersionUID", type := .long, accessFlags := 26, slot := 5, constantValue := 0 }]
  methods := #[k9m0]
  instanceTypes := #[.long]
  staticTypes := #[.long, .long, (.object "java/lang/Class"), .int, .int, .long]
  resolved := Array.replicate 524 none
  statics := none }

def pool10 : Array CpInfo := pool [(2, .class_ 4), (1, u "java/lang/Object"), (0, u "<init>"), (0, u "()V"), (7, .class_ 16), (1, u "java/util/Arrays"), (57, .class_ 76), (1, u "java/util/Arrays$NaturalOrder"), (36, .class_ 115), (1, u "java/util/Arrays$LegacyMergeSort"), (1, u "Z"), (257, .class_ 376), (0, u "java/util/Arrays$ArrayList"), (68, u "$assertionsDisabled"), (269, u "MIN_ARRAY_SORT_GRAN"), (0, u "I"), (2, u "INSERTIONSORT_THRESHOLD"), (120, u "fill"), (0, u "([JJ)V"), (133, .class_ 976), (0, u "java/util/Arrays$ArrayItr")] 52

def k10m0 : Method := { name := "<init>", desc := "()V", sig := { parameters := [], returnType := none }, accessFlags := 2, code := none }
def k10c1 : Code := { maxStack := 4, maxLocals := 5, code := jdk_65_method_101_code, exceptionTable := #[], attributes := #[] }
def k10m1 : Method := { name := "fill", desc := "([JJ)V", sig := { parameters := [(.array .long), .long], returnType := none }, accessFlags := 9, code := some k10c1 }
/-- java/util/Arrays -/
def k10 : Class := { plain "java/util/Arrays" (some 0) with
  accessFlags := 49
  interfaces := #[]
  cf := some (fileOf pool10 14 #[.nestMembers #[975, 375, 113, 74]] #[{ accessFlags := 2, nameIndex := 5, descriptorIndex := 6, attributes := #[] }, { accessFlags := 9, nameIndex := 840, descriptorIndex := 841, attributes := #[] }] 49 2 #[] #[{ accessFlags := 26, nameIndex := 715, descriptorIndex := 716, attributes := #[] }, { accessFlags := 26, nameIndex := 719, descriptorIndex := 716, attributes := #[] }, { accessFlags := 4120, nameIndex := 445, descriptorIndex := 117, attributes := #[] }])
  fields := #[{ name := "MIN_ARRAY_SORT_GRAN", type := .int, accessFlags := 26, slot := 0, constantValue := 0 }, { name := "INSERTIONSORT_THRESHOLD", type := .int, accessFlags := 26, slot := 1, constantValue := 0 }, { name := "$assertionsDisabled", type := .boolean, accessFlags := 4120, slot := 2, constantValue := 0 }]
  methods := #[k10m0, k10m1]
  instanceTypes := #[]
  staticTypes := #[.int, .int, .boolean]
  resolved := Array.replicate 1029 none
  statics := none }

def pool11 : Array CpInfo := pool [(1, u "java/lang/Cloneable"), (0, .class_ 1), (0, u "java/lang/Object"), (0, .class_ 3)] 3

/-- java/lang/Cloneable -/
def k11 : Class := { plain "java/lang/Cloneable" (some 0) with
  accessFlags := 1537
  interfaces := #[]
  cf := some (fileOf pool11 2 #[] #[] 1537 4 #[] #[])
  fields := #[]
  methods := #[]
  instanceTypes := #[]
  staticTypes := #[]
  resolved := Array.replicate 8 none
  statics := none }

/-- the primitive byte -/
def k12 : Class := { plain "byte" none with kind := .primitive 'B', accessFlags := 0x411 }
/-- [B -/
def k13 : Class := { plain "[B" (some 0) with kind := .array 12 .byte, interfaces := #[11, 4], accessFlags := 1041 }

/-- the primitive int -/
def k14 : Class := { plain "int" none with kind := .primitive 'I', accessFlags := 0x411 }
/-- [I -/
def k15 : Class := { plain "[I" (some 0) with kind := .array 14 .int, interfaces := #[11, 4], accessFlags := 1041 }

/-- the primitive long -/
def k16 : Class := { plain "long" none with kind := .primitive 'J', accessFlags := 0x411 }
/-- [J -/
def k17 : Class := { plain "[J" (some 0) with kind := .array 16 .long, interfaces := #[11, 4], accessFlags := 1041 }

def heap : Heap := #[]
def classes : Array Class := #[k0, k1, k2, k3, k4, k5, k6, k7, k8, k9, k10, k11, k12, k13, k14, k15, k16, k17]
def interned : List (Array UInt16 × Addr) := []
def slotsUsed : Nat := 0
def theMethod : MethodId := ⟨1, 2⟩
def args0 : Array Value := #[.long 1, .long 2, .long 3, .long 4, .long 5, .int 6]
def aboutOver (below : List Frame) : State where
  vm := { classes := classes, interned := interned.toArray }
  heap := heap
  slotsUsed := slotsUsed
  threads := #[{ frames := .invoking theMethod args0 :: below }]
def below0 : List Frame := [.native { method := ⟨0, 0⟩, args := #[] }]
def about1 : State := aboutOver below0
def p0 : Program := .bare "" "" ""
def e0 : Env := launch0.env 0 0 0
theorem w_frames : about1.frames = Frame.invoking theMethod args0 :: below0 := rfl
set_option maxRecDepth 65536 in
theorem w_args : argsFit about1.vm theMethod args0 = true := by decide +kernel
set_option maxRecDepth 65536 in
theorem w_heap : heapFits about1 = true := by decide +kernel
set_option maxRecDepth 65536 in
theorem w_runnable : about1.curStatus? = some .runnable := by decide +kernel
set_option maxRecDepth 65536 in
theorem w_alone : about1.alone = true := by decide +kernel
set_option maxRecDepth 65536 in
theorem w_named : about1.methodNamed? x = some theMethod := by decide +kernel
set_option maxRecDepth 65536 in
theorem w_hears : about1.hears theMethod below0 = true := by decide +kernel
set_option maxRecDepth 65536 in
theorem w_ripe : about1.ripe theMethod args0 below0 = true := by decide +kernel
theorem w_running : about1.status = .running := rfl
set_option maxRecDepth 65536 in
theorem w_room : about1.hasRoom e0.platform room_1 = true :=
  launch0.hasRoom_least _ room_1 (by decide +kernel) (by decide +kernel) (by decide +kernel) (by decide +kernel) (by decide +kernel) (by decide +kernel)
theorem allAtoms_all (ts : List Jvm.Cond) (a : Array Jvm.Value) (st : Jvm.State) : (allAtoms ts).before a st = ts.all (fun c => c.before a st) := by
  induction ts with
  | nil => rfl
  | cons c t ih =>
    show (Jvm.Cond.and c (allAtoms t)).before a st = _
    rw [Jvm.Cond.before_and, ih, List.all_cons]
def words1 : List Jvm.Cond := Jvm.Cond.code x code maxLocals ret :: tables_1
/-- a 'code' word, met by the world's own term for the bytes: nothing is compared byte by byte -/
theorem code_word {y : MethodName} {bytes : ByteArray} {mx : Nat} {rt : Option FieldType} {a : Array Value} {s : State} {m : MethodId} {meth : Method} {c : Code} (h1 : s.methodNamed? y = some m) (h2 : s.vm.method? m = some meth) (h3 : meth.code = some c) (h4 : c.code = bytes)
    (h5 : (c.maxLocals == mx && c.exceptionTable.isEmpty && decide (c.maxStack ≤ mostOperands) && decide (meth.sig.returnType = rt) && !meth.locks && decide (parseMethodDescriptor y.desc = some meth.sig)) = true) : (Jvm.Cond.code y bytes mx rt).before a s = true := by
  simp only [Bool.and_eq_true, beq_iff_eq, Bool.not_eq_true', decide_eq_true_eq] at h5
  obtain ⟨⟨⟨⟨⟨g1, g2⟩, g3⟩, g4⟩, g5⟩, g6⟩ := h5
  simp [Cond.before, Cond.holds, Cond.value, h1, h2, h3, h4, g1, g2, g3, g4, g5, g6]
def isCode : Jvm.Cond → Bool
  | .code _ _ _ _ => true
  | _ => false
theorem all_split {L : List Jvm.Cond} {P : Jvm.Cond → Bool} (h1 : L.all (fun c => isCode c || P c) = true) (h2 : ∀ c ∈ L.filter isCode, P c = true) : L.all P = true := by
  refine List.all_eq_true.mpr fun c hc => ?_
  have h := List.all_eq_true.mp h1 c hc
  rcases Bool.eq_false_or_eq_true (isCode c) with hi | hi
  · exact h2 c (List.mem_filter.mpr ⟨hc, hi⟩)
  · simpa [hi] using h
set_option maxRecDepth 65536 in
theorem w_c0 : (Jvm.Cond.code x code maxLocals ret).before args0 about1 = true := code_word (m := ⟨1, 2⟩) (meth := k1m2) (c := k1c2) (by decide +kernel) rfl rfl rfl (by decide +kernel)
set_option maxRecDepth 65536 in
theorem w_c1 : (Jvm.Cond.code ({ cls := "com/example/detra/detra/StateSets", name := "<init>", desc := "()V" } : Jvm.MethodName) prog_22_method_1_code (1 : Nat) (Option.none : Option Jvm.ClassFile.FieldType)).before args0 about1 = true := code_word (m := ⟨2, 0⟩) (meth := k2m0) (c := k2c0) (by decide +kernel) rfl rfl rfl (by decide +kernel)
set_option maxRecDepth 65536 in
theorem w_c2 : (Jvm.Cond.code ({ cls := "java/lang/Object", name := "<init>", desc := "()V" } : Jvm.MethodName) object_method_1_code (1 : Nat) (Option.none : Option Jvm.ClassFile.FieldType)).before args0 about1 = true := code_word (m := ⟨0, 0⟩) (meth := k0m0) (c := k0c0) (by decide +kernel) rfl rfl rfl (by decide +kernel)
set_option maxRecDepth 65536 in
theorem w_c3 : (Jvm.Cond.code ({ cls := "com/example/detra/detra/SetWords", name := "<init>", desc := "(I)V" } : Jvm.MethodName) prog_21_method_1_code (3 : Nat) (Option.none : Option Jvm.ClassFile.FieldType)).before args0 about1 = true := code_word (m := ⟨3, 0⟩) (meth := k3m0) (c := k3c0) (by decide +kernel) rfl rfl rfl (by decide +kernel)
set_option maxRecDepth 65536 in
theorem w_c4 : (Jvm.Cond.code ({ cls := "com/example/detra/detra/SetWords", name := "addWords", desc := "([JII)V" } : Jvm.MethodName) prog_21_method_4_code (5 : Nat) (Option.none : Option Jvm.ClassFile.FieldType)).before args0 about1 = true := code_word (m := ⟨3, 1⟩) (meth := k3m1) (c := k3c1) (by decide +kernel) rfl rfl rfl (by decide +kernel)
set_option maxRecDepth 65536 in
theorem w_c5 : (Jvm.Cond.code ({ cls := "com/example/detra/detra/StateSets", name := "number", desc := "(Lcom/example/detra/detra/SetWords;)I" } : Jvm.MethodName) prog_22_method_2_code (6 : Nat) (Option.some Jvm.ClassFile.FieldType.int)).before args0 about1 = true := code_word (m := ⟨2, 1⟩) (meth := k2m1) (c := k2c1) (by decide +kernel) rfl rfl rfl (by decide +kernel)
set_option maxRecDepth 65536 in
theorem w_c6 : (Jvm.Cond.code ({ cls := "com/example/detra/detra/SetWords", name := "listHeld", desc := "()V" } : Jvm.MethodName) prog_21_method_7_code (2 : Nat) (Option.none : Option Jvm.ClassFile.FieldType)).before args0 about1 = true := code_word (m := ⟨3, 3⟩) (meth := k3m3) (c := k3c3) (by decide +kernel) rfl rfl rfl (by decide +kernel)
set_option maxRecDepth 65536 in
theorem w_c7 : (Jvm.Cond.code ({ cls := "com/example/detra/detra/StateSets", name := "hash", desc := "(Lcom/example/detra/detra/SetWords;)I" } : Jvm.MethodName) prog_22_method_11_code (5 : Nat) (Option.some Jvm.ClassFile.FieldType.int)).before args0 about1 = true := code_word (m := ⟨2, 5⟩) (meth := k2m5) (c := k2c5) (by decide +kernel) rfl rfl rfl (by decide +kernel)
set_option maxRecDepth 65536 in
theorem w_c8 : (Jvm.Cond.code ({ cls := "com/example/detra/detra/SetWords", name := "heldCount", desc := "()I" } : Jvm.MethodName) prog_21_method_9_code (1 : Nat) (Option.some Jvm.ClassFile.FieldType.int)).before args0 about1 = true := code_word (m := ⟨3, 4⟩) (meth := k3m4) (c := k3c4) (by decide +kernel) rfl rfl rfl (by decide +kernel)
set_option maxRecDepth 65536 in
theorem w_c9 : (Jvm.Cond.code ({ cls := "com/example/detra/detra/SetWords", name := "heldIndex", desc := "(I)I" } : Jvm.MethodName) prog_21_method_10_code (2 : Nat) (Option.some Jvm.ClassFile.FieldType.int)).before args0 about1 = true := code_word (m := ⟨3, 5⟩) (meth := k3m5) (c := k3c5) (by decide +kernel) rfl rfl rfl (by decide +kernel)
set_option maxRecDepth 65536 in
theorem w_c10 : (Jvm.Cond.code ({ cls := "com/example/detra/detra/SetWords", name := "word", desc := "(I)J" } : Jvm.MethodName) prog_21_method_11_code (2 : Nat) (Option.some Jvm.ClassFile.FieldType.long)).before args0 about1 = true := code_word (m := ⟨3, 6⟩) (meth := k3m6) (c := k3c6) (by decide +kernel) rfl rfl rfl (by decide +kernel)
set_option maxRecDepth 65536 in
theorem w_c11 : (Jvm.Cond.code ({ cls := "com/example/detra/detra/StateSets", name := "add", desc := "(Lcom/example/detra/detra/SetWords;I)I" } : Jvm.MethodName) prog_22_method_8_code (7 : Nat) (Option.some Jvm.ClassFile.FieldType.int)).before args0 about1 = true := code_word (m := ⟨2, 3⟩) (meth := k2m3) (c := k2c3) (by decide +kernel) rfl rfl rfl (by decide +kernel)
set_option maxRecDepth 65536 in
theorem w_c12 : (Jvm.Cond.code ({ cls := "java/lang/Long", name := "bitCount", desc := "(J)I" } : Jvm.MethodName) jdk_35_method_50_code (2 : Nat) (Option.some Jvm.ClassFile.FieldType.int)).before args0 about1 = true := code_word (m := ⟨9, 0⟩) (meth := k9m0) (c := k9c0) (by decide +kernel) rfl rfl rfl (by decide +kernel)
set_option maxRecDepth 65536 in
theorem w_c13 : (Jvm.Cond.code ({ cls := "com/example/detra/detra/StateSets", name := "intersects", desc := "(I[J)Z" } : Jvm.MethodName) prog_22_method_7_code (5 : Nat) (Option.some Jvm.ClassFile.FieldType.boolean)).before args0 about1 = true := code_word (m := ⟨2, 2⟩) (meth := k2m2) (c := k2c2) (by decide +kernel) rfl rfl rfl (by decide +kernel)
set_option maxRecDepth 65536 in
theorem w_c14 : (Jvm.Cond.code ({ cls := "com/example/detra/detra/StateSetsIntersectsPinLaw", name := "expect", desc := "(JJJJJJI)Z" } : Jvm.MethodName) method_2_code (16 : Nat) (Option.some Jvm.ClassFile.FieldType.boolean)).before args0 about1 = true := code_word (m := ⟨1, 1⟩) (meth := k1m1) (c := k1c1) (by decide +kernel) rfl rfl rfl (by decide +kernel)
set_option maxRecDepth 65536 in
theorem w_c15 : (Jvm.Cond.code ({ cls := "com/example/detra/detra/SetWords", name := "clear", desc := "()V" } : Jvm.MethodName) prog_21_method_6_code (2 : Nat) (Option.none : Option Jvm.ClassFile.FieldType)).before args0 about1 = true := code_word (m := ⟨3, 2⟩) (meth := k3m2) (c := k3c2) (by decide +kernel) rfl rfl rfl (by decide +kernel)
set_option maxRecDepth 65536 in
theorem w_c16 : (Jvm.Cond.code ({ cls := "java/util/Arrays", name := "fill", desc := "([JJ)V" } : Jvm.MethodName) jdk_65_method_101_code (5 : Nat) (Option.none : Option Jvm.ClassFile.FieldType)).before args0 about1 = true := code_word (m := ⟨10, 1⟩) (meth := k10m1) (c := k10c1) (by decide +kernel) rfl rfl rfl (by decide +kernel)
set_option maxRecDepth 65536 in
theorem w_c17 : (Jvm.Cond.code ({ cls := "com/example/detra/detra/StateSets", name := "equal", desc := "(IILcom/example/detra/detra/SetWords;)Z" } : Jvm.MethodName) prog_22_method_10_code (8 : Nat) (Option.some Jvm.ClassFile.FieldType.boolean)).before args0 about1 = true := code_word (m := ⟨2, 4⟩) (meth := k2m4) (c := k2c4) (by decide +kernel) rfl rfl rfl (by decide +kernel)
def codes1 : List Jvm.Cond := [Jvm.Cond.code x code maxLocals ret, Jvm.Cond.code ({ cls := "com/example/detra/detra/StateSets", name := "<init>", desc := "()V" } : Jvm.MethodName) prog_22_method_1_code (1 : Nat) (Option.none : Option Jvm.ClassFile.FieldType), Jvm.Cond.code ({ cls := "java/lang/Object", name := "<init>", desc := "()V" } : Jvm.MethodName) object_method_1_code (1 : Nat) (Option.none : Option Jvm.ClassFile.FieldType), Jvm.Cond.code ({ cls := "com/example/detra/detra/SetWords", name := "<init>", desc := "(I)V" } : Jvm.MethodName) prog_21_method_1_code (3 : Nat) (Option.none : Option Jvm.ClassFile.FieldType), Jvm.Cond.code ({ cls := "com/example/detra/detra/SetWords", name := "addWords", desc := "([JII)V" } : Jvm.MethodName) prog_21_method_4_code (5 : Nat) (Option.none : Option Jvm.ClassFile.FieldType), Jvm.Cond.code ({ cls := "com/example/detra/detra/StateSets", name := "number", desc := "(Lcom/example/detra/detra/SetWords;)I" } : Jvm.MethodName) prog_22_method_2_code (6 : Nat) (Option.some Jvm.ClassFile.FieldType.int), Jvm.Cond.code ({ cls := "com/example/detra/detra/SetWords", name := "listHeld", desc := "()V" } : Jvm.MethodName) prog_21_method_7_code (2 : Nat) (Option.none : Option Jvm.ClassFile.FieldType), Jvm.Cond.code ({ cls := "com/example/detra/detra/StateSets", name := "hash", desc := "(Lcom/example/detra/detra/SetWords;)I" } : Jvm.MethodName) prog_22_method_11_code (5 : Nat) (Option.some Jvm.ClassFile.FieldType.int), Jvm.Cond.code ({ cls := "com/example/detra/detra/SetWords", name := "heldCount", desc := "()I" } : Jvm.MethodName) prog_21_method_9_code (1 : Nat) (Option.some Jvm.ClassFile.FieldType.int), Jvm.Cond.code ({ cls := "com/example/detra/detra/SetWords", name := "heldIndex", desc := "(I)I" } : Jvm.MethodName) prog_21_method_10_code (2 : Nat) (Option.some Jvm.ClassFile.FieldType.int), Jvm.Cond.code ({ cls := "com/example/detra/detra/SetWords", name := "word", desc := "(I)J" } : Jvm.MethodName) prog_21_method_11_code (2 : Nat) (Option.some Jvm.ClassFile.FieldType.long), Jvm.Cond.code ({ cls := "com/example/detra/detra/StateSets", name := "add", desc := "(Lcom/example/detra/detra/SetWords;I)I" } : Jvm.MethodName) prog_22_method_8_code (7 : Nat) (Option.some Jvm.ClassFile.FieldType.int), Jvm.Cond.code ({ cls := "java/lang/Long", name := "bitCount", desc := "(J)I" } : Jvm.MethodName) jdk_35_method_50_code (2 : Nat) (Option.some Jvm.ClassFile.FieldType.int), Jvm.Cond.code ({ cls := "com/example/detra/detra/StateSets", name := "intersects", desc := "(I[J)Z" } : Jvm.MethodName) prog_22_method_7_code (5 : Nat) (Option.some Jvm.ClassFile.FieldType.boolean), Jvm.Cond.code ({ cls := "com/example/detra/detra/StateSetsIntersectsPinLaw", name := "expect", desc := "(JJJJJJI)Z" } : Jvm.MethodName) method_2_code (16 : Nat) (Option.some Jvm.ClassFile.FieldType.boolean), Jvm.Cond.code ({ cls := "com/example/detra/detra/SetWords", name := "clear", desc := "()V" } : Jvm.MethodName) prog_21_method_6_code (2 : Nat) (Option.none : Option Jvm.ClassFile.FieldType), Jvm.Cond.code ({ cls := "java/util/Arrays", name := "fill", desc := "([JJ)V" } : Jvm.MethodName) jdk_65_method_101_code (5 : Nat) (Option.none : Option Jvm.ClassFile.FieldType), Jvm.Cond.code ({ cls := "com/example/detra/detra/StateSets", name := "equal", desc := "(IILcom/example/detra/detra/SetWords;)Z" } : Jvm.MethodName) prog_22_method_10_code (8 : Nat) (Option.some Jvm.ClassFile.FieldType.boolean)]
set_option maxRecDepth 65536 in
theorem codes_eq : words1.filter isCode = codes1 := rfl
theorem w_codes : ∀ c ∈ words1.filter isCode, c.before args0 about1 = true := by
  rw [codes_eq]
  intro c hc
  simp only [codes1, List.mem_cons, List.not_mem_nil, or_false] at hc
  rcases hc with rfl | rfl | rfl | rfl | rfl | rfl | rfl | rfl | rfl | rfl | rfl | rfl | rfl | rfl | rfl | rfl | rfl | rfl
  · exact w_c0
  · exact w_c1
  · exact w_c2
  · exact w_c3
  · exact w_c4
  · exact w_c5
  · exact w_c6
  · exact w_c7
  · exact w_c8
  · exact w_c9
  · exact w_c10
  · exact w_c11
  · exact w_c12
  · exact w_c13
  · exact w_c14
  · exact w_c15
  · exact w_c16
  · exact w_c17
set_option maxRecDepth 65536 in
theorem w_t1 : (words1.take 24).all (fun c => isCode c || c.before args0 about1) = true := by decide +kernel
set_option maxRecDepth 65536 in
theorem w_t2 : ((words1.drop 24).take 24).all (fun c => isCode c || c.before args0 about1) = true := by decide +kernel
set_option maxRecDepth 65536 in
theorem w_t3 : (((words1.drop 24).drop 24).take 24).all (fun c => isCode c || c.before args0 about1) = true := by decide +kernel
set_option maxRecDepth 65536 in
theorem w_t4 : ((((words1.drop 24).drop 24).drop 24).take 24).all (fun c => isCode c || c.before args0 about1) = true := by decide +kernel
set_option maxRecDepth 65536 in
theorem w_t5 : ((((words1.drop 24).drop 24).drop 24).drop 24).all (fun c => isCode c || c.before args0 about1) = true := by decide +kernel
theorem w_tables : (allAtoms (Jvm.Cond.code x code maxLocals ret :: tables_1)).before args0 about1 = true := by
  rw [allAtoms_all]
  show words1.all (fun c => c.before args0 about1) = true
  refine all_split ?_ w_codes
  rw [← List.take_append_drop 24 words1, List.all_append, w_t1, ← List.take_append_drop 24 (words1.drop 24), List.all_append, w_t2, ← List.take_append_drop 24 ((words1.drop 24).drop 24), List.all_append, w_t3, ← List.take_append_drop 24 (((words1.drop 24).drop 24).drop 24), List.all_append, w_t4, w_t5]
  rfl
set_option maxRecDepth 65536 in
theorem w_case : (Jvm.Cond.and given_1 narrow_1).before args0 about1 = true := by decide +kernel
theorem w_applies : (headSpec (Jvm.Cond.code x code maxLocals ret :: tables_1) room_1).applies x e0.platform about1 = true :=
  (Spec.applies_iff w_frames).mpr ⟨w_running, w_runnable, w_alone, w_named, w_hears, w_ripe, w_room, w_tables⟩
theorem atStart : AtStart classFile x code maxLocals ret World_1 tables_1 room_1 Calls_1 rest_1 Pre_1 launch0 p0 e0 about1 theMethod args0 below0 :=
  ⟨lists_1, trivial, launch0.admits_env _ _ _, launch0.least_env, fairChoices_fair.cas, fairChoices_fair.clock, w_frames, w_args, w_heap, w_applies, trivial, trivial, w_case⟩
end start1
theorem witness_1 : WitnessClaimed_1 := ⟨start1.p0, start1.e0, start1.about1, start1.theMethod, start1.args0, start1.below0, start1.atStart⟩
end Jvm.Pilot.@@N@@
