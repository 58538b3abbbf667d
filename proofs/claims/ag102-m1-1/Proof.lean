import JvmDerived
import JvmDerived.Pilot.@@N@@Statement
import JvmDerived.Pilot.@@N@@Code
set_option linter.unusedVariables false
set_option linter.unusedSimpArgs false
@@BLOCK:NumsL.lean.txt@@
namespace Jvm.Pilot.@@N@@
open Jvm Jvm.ClassFile Sem Op Lib Jvm.Free Jvm.Stand Jvm.LawKit Jvm.RoadKit Bundle Jvm.Pilot.@@N@@.Jvm.D
/-! ## own kit: one body's walk as a goal on the heap, the frame and the room alone -/
/-- what stays the same through one body's walk -/
def Cx (p : Program) (s : State) (m : MethodId) (meth : Method) (c : Code) (Z : State) (n0 : Nat) (own : String) (bc : ByteArray) (maxL : Nat) (ret : Option FieldType) (nm : String) : Prop :=
  p.tables.exec = Jvm.exec ∧ Z.Warmed39 s.vm ∧ s.vm.findClass own = some m.cls ∧ c.code = bc ∧ c.maxLocals = maxL ∧ meth.sig.returnType = ret ∧ meth.name = nm ∧ meth.locks = false ∧ n0 ≤ s.heap.size
/-- from every state with this heap at which the body stands: the run goes on from this frame to the end that F says -/
def Go (p : Program) (l : Launch) (e : Env) (R : Room) (s : State) (m : MethodId) (args : Array Value) (below : List Frame) (meth : Method) (c : Code) (n0 : Nat) (F : State → Outcome → Prop) (h : Heap) (k n pc : Nat) (Ls : Array Slot) (st : List Value) : Prop :=
  ∀ (T : State) (locs : List Loc), Stand p l e R s m args below meth c T locs k n → T.heap = h → Fr n0 locs →
    ∃ s₂ o, Steps p.tables e below (T.setTop (mkF m pc Ls st)) s₂ ∧ s₂.status = .running ∧ Ended s₂ below o ∧ F s₂ o
/-- the end of a body: it returned what Q says, wrote new cells alone -/
def FinQ (s : State) (n0 : Nat) (Q : Option Value → Heap → Prop) (ck cs : Nat) : State → Outcome → Prop := fun s₂ o => ∃ v L, o = .returned v ∧ (Q v s₂.heap ∧ Fr n0 L) ∧ FrameEnd s o s₂ L ck cs
/-- a body's contract at the heap h0 -/
def Con (l : Launch) (Z : State) (n0 : Nat) (ws : List Jvm.Cond) (y : MethodName) (bc : ByteArray) (maxL : Nat) (ret : Option FieldType) (R : Room) (as : Array Value) (h0 : Heap) (Q : Option Value → Heap → Prop) : Prop :=
  MetFree l y (head1 (Jvm.Cond.code y bc maxL ret :: ws) R) (fun a U => a = as ∧ Z.Warmed39 U.vm ∧ U.heap = h0) (fun _ _ _ _ _ => True) (fun _ U o U' => ∃ v L, o = .returned v ∧ (Q v U'.heap ∧ Fr n0 L) ∧ FrameEnd U o U' L R.cells R.slots)
/-- an array: its class, its values -/
def Av (Z : State) (h : Heap) (a : Addr) (ty : FieldType) (vs : List Value) : Prop := ∃ c : Cell, Arr Z h a c ty ∧ c.slots.toList = vs ∧ ∀ v ∈ vs, fits ty v = true
section Own
variable {p : Program} {l : Launch} {e : Env} {R : Room} {s : State} {m : MethodId} {args : Array Value} {below : List Frame} {meth : Method} {c : Code} {n0 : Nat} {F : State → Outcome → Prop} {h : Heap} {k n pc pc' : Nat} {Ls : Array Slot} {st : List Value} {Z : State} {own : String} {bc : ByteArray} {maxL : Nat} {ret : Option FieldType} {nm : String} {a0 : Array Value}
theorem tw {ws : List Jvm.Cond} (hw : ∀ d ∈ ws, d.before a0 Z = true) (i : Nat) {d : Jvm.Cond} (q : ws[i]? = some d) : d.before a0 Z = true := hw _ (List.mem_of_getElem? q)
theorem Av.lt {a : Addr} {ty : FieldType} {vs : List Value} (A : Av Z h a ty vs) : a < h.size := by obtain ⟨c, A, -⟩ := A; exact A.lt
theorem Av.ext {a : Addr} {ty : FieldType} {vs : List Value} {h' : Heap} (A : Av Z h a ty vs) (E : Ext h h') : Av Z h' a ty vs := by obtain ⟨c, A, q⟩ := A; exact ⟨c, A.ext E, q⟩
theorem Av.other {a b : Addr} {ty : FieldType} {vs : List Value} {h' : Heap} {sl : Nat} {v : Value} (A : Av Z h b ty vs) (W : Wr h h' a sl v) (q : b ≠ a) : Av Z h' b ty vs := by obtain ⟨c, A, r⟩ := A; exact ⟨c, A.other W q, r⟩
theorem Av.keep {a : Addr} {ty : FieldType} {vs : List Value} {h' : Heap} {ws : List Addr} (A : Av Z h a ty vs) (K : Keep h h' ws) (q : a ∉ ws) : Av Z h' a ty vs := by obtain ⟨c, A, r⟩ := A; exact ⟨c, ⟨K.2.1 a c A.1 q, A.2⟩, r⟩
theorem Av.same {a : Addr} {ty : FieldType} {vs : List Value} {h' : Heap} {j : Nat} {v : Value} (A : Av Z h a ty vs) (W : Wr h h' a j v) (hf : fits ty v = true) : Av Z h' a ty (vs.set j v) := by
  obtain ⟨c, A, rfl, r⟩ := A
  refine ⟨_, A.same W, by simp [Cell.setSlot], fun w hw => ?_⟩
  rcases List.mem_or_eq_of_mem_set hw with q | rfl
  · exact r w q
  · exact hf
theorem Av.fit {a : Addr} {ty : FieldType} {vs : List Value} {i : Nat} {v : Value} (A : Av Z h a ty vs) (q : vs[i]? = some v) : fits ty v = true := by obtain ⟨c, A, -, r⟩ := A; exact r v (List.mem_of_getElem? q)
theorem Av.new {a : Addr} {kc : ClassId} {ty : FieldType} {z : Int32} (A : Arr Z h a (newA kc ty z) ty) : Av Z h a ty (List.replicate z.toNatClampNeg (defaultValue ty)) :=
  ⟨_, A, by simp [newA], fun v hv => by rw [List.eq_of_mem_replicate hv]; cases ty <;> rfl⟩
theorem own_in {j : Int32} {cl : Cell} {v : Value} (hj : ¬ j < 0) (hv : cl.slots[j.toNatClampNeg]? = some v) : ¬ (j < 0 ∨ cl.slots.size ≤ j.toNatClampNeg) := fun q => q.elim hj fun q => absurd (Array.getElem?_eq_some_iff.mp hv).1 (Nat.not_lt.mpr q)
theorem own_in2 {j : Int32} {cl : Cell} (hj : ¬ j < 0) (hl : j.toNatClampNeg < cl.slots.size) : ¬ (j < 0 ∨ cl.slots.size ≤ j.toNatClampNeg) := fun q => q.elim hj fun q => absurd hl (Nat.not_lt.mpr q)
theorem Go.pl {Ls' : Array Slot} {st' : List Value} (q : ∀ (T : State) (locs : List Loc), Stand p l e R s m args below meth c T locs k n → T.heap = h → ∀ t, Steps p.tables e below (T.setTop (mkF m pc' Ls' st')) t → Steps p.tables e below (T.setTop (mkF m pc Ls st)) t) (hr : Go p l e R s m args below meth c n0 F h k n pc' Ls' st') : Go p l e R s m args below meth c n0 F h k n pc Ls st := fun T locs X eT N => by
  obtain ⟨s₂, o, h1, h2⟩ := hr T locs X eT N
  exact ⟨s₂, o, q T locs X eT _ h1, h2⟩
theorem Go.more {k' n' : Nat} (hr : Go p l e R s m args below meth c n0 F h k' n' pc Ls st) (h1 : k ≤ k') (h2 : n ≤ n') : Go p l e R s m args below meth c n0 F h k n pc Ls st := fun T locs X eT N => hr T locs (X.more h1 h2) eT N
theorem Cx.size (C : Cx p s m meth c Z n0 own bc maxL ret nm) {T : State} {locs : List Loc} (X : Stand p l e R s m args below meth c T locs k n) : n0 ≤ T.heap.size := Nat.le_trans C.2.2.2.2.2.2.2.2 X.same.2.1
theorem Go.cI {x y : Int32} (q : x = y) (hr : Go p l e R s m args below meth c n0 F h k n pc Ls (.int y :: st)) : Go p l e R s m args below meth c n0 F h k n pc Ls (.int x :: st) := q ▸ hr
theorem Go.cL {x y : Int64} (q : x = y) (hr : Go p l e R s m args below meth c n0 F h k n pc Ls (.long y :: st)) : Go p l e R s m args below meth c n0 F h k n pc Ls (.long x :: st) := q ▸ hr
theorem Cx.iloadN (C : Cx p s m meth c Z n0 own bc maxL ret nm) {j : Fin 4} {v : Int32} (hd : decode bc pc = .ok (.iload_n j, 1)) (hp : pc + 1 = pc') (hl : Ls[j.val]? = some (.val (.int v))) (hr : Go p l e R s m args below meth c n0 F h k n pc' Ls (.int v :: st)) : Go p l e R s m args below meth c n0 F h k n pc Ls (st) := by
  subst hp; exact Go.pl (fun T locs X eT t q => XS.iloadN X.here C.1 rfl (hb C.2.2.2.1 hd) hl q) hr
theorem Cx.iload (C : Cx p s m meth c Z n0 own bc maxL ret nm) {j : Nat} {v : Int32} (hd : decode bc pc = .ok (.iload j, 2)) (hp : pc + 2 = pc') (hl : Ls[j]? = some (.val (.int v))) (hr : Go p l e R s m args below meth c n0 F h k n pc' Ls (.int v :: st)) : Go p l e R s m args below meth c n0 F h k n pc Ls (st) := by
  subst hp; exact Go.pl (fun T locs X eT t q => XS.iload X.here C.1 rfl (hb C.2.2.2.1 hd) hl q) hr
theorem Cx.lloadN (C : Cx p s m meth c Z n0 own bc maxL ret nm) {j : Fin 4} {v : Int64} (hd : decode bc pc = .ok (.lload_n j, 1)) (hp : pc + 1 = pc') (hl : Ls[j.val]? = some (.val (.long v))) (hr : Go p l e R s m args below meth c n0 F h k n pc' Ls (.long v :: st)) : Go p l e R s m args below meth c n0 F h k n pc Ls (st) := by
  subst hp; exact Go.pl (fun T locs X eT t q => XT.lloadN X.here C.1 rfl (hb C.2.2.2.1 hd) hl q) hr
theorem Cx.lload (C : Cx p s m meth c Z n0 own bc maxL ret nm) {j : Nat} {v : Int64} (hd : decode bc pc = .ok (.lload j, 2)) (hp : pc + 2 = pc') (hl : Ls[j]? = some (.val (.long v))) (hr : Go p l e R s m args below meth c n0 F h k n pc' Ls (.long v :: st)) : Go p l e R s m args below meth c n0 F h k n pc Ls (st) := by
  subst hp; exact Go.pl (fun T locs X eT t q => XT.lload X.here C.1 rfl (hb C.2.2.2.1 hd) hl q) hr
theorem Cx.aloadN (C : Cx p s m meth c Z n0 own bc maxL ret nm) {j : Fin 4} {v : Value} (hd : decode bc pc = .ok (.aload_n j, 1)) (hp : pc + 1 = pc') (hl : Ls[j.val]? = some (.val v)) (hv : v.isRef = true) (hr : Go p l e R s m args below meth c n0 F h k n pc' Ls (v :: st)) : Go p l e R s m args below meth c n0 F h k n pc Ls (st) := by
  subst hp; exact Go.pl (fun T locs X eT t q => XS.aloadN X.here C.1 rfl (hb C.2.2.2.1 hd) hl hv q) hr
theorem Cx.aload (C : Cx p s m meth c Z n0 own bc maxL ret nm) {j : Nat} {v : Value} (hd : decode bc pc = .ok (.aload j, 2)) (hp : pc + 2 = pc') (hl : Ls[j]? = some (.val v)) (hv : v.isRef = true) (hr : Go p l e R s m args below meth c n0 F h k n pc' Ls (v :: st)) : Go p l e R s m args below meth c n0 F h k n pc Ls (st) := by
  subst hp; exact Go.pl (fun T locs X eT t q => XS.aload X.here C.1 rfl (hb C.2.2.2.1 hd) hl hv q) hr
theorem Cx.istoreN (C : Cx p s m meth c Z n0 own bc maxL ret nm) {j : Fin 4} {v : Int32} {Ls' : Array Slot} (hd : decode bc pc = .ok (.istore_n j, 1)) (hp : pc + 1 = pc') (hl : storeLocals Ls j.val (.int v) = some Ls') (hr : Go p l e R s m args below meth c n0 F h k n pc' Ls' (st)) : Go p l e R s m args below meth c n0 F h k n pc Ls (.int v :: st) := by
  subst hp; exact Go.pl (fun T locs X eT t q => XS.istoreN X.here C.1 rfl (hb C.2.2.2.1 hd) rfl hl q) hr
theorem Cx.istore (C : Cx p s m meth c Z n0 own bc maxL ret nm) {j : Nat} {v : Int32} {Ls' : Array Slot} (hd : decode bc pc = .ok (.istore j, 2)) (hp : pc + 2 = pc') (hl : storeLocals Ls j (.int v) = some Ls') (hr : Go p l e R s m args below meth c n0 F h k n pc' Ls' (st)) : Go p l e R s m args below meth c n0 F h k n pc Ls (.int v :: st) := by
  subst hp; exact Go.pl (fun T locs X eT t q => XS.istore X.here C.1 rfl (hb C.2.2.2.1 hd) rfl hl q) hr
theorem Cx.lstoreN (C : Cx p s m meth c Z n0 own bc maxL ret nm) {j : Fin 4} {v : Int64} {Ls' : Array Slot} (hd : decode bc pc = .ok (.lstore_n j, 1)) (hp : pc + 1 = pc') (hl : storeLocals Ls j.val (.long v) = some Ls') (hr : Go p l e R s m args below meth c n0 F h k n pc' Ls' (st)) : Go p l e R s m args below meth c n0 F h k n pc Ls (.long v :: st) := by
  subst hp; exact Go.pl (fun T locs X eT t q => XT.lstoreN X.here C.1 rfl (hb C.2.2.2.1 hd) rfl hl q) hr
theorem Cx.astore (C : Cx p s m meth c Z n0 own bc maxL ret nm) {j : Nat} {v : Value} {Ls' : Array Slot} (hd : decode bc pc = .ok (.astore j, 2)) (hp : pc + 2 = pc') (hv : v.isRef = true) (hl : storeLocals Ls j v = some Ls') (hr : Go p l e R s m args below meth c n0 F h k n pc' Ls' (st)) : Go p l e R s m args below meth c n0 F h k n pc Ls (v :: st) := by
  subst hp; exact Go.pl (fun T locs X eT t q => XS.astore X.here C.1 rfl (hb C.2.2.2.1 hd) rfl hv hl q) hr
theorem Cx.iconst (C : Cx p s m meth c Z n0 own bc maxL ret nm) {i : Int} (v : Int32) (hd : decode bc pc = .ok (.iconst i, 1)) (hp : pc + 1 = pc') (hv : Int32.ofInt i = v) (hr : Go p l e R s m args below meth c n0 F h k n pc' Ls (.int v :: st)) : Go p l e R s m args below meth c n0 F h k n pc Ls st := by
  subst hp hv; exact Go.pl (fun T locs X eT t q => XS.iconst X.here C.1 rfl (hb C.2.2.2.1 hd) q) hr
theorem Cx.bipush (C : Cx p s m meth c Z n0 own bc maxL ret nm) {i : Int} (v : Int32) (hd : decode bc pc = .ok (.bipush i, 2)) (hp : pc + 2 = pc') (hv : (Int8.ofInt i).toInt32 = v) (hr : Go p l e R s m args below meth c n0 F h k n pc' Ls (.int v :: st)) : Go p l e R s m args below meth c n0 F h k n pc Ls st := by
  subst hp hv; exact Go.pl (fun T locs X eT t q => XS.bipush X.here C.1 rfl (hb C.2.2.2.1 hd) q) hr
theorem Cx.sipush (C : Cx p s m meth c Z n0 own bc maxL ret nm) {i : Int} (v : Int32) (hd : decode bc pc = .ok (.sipush i, 3)) (hp : pc + 3 = pc') (hv : (Int16.ofInt i).toInt32 = v) (hr : Go p l e R s m args below meth c n0 F h k n pc' Ls (.int v :: st)) : Go p l e R s m args below meth c n0 F h k n pc Ls st := by
  subst hp hv; exact Go.pl (fun T locs X eT t q => XS.sipush X.here C.1 rfl (hb C.2.2.2.1 hd) q) hr
theorem Cx.lconst (C : Cx p s m meth c Z n0 own bc maxL ret nm) {i : Fin 2} (v : Int64) (hd : decode bc pc = .ok (.lconst i, 1)) (hp : pc + 1 = pc') (hv : Int64.ofNat i = v) (hr : Go p l e R s m args below meth c n0 F h k n pc' Ls (.long v :: st)) : Go p l e R s m args below meth c n0 F h k n pc Ls st := by
  subst hp hv; exact Go.pl (fun T locs X eT t q => XT.lconst X.here C.1 rfl (hb C.2.2.2.1 hd) q) hr
theorem Cx.iadd (C : Cx p s m meth c Z n0 own bc maxL ret nm) {x y : Int32} (hd : decode bc pc = .ok (.iadd, 1)) (hp : pc + 1 = pc')  (hr : Go p l e R s m args below meth c n0 F h k n pc' Ls (.int (x + y) :: st)) : Go p l e R s m args below meth c n0 F h k n pc Ls (.int y :: .int x :: st) := by
  subst hp; exact Go.pl (fun T locs X eT t q => XS.iadd X.here C.1 rfl (hb C.2.2.2.1 hd) rfl q) hr
theorem Cx.isub (C : Cx p s m meth c Z n0 own bc maxL ret nm) {x y : Int32} (hd : decode bc pc = .ok (.isub, 1)) (hp : pc + 1 = pc')  (hr : Go p l e R s m args below meth c n0 F h k n pc' Ls (.int (x - y) :: st)) : Go p l e R s m args below meth c n0 F h k n pc Ls (.int y :: .int x :: st) := by
  subst hp; exact Go.pl (fun T locs X eT t q => XS.isub X.here C.1 rfl (hb C.2.2.2.1 hd) rfl q) hr
theorem Cx.imul (C : Cx p s m meth c Z n0 own bc maxL ret nm) {x y : Int32} (hd : decode bc pc = .ok (.imul, 1)) (hp : pc + 1 = pc')  (hr : Go p l e R s m args below meth c n0 F h k n pc' Ls (.int (x * y) :: st)) : Go p l e R s m args below meth c n0 F h k n pc Ls (.int y :: .int x :: st) := by
  subst hp; exact Go.pl (fun T locs X eT t q => XS.imul X.here C.1 rfl (hb C.2.2.2.1 hd) rfl q) hr
theorem Cx.iand (C : Cx p s m meth c Z n0 own bc maxL ret nm) {x y : Int32} (hd : decode bc pc = .ok (.iand, 1)) (hp : pc + 1 = pc')  (hr : Go p l e R s m args below meth c n0 F h k n pc' Ls (.int (x &&& y) :: st)) : Go p l e R s m args below meth c n0 F h k n pc Ls (.int y :: .int x :: st) := by
  subst hp; exact Go.pl (fun T locs X eT t q => XS.iand X.here C.1 rfl (hb C.2.2.2.1 hd) rfl q) hr
theorem Cx.idiv (C : Cx p s m meth c Z n0 own bc maxL ret nm) {x y : Int32} (hd : decode bc pc = .ok (.idiv, 1)) (hp : pc + 1 = pc') (hy : y ≠ 0) (hr : Go p l e R s m args below meth c n0 F h k n pc' Ls (.int (x / y) :: st)) : Go p l e R s m args below meth c n0 F h k n pc Ls (.int y :: .int x :: st) := by
  subst hp; exact Go.pl (fun T locs X eT t q => XS.idiv X.here C.1 rfl (hb C.2.2.2.1 hd) rfl hy q) hr
theorem Cx.ladd (C : Cx p s m meth c Z n0 own bc maxL ret nm) {x y : Int64} (hd : decode bc pc = .ok (.ladd, 1)) (hp : pc + 1 = pc')  (hr : Go p l e R s m args below meth c n0 F h k n pc' Ls (.long (x + y) :: st)) : Go p l e R s m args below meth c n0 F h k n pc Ls (.long y :: .long x :: st) := by
  subst hp; exact Go.pl (fun T locs X eT t q => XT.ladd X.here C.1 rfl (hb C.2.2.2.1 hd) rfl q) hr
theorem Cx.lsub (C : Cx p s m meth c Z n0 own bc maxL ret nm) {x y : Int64} (hd : decode bc pc = .ok (.lsub, 1)) (hp : pc + 1 = pc')  (hr : Go p l e R s m args below meth c n0 F h k n pc' Ls (.long (x - y) :: st)) : Go p l e R s m args below meth c n0 F h k n pc Ls (.long y :: .long x :: st) := by
  subst hp; exact Go.pl (fun T locs X eT t q => XT.lsub X.here C.1 rfl (hb C.2.2.2.1 hd) rfl q) hr
theorem Cx.lmul (C : Cx p s m meth c Z n0 own bc maxL ret nm) {x y : Int64} (hd : decode bc pc = .ok (.lmul, 1)) (hp : pc + 1 = pc')  (hr : Go p l e R s m args below meth c n0 F h k n pc' Ls (.long (x * y) :: st)) : Go p l e R s m args below meth c n0 F h k n pc Ls (.long y :: .long x :: st) := by
  subst hp; exact Go.pl (fun T locs X eT t q => XT.lmul X.here C.1 rfl (hb C.2.2.2.1 hd) rfl q) hr
theorem Cx.land (C : Cx p s m meth c Z n0 own bc maxL ret nm) {x y : Int64} (hd : decode bc pc = .ok (.land, 1)) (hp : pc + 1 = pc')  (hr : Go p l e R s m args below meth c n0 F h k n pc' Ls (.long (x &&& y) :: st)) : Go p l e R s m args below meth c n0 F h k n pc Ls (.long y :: .long x :: st) := by
  subst hp; exact Go.pl (fun T locs X eT t q => XT.land X.here C.1 rfl (hb C.2.2.2.1 hd) rfl q) hr
theorem Cx.lxor (C : Cx p s m meth c Z n0 own bc maxL ret nm) {x y : Int64} (hd : decode bc pc = .ok (.lxor, 1)) (hp : pc + 1 = pc')  (hr : Go p l e R s m args below meth c n0 F h k n pc' Ls (.long (x ^^^ y) :: st)) : Go p l e R s m args below meth c n0 F h k n pc Ls (.long y :: .long x :: st) := by
  subst hp; exact Go.pl (fun T locs X eT t q => XT.lxor X.here C.1 rfl (hb C.2.2.2.1 hd) rfl q) hr
theorem Cx.lushr (C : Cx p s m meth c Z n0 own bc maxL ret nm) {x : Int64} {y : Int32} (hd : decode bc pc = .ok (.lushr, 1)) (hp : pc + 1 = pc')  (hr : Go p l e R s m args below meth c n0 F h k n pc' Ls (.long (XT.ushrL x y) :: st)) : Go p l e R s m args below meth c n0 F h k n pc Ls (.int y :: .long x :: st) := by
  subst hp; exact Go.pl (fun T locs X eT t q => XT.lushr X.here C.1 rfl (hb C.2.2.2.1 hd) rfl q) hr
theorem Cx.i2l (C : Cx p s m meth c Z n0 own bc maxL ret nm) {x : Int32} (hd : decode bc pc = .ok (.i2l, 1)) (hp : pc + 1 = pc')  (hr : Go p l e R s m args below meth c n0 F h k n pc' Ls (.long x.toInt64 :: st)) : Go p l e R s m args below meth c n0 F h k n pc Ls (.int x :: st) := by
  subst hp; exact Go.pl (fun T locs X eT t q => XT.i2l X.here C.1 rfl (hb C.2.2.2.1 hd) rfl q) hr
theorem Cx.l2i (C : Cx p s m meth c Z n0 own bc maxL ret nm) {x : Int64} (hd : decode bc pc = .ok (.l2i, 1)) (hp : pc + 1 = pc')  (hr : Go p l e R s m args below meth c n0 F h k n pc' Ls (.int x.toInt32 :: st)) : Go p l e R s m args below meth c n0 F h k n pc Ls (.long x :: st) := by
  subst hp; exact Go.pl (fun T locs X eT t q => XT.l2i X.here C.1 rfl (hb C.2.2.2.1 hd) rfl q) hr
theorem Cx.lcmp (C : Cx p s m meth c Z n0 own bc maxL ret nm) {x y : Int64} (hd : decode bc pc = .ok (.lcmp, 1)) (hp : pc + 1 = pc')  (hr : Go p l e R s m args below meth c n0 F h k n pc' Ls (.int (XT.cmpL x y) :: st)) : Go p l e R s m args below meth c n0 F h k n pc Ls (.long y :: .long x :: st) := by
  subst hp; exact Go.pl (fun T locs X eT t q => XT.lcmp X.here C.1 rfl (hb C.2.2.2.1 hd) rfl q) hr
theorem Cx.iinc (C : Cx p s m meth c Z n0 own bc maxL ret nm) {j : Nat} {i : Int} {x : Int32} {Ls' : Array Slot} (v : Int32) (hd : decode bc pc = .ok (.iinc j i, 3)) (hp : pc + 3 = pc') (hv : Int32.ofInt i = v) (hl : Ls[j]? = some (.val (.int x))) (hl' : storeLocals Ls j (.int (x + v)) = some Ls') (hr : Go p l e R s m args below meth c n0 F h k n pc' Ls' st) : Go p l e R s m args below meth c n0 F h k n pc Ls st := by
  subst hp hv; exact Go.pl (fun T locs X eT t q => XS.iinc X.here C.1 rfl (hb C.2.2.2.1 hd) hl hl' q) hr
theorem Cx.dup (C : Cx p s m meth c Z n0 own bc maxL ret nm) {x : Value} (hd : decode bc pc = .ok (.dup, 1)) (hp : pc + 1 = pc') (hc : x.category = 1) (hr : Go p l e R s m args below meth c n0 F h k n pc' Ls (x :: x :: st)) : Go p l e R s m args below meth c n0 F h k n pc Ls (x :: st) := by
  subst hp; exact Go.pl (fun T locs X eT t q => XS.dup X.here C.1 rfl (hb C.2.2.2.1 hd) rfl hc q) hr
theorem Cx.dupX1 (C : Cx p s m meth c Z n0 own bc maxL ret nm) {x y : Value} (hd : decode bc pc = .ok (.dup_x1, 1)) (hp : pc + 1 = pc') (hc : x.category = 1) (hc' : y.category = 1) (hr : Go p l e R s m args below meth c n0 F h k n pc' Ls (x :: y :: x :: st)) : Go p l e R s m args below meth c n0 F h k n pc Ls (x :: y :: st) := by
  subst hp; exact Go.pl (fun T locs X eT t q => XT.dupX1 X.here C.1 rfl (hb C.2.2.2.1 hd) rfl hc hc' q) hr
theorem Cx.dup2 (C : Cx p s m meth c Z n0 own bc maxL ret nm) {x y : Value} (hd : decode bc pc = .ok (.dup2, 1)) (hp : pc + 1 = pc') (hc : x.category = 1) (hc' : y.category = 1) (hr : Go p l e R s m args below meth c n0 F h k n pc' Ls (x :: y :: x :: y :: st)) : Go p l e R s m args below meth c n0 F h k n pc Ls (x :: y :: st) := by
  subst hp; exact Go.pl (fun T locs X eT t q => XT.dup2 X.here C.1 rfl (hb C.2.2.2.1 hd) rfl hc hc' q) hr
theorem Cx.goto (C : Cx p s m meth c Z n0 own bc maxL ret nm) {o : Int} (hd : decode bc pc = .ok (.goto o, 3)) (ho : 0 ≤ (pc : Int) + o) (hp : ((pc : Int) + o).toNat = pc') (hr : Go p l e R s m args below meth c n0 F h k n pc' Ls st) : Go p l e R s m args below meth c n0 F h k n pc Ls st := by
  exact Go.pl (fun T locs X eT t q => XS.goto X.here C.1 rfl rfl (hb C.2.2.2.1 hd) ho hp q) hr
theorem Cx.if_eq_t (C : Cx p s m meth c Z n0 own bc maxL ret nm) {x : Int32} {o : Int} (hd : decode bc pc = .ok (.ifCond .eq o, 3)) (ho : 0 ≤ (pc : Int) + o) (hp : ((pc : Int) + o).toNat = pc') (hq : x = 0) (hr : Go p l e R s m args below meth c n0 F h k n pc' Ls st) : Go p l e R s m args below meth c n0 F h k n pc Ls (.int x :: st) :=
  Go.pl (fun T locs X eT t q => XS.ifYes X.here C.1 rfl rfl (hb C.2.2.2.1 hd) rfl (XT.i0_eq_t hq) ho hp q) hr
theorem Cx.if_eq_f (C : Cx p s m meth c Z n0 own bc maxL ret nm) {x : Int32} {o : Int} (hd : decode bc pc = .ok (.ifCond .eq o, 3)) (hp : pc + 3 = pc') (hq : ¬ x = 0) (hr : Go p l e R s m args below meth c n0 F h k n pc' Ls st) : Go p l e R s m args below meth c n0 F h k n pc Ls (.int x :: st) := by
  subst hp; exact Go.pl (fun T locs X eT t q => XS.ifNo X.here C.1 rfl (hb C.2.2.2.1 hd) rfl (XT.i0_eq_f hq) q) hr
theorem Cx.lif_eq_t (C : Cx p s m meth c Z n0 own bc maxL ret nm) {x y : Int64} {o : Int} (hd : decode bc pc = .ok (.ifCond .eq o, 3)) (ho : 0 ≤ (pc : Int) + o) (hp : ((pc : Int) + o).toNat = pc') (hq : x = y) (hr : Go p l e R s m args below meth c n0 F h k n pc' Ls st) : Go p l e R s m args below meth c n0 F h k n pc Ls (.int (XT.cmpL x y) :: st) :=
  Go.pl (fun T locs X eT t q => XS.ifYes X.here C.1 rfl rfl (hb C.2.2.2.1 hd) rfl (XT.ll_eq_t hq) ho hp q) hr
theorem Cx.lif_eq_f (C : Cx p s m meth c Z n0 own bc maxL ret nm) {x y : Int64} {o : Int} (hd : decode bc pc = .ok (.ifCond .eq o, 3)) (hp : pc + 3 = pc') (hq : ¬ x = y) (hr : Go p l e R s m args below meth c n0 F h k n pc' Ls st) : Go p l e R s m args below meth c n0 F h k n pc Ls (.int (XT.cmpL x y) :: st) := by
  subst hp; exact Go.pl (fun T locs X eT t q => XS.ifNo X.here C.1 rfl (hb C.2.2.2.1 hd) rfl (XT.ll_eq_f hq) q) hr
theorem Cx.lif_eq (C : Cx p s m meth c Z n0 own bc maxL ret nm) {x y : Int64} {o : Int} {pc'' : Nat} (hd : decode bc pc = .ok (.ifCond .eq o, 3)) (ho : 0 ≤ (pc : Int) + o) (hp : ((pc : Int) + o).toNat = pc') (hp' : pc + 3 = pc'') (hy : x = y → Go p l e R s m args below meth c n0 F h k n pc' Ls st) (hn : ¬ x = y → Go p l e R s m args below meth c n0 F h k n pc'' Ls st) : Go p l e R s m args below meth c n0 F h k n pc Ls (.int (XT.cmpL x y) :: st) := by
  by_cases q : x = y
  · exact C.lif_eq_t hd ho hp q (hy q)
  · exact C.lif_eq_f hd hp' q (hn q)
theorem Cx.if_ne_t (C : Cx p s m meth c Z n0 own bc maxL ret nm) {x : Int32} {o : Int} (hd : decode bc pc = .ok (.ifCond .ne o, 3)) (ho : 0 ≤ (pc : Int) + o) (hp : ((pc : Int) + o).toNat = pc') (hq : ¬ x = 0) (hr : Go p l e R s m args below meth c n0 F h k n pc' Ls st) : Go p l e R s m args below meth c n0 F h k n pc Ls (.int x :: st) :=
  Go.pl (fun T locs X eT t q => XS.ifYes X.here C.1 rfl rfl (hb C.2.2.2.1 hd) rfl (XT.i0_ne_t hq) ho hp q) hr
theorem Cx.if_ne_f (C : Cx p s m meth c Z n0 own bc maxL ret nm) {x : Int32} {o : Int} (hd : decode bc pc = .ok (.ifCond .ne o, 3)) (hp : pc + 3 = pc') (hq : x = 0) (hr : Go p l e R s m args below meth c n0 F h k n pc' Ls st) : Go p l e R s m args below meth c n0 F h k n pc Ls (.int x :: st) := by
  subst hp; exact Go.pl (fun T locs X eT t q => XS.ifNo X.here C.1 rfl (hb C.2.2.2.1 hd) rfl (XT.i0_ne_f hq) q) hr
theorem Cx.icmp_ne_t (C : Cx p s m meth c Z n0 own bc maxL ret nm) {x y : Int32} {o : Int} (hd : decode bc pc = .ok (.if_icmp .ne o, 3)) (ho : 0 ≤ (pc : Int) + o) (hp : ((pc : Int) + o).toNat = pc') (hq : ¬ x = y) (hr : Go p l e R s m args below meth c n0 F h k n pc' Ls st) : Go p l e R s m args below meth c n0 F h k n pc Ls (.int y :: .int x :: st) :=
  Go.pl (fun T locs X eT t q => XS.icmpYes X.here C.1 rfl rfl (hb C.2.2.2.1 hd) rfl (XT.ii_ne_t hq) ho hp q) hr
theorem Cx.icmp_ne_f (C : Cx p s m meth c Z n0 own bc maxL ret nm) {x y : Int32} {o : Int} (hd : decode bc pc = .ok (.if_icmp .ne o, 3)) (hp : pc + 3 = pc') (hq : x = y) (hr : Go p l e R s m args below meth c n0 F h k n pc' Ls st) : Go p l e R s m args below meth c n0 F h k n pc Ls (.int y :: .int x :: st) := by
  subst hp; exact Go.pl (fun T locs X eT t q => XS.icmpNo X.here C.1 rfl (hb C.2.2.2.1 hd) rfl (XT.ii_ne_f hq) q) hr
theorem Cx.icmp_ne (C : Cx p s m meth c Z n0 own bc maxL ret nm) {x y : Int32} {o : Int} {pc'' : Nat} (hd : decode bc pc = .ok (.if_icmp .ne o, 3)) (ho : 0 ≤ (pc : Int) + o) (hp : ((pc : Int) + o).toNat = pc') (hp' : pc + 3 = pc'') (hy : ¬ x = y → Go p l e R s m args below meth c n0 F h k n pc' Ls st) (hn : x = y → Go p l e R s m args below meth c n0 F h k n pc'' Ls st) : Go p l e R s m args below meth c n0 F h k n pc Ls (.int y :: .int x :: st) := by
  by_cases q : x = y
  · exact C.icmp_ne_f hd hp' q (hn q)
  · exact C.icmp_ne_t hd ho hp q (hy q)
theorem Cx.lif_ne_t (C : Cx p s m meth c Z n0 own bc maxL ret nm) {x y : Int64} {o : Int} (hd : decode bc pc = .ok (.ifCond .ne o, 3)) (ho : 0 ≤ (pc : Int) + o) (hp : ((pc : Int) + o).toNat = pc') (hq : ¬ x = y) (hr : Go p l e R s m args below meth c n0 F h k n pc' Ls st) : Go p l e R s m args below meth c n0 F h k n pc Ls (.int (XT.cmpL x y) :: st) :=
  Go.pl (fun T locs X eT t q => XS.ifYes X.here C.1 rfl rfl (hb C.2.2.2.1 hd) rfl (XT.ll_ne_t hq) ho hp q) hr
theorem Cx.lif_ne_f (C : Cx p s m meth c Z n0 own bc maxL ret nm) {x y : Int64} {o : Int} (hd : decode bc pc = .ok (.ifCond .ne o, 3)) (hp : pc + 3 = pc') (hq : x = y) (hr : Go p l e R s m args below meth c n0 F h k n pc' Ls st) : Go p l e R s m args below meth c n0 F h k n pc Ls (.int (XT.cmpL x y) :: st) := by
  subst hp; exact Go.pl (fun T locs X eT t q => XS.ifNo X.here C.1 rfl (hb C.2.2.2.1 hd) rfl (XT.ll_ne_f hq) q) hr
theorem Cx.lif_ne (C : Cx p s m meth c Z n0 own bc maxL ret nm) {x y : Int64} {o : Int} {pc'' : Nat} (hd : decode bc pc = .ok (.ifCond .ne o, 3)) (ho : 0 ≤ (pc : Int) + o) (hp : ((pc : Int) + o).toNat = pc') (hp' : pc + 3 = pc'') (hy : ¬ x = y → Go p l e R s m args below meth c n0 F h k n pc' Ls st) (hn : x = y → Go p l e R s m args below meth c n0 F h k n pc'' Ls st) : Go p l e R s m args below meth c n0 F h k n pc Ls (.int (XT.cmpL x y) :: st) := by
  by_cases q : x = y
  · exact C.lif_ne_f hd hp' q (hn q)
  · exact C.lif_ne_t hd ho hp q (hy q)
theorem Cx.if_ge_t (C : Cx p s m meth c Z n0 own bc maxL ret nm) {x : Int32} {o : Int} (hd : decode bc pc = .ok (.ifCond .ge o, 3)) (ho : 0 ≤ (pc : Int) + o) (hp : ((pc : Int) + o).toNat = pc') (hq : ¬ x < 0) (hr : Go p l e R s m args below meth c n0 F h k n pc' Ls st) : Go p l e R s m args below meth c n0 F h k n pc Ls (.int x :: st) :=
  Go.pl (fun T locs X eT t q => XS.ifYes X.here C.1 rfl rfl (hb C.2.2.2.1 hd) rfl (XT.i0_ge_t hq) ho hp q) hr
theorem Cx.if_ge_f (C : Cx p s m meth c Z n0 own bc maxL ret nm) {x : Int32} {o : Int} (hd : decode bc pc = .ok (.ifCond .ge o, 3)) (hp : pc + 3 = pc') (hq : x < 0) (hr : Go p l e R s m args below meth c n0 F h k n pc' Ls st) : Go p l e R s m args below meth c n0 F h k n pc Ls (.int x :: st) := by
  subst hp; exact Go.pl (fun T locs X eT t q => XS.ifNo X.here C.1 rfl (hb C.2.2.2.1 hd) rfl (XT.i0_ge_f hq) q) hr
theorem Cx.icmp_ge_t (C : Cx p s m meth c Z n0 own bc maxL ret nm) {x y : Int32} {o : Int} (hd : decode bc pc = .ok (.if_icmp .ge o, 3)) (ho : 0 ≤ (pc : Int) + o) (hp : ((pc : Int) + o).toNat = pc') (hq : ¬ x < y) (hr : Go p l e R s m args below meth c n0 F h k n pc' Ls st) : Go p l e R s m args below meth c n0 F h k n pc Ls (.int y :: .int x :: st) :=
  Go.pl (fun T locs X eT t q => XS.icmpYes X.here C.1 rfl rfl (hb C.2.2.2.1 hd) rfl (XT.ii_ge_t hq) ho hp q) hr
theorem Cx.icmp_ge_f (C : Cx p s m meth c Z n0 own bc maxL ret nm) {x y : Int32} {o : Int} (hd : decode bc pc = .ok (.if_icmp .ge o, 3)) (hp : pc + 3 = pc') (hq : x < y) (hr : Go p l e R s m args below meth c n0 F h k n pc' Ls st) : Go p l e R s m args below meth c n0 F h k n pc Ls (.int y :: .int x :: st) := by
  subst hp; exact Go.pl (fun T locs X eT t q => XS.icmpNo X.here C.1 rfl (hb C.2.2.2.1 hd) rfl (XT.ii_ge_f hq) q) hr
theorem Cx.icmp_ge (C : Cx p s m meth c Z n0 own bc maxL ret nm) {x y : Int32} {o : Int} {pc'' : Nat} (hd : decode bc pc = .ok (.if_icmp .ge o, 3)) (ho : 0 ≤ (pc : Int) + o) (hp : ((pc : Int) + o).toNat = pc') (hp' : pc + 3 = pc'') (hy : ¬ x < y → Go p l e R s m args below meth c n0 F h k n pc' Ls st) (hn : x < y → Go p l e R s m args below meth c n0 F h k n pc'' Ls st) : Go p l e R s m args below meth c n0 F h k n pc Ls (.int y :: .int x :: st) := by
  by_cases q : x < y
  · exact C.icmp_ge_f hd hp' q (hn q)
  · exact C.icmp_ge_t hd ho hp q (hy q)
theorem Cx.icmp_gt_t (C : Cx p s m meth c Z n0 own bc maxL ret nm) {x y : Int32} {o : Int} (hd : decode bc pc = .ok (.if_icmp .gt o, 3)) (ho : 0 ≤ (pc : Int) + o) (hp : ((pc : Int) + o).toNat = pc') (hq : y < x) (hr : Go p l e R s m args below meth c n0 F h k n pc' Ls st) : Go p l e R s m args below meth c n0 F h k n pc Ls (.int y :: .int x :: st) :=
  Go.pl (fun T locs X eT t q => XS.icmpYes X.here C.1 rfl rfl (hb C.2.2.2.1 hd) rfl (XT.ii_gt_t hq) ho hp q) hr
theorem Cx.icmp_gt_f (C : Cx p s m meth c Z n0 own bc maxL ret nm) {x y : Int32} {o : Int} (hd : decode bc pc = .ok (.if_icmp .gt o, 3)) (hp : pc + 3 = pc') (hq : ¬ y < x) (hr : Go p l e R s m args below meth c n0 F h k n pc' Ls st) : Go p l e R s m args below meth c n0 F h k n pc Ls (.int y :: .int x :: st) := by
  subst hp; exact Go.pl (fun T locs X eT t q => XS.icmpNo X.here C.1 rfl (hb C.2.2.2.1 hd) rfl (XT.ii_gt_f hq) q) hr
theorem Cx.icmp_gt (C : Cx p s m meth c Z n0 own bc maxL ret nm) {x y : Int32} {o : Int} {pc'' : Nat} (hd : decode bc pc = .ok (.if_icmp .gt o, 3)) (ho : 0 ≤ (pc : Int) + o) (hp : ((pc : Int) + o).toNat = pc') (hp' : pc + 3 = pc'') (hy : y < x → Go p l e R s m args below meth c n0 F h k n pc' Ls st) (hn : ¬ y < x → Go p l e R s m args below meth c n0 F h k n pc'' Ls st) : Go p l e R s m args below meth c n0 F h k n pc Ls (.int y :: .int x :: st) := by
  by_cases q : y < x
  · exact C.icmp_gt_t hd ho hp q (hy q)
  · exact C.icmp_gt_f hd hp' q (hn q)
theorem Cx.icmp_le_t (C : Cx p s m meth c Z n0 own bc maxL ret nm) {x y : Int32} {o : Int} (hd : decode bc pc = .ok (.if_icmp .le o, 3)) (ho : 0 ≤ (pc : Int) + o) (hp : ((pc : Int) + o).toNat = pc') (hq : ¬ y < x) (hr : Go p l e R s m args below meth c n0 F h k n pc' Ls st) : Go p l e R s m args below meth c n0 F h k n pc Ls (.int y :: .int x :: st) :=
  Go.pl (fun T locs X eT t q => XS.icmpYes X.here C.1 rfl rfl (hb C.2.2.2.1 hd) rfl (XT.ii_le_t hq) ho hp q) hr
theorem Cx.ldc2J (C : Cx p s m meth c Z n0 own bc maxL ret nm) {j : Nat} {v : Int64} (hd : decode bc pc = .ok (.ldc2_w j, 3)) (hp : pc + 3 = pc') (w : (Jvm.Cond.constantLong own j v).before a0 Z = true) (hr : Go p l e R s m args below meth c n0 F h k n pc' Ls (.long v :: st)) : Go p l e R s m args below meth c n0 F h k n pc Ls st := by
  subst hp; exact Go.pl (fun T locs X eT t q => X.ldc2J C.1 C.2.2.1 (mv C.2.1 w) rfl (hb C.2.2.2.1 hd) q) hr
theorem Cx.alen (C : Cx p s m meth c Z n0 own bc maxL ret nm) {a : Addr} {ty : FieldType} {vs : List Value} (hd : decode bc pc = .ok (.arraylength, 1)) (hp : pc + 1 = pc') (A : Av Z h a ty vs) (hr : Go p l e R s m args below meth c n0 F h k n pc' Ls (.int vs.length.toInt32 :: st)) : Go p l e R s m args below meth c n0 F h k n pc Ls (.ref a :: st) := by
  obtain ⟨cl, A, rfl, -⟩ := A; subst hp; refine Go.pl (fun T locs X eT t q => X.arraylength C.1 (cell := cl) (by rw [eT]; exact A.1) (State.isArrayOf_alike C.2.1.alike A.2.1) (g := mkF m pc Ls (.ref a :: st)) rfl rfl (hb C.2.2.2.1 hd) t q) (by simpa using hr)
theorem Cx.iaload (C : Cx p s m meth c Z n0 own bc maxL ret nm) {a : Addr} {vs : List Value} {j : Int32} (v : Value) (hd : decode bc pc = .ok (.iaload, 1)) (hp : pc + 1 = pc') (A : Av Z h a .int vs) (hj : ¬ j < 0) (hv : vs[j.toNatClampNeg]? = some v) (hr : Go p l e R s m args below meth c n0 F h k n pc' Ls (v :: st)) : Go p l e R s m args below meth c n0 F h k n pc Ls (.int j :: .ref a :: st) := by
  obtain ⟨cl, A, rfl, -⟩ := A; subst hp; rw [Array.getElem?_toList] at hv; exact Go.pl (fun T locs X eT t q => X.iaload C.1 (by rw [eT]; exact A.1) (State.isArrayOf_alike C.2.1.alike A.2.1) A.2.2 (own_in hj hv) hv (g := mkF m pc Ls (.int j :: .ref a :: st)) rfl rfl (hb C.2.2.2.1 hd) t q) hr
theorem Cx.laload (C : Cx p s m meth c Z n0 own bc maxL ret nm) {a : Addr} {vs : List Value} {j : Int32} (v : Value) (hd : decode bc pc = .ok (.laload, 1)) (hp : pc + 1 = pc') (A : Av Z h a .long vs) (hj : ¬ j < 0) (hv : vs[j.toNatClampNeg]? = some v) (hr : Go p l e R s m args below meth c n0 F h k n pc' Ls (v :: st)) : Go p l e R s m args below meth c n0 F h k n pc Ls (.int j :: .ref a :: st) := by
  obtain ⟨cl, A, rfl, -⟩ := A; subst hp; rw [Array.getElem?_toList] at hv; exact Go.pl (fun T locs X eT t q => X.laload C.1 (by rw [eT]; exact A.1) (State.isArrayOf_alike C.2.1.alike A.2.1) A.2.2 (own_in hj hv) hv (g := mkF m pc Ls (.int j :: .ref a :: st)) rfl rfl (hb C.2.2.2.1 hd) t q) hr
theorem Cx.iastore (C : Cx p s m meth c Z n0 own bc maxL ret nm) {a : Addr} {vs : List Value} {j : Int32} {x : Int32} (hd : decode bc pc = .ok (.iastore, 1)) (hp : pc + 1 = pc') (A : Av Z h a .int vs) (ha : n0 ≤ a) (hj : ¬ j < 0) (hl : j.toNatClampNeg < vs.length) (hr : ∀ h', Wr h h' a j.toNatClampNeg (.int x) → Av Z h' a .int (vs.set j.toNatClampNeg (.int x)) → Go p l e R s m args below meth c n0 F h' k n pc' Ls st) : Go p l e R s m args below meth c n0 F h k n pc Ls (.int x :: .int j :: .ref a :: st) := by
  intro T locs X eT N; have A0 := A; obtain ⟨cl, A, rfl, -⟩ := A; subst hp; rw [Array.length_toList] at hl
  obtain ⟨T', h', X', e', W, stp⟩ := stI X C.1 C.2.1 eT A (own_in2 hj hl) (g := mkF m pc Ls (.int x :: .int j :: .ref a :: st)) rfl rfl (hb C.2.2.2.1 hd)
  obtain ⟨s₂, o, q1, q2⟩ := hr h' W (A0.same W rfl) T' _ X' e' (Fr.snoc X' N ha)
  exact ⟨s₂, o, stp _ q1, q2⟩
theorem Cx.lastore (C : Cx p s m meth c Z n0 own bc maxL ret nm) {a : Addr} {vs : List Value} {j : Int32} {x : Int64} (hd : decode bc pc = .ok (.lastore, 1)) (hp : pc + 1 = pc') (A : Av Z h a .long vs) (ha : n0 ≤ a) (hj : ¬ j < 0) (hl : j.toNatClampNeg < vs.length) (hr : ∀ h', Wr h h' a j.toNatClampNeg (.long x) → Av Z h' a .long (vs.set j.toNatClampNeg (.long x)) → Go p l e R s m args below meth c n0 F h' k n pc' Ls st) : Go p l e R s m args below meth c n0 F h k n pc Ls (.long x :: .int j :: .ref a :: st) := by
  intro T locs X eT N; have A0 := A; obtain ⟨cl, A, rfl, -⟩ := A; subst hp; rw [Array.length_toList] at hl
  obtain ⟨T', h', X', e', W, stp⟩ := stJ X C.1 C.2.1 eT A (own_in2 hj hl) (g := mkF m pc Ls (.long x :: .int j :: .ref a :: st)) rfl rfl (hb C.2.2.2.1 hd)
  obtain ⟨s₂, o, q1, q2⟩ := hr h' W (A0.same W rfl) T' _ X' e' (Fr.snoc X' N ha)
  exact ⟨s₂, o, stp _ q1, q2⟩
theorem Cx.new (C : Cx p s m meth c Z n0 own bc maxL ret nm) {cls : String} {j nn : Nat} (hd : decode bc pc = .ok (.new j, 3)) (hp : pc + 3 = pc') (w1 : (Jvm.Cond.classLink own j cls).before a0 Z = true) (w2 : (Jvm.Cond.instantiable cls nn).before a0 Z = true) (w3 : (Jvm.Cond.initialized cls).before a0 Z = true) (hk : k + 1 ≤ R.cells) (hn : n + nn ≤ R.slots)
    (hr : ∀ (a : Addr) (h' : Heap), a = h.size → n0 ≤ a → Ext h h' → Exa Z h' a cls → (∀ {O f d : String} {ty : FieldType}, Laid Z a0 cls O f d → parseFieldDescriptor d = some ty → Fld Z h' a O f d (defaultValue ty)) → Go p l e R s m args below meth c n0 F h' (k + 1) (n + nn) pc' Ls (.ref a :: st)) : Go p l e R s m args below meth c n0 F h k n pc Ls st := by
  intro T locs X eT N
  subst hp
  obtain ⟨T', h', X', e', E', A', D', -, stp⟩ := newO X C.1 C.2.1 C.2.2.1 w1 w2 w3 eT (g := mkF m pc Ls st) rfl (hb C.2.2.2.1 hd) hk hn
  obtain ⟨s₂, o, q1, q2⟩ := hr h.size h' rfl (by rw [← eT]; exact C.size X) E' A' D' T' _ X' e' N
  exact ⟨s₂, o, stp _ q1, q2⟩
theorem Cx.newarr (C : Cx p s m meth c Z n0 own bc maxL ret nm) {aty : ArrayType} {ty : FieldType} {z : Int32} (cap : Nat) (hd : decode bc pc = .ok (.newarray aty, 2)) (hp : pc + 2 = pc') (hty : newarray.typeOf aty = ty) (w : (Jvm.Cond.arrayClass ty).before a0 Z = true) (hz : ¬ z < 0) (hcap : z.toNatClampNeg ≤ cap) (hb8 : cap * 8 ≤ 536870912) (hk : k + 1 ≤ R.cells) (hn : n + cap ≤ R.slots)
    (hr : ∀ (a : Addr) (h' : Heap), a = h.size → n0 ≤ a → Ext h h' → Av Z h' a ty (List.replicate z.toNatClampNeg (defaultValue ty)) → Go p l e R s m args below meth c n0 F h' (k + 1) (n + cap) pc' Ls (.ref a :: st)) : Go p l e R s m args below meth c n0 F h k n pc Ls (.int z :: st) := by
  intro T locs X eT N
  subst hp hty
  obtain ⟨T', h', cA, X', e', E', A', stp⟩ := newP X C.1 C.2.1 w eT (g := mkF m pc Ls (.int z :: st)) rfl (hb C.2.2.2.1 hd) rfl hz hcap hb8 hk hn
  obtain ⟨s₂, o, q1, q2⟩ := hr h.size h' rfl (by rw [← eT]; exact C.size X) E' (Av.new A') T' _ X' e' N
  exact ⟨s₂, o, stp _ q1, q2⟩
theorem Cx.initO (C : Cx p s m meth c Z n0 own bc maxL ret nm) {j : Nat} {a : Addr} (W : Nat) (hd : decode bc pc = .ok (.invokespecial j, 3)) (hp : pc + 3 = pc') (w1 : (Jvm.Cond.methodLink own j Lib.objectInit).before a0 Z = true) (w2 : (Jvm.Cond.instanceMethod Lib.objectInit).before a0 Z = true) (w3 : (Jvm.Cond.code Lib.objectInit ⟨#[0xb1]⟩ 1 none).before a0 Z = true) (hsz : Ls.size = maxL) (hf : 1 ≤ R.frames) (hW : (st.map fun v => v.category).sum ≤ W) (hl : W + 12 ≤ R.locals)
    (hr : Go p l e R s m args below meth c n0 F h k n pc' Ls st) : Go p l e R s m args below meth c n0 F h k n pc Ls (.ref a :: st) := by
  intro T locs X eT N
  subst hp
  obtain ⟨T', X', e', stp⟩ := RoadKit.initO X C.1 C.2.1 C.2.2.1 w1 w2 w3 eT (g := mkF m pc Ls (.ref a :: st)) rfl (hsz.trans C.2.2.2.2.1.symm) rfl (hb C.2.2.2.1 hd) hf (W := W) (by show 2 * 0 + _ ≤ W; omega) hl
  obtain ⟨s₂, o, q1, q2⟩ := hr T' _ X' e' N
  exact ⟨s₂, o, stp _ q1, q2⟩
theorem Cx.getF (C : Cx p s m meth c Z n0 own bc maxL ret nm) {O f d : String} {j : Nat} {a : Addr} {v : Value} (hd : decode bc pc = .ok (.getfield j, 3)) (hp : pc + 3 = pc') (w : (Jvm.Cond.fieldLink own j O f d).before a0 Z = true) (F' : Fld Z h a O f d v)
    (hr : Go p l e R s m args below meth c n0 F h k n pc' Ls (v :: st)) : Go p l e R s m args below meth c n0 F h k n pc Ls (.ref a :: st) := by
  intro T locs X eT N
  subst hp
  obtain ⟨T', X', e', stp⟩ := RoadKit.getF X C.1 C.2.1 C.2.2.1 (host := "") (Or.inl w) Via.refl eT F' (g := mkF m pc Ls (.ref a :: st)) rfl rfl (hb C.2.2.2.1 hd)
  obtain ⟨s₂, o, q1, q2⟩ := hr T' _ X' e' N
  exact ⟨s₂, o, stp _ q1, q2⟩
theorem Cx.putF (C : Cx p s m meth c Z n0 own bc maxL ret nm) {O f d cls : String} {j kk : Nat} {ty : FieldType} {a : Addr} {v old : Value} (hd : decode bc pc = .ok (.putfield j, 3)) (hp : pc + 3 = pc') (w : (Jvm.Cond.fieldLink own j O f d).before a0 Z = true) (F' : Fld Z h a O f d old) (E : Exa Z h a cls)
    (L : (Jvm.Cond.lays cls O f d).before a0 Z = true ∨ ((Jvm.Cond.laysFinal cls O f d).before a0 Z = true ∧ own = O ∧ nm = "<init>")) (wi : (Jvm.Cond.instantiable cls kk).before a0 Z = true) (hty : parseFieldDescriptor d = some ty) (hnr : narrow ty v = v) (hf : fits ty v = true) (ha : n0 ≤ a)
    (hr : ∀ h', Wr h h' a (Jvm.RoadKit.slotOf Z O f d) v → Fld Z h' a O f d v → Go p l e R s m args below meth c n0 F h' k n pc' Ls st) : Go p l e R s m args below meth c n0 F h k n pc Ls (v :: .ref a :: st) := by
  intro T locs X eT N
  subst hp
  obtain ⟨T', h', X', e', W, stp⟩ := RoadKit.putF X C.1 C.2.1 C.2.2.1 (host := "") (Or.inl w) Via.refl eT F' E (L.imp id fun q => ⟨q.1, q.2.1, C.2.2.2.2.2.2.1.trans q.2.2⟩) wi hty hnr hf (g := mkF m pc Ls (v :: .ref a :: st)) rfl rfl (hb C.2.2.2.1 hd)
  obtain ⟨s₂, o, q1, q2⟩ := hr h' W (F'.same W) T' _ X' e' (Fr.snoc X' N ha)
  exact ⟨s₂, o, stp _ q1, q2⟩
/-! the end of a body -/
theorem Cx.ret0 {Q : Option Value → Heap → Prop} {ck cs : Nat} (C : Cx p s m meth c Z n0 own bc maxL none nm) (hd : decode bc pc = .ok (.return_, 1)) (hk : k ≤ ck) (hn : n ≤ cs) (hq : Q none h) : Go p l e R s m args below meth c n0 (FinQ s n0 Q ck cs) h k n pc Ls [] := by
  intro T locs X eT N
  have hlk := C.2.2.2.2.2.2.2.1
  obtain ⟨fs, hr, hrun, hended, hW, hsame⟩ := X.leave (v := none) (fun _ => rfl) hlk
  exact ⟨_, _, X.returnOut C.1 C.2.2.2.2.2.1 (hb C.2.2.2.1 hd) hr, hrun, hended, _, _, rfl, ⟨by show Q none T.heap; rw [eT]; exact hq, N⟩, ⟨_, rfl⟩, hW, hsame.mono hk hn⟩
theorem Cx.retW {Q : Option Value → Heap → Prop} {ck cs : Nat} {t : FieldType} {w : Value} {i : Instr} (C : Cx p s m meth c Z n0 own bc maxL (some t) nm) (hd : decode bc pc = .ok (i, 1)) (hnr : narrow t w = w)
    (hi : (i = .ireturn ∧ (t = .int ∨ t = .boolean ∨ t = .byte ∨ t = .char ∨ t = .short) ∧ ∃ z, w = .int z) ∨ (i = .lreturn ∧ t = .long ∧ ∃ z, w = .long z) ∨ (i = .dreturn ∧ t = .double ∧ ∃ z, w = .double z) ∨ (i = .freturn ∧ t = .float ∧ ∃ z, w = .float z) ∨ (i = .areturn ∧ t.isReference = true ∧ w.isRef = true))
    (hk : k ≤ ck) (hn : n ≤ cs) (hq : Q (some w) h) : Go p l e R s m args below meth c n0 (FinQ s n0 Q ck cs) h k n pc Ls (w :: st) := by
  intro T locs X eT N
  have hlk := C.2.2.2.2.2.2.2.1
  have hrt := C.2.2.2.2.2.1
  obtain ⟨fs, hr, hrun, hended, hW, hsame⟩ := X.leave (v := some w) (fun q => by rw [hrt] at q; cases q) hlk
  exact ⟨_, _, retOut X C.1 hrt hnr hi (hb C.2.2.2.1 hd) hr, hrun, hended, _, _, rfl, ⟨by show Q (some w) T.heap; rw [eT]; exact hq, N⟩, ⟨_, rfl⟩, hW, hsame.mono hk hn⟩
theorem Cx.retI {Q : Option Value → Heap → Prop} {ck cs : Nat} {z : Int32} (C : Cx p s m meth c Z n0 own bc maxL (some .int) nm) (hd : decode bc pc = .ok (.ireturn, 1)) (hk : k ≤ ck) (hn : n ≤ cs) (hq : Q (some (.int z)) h) : Go p l e R s m args below meth c n0 (FinQ s n0 Q ck cs) h k n pc Ls (.int z :: st) :=
  C.retW hd rfl (Or.inl ⟨rfl, Or.inl rfl, z, rfl⟩) hk hn hq
theorem Cx.retZ {Q : Option Value → Heap → Prop} {ck cs : Nat} {z : Int32} (C : Cx p s m meth c Z n0 own bc maxL (some .boolean) nm) (hd : decode bc pc = .ok (.ireturn, 1)) (hz : narrow .boolean (.int z) = .int z) (hk : k ≤ ck) (hn : n ≤ cs) (hq : Q (some (.int z)) h) : Go p l e R s m args below meth c n0 (FinQ s n0 Q ck cs) h k n pc Ls (.int z :: st) :=
  C.retW hd hz (Or.inl ⟨rfl, Or.inr (Or.inl rfl), z, rfl⟩) hk hn hq
theorem Cx.retJ {Q : Option Value → Heap → Prop} {ck cs : Nat} {z : Int64} (C : Cx p s m meth c Z n0 own bc maxL (some .long) nm) (hd : decode bc pc = .ok (.lreturn, 1)) (hk : k ≤ ck) (hn : n ≤ cs) (hq : Q (some (.long z)) h) : Go p l e R s m args below meth c n0 (FinQ s n0 Q ck cs) h k n pc Ls (.long z :: st) :=
  C.retW hd rfl (Or.inr (Or.inl ⟨rfl, rfl, z, rfl⟩)) hk hn hq
/-! a body's contract out of its walk -/
theorem Con.of {ws : List Jvm.Cond} {y : MethodName} {as : Array Value} {h0 : Heap} {Q : Option Value → Heap → Prop} (hn : plainFor y = true) (ef : ∀ m, entryFrame m as maxL = mkF m 0 Ls []) (hn0 : n0 ≤ h0.size)
    (body : ∀ p e s m below meth c, Cx p s m meth c Z n0 y.cls bc maxL ret y.name → Go p l e R s m as below meth c n0 (FinQ s n0 Q R.cells R.slots) h0 0 0 0 Ls []) : Con l Z n0 ws y bc maxL ret R as h0 Q := by
  refine MetFree.of_bodySF hn hisR ?_
  intro p e s m args below meth c s₁ Bd hml0 hP hK
  obtain ⟨rfl, hZ, hh⟩ := hP
  have e0 : s₁.heap = h0 := by rw [← hh, Bd.state]; rfl
  have X0 : Stand p l e R s m args below meth c s₁ [] 0 0 := Stand.of_body Bd
  obtain ⟨s₂, o, q1, q2, q3, q4⟩ := body p e s m below meth c ⟨Bd.exec, hZ, findClass_of_methodNamed Bd.named, Bd.bytes, hml0, Bd.returns, (name_of_methodNamed Bd.named Bd.method).1, Bd.notSynchronized, by rw [hh]; exact hn0⟩ s₁ [] X0 e0 (Fr.nil n0)
  exact ⟨s₂, o, castTop (ef m) q1, q2, q3, q4⟩
theorem Con.imp {ws : List Jvm.Cond} {y : MethodName} {as : Array Value} {h0 : Heap} {Q Q' : Option Value → Heap → Prop} (H : Con l Z n0 ws y bc maxL ret R as h0 Q) (q : ∀ v h, Q v h → Q' v h) : Con l Z n0 ws y bc maxL ret R as h0 Q' := by
  intro p e ha hc hk s m args below hf happ hP hK
  obtain ⟨n, o, h1, h2, h3, v, L, r1, ⟨r2, r3⟩, r4⟩ := H p e ha hc hk s m args below hf happ hP hK
  exact ⟨n, o, h1, h2, h3, v, L, r1, ⟨q _ _ r2, r3⟩, r4⟩
/-! calls by contract -/
theorem Cx.callS (C : Cx p s m meth c Z n0 own bc maxL ret nm) {y : MethodName} {bc' : ByteArray} {maxL' j : Nat} {ret' : Option FieldType} {R' : Room} {argsL rest : List Value} {Q : Option Value → Heap → Prop} (W : Nat) (hC : n0 ≤ h.size → Con l Z n0 [] y bc' maxL' ret' R' argsL.toArray h Q) (hd : decode bc pc = .ok (.invokestatic j, 3)) (hp : pc + 3 = pc')
    (w1 : (Jvm.Cond.methodLink own j y).before a0 Z = true) (w2 : (Jvm.Cond.static y).before a0 Z = true) (w3 : (Jvm.Cond.initialized y.cls).before a0 Z = true) (w4 : (Jvm.Cond.code y bc' maxL' ret').before a0 Z = true) (hy : y.cls ≠ "java/lang/invoke/MethodHandle" ∧ y.cls ≠ "java/lang/invoke/VarHandle") {ps : List FieldType} {r : Option FieldType} (hpd : parseMethodDescriptor y.desc = some ⟨ps, r⟩) (hlen : argsL.length = ps.length)
    (hst : st = argsL.reverse ++ rest) (hsz : Ls.size = maxL) (hW : (rest.map fun v => v.category).sum ≤ W) (hf : R'.frames + 1 ≤ R.frames) (hl : W + (maxL' + 11) + R'.locals ≤ R.locals) (hk : k + R'.cells ≤ R.cells) (hn : n + R'.slots ≤ R.slots)
    (hr : ∀ v h', Q v h' → Go p l e R s m args below meth c n0 F h' (k + R'.cells) (n + R'.slots) pc' Ls (v.toList ++ rest)) : Go p l e R s m args below meth c n0 F h k n pc Ls st := by
  intro T locs X eT N
  subst hp hst
  obtain ⟨v, _, ⟨T', L', k', n'⟩, -, X', ⟨Lc, hQ, l1, y1, z1⟩, stp⟩ := Jvm.LawKit.callS X C.1 (y := y) C.2.2.1 (mvT C.2.1 w1) (mvT C.2.1 w2) (mvT C.2.1 w3) (mvT C.2.1 w4) hy (backOf (Z := Z) (h := h) (bytes := bc') (maxL := maxL') (ret := ret') (rm := R') (as' := argsL.toArray) (Q := fun v h' L => Q v h' ∧ Fr n0 L) (W := W) (hC (by rw [← eT]; exact C.size X)) C.2.1 w4 w3 hf hl) (g := mkF m pc Ls (argsL.reverse ++ rest)) rfl (hsz.trans C.2.2.2.2.1.symm) (argsL := argsL) (rest := rest) (lenOf hpd hlen) rfl (by show 2 * 0 + _ ≤ W; omega) (hb C.2.2.2.1 hd) (fun _ _ => ⟨rfl, eT, hk, hn⟩)
  dsimp only [Pt.U, Pt.locs, Pt.cells, Pt.slots] at X' l1 y1 z1 stp hQ
  subst l1 y1 z1
  obtain ⟨s₂, o, q1, q2⟩ := hr v T'.heap hQ.1 T' _ X' rfl (Fr.app N hQ.2)
  exact ⟨s₂, o, stp _ q1, q2⟩
theorem Cx.callN (C : Cx p s m meth c Z n0 own bc maxL ret nm) {y : MethodName} {bc' : ByteArray} {maxL' j : Nat} {R' : Room} {a : Addr} {argsL rest : List Value} {Q : Option Value → Heap → Prop} (W : Nat) (hC : n0 ≤ h.size → Con l Z n0 [] y bc' maxL' none R' (.ref a :: argsL).toArray h Q) (hd : decode bc pc = .ok (.invokespecial j, 3)) (hp : pc + 3 = pc') (hy1 : y.name = "<init>")
    (w1 : (Jvm.Cond.methodLink own j y).before a0 Z = true) (w2 : (Jvm.Cond.instanceMethod y).before a0 Z = true) (w3 : (Jvm.Cond.initialized y.cls).before a0 Z = true) (w4 : (Jvm.Cond.code y bc' maxL' none).before a0 Z = true) (hy : y.cls ≠ "java/lang/invoke/MethodHandle" ∧ y.cls ≠ "java/lang/invoke/VarHandle") {ps : List FieldType} {r : Option FieldType} (hpd : parseMethodDescriptor y.desc = some ⟨ps, r⟩) (hlen : argsL.length = ps.length)
    (hst : st = argsL.reverse ++ .ref a :: rest) (hsz : Ls.size = maxL) (hW : (rest.map fun v => v.category).sum ≤ W) (hf : R'.frames + 1 ≤ R.frames) (hl : W + (maxL' + 11) + R'.locals ≤ R.locals) (hk : k + R'.cells ≤ R.cells) (hn : n + R'.slots ≤ R.slots)
    (hr : ∀ v h', Q v h' → Go p l e R s m args below meth c n0 F h' (k + R'.cells) (n + R'.slots) pc' Ls (v.toList ++ rest)) : Go p l e R s m args below meth c n0 F h k n pc Ls st := by
  intro T locs X eT N
  subst hp hst
  obtain ⟨v, _, ⟨T', L', k', n'⟩, -, X', ⟨Lc, hQ, l1, y1, z1⟩, stp⟩ := X.specialBack C.1 (y := y) hy1 C.2.2.1 (mvT C.2.1 w1) (mvT C.2.1 w2) (mvT C.2.1 w4) hy (backOf (Z := Z) (h := h) (bytes := bc') (maxL := maxL') (ret := none) (rm := R') (as' := (Value.ref a :: argsL).toArray) (Q := fun v h' L => Q v h' ∧ Fr n0 L) (W := W) (hC (by rw [← eT]; exact C.size X)) C.2.1 w4 w3 hf hl) (g := mkF m pc Ls (argsL.reverse ++ .ref a :: rest)) rfl (hsz.trans C.2.2.2.2.1.symm) (Steps.refl _) (a := a) (argsL := argsL) (rest := rest) (lenOf hpd hlen) rfl (by show 2 * 0 + _ ≤ W; omega) (hb C.2.2.2.1 hd) (fun _ _ => ⟨rfl, eT, hk, hn⟩)
  dsimp only [Pt.U, Pt.locs, Pt.cells, Pt.slots] at X' l1 y1 z1 stp hQ
  subst l1 y1 z1
  obtain ⟨s₂, o, q1, q2⟩ := hr v T'.heap hQ.1 T' _ X' rfl (Fr.app N hQ.2)
  exact ⟨s₂, o, stp.trans q1, q2⟩
theorem Cx.callV (C : Cx p s m meth c Z n0 own bc maxL ret nm) {y : MethodName} {cls : String} {bc' : ByteArray} {maxL' j : Nat} {ret' : Option FieldType} {R' : Room} {a : Addr} {argsL rest : List Value} {Q : Option Value → Heap → Prop} (W : Nat) (hC : n0 ≤ h.size → Con l Z n0 [] y bc' maxL' ret' R' (.ref a :: argsL).toArray h Q) (E : Exa Z h a cls) (hd : decode bc pc = .ok (.invokevirtual j, 3)) (hp : pc + 3 = pc')
    (w1 : (Jvm.Cond.methodLink own j y).before a0 Z = true) (w2 : (Jvm.Cond.declares y).before a0 Z = true) (w3 : (Jvm.Cond.instanceMethod y).before a0 Z = true) (w4 : (Jvm.Cond.selects cls y y).before a0 Z = true) (w5 : (Jvm.Cond.initialized y.cls).before a0 Z = true) (w6 : (Jvm.Cond.code y bc' maxL' ret').before a0 Z = true) (hy : y.cls ≠ "java/lang/invoke/MethodHandle" ∧ y.cls ≠ "java/lang/invoke/VarHandle") {ps : List FieldType} {r : Option FieldType} (hpd : parseMethodDescriptor y.desc = some ⟨ps, r⟩) (hlen : argsL.length = ps.length)
    (hst : st = argsL.reverse ++ .ref a :: rest) (hsz : Ls.size = maxL) (hW : (rest.map fun v => v.category).sum ≤ W) (hf : R'.frames + 1 ≤ R.frames) (hl : W + (maxL' + 11) + R'.locals ≤ R.locals) (hk : k + R'.cells ≤ R.cells) (hn : n + R'.slots ≤ R.slots)
    (hr : ∀ v h', Q v h' → Go p l e R s m args below meth c n0 F h' (k + R'.cells) (n + R'.slots) pc' Ls (v.toList ++ rest)) : Go p l e R s m args below meth c n0 F h k n pc Ls st := by
  intro T locs X eT N
  subst hp hst
  obtain ⟨cq, kq, qa, qb, qc⟩ := isOf (T := T) C.2.1 eT E
  obtain ⟨v, _, ⟨T', L', k', n'⟩, -, X', ⟨Lc, hQ, l1, y1, z1⟩, stp⟩ := X.virtualBack C.1 (y := y) (z := y) C.2.2.1 (mvT C.2.1 w1) (mvT C.2.1 w2) (notFace_of_selects (args := #[]) (mvT C.2.1 w4)) (mvT C.2.1 w4) (mvT C.2.1 w3) hy (backOf (Z := Z) (h := h) (bytes := bc') (maxL := maxL') (ret := ret') (rm := R') (as' := (Value.ref a :: argsL).toArray) (Q := fun v h' L => Q v h' ∧ Fr n0 L) (W := W) (hC (by rw [← eT]; exact C.size X)) C.2.1 w6 w5 hf hl) qa qc (g := mkF m pc Ls (argsL.reverse ++ .ref a :: rest)) rfl (hsz.trans C.2.2.2.2.1.symm) (Steps.refl _) (argsL := argsL) (rest := rest) (lenOf hpd hlen) rfl (by show 2 * 0 + _ ≤ W; omega) (hb C.2.2.2.1 hd) (fun _ _ => ⟨rfl, eT, hk, hn⟩)
  dsimp only [Pt.U, Pt.locs, Pt.cells, Pt.slots] at X' l1 y1 z1 stp hQ
  subst l1 y1 z1
  obtain ⟨s₂, o, q1, q2⟩ := hr v T'.heap hQ.1 T' _ X' rfl (Fr.app N hQ.2)
  exact ⟨s₂, o, stp.trans q1, q2⟩
end Own
theorem own_or_l {a b : Int64} (q : ¬ a = 0) : ¬ a ||| b = 0 := fun e => q (by
  have f := congrArg Int64.toBitVec e
  rw [Int64.toBitVec_or] at f
  exact Int64.toBitVec_inj.1 (BitVec.or_eq_zero_iff.mp f).1)
theorem own_or_r {a b : Int64} (q : ¬ b = 0) : ¬ a ||| b = 0 := fun e => q (by
  have f := congrArg Int64.toBitVec e
  rw [Int64.toBitVec_or] at f
  exact Int64.toBitVec_inj.1 (BitVec.or_eq_zero_iff.mp f).2)
section OwnArr
variable {p : Program} {l : Launch} {e : Env} {R : Room} {s : State} {m : MethodId} {args : Array Value} {below : List Frame} {meth : Method} {c : Code} {n0 : Nat} {F : State → Outcome → Prop} {h : Heap} {k n pc pc' : Nat} {Ls : Array Slot} {st : List Value} {Z : State} {own : String} {bc : ByteArray} {maxL : Nat} {ret : Option FieldType} {nm : String} {a0 : Array Value}
theorem own_clamp {j : Nat} (q : j < 2 ^ 31) : j.toInt32.toNatClampNeg = j ∧ ¬ j.toInt32 < 0 := by
  have e := len_toInt q
  constructor
  · simp only [Int32.toNatClampNeg, e]; omega
  · rw [Int32.lt_iff_toInt_lt, e]; simp only [Int32.reduceToInt]; omega
theorem Av.arv {a : Addr} {ty : FieldType} {vs : List Value} (A : Av Z h a ty vs) (q : vs.length < 2 ^ 31) (dv : Value) : ∃ kc, Arv Z h a kc ty vs.length.toInt32 vs dv := by
  obtain ⟨cl, A, rfl, r⟩ := A
  obtain ⟨e1, e2⟩ := own_clamp q
  rw [Array.length_toList] at q e1 e2 ⊢
  refine ⟨cl.cls, cl, A, rfl, e1.symm, e2, fun i hi => ?_, fun i hi => ?_⟩
  · simp [List.getD_eq_getElem?_getD, hi]
  · have : cl.slots.toList.getD i dv = cl.slots[i] := by simp [List.getD_eq_getElem?_getD, hi]
    rw [this]; exact r _ (by simp)
theorem Arv.av {a : Addr} {kc : ClassId} {ty : FieldType} {z : Int32} {vs : List Value} {dv : Value} (A : Arv Z h a kc ty z vs dv) (q : z.toNatClampNeg = vs.length) : Av Z h a ty vs := by
  obtain ⟨cl, A, -, S, -, H, G⟩ := A
  have e : cl.slots.toList = vs := by
    apply List.ext_getElem?
    intro i
    by_cases hi : i < cl.slots.size
    · have := H i hi
      rw [Array.getElem?_toList, this]
      have h2 : i < vs.length := by omega
      simp [List.getD_eq_getElem?_getD, h2]
    · rw [List.getElem?_eq_none (by simpa using hi), List.getElem?_eq_none (by omega)]
  refine ⟨cl, A, e, fun v hv => ?_⟩
  obtain ⟨i, hi, rfl⟩ := List.getElem_of_mem hv
  have := G i (by omega)
  simpa [List.getD_eq_getElem?_getD, hi] using this
theorem own_range (vs : List Value) (sp nn : Nat) (q : sp + nn ≤ vs.length) (d : Value) : (List.range nn).map (fun i => vs.getD (sp + i) d) = (vs.drop sp).take nn := by
  apply List.ext_getElem?
  intro i
  by_cases hi : i < nn
  · simp [hi, List.getElem?_take, List.getD_eq_getElem?_getD, show sp + i < vs.length by omega]
  · rw [List.getElem?_eq_none (by simpa using hi), List.getElem?_eq_none (by simp; omega)]
theorem Cx.acopy (C : Cx p s m meth c Z n0 own bc maxL ret nm) {j : Nat} {a b : Addr} {ty : FieldType} {sp dp nn : Int32} {vs vd : List Value} (W : Nat) (hd : decode bc pc = .ok (.invokestatic j, 3)) (hp : pc + 3 = pc') (w1 : (Jvm.Cond.methodLink own j Jvm.Stand.acN).before a0 Z = true) (w2 : (Jvm.Cond.native Jvm.Stand.acN).before a0 Z = true) (w3 : (Jvm.Cond.static Jvm.Stand.acN).before a0 Z = true) (w4 : (Jvm.Cond.initialized "java/lang/System").before a0 Z = true)
    (A : Av Z h a ty vs) (B : Av Z h b ty vd) (hty : refKind ty = false) (l1 : vs.length < 2 ^ 31) (l2 : vd.length < 2 ^ 31) (h1 : ¬ sp < 0) (h2 : ¬ dp < 0) (h3 : ¬ nn < 0) (h4 : sp.toNatClampNeg + nn.toNatClampNeg ≤ vs.length) (h5 : dp.toNatClampNeg + nn.toNatClampNeg ≤ vd.length) (ge : n0 ≤ b) (hsz : Ls.size = maxL) (hf : 1 ≤ R.frames) (hW : (st.map fun v => v.category).sum ≤ W) (hlo : W + (nativeFrameWords "java/lang/System" "arraycopy" 5 + 11) ≤ R.locals)
    (hr : ∀ h', Keep h h' [b] → Av Z h' b ty (vd.take dp.toNatClampNeg ++ (vs.drop sp.toNatClampNeg).take nn.toNatClampNeg ++ vd.drop (dp.toNatClampNeg + nn.toNatClampNeg)) → Go p l e R s m args below meth c n0 F h' k n pc' Ls st) : Go p l e R s m args below meth c n0 F h k n pc Ls (.int nn :: .int dp :: .ref b :: .int sp :: .ref a :: st) := by
  intro T locs X eT N
  subst hp
  obtain ⟨ka, A'⟩ := A.arv l1 (.int 0)
  obtain ⟨kb, B'⟩ := B.arv l2 (.int 0)
  have c1 := (own_clamp l1).1
  have c2 := (own_clamp l2).1
  obtain ⟨T', h', L', X', e', N', K', V', stp⟩ := cpA X C.1 C.2.1 C.2.2.1 w1 w2 w3 w4 eT A' B' (Or.inl ⟨rfl, hty⟩) h1 h2 h3 (by rw [c1]; exact h4) (by rw [c2]; exact h5) rfl h5 N ge (g := mkF m pc Ls (.int nn :: .int dp :: .ref b :: .int sp :: .ref a :: st)) rfl (hsz.trans C.2.2.2.2.1.symm) rfl (hb C.2.2.2.1 hd) hf (W := W) (by show 2 * 0 + _ ≤ W; omega) hlo
  rw [own_range vs _ _ h4] at V'
  have V2 := Arv.av V' (by rw [c2]; simp; omega)
  obtain ⟨s₂, o, q1, q2⟩ := hr h' K' V2 T' _ X' e' N'
  exact ⟨s₂, o, stp _ q1, q2⟩
end OwnArr
section OwnCalls
variable {p : Program} {l : Launch} {e : Env} {R : Room} {s : State} {m : MethodId} {args : Array Value} {below : List Frame} {meth : Method} {c : Code} {n0 : Nat} {F : State → Outcome → Prop} {h : Heap} {k n pc pc' : Nat} {Ls : Array Slot} {st : List Value} {Z : State} {own : String} {bc : ByteArray} {maxL : Nat} {ret : Option FieldType} {nm : String} {a0 : Array Value}
end OwnCalls
section OwnPriv
variable {p : Program} {l : Launch} {e : Env} {R : Room} {s : State} {m : MethodId} {args : Array Value} {below : List Frame} {meth : Method} {c : Code} {n0 : Nat} {F : State → Outcome → Prop} {h : Heap} {k n pc pc' : Nat} {Ls : Array Slot} {st : List Value} {Z : State} {own : String} {bc : ByteArray} {maxL : Nat} {ret : Option FieldType} {nm : String} {a0 : Array Value}
theorem Cx.callP (C : Cx p s m meth c Z n0 own bc maxL ret nm) {y : MethodName} {cls : String} {bc' : ByteArray} {maxL' j : Nat} {ret' : Option FieldType} {R' : Room} {a : Addr} {argsL rest : List Value} {Q : Option Value → Heap → Prop} (W : Nat) (hC : n0 ≤ h.size → Con l Z n0 [] y bc' maxL' ret' R' (.ref a :: argsL).toArray h Q) (E : Exa Z h a cls) (hd : decode bc pc = .ok (.invokevirtual j, 3)) (hp : pc + 3 = pc')
    (w1 : (Jvm.Cond.methodLink own j y).before a0 Z = true) (w2 : (Jvm.Cond.privateMethod y).before a0 Z = true) (w3 : (Jvm.Cond.instanceMethod y).before a0 Z = true) {kk : Nat} (w4 : (Jvm.Cond.instantiable y.cls kk).before a0 Z = true) (w5 : (Jvm.Cond.initialized y.cls).before a0 Z = true) (w6 : (Jvm.Cond.code y bc' maxL' ret').before a0 Z = true) (hy : y.cls ≠ "java/lang/invoke/MethodHandle" ∧ y.cls ≠ "java/lang/invoke/VarHandle") {ps : List FieldType} {r : Option FieldType} (hpd : parseMethodDescriptor y.desc = some ⟨ps, r⟩) (hlen : argsL.length = ps.length)
    (hst : st = argsL.reverse ++ .ref a :: rest) (hsz : Ls.size = maxL) (hW : (rest.map fun v => v.category).sum ≤ W) (hf : R'.frames + 1 ≤ R.frames) (hl : W + (maxL' + 11) + R'.locals ≤ R.locals) (hk : k + R'.cells ≤ R.cells) (hn : n + R'.slots ≤ R.slots)
    (hr : ∀ v h', Q v h' → Go p l e R s m args below meth c n0 F h' (k + R'.cells) (n + R'.slots) pc' Ls (v.toList ++ rest)) : Go p l e R s m args below meth c n0 F h k n pc Ls st := by
  intro T locs X eT N
  subst hp hst
  obtain ⟨cell, hc1, hc2⟩ := E.cell
  obtain ⟨c1, k1, f1, f2, -, f4, -⟩ := Cond.instantiable_spec (mvT (args := #[]) C.2.1 w4)
  have hni : k1.isInterface = false := by
    cases hq : k1.isInterface with
    | false => rfl
    | true => rw [hq] at f4; exact f4
  have hse : (Jvm.Cond.selects y.cls y y).before args s = true := selects_self_of_private f1 f2 hni (Cond.privateMethod_at (args := #[]) (mvP C.2.1 w2)) (mvT C.2.1 w3) hy
  obtain ⟨v, _, ⟨T', L', k', n'⟩, -, X', ⟨Lc, hQ, l1, y1, z1⟩, stp⟩ := X.privateBack C.1 (y := y) C.2.2.1 (mvT C.2.1 w1) (mvT C.2.1 w3) hse (Cond.privateMethod_at (args := #[]) (mvP C.2.1 w2)) (mvT C.2.1 w6) hy (backOf (Z := Z) (h := h) (bytes := bc') (maxL := maxL') (ret := ret') (rm := R') (as' := (Value.ref a :: argsL).toArray) (Q := fun v h' L => Q v h' ∧ Fr n0 L) (W := W) (hC (by rw [← eT]; exact C.size X)) C.2.1 w6 w5 hf hl) (g := mkF m pc Ls (argsL.reverse ++ .ref a :: rest)) rfl (hsz.trans C.2.2.2.2.1.symm) (Steps.refl _) (by rw [eT]; exact hc1) hc2 (argsL := argsL) (rest := rest) (lenOf hpd hlen) rfl (by show 2 * 0 + _ ≤ W; omega) (hb C.2.2.2.1 hd) (fun _ _ => ⟨rfl, eT, hk, hn⟩)
  dsimp only [Pt.U, Pt.locs, Pt.cells, Pt.slots] at X' l1 y1 z1 stp hQ
  subst l1 y1 z1
  obtain ⟨s₂, o, q1, q2⟩ := hr v T'.heap hQ.1 T' _ X' rfl (Fr.app N hQ.2)
  exact ⟨s₂, o, stp.trans q1, q2⟩
end OwnPriv
def zI17 : List Value := List.replicate 17 (.int 0)
def zI16 : List Value := List.replicate 16 (.int 0)
def zI15 : List Value := List.replicate 15 (.int 0)
def zI14 : List Value := List.replicate 14 (.int 0)
def zI32 : List Value := List.replicate 32 (.int 0)
def zJ16 : List Value := List.replicate 16 (.long 0)
abbrev kC0 : String := "com/example/detra/detra/SetWords"
abbrev kC1 : String := "com/example/detra/detra/StateSets"
def own_c3 (a b c : Int64) : List (Int32 × Int64) := (if a = 0 then [] else [(0, a)]) ++ ((if b = 0 then [] else [(1, b)]) ++ (if c = 0 then [] else [(2, c)]))
/-- the first entries are the list's indices -/
def own_hd (lb : List (Int32 × Int64)) (HL : List Value) : Prop := ∀ (j : Nat) (p : Int32 × Int64), lb[j]? = some p → HL[j]? = some (.int p.1)
def own_ws (lb : List (Int32 × Int64)) (ws : List Value) : Prop := ∀ p ∈ lb, ¬ p.1 < 0 ∧ ws[p.1.toNatClampNeg]? = some (.long p.2)
theorem own_hd0 (hl : List Value) : own_hd [] hl := fun j p h => by simp at h
theorem own_hd1 (p : Int32 × Int64) (hl : List Value) (h : hl.length = 3) : own_hd [p] (hl.set 0 (.int p.1)) := fun j q e => by
  match j, e with
  | 0, e => cases e; simp [h]
  | j + 1, e => simp at e
theorem own_hd2 (p q : Int32 × Int64) (hl : List Value) (h : hl.length = 3) : own_hd [p, q] ((hl.set 0 (.int p.1)).set 1 (.int q.1)) := fun j r e => by
  match j, e with
  | 0, e => cases e; simp [List.getElem?_set, h]
  | 1, e => cases e; simp [h]
  | j + 2, e => simp at e
theorem own_hd3 (p q r : Int32 × Int64) (hl : List Value) (h : hl.length = 3) : own_hd [p, q, r] (((hl.set 0 (.int p.1)).set 1 (.int q.1)).set 2 (.int r.1)) := fun j t e => by
  match j, e with
  | 0, e => cases e; simp [List.getElem?_set, h]
  | 1, e => cases e; simp [List.getElem?_set, h]
  | 2, e => cases e; simp [h]
  | j + 3, e => simp at e
theorem own_c3ws (a b c : Int64) : own_ws (own_c3 a b c) [.long a, .long b, .long c] := fun p h => by
  simp only [own_c3, List.mem_append] at h
  rcases h with h | h | h
  · split at h
    · simp at h
    · rw [List.mem_singleton.mp h]; exact ⟨show ¬ (0 : Int32) < 0 by decide, rfl⟩
  · split at h
    · simp at h
    · rw [List.mem_singleton.mp h]; exact ⟨show ¬ (1 : Int32) < 0 by decide, rfl⟩
  · split at h
    · simp at h
    · rw [List.mem_singleton.mp h]; exact ⟨show ¬ (2 : Int32) < 0 by decide, rfl⟩
theorem own_c3len (a b c : Int64) : (own_c3 a b c).length ≤ 3 := by
  simp only [own_c3, List.length_append]
  split <;> split <;> split <;> simp
theorem own_toI {i : Nat} (h : i < 2 ^ 31) : (Int32.ofNat i).toInt = i := Int32.toInt_ofNat_of_lt h
theorem own_toN {i : Nat} (h : i < 2 ^ 31) : (Int32.ofNat i).toNatClampNeg = i := by simp only [Int32.toNatClampNeg, own_toI h]; omega
theorem own_nn {i : Nat} (h : i < 2 ^ 31) : ¬ Int32.ofNat i < 0 := by rw [Int32.lt_iff_toInt_lt, own_toI h]; simp only [Int32.reduceToInt]; omega
theorem own_ltN {i j : Nat} (h : i < 2 ^ 31) (g : j < 2 ^ 31) : Int32.ofNat i < Int32.ofNat j ↔ i < j := by rw [Int32.lt_iff_toInt_lt, own_toI h, own_toI g]; omega
theorem own_s1 (j : Nat) : Int32.ofNat j + 1 = Int32.ofNat (j + 1) := (Int32.ofNat_add j 1).symm
theorem own_at {lb : List (Int32 × Int64)} {j : Nat} (h : j < lb.length) : ∃ p, lb[j]? = some p ∧ p ∈ lb := ⟨lb[j], by simp [h], List.getElem_mem h⟩
theorem d11_0 : decode prog_21_method_10_code 0 = .ok (.aload_n 0, 1) := by decide +kernel
theorem d11_1 : decode prog_21_method_10_code 1 = .ok (.getfield 19, 3) := by decide +kernel
theorem d11_4 : decode prog_21_method_10_code 4 = .ok (.iload_n 1, 1) := by decide +kernel
theorem d11_5 : decode prog_21_method_10_code 5 = .ok (.iaload, 1) := by decide +kernel
theorem d11_6 : decode prog_21_method_10_code 6 = .ok (.ireturn, 1) := by decide +kernel
theorem pf_0 : plainFor (⟨"com/example/detra/detra/SetWords", "heldIndex", "(I)I"⟩ : MethodName) = true := by first | exact plainFor_of_name (by first | (simp [plainName, overriddenIn]; done) | decide +kernel) | decide +kernel
def Qcon_hi (Z : State) (n0 : Nat) (h0 : Heap) (a : Addr) (b : Addr) (i : Int32) (w : Int32) (vs : List Value) (v : Option Value) (h' : Heap) : Prop := (v = some (.int w)) ∧ (h0 = h')
theorem ef_con_hi (m : MethodId) (a : Addr) (i : Int32) : entryFrame m #[(.ref a), (.int i)] 2 = mkF m 0 #[rv a, iv i] [] := by first | (simp [entryFrame, mkF, argsToLocals, Value.category]; done) | rfl
set_option maxRecDepth 65536 in
set_option maxHeartbeats 40000000 in
theorem con_hi (l : Launch) (Z : State) (a0 : Array Value) (hw : ∀ d ∈ tables_1, d.before a0 Z = true) (n0 : Nat) (h0 : Heap) (hn0 : n0 ≤ h0.size) (a : Addr) (b : Addr) (i : Int32) (w : Int32) (vs : List Value) (P0 : Fld Z h0 a kC0 "held" "[I" (.ref b)) (P1 : Av Z h0 b .int vs) (hi : ¬ i < 0) (hg : vs[i.toNatClampNeg]? = some (.int w)) :
    Con l Z n0 [] (⟨"com/example/detra/detra/SetWords", "heldIndex", "(I)I"⟩ : MethodName) prog_21_method_10_code 2 (some .int) ({ frames := 0, cells := 0, slots := 0, locals := 0 } : Room) #[(.ref a), (.int i)] h0 (Qcon_hi Z n0 h0 a b i w vs) := by
  refine Con.of pf_0 (fun m => ef_con_hi m a i) hn0 ?_
  intro p e s m below meth c C
  refine C.aloadN d11_0 rfl rfl rfl ?_
  refine C.getF d11_1 rfl (tw hw 34 rfl) P0 ?_
  refine C.iloadN d11_4 rfl rfl ?_
  refine C.iaload (.int w) d11_5 rfl P1 hi hg ?_
  exact C.retI d11_6 (by decide) (by decide) ⟨rfl, rfl⟩
theorem d12_0 : decode prog_21_method_11_code 0 = .ok (.aload_n 0, 1) := by decide +kernel
theorem d12_1 : decode prog_21_method_11_code 1 = .ok (.getfield 9, 3) := by decide +kernel
theorem d12_4 : decode prog_21_method_11_code 4 = .ok (.iload_n 1, 1) := by decide +kernel
theorem d12_5 : decode prog_21_method_11_code 5 = .ok (.laload, 1) := by decide +kernel
theorem d12_6 : decode prog_21_method_11_code 6 = .ok (.lreturn, 1) := by decide +kernel
theorem pf_1 : plainFor (⟨"com/example/detra/detra/SetWords", "word", "(I)J"⟩ : MethodName) = true := by first | exact plainFor_of_name (by first | (simp [plainName, overriddenIn]; done) | decide +kernel) | decide +kernel
def Qcon_wd (Z : State) (n0 : Nat) (h0 : Heap) (a : Addr) (b : Addr) (i : Int32) (w : Int64) (vs : List Value) (v : Option Value) (h' : Heap) : Prop := (v = some (.long w)) ∧ (h0 = h')
theorem ef_con_wd (m : MethodId) (a : Addr) (i : Int32) : entryFrame m #[(.ref a), (.int i)] 2 = mkF m 0 #[rv a, iv i] [] := by first | (simp [entryFrame, mkF, argsToLocals, Value.category]; done) | rfl
set_option maxRecDepth 65536 in
set_option maxHeartbeats 40000000 in
theorem con_wd (l : Launch) (Z : State) (a0 : Array Value) (hw : ∀ d ∈ tables_1, d.before a0 Z = true) (n0 : Nat) (h0 : Heap) (hn0 : n0 ≤ h0.size) (a : Addr) (b : Addr) (i : Int32) (w : Int64) (vs : List Value) (P0 : Fld Z h0 a kC0 "words" "[J" (.ref b)) (P1 : Av Z h0 b .long vs) (hi : ¬ i < 0) (hg : vs[i.toNatClampNeg]? = some (.long w)) :
    Con l Z n0 [] (⟨"com/example/detra/detra/SetWords", "word", "(I)J"⟩ : MethodName) prog_21_method_11_code 2 (some .long) ({ frames := 0, cells := 0, slots := 0, locals := 0 } : Room) #[(.ref a), (.int i)] h0 (Qcon_wd Z n0 h0 a b i w vs) := by
  refine Con.of pf_1 (fun m => ef_con_wd m a i) hn0 ?_
  intro p e s m below meth c C
  refine C.aloadN d12_0 rfl rfl rfl ?_
  refine C.getF d12_1 rfl (tw hw 30 rfl) P0 ?_
  refine C.iloadN d12_4 rfl rfl ?_
  refine C.laload (.long w) d12_5 rfl P1 hi hg ?_
  exact C.retJ d12_6 (by decide) (by decide) ⟨rfl, rfl⟩
theorem d10_0 : decode prog_21_method_9_code 0 = .ok (.aload_n 0, 1) := by decide +kernel
theorem d10_1 : decode prog_21_method_9_code 1 = .ok (.getfield 23, 3) := by decide +kernel
theorem d10_4 : decode prog_21_method_9_code 4 = .ok (.ireturn, 1) := by decide +kernel
theorem pf_2 : plainFor (⟨"com/example/detra/detra/SetWords", "heldCount", "()I"⟩ : MethodName) = true := by first | exact plainFor_of_name (by first | (simp [plainName, overriddenIn]; done) | decide +kernel) | decide +kernel
def Qcon_hc (Z : State) (n0 : Nat) (h0 : Heap) (a : Addr) (n : Int32) (v : Option Value) (h' : Heap) : Prop := (v = some (.int n)) ∧ (h0 = h')
theorem ef_con_hc (m : MethodId) (a : Addr) : entryFrame m #[(.ref a)] 1 = mkF m 0 #[rv a] [] := by first | (simp [entryFrame, mkF, argsToLocals, Value.category]; done) | rfl
set_option maxRecDepth 65536 in
set_option maxHeartbeats 40000000 in
theorem con_hc (l : Launch) (Z : State) (a0 : Array Value) (hw : ∀ d ∈ tables_1, d.before a0 Z = true) (n0 : Nat) (h0 : Heap) (hn0 : n0 ≤ h0.size) (a : Addr) (n : Int32) (P0 : Fld Z h0 a kC0 "count" "I" (.int n)) :
    Con l Z n0 [] (⟨"com/example/detra/detra/SetWords", "heldCount", "()I"⟩ : MethodName) prog_21_method_9_code 1 (some .int) ({ frames := 0, cells := 0, slots := 0, locals := 0 } : Room) #[(.ref a)] h0 (Qcon_hc Z n0 h0 a n) := by
  refine Con.of pf_2 (fun m => ef_con_hc m a) hn0 ?_
  intro p e s m below meth c C
  refine C.aloadN d10_0 rfl rfl rfl ?_
  refine C.getF d10_1 rfl (tw hw 62 rfl) P0 ?_
  exact C.retI d10_4 (by decide) (by decide) ⟨rfl, rfl⟩
theorem d8_0 : decode prog_21_method_7_code 0 = .ok (.aload_n 0, 1) := by decide +kernel
theorem d8_1 : decode prog_21_method_7_code 1 = .ok (.getfield 15, 3) := by decide +kernel
theorem d8_4 : decode prog_21_method_7_code 4 = .ok (.ifCond .eq 18, 3) := by decide +kernel
theorem d8_22 : decode prog_21_method_7_code 22 = .ok (.aload_n 0, 1) := by decide +kernel
theorem d8_23 : decode prog_21_method_7_code 23 = .ok (.iconst 0, 1) := by decide +kernel
theorem d8_24 : decode prog_21_method_7_code 24 = .ok (.putfield 23, 3) := by decide +kernel
theorem d8_27 : decode prog_21_method_7_code 27 = .ok (.iconst 0, 1) := by decide +kernel
theorem d8_28 : decode prog_21_method_7_code 28 = .ok (.istore_n 1, 1) := by decide +kernel
theorem d8_29 : decode prog_21_method_7_code 29 = .ok (.iload_n 1, 1) := by decide +kernel
theorem d8_30 : decode prog_21_method_7_code 30 = .ok (.aload_n 0, 1) := by decide +kernel
theorem d8_31 : decode prog_21_method_7_code 31 = .ok (.getfield 9, 3) := by decide +kernel
theorem d8_34 : decode prog_21_method_7_code 34 = .ok (.arraylength, 1) := by decide +kernel
theorem d8_35 : decode prog_21_method_7_code 35 = .ok (.if_icmp .ge 37, 3) := by decide +kernel
theorem d8_38 : decode prog_21_method_7_code 38 = .ok (.aload_n 0, 1) := by decide +kernel
theorem d8_39 : decode prog_21_method_7_code 39 = .ok (.getfield 9, 3) := by decide +kernel
theorem d8_42 : decode prog_21_method_7_code 42 = .ok (.iload_n 1, 1) := by decide +kernel
theorem d8_43 : decode prog_21_method_7_code 43 = .ok (.laload, 1) := by decide +kernel
theorem d8_44 : decode prog_21_method_7_code 44 = .ok (.lconst 0, 1) := by decide +kernel
theorem d8_45 : decode prog_21_method_7_code 45 = .ok (.lcmp, 1) := by decide +kernel
theorem d8_46 : decode prog_21_method_7_code 46 = .ok (.ifCond .eq 20, 3) := by decide +kernel
theorem d8_49 : decode prog_21_method_7_code 49 = .ok (.aload_n 0, 1) := by decide +kernel
theorem d8_50 : decode prog_21_method_7_code 50 = .ok (.getfield 19, 3) := by decide +kernel
theorem d8_53 : decode prog_21_method_7_code 53 = .ok (.aload_n 0, 1) := by decide +kernel
theorem d8_54 : decode prog_21_method_7_code 54 = .ok (.dup, 1) := by decide +kernel
theorem d8_55 : decode prog_21_method_7_code 55 = .ok (.getfield 23, 3) := by decide +kernel
theorem d8_58 : decode prog_21_method_7_code 58 = .ok (.dup_x1, 1) := by decide +kernel
theorem d8_59 : decode prog_21_method_7_code 59 = .ok (.iconst 1, 1) := by decide +kernel
theorem d8_60 : decode prog_21_method_7_code 60 = .ok (.iadd, 1) := by decide +kernel
theorem d8_61 : decode prog_21_method_7_code 61 = .ok (.putfield 23, 3) := by decide +kernel
theorem d8_64 : decode prog_21_method_7_code 64 = .ok (.iload_n 1, 1) := by decide +kernel
theorem d8_65 : decode prog_21_method_7_code 65 = .ok (.iastore, 1) := by decide +kernel
theorem d8_66 : decode prog_21_method_7_code 66 = .ok (.iinc 1 1, 3) := by decide +kernel
theorem d8_69 : decode prog_21_method_7_code 69 = .ok (.goto (-40), 3) := by decide +kernel
theorem d8_72 : decode prog_21_method_7_code 72 = .ok (.goto 15, 3) := by decide +kernel
theorem d8_87 : decode prog_21_method_7_code 87 = .ok (.return_, 1) := by decide +kernel
theorem pf_3 : plainFor (⟨"com/example/detra/detra/SetWords", "listHeld", "()V"⟩ : MethodName) = true := by first | exact plainFor_of_name (by first | (simp [plainName, overriddenIn]; done) | decide +kernel) | decide +kernel
def Qcon_lh (Z : State) (n0 : Nat) (h0 : Heap) (g : Addr) (gw : Addr) (gh : Addr) (w0 : Int64) (w1 : Int64) (w2 : Int64) (cn : Int32) (hl : List Value) (v : Option Value) (h' : Heap) : Prop := ∃ (HL : List Value), (v = none) ∧ (Keep h0 h' [g, gh]) ∧ (Fld Z h' g kC0 "words" "[J" (.ref gw)) ∧ (Fld Z h' g kC0 "held" "[I" (.ref gh)) ∧ (Fld Z h' g kC0 "listing" "Z" (.int 0)) ∧ (Fld Z h' g kC0 "count" "I" (.int (Int32.ofNat (own_c3 w0 w1 w2).length))) ∧ (Av Z h' gh .int HL) ∧ (own_hd (own_c3 w0 w1 w2) HL) ∧ (HL.length = 3)
theorem ef_con_lh (m : MethodId) (g : Addr) : entryFrame m #[(.ref g)] 2 = mkF m 0 #[rv g, .unset] [] := by first | (simp [entryFrame, mkF, argsToLocals, Value.category]; done) | rfl
set_option maxRecDepth 65536 in
set_option maxHeartbeats 40000000 in
theorem con_lh (l : Launch) (Z : State) (a0 : Array Value) (hw : ∀ d ∈ tables_1, d.before a0 Z = true) (n0 : Nat) (h0 : Heap) (hn0 : n0 ≤ h0.size) (g : Addr) (gw : Addr) (gh : Addr) (w0 : Int64) (w1 : Int64) (w2 : Int64) (cn : Int32) (hl : List Value) (P0 : Exa Z h0 g kC0) (P1 : Fld Z h0 g kC0 "words" "[J" (.ref gw)) (P2 : Fld Z h0 g kC0 "held" "[I" (.ref gh)) (P3 : Fld Z h0 g kC0 "listing" "Z" (.int 0)) (P4 : Fld Z h0 g kC0 "count" "I" (.int cn)) (P5 : Av Z h0 gw .long ([.long w0, .long w1, .long w2])) (P6 : Av Z h0 gh .int hl) (g_g : n0 ≤ g) (g_gh : n0 ≤ gh) (ne_g_gw : g ≠ gw) (ne_g_gh : g ≠ gh) (ne_gw_gh : gw ≠ gh) (h3 : hl.length = 3) :
    Con l Z n0 [] (⟨"com/example/detra/detra/SetWords", "listHeld", "()V"⟩ : MethodName) prog_21_method_7_code 2 none ({ frames := 0, cells := 0, slots := 0, locals := 0 } : Room) #[(.ref g)] h0 (Qcon_lh Z n0 h0 g gw gh w0 w1 w2 cn hl) := by
  refine Con.of pf_3 (fun m => ef_con_lh m g) hn0 ?_
  intro p e s m below meth c C
  refine C.aloadN d8_0 rfl rfl rfl ?_
  refine C.getF d8_1 rfl (tw hw 32 rfl) P3 ?_
  refine C.if_eq_t d8_4 (by decide) rfl (by decide) ?_
  refine C.aloadN d8_22 rfl rfl rfl ?_
  refine C.iconst 0 d8_23 rfl rfl ?_
  refine C.putF d8_24 rfl (tw hw 62 rfl) P4 P0 (Or.inl (tw hw 63 rfl)) (tw hw 24 rfl) (ty := .int) (by decide) rfl rfl g_g (fun h136 W137 F138 => ?_)
  have F139 := Exa.wr W137 P0
  have F140 := Fld.other W137 P1 (Or.inr (slot_ne (C := kC0) (t := (.array .long)) (t' := .int) (Or.inr (tw hw 31 rfl)) (Or.inl (tw hw 63 rfl)) (by decide) (by decide) (by decide)))
  have F141 := Fld.other W137 P2 (Or.inr (slot_ne (C := kC0) (t := (.array .int)) (t' := .int) (Or.inr (tw hw 35 rfl)) (Or.inl (tw hw 63 rfl)) (by decide) (by decide) (by decide)))
  have F142 := Fld.other W137 P3 (Or.inr (slot_ne (C := kC0) (t := .boolean) (t' := .int) (Or.inr (tw hw 33 rfl)) (Or.inl (tw hw 63 rfl)) (by decide) (by decide) (by decide)))
  have F143 := P5.other W137 (Ne.symm ne_g_gw)
  have F144 := P6.other W137 (Ne.symm ne_g_gh)
  refine C.iconst 0 d8_27 rfl rfl ?_
  refine C.istoreN (Ls' := #[rv g, iv 0]) d8_28 rfl rfl ?_
  refine C.iloadN d8_29 rfl rfl ?_
  refine C.aloadN d8_30 rfl rfl rfl ?_
  refine C.getF d8_31 rfl (tw hw 30 rfl) F140 ?_
  refine C.alen d8_34 rfl F143 ?_
  refine Go.cI (y := 3) rfl ?_
  refine C.icmp_ge_f d8_35 rfl (by decide) ?_
  refine C.aloadN d8_38 rfl rfl rfl ?_
  refine C.getF d8_39 rfl (tw hw 30 rfl) F140 ?_
  refine C.iloadN d8_42 rfl rfl ?_
  refine C.laload (.long w0) d8_43 rfl F143 (by decide) rfl ?_
  refine C.lconst 0 d8_44 rfl rfl ?_
  refine C.lcmp d8_45 rfl ?_
  refine C.lif_eq d8_46 (by decide) rfl rfl (fun q46 => ?_) (fun q46 => ?_)
  · refine C.iinc (Ls' := #[rv g, iv 1]) 1 d8_66 rfl rfl rfl rfl ?_
    refine C.goto d8_69 (by decide) rfl ?_
    refine C.iloadN d8_29 rfl rfl ?_
    refine C.aloadN d8_30 rfl rfl rfl ?_
    refine C.getF d8_31 rfl (tw hw 30 rfl) F140 ?_
    refine C.alen d8_34 rfl F143 ?_
    refine Go.cI (y := 3) rfl ?_
    refine C.icmp_ge_f d8_35 rfl (by decide) ?_
    refine C.aloadN d8_38 rfl rfl rfl ?_
    refine C.getF d8_39 rfl (tw hw 30 rfl) F140 ?_
    refine C.iloadN d8_42 rfl rfl ?_
    refine C.laload (.long w1) d8_43 rfl F143 (by decide) rfl ?_
    refine C.lconst 0 d8_44 rfl rfl ?_
    refine C.lcmp d8_45 rfl ?_
    refine C.lif_eq d8_46 (by decide) rfl rfl (fun q46' => ?_) (fun q46' => ?_)
    · refine C.iinc (Ls' := #[rv g, iv 2]) 1 d8_66 rfl rfl rfl rfl ?_
      refine C.goto d8_69 (by decide) rfl ?_
      refine C.iloadN d8_29 rfl rfl ?_
      refine C.aloadN d8_30 rfl rfl rfl ?_
      refine C.getF d8_31 rfl (tw hw 30 rfl) F140 ?_
      refine C.alen d8_34 rfl F143 ?_
      refine Go.cI (y := 3) rfl ?_
      refine C.icmp_ge_f d8_35 rfl (by decide) ?_
      refine C.aloadN d8_38 rfl rfl rfl ?_
      refine C.getF d8_39 rfl (tw hw 30 rfl) F140 ?_
      refine C.iloadN d8_42 rfl rfl ?_
      refine C.laload (.long w2) d8_43 rfl F143 (by decide) rfl ?_
      refine C.lconst 0 d8_44 rfl rfl ?_
      refine C.lcmp d8_45 rfl ?_
      refine C.lif_eq d8_46 (by decide) rfl rfl (fun q46'' => ?_) (fun q46'' => ?_)
      · refine C.iinc (Ls' := #[rv g, iv 3]) 1 d8_66 rfl rfl rfl rfl ?_
        refine C.goto d8_69 (by decide) rfl ?_
        refine C.iloadN d8_29 rfl rfl ?_
        refine C.aloadN d8_30 rfl rfl rfl ?_
        refine C.getF d8_31 rfl (tw hw 30 rfl) F140 ?_
        refine C.alen d8_34 rfl F143 ?_
        refine Go.cI (y := 3) rfl ?_
        refine C.icmp_ge_t d8_35 (by decide) rfl (by decide) ?_
        refine C.goto d8_72 (by decide) rfl ?_
        have kc : own_c3 w0 w1 w2 = [] := by simp [own_c3, q46, q46', q46'']
        exact C.ret0 d8_87 (by decide) (by decide) ⟨hl, rfl, ((Keep.refl h0 [g, gh]).wr W137 (Or.inl (List.mem_of_getElem? (i := 0) rfl))), F140, F141, F142, (by rw [kc]; exact F138), F144, (by rw [kc]; exact own_hd0  hl), (by simp [h3])⟩
      refine C.aloadN d8_49 rfl rfl rfl ?_
      refine C.getF d8_50 rfl (tw hw 34 rfl) F141 ?_
      refine C.aloadN d8_53 rfl rfl rfl ?_
      refine C.dup d8_54 rfl rfl ?_
      refine C.getF d8_55 rfl (tw hw 62 rfl) F138 ?_
      refine C.dupX1 d8_58 rfl rfl rfl ?_
      refine C.iconst 1 d8_59 rfl rfl ?_
      refine C.iadd d8_60 rfl ?_
      refine Go.cI (y := 1) rfl ?_
      refine C.putF d8_61 rfl (tw hw 62 rfl) F138 F139 (Or.inl (tw hw 63 rfl)) (tw hw 24 rfl) (ty := .int) (by decide) rfl rfl g_g (fun h145 W146 F147 => ?_)
      have F148 := Exa.wr W146 F139
      have F149 := Fld.other W146 F140 (Or.inr (slot_ne (C := kC0) (t := (.array .long)) (t' := .int) (Or.inr (tw hw 31 rfl)) (Or.inl (tw hw 63 rfl)) (by decide) (by decide) (by decide)))
      have F150 := Fld.other W146 F141 (Or.inr (slot_ne (C := kC0) (t := (.array .int)) (t' := .int) (Or.inr (tw hw 35 rfl)) (Or.inl (tw hw 63 rfl)) (by decide) (by decide) (by decide)))
      have F151 := Fld.other W146 F142 (Or.inr (slot_ne (C := kC0) (t := .boolean) (t' := .int) (Or.inr (tw hw 33 rfl)) (Or.inl (tw hw 63 rfl)) (by decide) (by decide) (by decide)))
      have F152 := F143.other W146 (Ne.symm ne_g_gw)
      have F153 := F144.other W146 (Ne.symm ne_g_gh)
      refine C.iloadN d8_64 rfl rfl ?_
      refine C.iastore d8_65 rfl F153 g_gh (by decide) (by simp [h3]) (fun h154 W155 F156 => ?_)
      have F157 := Exa.wr W155 F148
      have F158 := Fld.other W155 F149 (Or.inl ne_g_gh)
      have F159 := Fld.other W155 F150 (Or.inl ne_g_gh)
      have F160 := Fld.other W155 F151 (Or.inl ne_g_gh)
      have F161 := F152.other W155 ne_gw_gh
      have F162 := Fld.other W155 F147 (Or.inl ne_g_gh)
      refine C.iinc (Ls' := #[rv g, iv 3]) 1 d8_66 rfl rfl rfl rfl ?_
      refine C.goto d8_69 (by decide) rfl ?_
      refine C.iloadN d8_29 rfl rfl ?_
      refine C.aloadN d8_30 rfl rfl rfl ?_
      refine C.getF d8_31 rfl (tw hw 30 rfl) F158 ?_
      refine C.alen d8_34 rfl F161 ?_
      refine Go.cI (y := 3) rfl ?_
      refine C.icmp_ge_t d8_35 (by decide) rfl (by decide) ?_
      refine C.goto d8_72 (by decide) rfl ?_
      have kc : own_c3 w0 w1 w2 = [(2, w2)] := by simp [own_c3, q46, q46', q46'']
      exact C.ret0 d8_87 (by decide) (by decide) ⟨hl.set (Int32.toNatClampNeg 0) (.int 2), rfl, ((((Keep.refl h0 [g, gh]).wr W137 (Or.inl (List.mem_of_getElem? (i := 0) rfl))).wr W146 (Or.inl (List.mem_of_getElem? (i := 0) rfl))).wr W155 (Or.inl (List.mem_of_getElem? (i := 1) rfl))), F158, F159, F160, (by rw [kc]; exact F162), F156, (by rw [kc]; exact own_hd1 (2, w2) hl h3), (by simp [h3])⟩
    refine C.aloadN d8_49 rfl rfl rfl ?_
    refine C.getF d8_50 rfl (tw hw 34 rfl) F141 ?_
    refine C.aloadN d8_53 rfl rfl rfl ?_
    refine C.dup d8_54 rfl rfl ?_
    refine C.getF d8_55 rfl (tw hw 62 rfl) F138 ?_
    refine C.dupX1 d8_58 rfl rfl rfl ?_
    refine C.iconst 1 d8_59 rfl rfl ?_
    refine C.iadd d8_60 rfl ?_
    refine Go.cI (y := 1) rfl ?_
    refine C.putF d8_61 rfl (tw hw 62 rfl) F138 F139 (Or.inl (tw hw 63 rfl)) (tw hw 24 rfl) (ty := .int) (by decide) rfl rfl g_g (fun h163 W164 F165 => ?_)
    have F166 := Exa.wr W164 F139
    have F167 := Fld.other W164 F140 (Or.inr (slot_ne (C := kC0) (t := (.array .long)) (t' := .int) (Or.inr (tw hw 31 rfl)) (Or.inl (tw hw 63 rfl)) (by decide) (by decide) (by decide)))
    have F168 := Fld.other W164 F141 (Or.inr (slot_ne (C := kC0) (t := (.array .int)) (t' := .int) (Or.inr (tw hw 35 rfl)) (Or.inl (tw hw 63 rfl)) (by decide) (by decide) (by decide)))
    have F169 := Fld.other W164 F142 (Or.inr (slot_ne (C := kC0) (t := .boolean) (t' := .int) (Or.inr (tw hw 33 rfl)) (Or.inl (tw hw 63 rfl)) (by decide) (by decide) (by decide)))
    have F170 := F143.other W164 (Ne.symm ne_g_gw)
    have F171 := F144.other W164 (Ne.symm ne_g_gh)
    refine C.iloadN d8_64 rfl rfl ?_
    refine C.iastore d8_65 rfl F171 g_gh (by decide) (by simp [h3]) (fun h172 W173 F174 => ?_)
    have F175 := Exa.wr W173 F166
    have F176 := Fld.other W173 F167 (Or.inl ne_g_gh)
    have F177 := Fld.other W173 F168 (Or.inl ne_g_gh)
    have F178 := Fld.other W173 F169 (Or.inl ne_g_gh)
    have F179 := F170.other W173 ne_gw_gh
    have F180 := Fld.other W173 F165 (Or.inl ne_g_gh)
    refine C.iinc (Ls' := #[rv g, iv 2]) 1 d8_66 rfl rfl rfl rfl ?_
    refine C.goto d8_69 (by decide) rfl ?_
    refine C.iloadN d8_29 rfl rfl ?_
    refine C.aloadN d8_30 rfl rfl rfl ?_
    refine C.getF d8_31 rfl (tw hw 30 rfl) F176 ?_
    refine C.alen d8_34 rfl F179 ?_
    refine Go.cI (y := 3) rfl ?_
    refine C.icmp_ge_f d8_35 rfl (by decide) ?_
    refine C.aloadN d8_38 rfl rfl rfl ?_
    refine C.getF d8_39 rfl (tw hw 30 rfl) F176 ?_
    refine C.iloadN d8_42 rfl rfl ?_
    refine C.laload (.long w2) d8_43 rfl F179 (by decide) rfl ?_
    refine C.lconst 0 d8_44 rfl rfl ?_
    refine C.lcmp d8_45 rfl ?_
    refine C.lif_eq d8_46 (by decide) rfl rfl (fun q46'' => ?_) (fun q46'' => ?_)
    · refine C.iinc (Ls' := #[rv g, iv 3]) 1 d8_66 rfl rfl rfl rfl ?_
      refine C.goto d8_69 (by decide) rfl ?_
      refine C.iloadN d8_29 rfl rfl ?_
      refine C.aloadN d8_30 rfl rfl rfl ?_
      refine C.getF d8_31 rfl (tw hw 30 rfl) F176 ?_
      refine C.alen d8_34 rfl F179 ?_
      refine Go.cI (y := 3) rfl ?_
      refine C.icmp_ge_t d8_35 (by decide) rfl (by decide) ?_
      refine C.goto d8_72 (by decide) rfl ?_
      have kc : own_c3 w0 w1 w2 = [(1, w1)] := by simp [own_c3, q46, q46', q46'']
      exact C.ret0 d8_87 (by decide) (by decide) ⟨hl.set (Int32.toNatClampNeg 0) (.int 1), rfl, ((((Keep.refl h0 [g, gh]).wr W137 (Or.inl (List.mem_of_getElem? (i := 0) rfl))).wr W164 (Or.inl (List.mem_of_getElem? (i := 0) rfl))).wr W173 (Or.inl (List.mem_of_getElem? (i := 1) rfl))), F176, F177, F178, (by rw [kc]; exact F180), F174, (by rw [kc]; exact own_hd1 (1, w1) hl h3), (by simp [h3])⟩
    refine C.aloadN d8_49 rfl rfl rfl ?_
    refine C.getF d8_50 rfl (tw hw 34 rfl) F177 ?_
    refine C.aloadN d8_53 rfl rfl rfl ?_
    refine C.dup d8_54 rfl rfl ?_
    refine C.getF d8_55 rfl (tw hw 62 rfl) F180 ?_
    refine C.dupX1 d8_58 rfl rfl rfl ?_
    refine C.iconst 1 d8_59 rfl rfl ?_
    refine C.iadd d8_60 rfl ?_
    refine Go.cI (y := 2) rfl ?_
    refine C.putF d8_61 rfl (tw hw 62 rfl) F180 F175 (Or.inl (tw hw 63 rfl)) (tw hw 24 rfl) (ty := .int) (by decide) rfl rfl g_g (fun h181 W182 F183 => ?_)
    have F184 := Exa.wr W182 F175
    have F185 := Fld.other W182 F176 (Or.inr (slot_ne (C := kC0) (t := (.array .long)) (t' := .int) (Or.inr (tw hw 31 rfl)) (Or.inl (tw hw 63 rfl)) (by decide) (by decide) (by decide)))
    have F186 := Fld.other W182 F177 (Or.inr (slot_ne (C := kC0) (t := (.array .int)) (t' := .int) (Or.inr (tw hw 35 rfl)) (Or.inl (tw hw 63 rfl)) (by decide) (by decide) (by decide)))
    have F187 := Fld.other W182 F178 (Or.inr (slot_ne (C := kC0) (t := .boolean) (t' := .int) (Or.inr (tw hw 33 rfl)) (Or.inl (tw hw 63 rfl)) (by decide) (by decide) (by decide)))
    have F188 := F179.other W182 (Ne.symm ne_g_gw)
    have F189 := F174.other W182 (Ne.symm ne_g_gh)
    refine C.iloadN d8_64 rfl rfl ?_
    refine C.iastore d8_65 rfl F189 g_gh (by decide) (by simp [h3]) (fun h190 W191 F192 => ?_)
    have F193 := Exa.wr W191 F184
    have F194 := Fld.other W191 F185 (Or.inl ne_g_gh)
    have F195 := Fld.other W191 F186 (Or.inl ne_g_gh)
    have F196 := Fld.other W191 F187 (Or.inl ne_g_gh)
    have F197 := F188.other W191 ne_gw_gh
    have F198 := Fld.other W191 F183 (Or.inl ne_g_gh)
    refine C.iinc (Ls' := #[rv g, iv 3]) 1 d8_66 rfl rfl rfl rfl ?_
    refine C.goto d8_69 (by decide) rfl ?_
    refine C.iloadN d8_29 rfl rfl ?_
    refine C.aloadN d8_30 rfl rfl rfl ?_
    refine C.getF d8_31 rfl (tw hw 30 rfl) F194 ?_
    refine C.alen d8_34 rfl F197 ?_
    refine Go.cI (y := 3) rfl ?_
    refine C.icmp_ge_t d8_35 (by decide) rfl (by decide) ?_
    refine C.goto d8_72 (by decide) rfl ?_
    have kc : own_c3 w0 w1 w2 = [(1, w1), (2, w2)] := by simp [own_c3, q46, q46', q46'']
    exact C.ret0 d8_87 (by decide) (by decide) ⟨(hl.set (Int32.toNatClampNeg 0) (.int 1)).set (Int32.toNatClampNeg 1) (.int 2), rfl, ((((((Keep.refl h0 [g, gh]).wr W137 (Or.inl (List.mem_of_getElem? (i := 0) rfl))).wr W164 (Or.inl (List.mem_of_getElem? (i := 0) rfl))).wr W173 (Or.inl (List.mem_of_getElem? (i := 1) rfl))).wr W182 (Or.inl (List.mem_of_getElem? (i := 0) rfl))).wr W191 (Or.inl (List.mem_of_getElem? (i := 1) rfl))), F194, F195, F196, (by rw [kc]; exact F198), F192, (by rw [kc]; exact own_hd2 (1, w1) (2, w2) hl h3), (by simp [h3])⟩
  refine C.aloadN d8_49 rfl rfl rfl ?_
  refine C.getF d8_50 rfl (tw hw 34 rfl) F141 ?_
  refine C.aloadN d8_53 rfl rfl rfl ?_
  refine C.dup d8_54 rfl rfl ?_
  refine C.getF d8_55 rfl (tw hw 62 rfl) F138 ?_
  refine C.dupX1 d8_58 rfl rfl rfl ?_
  refine C.iconst 1 d8_59 rfl rfl ?_
  refine C.iadd d8_60 rfl ?_
  refine Go.cI (y := 1) rfl ?_
  refine C.putF d8_61 rfl (tw hw 62 rfl) F138 F139 (Or.inl (tw hw 63 rfl)) (tw hw 24 rfl) (ty := .int) (by decide) rfl rfl g_g (fun h199 W200 F201 => ?_)
  have F202 := Exa.wr W200 F139
  have F203 := Fld.other W200 F140 (Or.inr (slot_ne (C := kC0) (t := (.array .long)) (t' := .int) (Or.inr (tw hw 31 rfl)) (Or.inl (tw hw 63 rfl)) (by decide) (by decide) (by decide)))
  have F204 := Fld.other W200 F141 (Or.inr (slot_ne (C := kC0) (t := (.array .int)) (t' := .int) (Or.inr (tw hw 35 rfl)) (Or.inl (tw hw 63 rfl)) (by decide) (by decide) (by decide)))
  have F205 := Fld.other W200 F142 (Or.inr (slot_ne (C := kC0) (t := .boolean) (t' := .int) (Or.inr (tw hw 33 rfl)) (Or.inl (tw hw 63 rfl)) (by decide) (by decide) (by decide)))
  have F206 := F143.other W200 (Ne.symm ne_g_gw)
  have F207 := F144.other W200 (Ne.symm ne_g_gh)
  refine C.iloadN d8_64 rfl rfl ?_
  refine C.iastore d8_65 rfl F207 g_gh (by decide) (by simp [h3]) (fun h208 W209 F210 => ?_)
  have F211 := Exa.wr W209 F202
  have F212 := Fld.other W209 F203 (Or.inl ne_g_gh)
  have F213 := Fld.other W209 F204 (Or.inl ne_g_gh)
  have F214 := Fld.other W209 F205 (Or.inl ne_g_gh)
  have F215 := F206.other W209 ne_gw_gh
  have F216 := Fld.other W209 F201 (Or.inl ne_g_gh)
  refine C.iinc (Ls' := #[rv g, iv 1]) 1 d8_66 rfl rfl rfl rfl ?_
  refine C.goto d8_69 (by decide) rfl ?_
  refine C.iloadN d8_29 rfl rfl ?_
  refine C.aloadN d8_30 rfl rfl rfl ?_
  refine C.getF d8_31 rfl (tw hw 30 rfl) F212 ?_
  refine C.alen d8_34 rfl F215 ?_
  refine Go.cI (y := 3) rfl ?_
  refine C.icmp_ge_f d8_35 rfl (by decide) ?_
  refine C.aloadN d8_38 rfl rfl rfl ?_
  refine C.getF d8_39 rfl (tw hw 30 rfl) F212 ?_
  refine C.iloadN d8_42 rfl rfl ?_
  refine C.laload (.long w1) d8_43 rfl F215 (by decide) rfl ?_
  refine C.lconst 0 d8_44 rfl rfl ?_
  refine C.lcmp d8_45 rfl ?_
  refine C.lif_eq d8_46 (by decide) rfl rfl (fun q46' => ?_) (fun q46' => ?_)
  · refine C.iinc (Ls' := #[rv g, iv 2]) 1 d8_66 rfl rfl rfl rfl ?_
    refine C.goto d8_69 (by decide) rfl ?_
    refine C.iloadN d8_29 rfl rfl ?_
    refine C.aloadN d8_30 rfl rfl rfl ?_
    refine C.getF d8_31 rfl (tw hw 30 rfl) F212 ?_
    refine C.alen d8_34 rfl F215 ?_
    refine Go.cI (y := 3) rfl ?_
    refine C.icmp_ge_f d8_35 rfl (by decide) ?_
    refine C.aloadN d8_38 rfl rfl rfl ?_
    refine C.getF d8_39 rfl (tw hw 30 rfl) F212 ?_
    refine C.iloadN d8_42 rfl rfl ?_
    refine C.laload (.long w2) d8_43 rfl F215 (by decide) rfl ?_
    refine C.lconst 0 d8_44 rfl rfl ?_
    refine C.lcmp d8_45 rfl ?_
    refine C.lif_eq d8_46 (by decide) rfl rfl (fun q46'' => ?_) (fun q46'' => ?_)
    · refine C.iinc (Ls' := #[rv g, iv 3]) 1 d8_66 rfl rfl rfl rfl ?_
      refine C.goto d8_69 (by decide) rfl ?_
      refine C.iloadN d8_29 rfl rfl ?_
      refine C.aloadN d8_30 rfl rfl rfl ?_
      refine C.getF d8_31 rfl (tw hw 30 rfl) F212 ?_
      refine C.alen d8_34 rfl F215 ?_
      refine Go.cI (y := 3) rfl ?_
      refine C.icmp_ge_t d8_35 (by decide) rfl (by decide) ?_
      refine C.goto d8_72 (by decide) rfl ?_
      have kc : own_c3 w0 w1 w2 = [(0, w0)] := by simp [own_c3, q46, q46', q46'']
      exact C.ret0 d8_87 (by decide) (by decide) ⟨hl.set (Int32.toNatClampNeg 0) (.int 0), rfl, ((((Keep.refl h0 [g, gh]).wr W137 (Or.inl (List.mem_of_getElem? (i := 0) rfl))).wr W200 (Or.inl (List.mem_of_getElem? (i := 0) rfl))).wr W209 (Or.inl (List.mem_of_getElem? (i := 1) rfl))), F212, F213, F214, (by rw [kc]; exact F216), F210, (by rw [kc]; exact own_hd1 (0, w0) hl h3), (by simp [h3])⟩
    refine C.aloadN d8_49 rfl rfl rfl ?_
    refine C.getF d8_50 rfl (tw hw 34 rfl) F213 ?_
    refine C.aloadN d8_53 rfl rfl rfl ?_
    refine C.dup d8_54 rfl rfl ?_
    refine C.getF d8_55 rfl (tw hw 62 rfl) F216 ?_
    refine C.dupX1 d8_58 rfl rfl rfl ?_
    refine C.iconst 1 d8_59 rfl rfl ?_
    refine C.iadd d8_60 rfl ?_
    refine Go.cI (y := 2) rfl ?_
    refine C.putF d8_61 rfl (tw hw 62 rfl) F216 F211 (Or.inl (tw hw 63 rfl)) (tw hw 24 rfl) (ty := .int) (by decide) rfl rfl g_g (fun h217 W218 F219 => ?_)
    have F220 := Exa.wr W218 F211
    have F221 := Fld.other W218 F212 (Or.inr (slot_ne (C := kC0) (t := (.array .long)) (t' := .int) (Or.inr (tw hw 31 rfl)) (Or.inl (tw hw 63 rfl)) (by decide) (by decide) (by decide)))
    have F222 := Fld.other W218 F213 (Or.inr (slot_ne (C := kC0) (t := (.array .int)) (t' := .int) (Or.inr (tw hw 35 rfl)) (Or.inl (tw hw 63 rfl)) (by decide) (by decide) (by decide)))
    have F223 := Fld.other W218 F214 (Or.inr (slot_ne (C := kC0) (t := .boolean) (t' := .int) (Or.inr (tw hw 33 rfl)) (Or.inl (tw hw 63 rfl)) (by decide) (by decide) (by decide)))
    have F224 := F215.other W218 (Ne.symm ne_g_gw)
    have F225 := F210.other W218 (Ne.symm ne_g_gh)
    refine C.iloadN d8_64 rfl rfl ?_
    refine C.iastore d8_65 rfl F225 g_gh (by decide) (by simp [h3]) (fun h226 W227 F228 => ?_)
    have F229 := Exa.wr W227 F220
    have F230 := Fld.other W227 F221 (Or.inl ne_g_gh)
    have F231 := Fld.other W227 F222 (Or.inl ne_g_gh)
    have F232 := Fld.other W227 F223 (Or.inl ne_g_gh)
    have F233 := F224.other W227 ne_gw_gh
    have F234 := Fld.other W227 F219 (Or.inl ne_g_gh)
    refine C.iinc (Ls' := #[rv g, iv 3]) 1 d8_66 rfl rfl rfl rfl ?_
    refine C.goto d8_69 (by decide) rfl ?_
    refine C.iloadN d8_29 rfl rfl ?_
    refine C.aloadN d8_30 rfl rfl rfl ?_
    refine C.getF d8_31 rfl (tw hw 30 rfl) F230 ?_
    refine C.alen d8_34 rfl F233 ?_
    refine Go.cI (y := 3) rfl ?_
    refine C.icmp_ge_t d8_35 (by decide) rfl (by decide) ?_
    refine C.goto d8_72 (by decide) rfl ?_
    have kc : own_c3 w0 w1 w2 = [(0, w0), (2, w2)] := by simp [own_c3, q46, q46', q46'']
    exact C.ret0 d8_87 (by decide) (by decide) ⟨(hl.set (Int32.toNatClampNeg 0) (.int 0)).set (Int32.toNatClampNeg 1) (.int 2), rfl, ((((((Keep.refl h0 [g, gh]).wr W137 (Or.inl (List.mem_of_getElem? (i := 0) rfl))).wr W200 (Or.inl (List.mem_of_getElem? (i := 0) rfl))).wr W209 (Or.inl (List.mem_of_getElem? (i := 1) rfl))).wr W218 (Or.inl (List.mem_of_getElem? (i := 0) rfl))).wr W227 (Or.inl (List.mem_of_getElem? (i := 1) rfl))), F230, F231, F232, (by rw [kc]; exact F234), F228, (by rw [kc]; exact own_hd2 (0, w0) (2, w2) hl h3), (by simp [h3])⟩
  refine C.aloadN d8_49 rfl rfl rfl ?_
  refine C.getF d8_50 rfl (tw hw 34 rfl) F213 ?_
  refine C.aloadN d8_53 rfl rfl rfl ?_
  refine C.dup d8_54 rfl rfl ?_
  refine C.getF d8_55 rfl (tw hw 62 rfl) F216 ?_
  refine C.dupX1 d8_58 rfl rfl rfl ?_
  refine C.iconst 1 d8_59 rfl rfl ?_
  refine C.iadd d8_60 rfl ?_
  refine Go.cI (y := 2) rfl ?_
  refine C.putF d8_61 rfl (tw hw 62 rfl) F216 F211 (Or.inl (tw hw 63 rfl)) (tw hw 24 rfl) (ty := .int) (by decide) rfl rfl g_g (fun h235 W236 F237 => ?_)
  have F238 := Exa.wr W236 F211
  have F239 := Fld.other W236 F212 (Or.inr (slot_ne (C := kC0) (t := (.array .long)) (t' := .int) (Or.inr (tw hw 31 rfl)) (Or.inl (tw hw 63 rfl)) (by decide) (by decide) (by decide)))
  have F240 := Fld.other W236 F213 (Or.inr (slot_ne (C := kC0) (t := (.array .int)) (t' := .int) (Or.inr (tw hw 35 rfl)) (Or.inl (tw hw 63 rfl)) (by decide) (by decide) (by decide)))
  have F241 := Fld.other W236 F214 (Or.inr (slot_ne (C := kC0) (t := .boolean) (t' := .int) (Or.inr (tw hw 33 rfl)) (Or.inl (tw hw 63 rfl)) (by decide) (by decide) (by decide)))
  have F242 := F215.other W236 (Ne.symm ne_g_gw)
  have F243 := F210.other W236 (Ne.symm ne_g_gh)
  refine C.iloadN d8_64 rfl rfl ?_
  refine C.iastore d8_65 rfl F243 g_gh (by decide) (by simp [h3]) (fun h244 W245 F246 => ?_)
  have F247 := Exa.wr W245 F238
  have F248 := Fld.other W245 F239 (Or.inl ne_g_gh)
  have F249 := Fld.other W245 F240 (Or.inl ne_g_gh)
  have F250 := Fld.other W245 F241 (Or.inl ne_g_gh)
  have F251 := F242.other W245 ne_gw_gh
  have F252 := Fld.other W245 F237 (Or.inl ne_g_gh)
  refine C.iinc (Ls' := #[rv g, iv 2]) 1 d8_66 rfl rfl rfl rfl ?_
  refine C.goto d8_69 (by decide) rfl ?_
  refine C.iloadN d8_29 rfl rfl ?_
  refine C.aloadN d8_30 rfl rfl rfl ?_
  refine C.getF d8_31 rfl (tw hw 30 rfl) F248 ?_
  refine C.alen d8_34 rfl F251 ?_
  refine Go.cI (y := 3) rfl ?_
  refine C.icmp_ge_f d8_35 rfl (by decide) ?_
  refine C.aloadN d8_38 rfl rfl rfl ?_
  refine C.getF d8_39 rfl (tw hw 30 rfl) F248 ?_
  refine C.iloadN d8_42 rfl rfl ?_
  refine C.laload (.long w2) d8_43 rfl F251 (by decide) rfl ?_
  refine C.lconst 0 d8_44 rfl rfl ?_
  refine C.lcmp d8_45 rfl ?_
  refine C.lif_eq d8_46 (by decide) rfl rfl (fun q46'' => ?_) (fun q46'' => ?_)
  · refine C.iinc (Ls' := #[rv g, iv 3]) 1 d8_66 rfl rfl rfl rfl ?_
    refine C.goto d8_69 (by decide) rfl ?_
    refine C.iloadN d8_29 rfl rfl ?_
    refine C.aloadN d8_30 rfl rfl rfl ?_
    refine C.getF d8_31 rfl (tw hw 30 rfl) F248 ?_
    refine C.alen d8_34 rfl F251 ?_
    refine Go.cI (y := 3) rfl ?_
    refine C.icmp_ge_t d8_35 (by decide) rfl (by decide) ?_
    refine C.goto d8_72 (by decide) rfl ?_
    have kc : own_c3 w0 w1 w2 = [(0, w0), (1, w1)] := by simp [own_c3, q46, q46', q46'']
    exact C.ret0 d8_87 (by decide) (by decide) ⟨(hl.set (Int32.toNatClampNeg 0) (.int 0)).set (Int32.toNatClampNeg 1) (.int 1), rfl, ((((((Keep.refl h0 [g, gh]).wr W137 (Or.inl (List.mem_of_getElem? (i := 0) rfl))).wr W200 (Or.inl (List.mem_of_getElem? (i := 0) rfl))).wr W209 (Or.inl (List.mem_of_getElem? (i := 1) rfl))).wr W236 (Or.inl (List.mem_of_getElem? (i := 0) rfl))).wr W245 (Or.inl (List.mem_of_getElem? (i := 1) rfl))), F248, F249, F250, (by rw [kc]; exact F252), F246, (by rw [kc]; exact own_hd2 (0, w0) (1, w1) hl h3), (by simp [h3])⟩
  refine C.aloadN d8_49 rfl rfl rfl ?_
  refine C.getF d8_50 rfl (tw hw 34 rfl) F249 ?_
  refine C.aloadN d8_53 rfl rfl rfl ?_
  refine C.dup d8_54 rfl rfl ?_
  refine C.getF d8_55 rfl (tw hw 62 rfl) F252 ?_
  refine C.dupX1 d8_58 rfl rfl rfl ?_
  refine C.iconst 1 d8_59 rfl rfl ?_
  refine C.iadd d8_60 rfl ?_
  refine Go.cI (y := 3) rfl ?_
  refine C.putF d8_61 rfl (tw hw 62 rfl) F252 F247 (Or.inl (tw hw 63 rfl)) (tw hw 24 rfl) (ty := .int) (by decide) rfl rfl g_g (fun h253 W254 F255 => ?_)
  have F256 := Exa.wr W254 F247
  have F257 := Fld.other W254 F248 (Or.inr (slot_ne (C := kC0) (t := (.array .long)) (t' := .int) (Or.inr (tw hw 31 rfl)) (Or.inl (tw hw 63 rfl)) (by decide) (by decide) (by decide)))
  have F258 := Fld.other W254 F249 (Or.inr (slot_ne (C := kC0) (t := (.array .int)) (t' := .int) (Or.inr (tw hw 35 rfl)) (Or.inl (tw hw 63 rfl)) (by decide) (by decide) (by decide)))
  have F259 := Fld.other W254 F250 (Or.inr (slot_ne (C := kC0) (t := .boolean) (t' := .int) (Or.inr (tw hw 33 rfl)) (Or.inl (tw hw 63 rfl)) (by decide) (by decide) (by decide)))
  have F260 := F251.other W254 (Ne.symm ne_g_gw)
  have F261 := F246.other W254 (Ne.symm ne_g_gh)
  refine C.iloadN d8_64 rfl rfl ?_
  refine C.iastore d8_65 rfl F261 g_gh (by decide) (by simp [h3]) (fun h262 W263 F264 => ?_)
  have F265 := Exa.wr W263 F256
  have F266 := Fld.other W263 F257 (Or.inl ne_g_gh)
  have F267 := Fld.other W263 F258 (Or.inl ne_g_gh)
  have F268 := Fld.other W263 F259 (Or.inl ne_g_gh)
  have F269 := F260.other W263 ne_gw_gh
  have F270 := Fld.other W263 F255 (Or.inl ne_g_gh)
  refine C.iinc (Ls' := #[rv g, iv 3]) 1 d8_66 rfl rfl rfl rfl ?_
  refine C.goto d8_69 (by decide) rfl ?_
  refine C.iloadN d8_29 rfl rfl ?_
  refine C.aloadN d8_30 rfl rfl rfl ?_
  refine C.getF d8_31 rfl (tw hw 30 rfl) F266 ?_
  refine C.alen d8_34 rfl F269 ?_
  refine Go.cI (y := 3) rfl ?_
  refine C.icmp_ge_t d8_35 (by decide) rfl (by decide) ?_
  refine C.goto d8_72 (by decide) rfl ?_
  have kc : own_c3 w0 w1 w2 = [(0, w0), (1, w1), (2, w2)] := by simp [own_c3, q46, q46', q46'']
  exact C.ret0 d8_87 (by decide) (by decide) ⟨((hl.set (Int32.toNatClampNeg 0) (.int 0)).set (Int32.toNatClampNeg 1) (.int 1)).set (Int32.toNatClampNeg 2) (.int 2), rfl, ((((((((Keep.refl h0 [g, gh]).wr W137 (Or.inl (List.mem_of_getElem? (i := 0) rfl))).wr W200 (Or.inl (List.mem_of_getElem? (i := 0) rfl))).wr W209 (Or.inl (List.mem_of_getElem? (i := 1) rfl))).wr W236 (Or.inl (List.mem_of_getElem? (i := 0) rfl))).wr W245 (Or.inl (List.mem_of_getElem? (i := 1) rfl))).wr W254 (Or.inl (List.mem_of_getElem? (i := 0) rfl))).wr W263 (Or.inl (List.mem_of_getElem? (i := 1) rfl))), F266, F267, F268, (by rw [kc]; exact F270), F264, (by rw [kc]; exact own_hd3 (0, w0) (1, w1) (2, w2) hl h3), (by simp [h3])⟩
theorem d9_0 : decode prog_22_method_11_code 0 = .ok (.lconst 0, 1) := by decide +kernel
theorem d9_1 : decode prog_22_method_11_code 1 = .ok (.lstore_n 1, 1) := by decide +kernel
theorem d9_2 : decode prog_22_method_11_code 2 = .ok (.iconst 0, 1) := by decide +kernel
theorem d9_3 : decode prog_22_method_11_code 3 = .ok (.istore_n 3, 1) := by decide +kernel
theorem d9_4 : decode prog_22_method_11_code 4 = .ok (.iload_n 3, 1) := by decide +kernel
theorem d9_5 : decode prog_22_method_11_code 5 = .ok (.aload_n 0, 1) := by decide +kernel
theorem d9_6 : decode prog_22_method_11_code 6 = .ok (.invokevirtual 61, 3) := by decide +kernel
theorem d9_9 : decode prog_22_method_11_code 9 = .ok (.if_icmp .ge 33, 3) := by decide +kernel
theorem d9_12 : decode prog_22_method_11_code 12 = .ok (.aload_n 0, 1) := by decide +kernel
theorem d9_13 : decode prog_22_method_11_code 13 = .ok (.iload_n 3, 1) := by decide +kernel
theorem d9_14 : decode prog_22_method_11_code 14 = .ok (.invokevirtual 80, 3) := by decide +kernel
theorem d9_17 : decode prog_22_method_11_code 17 = .ok (.istore 4, 2) := by decide +kernel
theorem d9_19 : decode prog_22_method_11_code 19 = .ok (.lload_n 1, 1) := by decide +kernel
theorem d9_20 : decode prog_22_method_11_code 20 = .ok (.aload_n 0, 1) := by decide +kernel
theorem d9_21 : decode prog_22_method_11_code 21 = .ok (.iload 4, 2) := by decide +kernel
theorem d9_23 : decode prog_22_method_11_code 23 = .ok (.invokevirtual 84, 3) := by decide +kernel
theorem d9_26 : decode prog_22_method_11_code 26 = .ok (.ladd, 1) := by decide +kernel
theorem d9_27 : decode prog_22_method_11_code 27 = .ok (.ldc2_w 91, 3) := by decide +kernel
theorem d9_30 : decode prog_22_method_11_code 30 = .ok (.lmul, 1) := by decide +kernel
theorem d9_31 : decode prog_22_method_11_code 31 = .ok (.iload 4, 2) := by decide +kernel
theorem d9_33 : decode prog_22_method_11_code 33 = .ok (.i2l, 1) := by decide +kernel
theorem d9_34 : decode prog_22_method_11_code 34 = .ok (.ladd, 1) := by decide +kernel
theorem d9_35 : decode prog_22_method_11_code 35 = .ok (.lstore_n 1, 1) := by decide +kernel
theorem d9_36 : decode prog_22_method_11_code 36 = .ok (.iinc 3 1, 3) := by decide +kernel
theorem d9_39 : decode prog_22_method_11_code 39 = .ok (.goto (-35), 3) := by decide +kernel
theorem d9_42 : decode prog_22_method_11_code 42 = .ok (.lload_n 1, 1) := by decide +kernel
theorem d9_43 : decode prog_22_method_11_code 43 = .ok (.lload_n 1, 1) := by decide +kernel
theorem d9_44 : decode prog_22_method_11_code 44 = .ok (.bipush 29, 2) := by decide +kernel
theorem d9_46 : decode prog_22_method_11_code 46 = .ok (.lushr, 1) := by decide +kernel
theorem d9_47 : decode prog_22_method_11_code 47 = .ok (.lxor, 1) := by decide +kernel
theorem d9_48 : decode prog_22_method_11_code 48 = .ok (.ldc2_w 91, 3) := by decide +kernel
theorem d9_51 : decode prog_22_method_11_code 51 = .ok (.lmul, 1) := by decide +kernel
theorem d9_52 : decode prog_22_method_11_code 52 = .ok (.lstore_n 1, 1) := by decide +kernel
theorem d9_53 : decode prog_22_method_11_code 53 = .ok (.lload_n 1, 1) := by decide +kernel
theorem d9_54 : decode prog_22_method_11_code 54 = .ok (.lload_n 1, 1) := by decide +kernel
theorem d9_55 : decode prog_22_method_11_code 55 = .ok (.bipush 32, 2) := by decide +kernel
theorem d9_57 : decode prog_22_method_11_code 57 = .ok (.lushr, 1) := by decide +kernel
theorem d9_58 : decode prog_22_method_11_code 58 = .ok (.lxor, 1) := by decide +kernel
theorem d9_59 : decode prog_22_method_11_code 59 = .ok (.l2i, 1) := by decide +kernel
theorem d9_60 : decode prog_22_method_11_code 60 = .ok (.ireturn, 1) := by decide +kernel
theorem pf_4 : plainFor (⟨"com/example/detra/detra/StateSets", "hash", "(Lcom/example/detra/detra/SetWords;)I"⟩ : MethodName) = true := by first | exact plainFor_of_name (by first | (simp [plainName, overriddenIn]; done) | decide +kernel) | decide +kernel
theorem pd_0 : parseMethodDescriptor "()I" = some ⟨[], some .int⟩ := by decide +kernel
theorem pd_1 : parseMethodDescriptor "(I)I" = some ⟨[.int], some .int⟩ := by decide +kernel
theorem pd_2 : parseMethodDescriptor "(I)J" = some ⟨[.int], some .long⟩ := by decide +kernel
def Qcon_hash (Z : State) (n0 : Nat) (h0 : Heap) (g : Addr) (gw : Addr) (gh : Addr) (lb : List (Int32 × Int64)) (HL : List Value) (ws : List Value) (v : Option Value) (h' : Heap) : Prop := ∃ (r : Int32), (v = some (.int r)) ∧ (h0 = h')
theorem ef_con_hash (m : MethodId) (g : Addr) : entryFrame m #[(.ref g)] 5 = mkF m 0 #[rv g, .unset, .unset, .unset, .unset] [] := by first | (simp [entryFrame, mkF, argsToLocals, Value.category]; done) | rfl
set_option maxRecDepth 65536 in
set_option maxHeartbeats 40000000 in
theorem con_hash (l : Launch) (Z : State) (a0 : Array Value) (hw : ∀ d ∈ tables_1, d.before a0 Z = true) (n0 : Nat) (h0 : Heap) (hn0 : n0 ≤ h0.size) (g : Addr) (gw : Addr) (gh : Addr) (lb : List (Int32 × Int64)) (HL : List Value) (ws : List Value) (P0 : Exa Z h0 g kC0) (P1 : Fld Z h0 g kC0 "words" "[J" (.ref gw)) (P2 : Fld Z h0 g kC0 "held" "[I" (.ref gh)) (P3 : Fld Z h0 g kC0 "count" "I" (.int (Int32.ofNat lb.length))) (P4 : Av Z h0 gw .long ws) (P5 : Av Z h0 gh .int HL) (hhd : own_hd lb HL) (hws : own_ws lb ws) (hl3 : lb.length ≤ 3) :
    Con l Z n0 [] (⟨"com/example/detra/detra/StateSets", "hash", "(Lcom/example/detra/detra/SetWords;)I"⟩ : MethodName) prog_22_method_11_code 5 (some .int) ({ frames := 1, cells := 0, slots := 0, locals := 15 } : Room) #[(.ref g)] h0 (Qcon_hash Z n0 h0 g gw gh lb HL ws) := by
  refine Con.of pf_4 (fun m => ef_con_hash m g) hn0 ?_
  intro p e s m below meth c C
  refine C.lconst 0 d9_0 rfl rfl ?_
  refine C.lstoreN (Ls' := #[rv g, .val (.long 0), .second, .unset, .unset]) d9_1 rfl rfl ?_
  refine C.iconst 0 d9_2 rfl rfl ?_
  refine C.istoreN (Ls' := #[rv g, .val (.long 0), .second, iv 0, .unset]) d9_3 rfl rfl ?_
  have JH288 : ∀ (m_ j : Nat) (acc : Int64) (s4 : Slot) (hs : s4 = .unset ∨ ∃ x, s4 = iv x) (hj : j + m_ = lb.length), Go p l e ({ frames := 1, cells := 0, slots := 0, locals := 15 } : Room) s m #[(.ref g)] below meth c n0 (FinQ s n0 (Qcon_hash Z n0 h0 g gw gh lb HL ws) ({ frames := 1, cells := 0, slots := 0, locals := 15 } : Room).cells ({ frames := 1, cells := 0, slots := 0, locals := 15 } : Room).slots) h0 0 0 4 #[rv g, .val (.long acc), .second, iv (Int32.ofNat j), s4] [] := by
    intro m_; induction m_ with
    | zero =>
      intro j acc s4 hs hj
      refine C.iloadN d9_4 rfl rfl ?_
      refine C.aloadN d9_5 rfl rfl rfl ?_
      refine C.callV (argsL := []) (rest := [(.int (Int32.ofNat j))]) 1 (fun zz => con_hc l Z a0 hw n0 h0 zz g (Int32.ofNat lb.length) P3) P0 d9_6 rfl (tw hw 67 rfl) (tw hw 68 rfl) (tw hw 69 rfl) (tw hw 70 rfl) (tw hw 25 rfl) (tw hw 71 rfl) (by decide) pd_0 rfl rfl rfl (Nat.le_of_eq rfl) (by decide) (by decide) (by decide) (by decide) (fun v289 h290 r291 => ?_)
      obtain ⟨rfl, rfl⟩ := r291
      refine C.icmp_ge_t d9_9 (by decide) rfl (by rw [own_ltN (by omega) (by omega)]; omega) ?_
      refine C.lloadN d9_42 rfl rfl ?_
      refine C.lloadN d9_43 rfl rfl ?_
      refine C.bipush 29 d9_44 rfl rfl ?_
      refine C.lushr d9_46 rfl ?_
      refine C.lxor d9_47 rfl ?_
      refine C.ldc2J d9_48 rfl (tw hw 82 rfl) ?_
      refine C.lmul d9_51 rfl ?_
      refine C.lstoreN (Ls' := #[rv g, .val (.long ((acc ^^^ (XT.ushrL acc 29)) * (-7046029254386353131 : Int64))), .second, iv (Int32.ofNat j), s4]) d9_52 rfl rfl ?_
      refine C.lloadN d9_53 rfl rfl ?_
      refine C.lloadN d9_54 rfl rfl ?_
      refine C.bipush 32 d9_55 rfl rfl ?_
      refine C.lushr d9_57 rfl ?_
      refine C.lxor d9_58 rfl ?_
      refine C.l2i d9_59 rfl ?_
      exact C.retI d9_60 (by decide) (by decide) ⟨(Int64.toInt32 (((acc ^^^ (XT.ushrL acc 29)) * (-7046029254386353131 : Int64)) ^^^ (XT.ushrL ((acc ^^^ (XT.ushrL acc 29)) * (-7046029254386353131 : Int64)) 32))), rfl, rfl⟩
    | succ m_ ih =>
      intro j acc s4 hs hj
      obtain ⟨pp, hp, hm⟩ := own_at (lb := lb) (j := j) (by omega)
      refine C.iloadN d9_4 rfl rfl ?_
      refine C.aloadN d9_5 rfl rfl rfl ?_
      refine C.callV (argsL := []) (rest := [(.int (Int32.ofNat j))]) 1 (fun zz => con_hc l Z a0 hw n0 h0 zz g (Int32.ofNat lb.length) P3) P0 d9_6 rfl (tw hw 67 rfl) (tw hw 68 rfl) (tw hw 69 rfl) (tw hw 70 rfl) (tw hw 25 rfl) (tw hw 71 rfl) (by decide) pd_0 rfl rfl rfl (Nat.le_of_eq rfl) (by decide) (by decide) (by decide) (by decide) (fun v293 h294 r295 => ?_)
      obtain ⟨rfl, rfl⟩ := r295
      refine C.icmp_ge_f d9_9 rfl (by rw [own_ltN (by omega) (by omega)]; omega) ?_
      refine C.aloadN d9_12 rfl rfl rfl ?_
      refine C.iloadN d9_13 rfl rfl ?_
      refine C.callV (argsL := [(.int (Int32.ofNat j))]) (rest := []) 0 (fun zz => con_hi l Z a0 hw n0 h0 zz g gh (Int32.ofNat j) pp.1 HL P2 P5 (own_nn (by omega)) (by rw [own_toN (by omega)]; exact hhd _ _ hp)) P0 d9_14 rfl (tw hw 72 rfl) (tw hw 73 rfl) (tw hw 74 rfl) (tw hw 75 rfl) (tw hw 25 rfl) (tw hw 76 rfl) (by decide) pd_1 rfl rfl rfl (Nat.le_of_eq rfl) (by decide) (by decide) (by decide) (by decide) (fun v297 h298 r299 => ?_)
      obtain ⟨rfl, rfl⟩ := r299
      refine C.istore (Ls' := #[rv g, .val (.long acc), .second, iv (Int32.ofNat j), iv pp.1]) d9_17 rfl (by rcases hs with rfl | ⟨x9, rfl⟩ <;> rfl) ?_
      refine C.lloadN d9_19 rfl rfl ?_
      refine C.aloadN d9_20 rfl rfl rfl ?_
      refine C.iload d9_21 rfl rfl ?_
      refine C.callV (argsL := [(.int pp.1)]) (rest := [(.long acc)]) 2 (fun zz => con_wd l Z a0 hw n0 h0 zz g gw pp.1 pp.2 ws P1 P4 (hws _ hm).1 (hws _ hm).2) P0 d9_23 rfl (tw hw 77 rfl) (tw hw 78 rfl) (tw hw 79 rfl) (tw hw 80 rfl) (tw hw 25 rfl) (tw hw 81 rfl) (by decide) pd_2 rfl rfl rfl (Nat.le_of_eq rfl) (by decide) (by decide) (by decide) (by decide) (fun v301 h302 r303 => ?_)
      obtain ⟨rfl, rfl⟩ := r303
      refine C.ladd d9_26 rfl ?_
      refine C.ldc2J d9_27 rfl (tw hw 82 rfl) ?_
      refine C.lmul d9_30 rfl ?_
      refine C.iload d9_31 rfl rfl ?_
      refine C.i2l d9_33 rfl ?_
      refine C.ladd d9_34 rfl ?_
      refine C.lstoreN (Ls' := #[rv g, .val (.long (((acc + pp.2) * (-7046029254386353131 : Int64)) + (Int32.toInt64 pp.1))), .second, iv (Int32.ofNat j), iv pp.1]) d9_35 rfl rfl ?_
      refine C.iinc (Ls' := #[rv g, .val (.long (((acc + pp.2) * (-7046029254386353131 : Int64)) + (Int32.toInt64 pp.1))), .second, iv ((Int32.ofNat j) + 1), iv pp.1]) 1 d9_36 rfl rfl rfl rfl ?_
      refine C.goto d9_39 (by decide) rfl ?_
      rw [own_s1]
      exact ih (j + 1) _ _ (Or.inr ⟨_, rfl⟩) (by omega)
  exact JH288 lb.length 0 0 .unset (Or.inl rfl) (by omega)
def own_wdq (la : List (Int32 × Int64)) (WD : List Value) : Prop := ∀ (j : Nat) (p : Int32 × Int64), la[j]? = some p → WD[j]? = some (.long p.2)
theorem own_lenEq {a b : List (Int32 × Int64)} (ha : a.length ≤ 3) (hb : b.length ≤ 3) (h : Int32.ofNat a.length = Int32.ofNat b.length) : a.length = b.length := by
  have e := congrArg Int32.toInt h
  rw [own_toI (by omega), own_toI (by omega)] at e; omega
theorem own_upto {a b : List (Int32 × Int64)} {j : Nat} {p q : Int32 × Int64} (h : ∀ t, t < j → a[t]? = b[t]?) (hp : a[j]? = some p) (hq : b[j]? = some q) (e : p = q) (t : Nat) (ht : t < j + 1) : a[t]? = b[t]? := by
  rcases Nat.lt_or_eq_of_le (Nat.le_of_lt_succ ht) with g | g
  · exact h t g
  · subst g; rw [hp, hq, e]
theorem own_allEq {a b : List (Int32 × Int64)} (hl : a.length = b.length) (h : ∀ t, t < a.length → a[t]? = b[t]?) : a = b := by
  apply List.ext_getElem?
  intro t
  by_cases g : t < a.length
  · exact h t g
  · rw [List.getElem?_eq_none (by omega), List.getElem?_eq_none (by omega)]
theorem d16_0 : decode prog_22_method_10_code 0 = .ok (.aload_n 0, 1) := by decide +kernel
theorem d16_1 : decode prog_22_method_10_code 1 = .ok (.getfield 7, 3) := by decide +kernel
theorem d16_4 : decode prog_22_method_10_code 4 = .ok (.iload_n 1, 1) := by decide +kernel
theorem d16_5 : decode prog_22_method_10_code 5 = .ok (.iaload, 1) := by decide +kernel
theorem d16_6 : decode prog_22_method_10_code 6 = .ok (.istore 4, 2) := by decide +kernel
theorem d16_8 : decode prog_22_method_10_code 8 = .ok (.aload_n 0, 1) := by decide +kernel
theorem d16_9 : decode prog_22_method_10_code 9 = .ok (.getfield 23, 3) := by decide +kernel
theorem d16_12 : decode prog_22_method_10_code 12 = .ok (.iload_n 1, 1) := by decide +kernel
theorem d16_13 : decode prog_22_method_10_code 13 = .ok (.iaload, 1) := by decide +kernel
theorem d16_14 : decode prog_22_method_10_code 14 = .ok (.iload_n 2, 1) := by decide +kernel
theorem d16_15 : decode prog_22_method_10_code 15 = .ok (.if_icmp .ne 25, 3) := by decide +kernel
theorem d16_18 : decode prog_22_method_10_code 18 = .ok (.aload_n 0, 1) := by decide +kernel
theorem d16_19 : decode prog_22_method_10_code 19 = .ok (.getfield 7, 3) := by decide +kernel
theorem d16_22 : decode prog_22_method_10_code 22 = .ok (.iload_n 1, 1) := by decide +kernel
theorem d16_23 : decode prog_22_method_10_code 23 = .ok (.iconst 1, 1) := by decide +kernel
theorem d16_24 : decode prog_22_method_10_code 24 = .ok (.iadd, 1) := by decide +kernel
theorem d16_25 : decode prog_22_method_10_code 25 = .ok (.iaload, 1) := by decide +kernel
theorem d16_26 : decode prog_22_method_10_code 26 = .ok (.iload 4, 2) := by decide +kernel
theorem d16_28 : decode prog_22_method_10_code 28 = .ok (.isub, 1) := by decide +kernel
theorem d16_29 : decode prog_22_method_10_code 29 = .ok (.aload_n 3, 1) := by decide +kernel
theorem d16_30 : decode prog_22_method_10_code 30 = .ok (.invokevirtual 61, 3) := by decide +kernel
theorem d16_33 : decode prog_22_method_10_code 33 = .ok (.if_icmp .ne 7, 3) := by decide +kernel
theorem d16_36 : decode prog_22_method_10_code 36 = .ok (.iconst 1, 1) := by decide +kernel
theorem d16_37 : decode prog_22_method_10_code 37 = .ok (.goto 4, 3) := by decide +kernel
theorem d16_40 : decode prog_22_method_10_code 40 = .ok (.iconst 0, 1) := by decide +kernel
theorem d16_41 : decode prog_22_method_10_code 41 = .ok (.istore 5, 2) := by decide +kernel
theorem d16_43 : decode prog_22_method_10_code 43 = .ok (.iload 4, 2) := by decide +kernel
theorem d16_45 : decode prog_22_method_10_code 45 = .ok (.istore 6, 2) := by decide +kernel
theorem d16_47 : decode prog_22_method_10_code 47 = .ok (.iload 6, 2) := by decide +kernel
theorem d16_49 : decode prog_22_method_10_code 49 = .ok (.aload_n 0, 1) := by decide +kernel
theorem d16_50 : decode prog_22_method_10_code 50 = .ok (.getfield 7, 3) := by decide +kernel
theorem d16_53 : decode prog_22_method_10_code 53 = .ok (.iload_n 1, 1) := by decide +kernel
theorem d16_54 : decode prog_22_method_10_code 54 = .ok (.iconst 1, 1) := by decide +kernel
theorem d16_55 : decode prog_22_method_10_code 55 = .ok (.iadd, 1) := by decide +kernel
theorem d16_56 : decode prog_22_method_10_code 56 = .ok (.iaload, 1) := by decide +kernel
theorem d16_57 : decode prog_22_method_10_code 57 = .ok (.if_icmp .ge 61, 3) := by decide +kernel
theorem d16_60 : decode prog_22_method_10_code 60 = .ok (.iload 5, 2) := by decide +kernel
theorem d16_62 : decode prog_22_method_10_code 62 = .ok (.ifCond .eq 56, 3) := by decide +kernel
theorem d16_65 : decode prog_22_method_10_code 65 = .ok (.aload_n 3, 1) := by decide +kernel
theorem d16_66 : decode prog_22_method_10_code 66 = .ok (.iload 6, 2) := by decide +kernel
theorem d16_68 : decode prog_22_method_10_code 68 = .ok (.iload 4, 2) := by decide +kernel
theorem d16_70 : decode prog_22_method_10_code 70 = .ok (.isub, 1) := by decide +kernel
theorem d16_71 : decode prog_22_method_10_code 71 = .ok (.invokevirtual 80, 3) := by decide +kernel
theorem d16_74 : decode prog_22_method_10_code 74 = .ok (.istore 7, 2) := by decide +kernel
theorem d16_76 : decode prog_22_method_10_code 76 = .ok (.aload_n 0, 1) := by decide +kernel
theorem d16_77 : decode prog_22_method_10_code 77 = .ok (.getfield 13, 3) := by decide +kernel
theorem d16_80 : decode prog_22_method_10_code 80 = .ok (.iload 6, 2) := by decide +kernel
theorem d16_82 : decode prog_22_method_10_code 82 = .ok (.iaload, 1) := by decide +kernel
theorem d16_83 : decode prog_22_method_10_code 83 = .ok (.iload 7, 2) := by decide +kernel
theorem d16_85 : decode prog_22_method_10_code 85 = .ok (.if_icmp .ne 24, 3) := by decide +kernel
theorem d16_88 : decode prog_22_method_10_code 88 = .ok (.aload_n 0, 1) := by decide +kernel
theorem d16_89 : decode prog_22_method_10_code 89 = .ok (.getfield 16, 3) := by decide +kernel
theorem d16_92 : decode prog_22_method_10_code 92 = .ok (.iload 6, 2) := by decide +kernel
theorem d16_94 : decode prog_22_method_10_code 94 = .ok (.laload, 1) := by decide +kernel
theorem d16_95 : decode prog_22_method_10_code 95 = .ok (.aload_n 3, 1) := by decide +kernel
theorem d16_96 : decode prog_22_method_10_code 96 = .ok (.iload 7, 2) := by decide +kernel
theorem d16_98 : decode prog_22_method_10_code 98 = .ok (.invokevirtual 84, 3) := by decide +kernel
theorem d16_101 : decode prog_22_method_10_code 101 = .ok (.lcmp, 1) := by decide +kernel
theorem d16_102 : decode prog_22_method_10_code 102 = .ok (.ifCond .ne 7, 3) := by decide +kernel
theorem d16_105 : decode prog_22_method_10_code 105 = .ok (.iconst 1, 1) := by decide +kernel
theorem d16_106 : decode prog_22_method_10_code 106 = .ok (.goto 4, 3) := by decide +kernel
theorem d16_109 : decode prog_22_method_10_code 109 = .ok (.iconst 0, 1) := by decide +kernel
theorem d16_110 : decode prog_22_method_10_code 110 = .ok (.istore 5, 2) := by decide +kernel
theorem d16_112 : decode prog_22_method_10_code 112 = .ok (.iinc 6 1, 3) := by decide +kernel
theorem d16_115 : decode prog_22_method_10_code 115 = .ok (.goto (-68), 3) := by decide +kernel
theorem d16_118 : decode prog_22_method_10_code 118 = .ok (.iload 5, 2) := by decide +kernel
theorem d16_120 : decode prog_22_method_10_code 120 = .ok (.ireturn, 1) := by decide +kernel
theorem pf_5 : plainFor (⟨"com/example/detra/detra/StateSets", "equal", "(IILcom/example/detra/detra/SetWords;)Z"⟩ : MethodName) = true := by first | exact plainFor_of_name (by first | (simp [plainName, overriddenIn]; done) | decide +kernel) | decide +kernel
def Qcon_eq (Z : State) (n0 : Nat) (h0 : Heap) (o : Addr) (os : Addr) (oi : Addr) (ow : Addr) (oh : Addr) (g : Addr) (gw : Addr) (gh : Addr) (hs : Int32) (hv : Int32) (la : List (Int32 × Int64)) (lb : List (Int32 × Int64)) (ST : List Value) (IX : List Value) (WD : List Value) (HS : List Value) (HL : List Value) (ws : List Value) (v : Option Value) (h' : Heap) : Prop := ∃ (r : Int32), (v = some (.int r)) ∧ (h0 = h') ∧ (r = 0 ∨ (r = 1 ∧ la = lb))
theorem ef_con_eq (m : MethodId) (o : Addr) (g : Addr) (hs : Int32) : entryFrame m #[(.ref o), (.int 0), (.int hs), (.ref g)] 8 = mkF m 0 #[rv o, iv 0, iv hs, rv g, .unset, .unset, .unset, .unset] [] := by first | (simp [entryFrame, mkF, argsToLocals, Value.category]; done) | rfl
set_option maxRecDepth 65536 in
set_option maxHeartbeats 40000000 in
theorem con_eq (l : Launch) (Z : State) (a0 : Array Value) (hw : ∀ d ∈ tables_1, d.before a0 Z = true) (n0 : Nat) (h0 : Heap) (hn0 : n0 ≤ h0.size) (o : Addr) (os : Addr) (oi : Addr) (ow : Addr) (oh : Addr) (g : Addr) (gw : Addr) (gh : Addr) (hs : Int32) (hv : Int32) (la : List (Int32 × Int64)) (lb : List (Int32 × Int64)) (ST : List Value) (IX : List Value) (WD : List Value) (HS : List Value) (HL : List Value) (ws : List Value) (P0 : Exa Z h0 o kC1) (P1 : Fld Z h0 o kC1 "starts" "[I" (.ref os)) (P2 : Fld Z h0 o kC1 "indices" "[I" (.ref oi)) (P3 : Fld Z h0 o kC1 "words" "[J" (.ref ow)) (P4 : Fld Z h0 o kC1 "hashes" "[I" (.ref oh)) (P5 : Av Z h0 os .int ST) (P6 : Av Z h0 oi .int IX) (P7 : Av Z h0 ow .long WD) (P8 : Av Z h0 oh .int HS) (P9 : Exa Z h0 g kC0) (P10 : Fld Z h0 g kC0 "words" "[J" (.ref gw)) (P11 : Fld Z h0 g kC0 "held" "[I" (.ref gh)) (P12 : Fld Z h0 g kC0 "count" "I" (.int (Int32.ofNat lb.length))) (P13 : Av Z h0 gw .long ws) (P14 : Av Z h0 gh .int HL) (hst0 : ST[(0 : Int32).toNatClampNeg]? = some (.int 0)) (hst1 : ST[(1 : Int32).toNatClampNeg]? = some (.int (Int32.ofNat la.length))) (hhs : HS[(0 : Int32).toNatClampNeg]? = some (.int hv)) (hix : own_hd la IX) (hwd : own_wdq la WD) (hhd : own_hd lb HL) (hws : own_ws lb ws) (hla : la.length ≤ 3) (hlb : lb.length ≤ 3) :
    Con l Z n0 [] (⟨"com/example/detra/detra/StateSets", "equal", "(IILcom/example/detra/detra/SetWords;)Z"⟩ : MethodName) prog_22_method_10_code 8 (some .boolean) ({ frames := 1, cells := 0, slots := 0, locals := 15 } : Room) #[(.ref o), (.int 0), (.int hs), (.ref g)] h0 (Qcon_eq Z n0 h0 o os oi ow oh g gw gh hs hv la lb ST IX WD HS HL ws) := by
  refine Con.of pf_5 (fun m => ef_con_eq m o g hs) hn0 ?_
  intro p e s m below meth c C
  refine C.aloadN d16_0 rfl rfl rfl ?_
  refine C.getF d16_1 rfl (tw hw 10 rfl) P1 ?_
  refine C.iloadN d16_4 rfl rfl ?_
  refine C.iaload (.int 0) d16_5 rfl P5 (by decide) hst0 ?_
  refine C.istore (Ls' := #[rv o, iv 0, iv hs, rv g, iv 0, .unset, .unset, .unset]) d16_6 rfl rfl ?_
  have JE318 : ∀ (m_ j : Nat) (eq5 : Int32) (s7 : Slot) (hsl : s7 = .unset ∨ ∃ x, s7 = iv x) (hj : j + m_ = la.length) (he : eq5 = 0 ∨ (eq5 = 1 ∧ la.length = lb.length ∧ ∀ t, t < j → la[t]? = lb[t]?)), Go p l e ({ frames := 1, cells := 0, slots := 0, locals := 15 } : Room) s m #[(.ref o), (.int 0), (.int hs), (.ref g)] below meth c n0 (FinQ s n0 (Qcon_eq Z n0 h0 o os oi ow oh g gw gh hs hv la lb ST IX WD HS HL ws) ({ frames := 1, cells := 0, slots := 0, locals := 15 } : Room).cells ({ frames := 1, cells := 0, slots := 0, locals := 15 } : Room).slots) h0 0 0 47 #[rv o, iv 0, iv hs, rv g, iv 0, iv eq5, iv (Int32.ofNat j), s7] [] := by
    intro m_; induction m_ with
    | zero =>
      intro j eq5 s7 hsl hj he
      refine C.iload d16_47 rfl rfl ?_
      refine C.aloadN d16_49 rfl rfl rfl ?_
      refine C.getF d16_50 rfl (tw hw 10 rfl) P1 ?_
      refine C.iloadN d16_53 rfl rfl ?_
      refine C.iconst 1 d16_54 rfl rfl ?_
      refine C.iadd d16_55 rfl ?_
      refine Go.cI (y := 1) rfl ?_
      refine C.iaload (.int (Int32.ofNat la.length)) d16_56 rfl P5 (by decide) hst1 ?_
      refine C.icmp_ge_t d16_57 (by decide) rfl (by rw [own_ltN (by omega) (by omega)]; omega) ?_
      refine C.iload d16_118 rfl rfl ?_
      exact C.retZ d16_120 (by rcases he with h | ⟨h, -⟩ <;> rw [h] <;> rfl) (by decide) (by decide) ⟨eq5, rfl, rfl, he.imp id fun q => ⟨q.1, own_allEq q.2.1 (fun t ht => q.2.2 t (by omega))⟩⟩
    | succ m_ ih =>
      intro j eq5 s7 hsl hj he
      obtain ⟨pp, hp, hm⟩ := own_at (lb := la) (j := j) (by omega)
      rcases he with rfl | ⟨rfl, hlen, hpre⟩
      · refine C.iload d16_47 rfl rfl ?_
        refine C.aloadN d16_49 rfl rfl rfl ?_
        refine C.getF d16_50 rfl (tw hw 10 rfl) P1 ?_
        refine C.iloadN d16_53 rfl rfl ?_
        refine C.iconst 1 d16_54 rfl rfl ?_
        refine C.iadd d16_55 rfl ?_
        refine Go.cI (y := 1) rfl ?_
        refine C.iaload (.int (Int32.ofNat la.length)) d16_56 rfl P5 (by decide) hst1 ?_
        refine C.icmp_ge_f d16_57 rfl (by rw [own_ltN (by omega) (by omega)]; omega) ?_
        refine C.iload d16_60 rfl rfl ?_
        refine C.if_eq_t d16_62 (by decide) rfl (by decide) ?_
        refine C.iload d16_118 rfl rfl ?_
        exact C.retZ d16_120 rfl (by decide) (by decide) ⟨0, rfl, rfl, Or.inl rfl⟩
      obtain ⟨qq, hp2, hm2⟩ := own_at (lb := lb) (j := j) (by omega)
      refine C.iload d16_47 rfl rfl ?_
      refine C.aloadN d16_49 rfl rfl rfl ?_
      refine C.getF d16_50 rfl (tw hw 10 rfl) P1 ?_
      refine C.iloadN d16_53 rfl rfl ?_
      refine C.iconst 1 d16_54 rfl rfl ?_
      refine C.iadd d16_55 rfl ?_
      refine Go.cI (y := 1) rfl ?_
      refine C.iaload (.int (Int32.ofNat la.length)) d16_56 rfl P5 (by decide) hst1 ?_
      refine C.icmp_ge_f d16_57 rfl (by rw [own_ltN (by omega) (by omega)]; omega) ?_
      refine C.iload d16_60 rfl rfl ?_
      refine C.if_eq_f d16_62 rfl (by decide) ?_
      refine C.aloadN d16_65 rfl rfl rfl ?_
      refine C.iload d16_66 rfl rfl ?_
      refine C.iload d16_68 rfl rfl ?_
      refine C.isub d16_70 rfl ?_
      rw [Int32.sub_zero]
      refine C.callV (argsL := [(.int (Int32.ofNat j))]) (rest := []) 0 (fun zz => con_hi l Z a0 hw n0 h0 zz g gh (Int32.ofNat j) qq.1 HL P11 P14 (own_nn (by omega)) (by rw [own_toN (by omega)]; exact hhd _ _ hp2)) P9 d16_71 rfl (tw hw 72 rfl) (tw hw 73 rfl) (tw hw 74 rfl) (tw hw 75 rfl) (tw hw 25 rfl) (tw hw 76 rfl) (by decide) pd_1 rfl rfl rfl (Nat.le_of_eq rfl) (by decide) (by decide) (by decide) (by decide) (fun v319 h320 r321 => ?_)
      obtain ⟨rfl, rfl⟩ := r321
      refine C.istore (Ls' := #[rv o, iv 0, iv hs, rv g, iv 0, iv 1, iv (Int32.ofNat j), iv qq.1]) d16_74 rfl (by rcases hsl with rfl | ⟨x9, rfl⟩ <;> rfl) ?_
      refine C.aloadN d16_76 rfl rfl rfl ?_
      refine C.getF d16_77 rfl (tw hw 12 rfl) P2 ?_
      refine C.iload d16_80 rfl rfl ?_
      refine C.iaload (.int pp.1) d16_82 rfl P6 (own_nn (by omega)) (by rw [own_toN (by omega)]; exact hix _ _ hp) ?_
      refine C.iload d16_83 rfl rfl ?_
      refine C.icmp_ne d16_85 (by decide) rfl rfl (fun q85 => ?_) (fun q85 => ?_)
      · refine C.iconst 0 d16_109 rfl rfl ?_
        refine C.istore (Ls' := #[rv o, iv 0, iv hs, rv g, iv 0, iv 0, iv (Int32.ofNat j), iv qq.1]) d16_110 rfl rfl ?_
        refine C.iinc (Ls' := #[rv o, iv 0, iv hs, rv g, iv 0, iv 0, iv ((Int32.ofNat j) + 1), iv qq.1]) 1 d16_112 rfl rfl rfl rfl ?_
        refine C.goto d16_115 (by decide) rfl ?_
        rw [own_s1]
        exact ih (j + 1) 0 _ (Or.inr ⟨_, rfl⟩) (by omega) (Or.inl rfl)
      refine C.aloadN d16_88 rfl rfl rfl ?_
      refine C.getF d16_89 rfl (tw hw 15 rfl) P3 ?_
      refine C.iload d16_92 rfl rfl ?_
      refine C.laload (.long pp.2) d16_94 rfl P7 (own_nn (by omega)) (by rw [own_toN (by omega)]; exact hwd _ _ hp) ?_
      refine C.aloadN d16_95 rfl rfl rfl ?_
      refine C.iload d16_96 rfl rfl ?_
      refine C.callV (argsL := [(.int qq.1)]) (rest := [(.long pp.2)]) 2 (fun zz => con_wd l Z a0 hw n0 h0 zz g gw qq.1 qq.2 ws P10 P13 (hws _ hm2).1 (hws _ hm2).2) P9 d16_98 rfl (tw hw 77 rfl) (tw hw 78 rfl) (tw hw 79 rfl) (tw hw 80 rfl) (tw hw 25 rfl) (tw hw 81 rfl) (by decide) pd_2 rfl rfl rfl (Nat.le_of_eq rfl) (by decide) (by decide) (by decide) (by decide) (fun v323 h324 r325 => ?_)
      obtain ⟨rfl, rfl⟩ := r325
      refine C.lcmp d16_101 rfl ?_
      refine C.lif_ne d16_102 (by decide) rfl rfl (fun q102 => ?_) (fun q102 => ?_)
      · refine C.iconst 0 d16_109 rfl rfl ?_
        refine C.istore (Ls' := #[rv o, iv 0, iv hs, rv g, iv 0, iv 0, iv (Int32.ofNat j), iv qq.1]) d16_110 rfl rfl ?_
        refine C.iinc (Ls' := #[rv o, iv 0, iv hs, rv g, iv 0, iv 0, iv ((Int32.ofNat j) + 1), iv qq.1]) 1 d16_112 rfl rfl rfl rfl ?_
        refine C.goto d16_115 (by decide) rfl ?_
        rw [own_s1]
        exact ih (j + 1) 0 _ (Or.inr ⟨_, rfl⟩) (by omega) (Or.inl rfl)
      refine C.iconst 1 d16_105 rfl rfl ?_
      refine C.goto d16_106 (by decide) rfl ?_
      refine C.istore (Ls' := #[rv o, iv 0, iv hs, rv g, iv 0, iv 1, iv (Int32.ofNat j), iv qq.1]) d16_110 rfl rfl ?_
      refine C.iinc (Ls' := #[rv o, iv 0, iv hs, rv g, iv 0, iv 1, iv ((Int32.ofNat j) + 1), iv qq.1]) 1 d16_112 rfl rfl rfl rfl ?_
      refine C.goto d16_115 (by decide) rfl ?_
      rw [own_s1]
      exact ih (j + 1) 1 _ (Or.inr ⟨_, rfl⟩) (by omega) (Or.inr ⟨rfl, hlen, fun t ht => own_upto hpre hp hp2 (Prod.ext q85 q102) t ht⟩)
  refine C.aloadN d16_8 rfl rfl rfl ?_
  refine C.getF d16_9 rfl (tw hw 19 rfl) P4 ?_
  refine C.iloadN d16_12 rfl rfl ?_
  refine C.iaload (.int hv) d16_13 rfl P8 (by decide) hhs ?_
  refine C.iloadN d16_14 rfl rfl ?_
  refine C.icmp_ne d16_15 (by decide) rfl rfl (fun q15 => ?_) (fun q15 => ?_)
  · refine C.iconst 0 d16_40 rfl rfl ?_
    refine C.istore (Ls' := #[rv o, iv 0, iv hs, rv g, iv 0, iv 0, .unset, .unset]) d16_41 rfl rfl ?_
    refine C.iload d16_43 rfl rfl ?_
    refine C.istore (Ls' := #[rv o, iv 0, iv hs, rv g, iv 0, iv 0, iv 0, .unset]) d16_45 rfl rfl ?_
    exact JE318 la.length 0 0 .unset (Or.inl rfl) (by omega) (Or.inl rfl)
  refine C.aloadN d16_18 rfl rfl rfl ?_
  refine C.getF d16_19 rfl (tw hw 10 rfl) P1 ?_
  refine C.iloadN d16_22 rfl rfl ?_
  refine C.iconst 1 d16_23 rfl rfl ?_
  refine C.iadd d16_24 rfl ?_
  refine Go.cI (y := 1) rfl ?_
  refine C.iaload (.int (Int32.ofNat la.length)) d16_25 rfl P5 (by decide) hst1 ?_
  refine C.iload d16_26 rfl rfl ?_
  refine C.isub d16_28 rfl ?_
  rw [Int32.sub_zero]
  refine C.aloadN d16_29 rfl rfl rfl ?_
  refine C.callV (argsL := []) (rest := [(.int (Int32.ofNat la.length))]) 1 (fun zz => con_hc l Z a0 hw n0 h0 zz g (Int32.ofNat lb.length) P12) P9 d16_30 rfl (tw hw 67 rfl) (tw hw 68 rfl) (tw hw 69 rfl) (tw hw 70 rfl) (tw hw 25 rfl) (tw hw 71 rfl) (by decide) pd_0 rfl rfl rfl (Nat.le_of_eq rfl) (by decide) (by decide) (by decide) (by decide) (fun v327 h328 r329 => ?_)
  obtain ⟨rfl, rfl⟩ := r329
  refine C.icmp_ne d16_33 (by decide) rfl rfl (fun q33 => ?_) (fun q33 => ?_)
  · refine C.iconst 0 d16_40 rfl rfl ?_
    refine C.istore (Ls' := #[rv o, iv 0, iv hs, rv g, iv 0, iv 0, .unset, .unset]) d16_41 rfl rfl ?_
    refine C.iload d16_43 rfl rfl ?_
    refine C.istore (Ls' := #[rv o, iv 0, iv hs, rv g, iv 0, iv 0, iv 0, .unset]) d16_45 rfl rfl ?_
    exact JE318 la.length 0 0 .unset (Or.inl rfl) (by omega) (Or.inl rfl)
  refine C.iconst 1 d16_36 rfl rfl ?_
  refine C.goto d16_37 (by decide) rfl ?_
  refine C.istore (Ls' := #[rv o, iv 0, iv hs, rv g, iv 0, iv 1, .unset, .unset]) d16_41 rfl rfl ?_
  refine C.iload d16_43 rfl rfl ?_
  refine C.istore (Ls' := #[rv o, iv 0, iv hs, rv g, iv 0, iv 1, iv 0, .unset]) d16_45 rfl rfl ?_
  exact JE318 la.length 0 1 .unset (Or.inl rfl) (by omega) (Or.inr ⟨rfl, own_lenEq (by omega) (by omega) q33, fun t ht => absurd ht (Nat.not_lt_zero t)⟩)
theorem d14_0 : decode jdk_35_method_50_code 0 = .ok (.lload_n 0, 1) := by decide +kernel
theorem d14_1 : decode jdk_35_method_50_code 1 = .ok (.lload_n 0, 1) := by decide +kernel
theorem d14_2 : decode jdk_35_method_50_code 2 = .ok (.iconst 1, 1) := by decide +kernel
theorem d14_3 : decode jdk_35_method_50_code 3 = .ok (.lushr, 1) := by decide +kernel
theorem d14_4 : decode jdk_35_method_50_code 4 = .ok (.ldc2_w 314, 3) := by decide +kernel
theorem d14_7 : decode jdk_35_method_50_code 7 = .ok (.land, 1) := by decide +kernel
theorem d14_8 : decode jdk_35_method_50_code 8 = .ok (.lsub, 1) := by decide +kernel
theorem d14_9 : decode jdk_35_method_50_code 9 = .ok (.lstore_n 0, 1) := by decide +kernel
theorem d14_10 : decode jdk_35_method_50_code 10 = .ok (.lload_n 0, 1) := by decide +kernel
theorem d14_11 : decode jdk_35_method_50_code 11 = .ok (.ldc2_w 316, 3) := by decide +kernel
theorem d14_14 : decode jdk_35_method_50_code 14 = .ok (.land, 1) := by decide +kernel
theorem d14_15 : decode jdk_35_method_50_code 15 = .ok (.lload_n 0, 1) := by decide +kernel
theorem d14_16 : decode jdk_35_method_50_code 16 = .ok (.iconst 2, 1) := by decide +kernel
theorem d14_17 : decode jdk_35_method_50_code 17 = .ok (.lushr, 1) := by decide +kernel
theorem d14_18 : decode jdk_35_method_50_code 18 = .ok (.ldc2_w 316, 3) := by decide +kernel
theorem d14_21 : decode jdk_35_method_50_code 21 = .ok (.land, 1) := by decide +kernel
theorem d14_22 : decode jdk_35_method_50_code 22 = .ok (.ladd, 1) := by decide +kernel
theorem d14_23 : decode jdk_35_method_50_code 23 = .ok (.lstore_n 0, 1) := by decide +kernel
theorem d14_24 : decode jdk_35_method_50_code 24 = .ok (.lload_n 0, 1) := by decide +kernel
theorem d14_25 : decode jdk_35_method_50_code 25 = .ok (.lload_n 0, 1) := by decide +kernel
theorem d14_26 : decode jdk_35_method_50_code 26 = .ok (.iconst 4, 1) := by decide +kernel
theorem d14_27 : decode jdk_35_method_50_code 27 = .ok (.lushr, 1) := by decide +kernel
theorem d14_28 : decode jdk_35_method_50_code 28 = .ok (.ladd, 1) := by decide +kernel
theorem d14_29 : decode jdk_35_method_50_code 29 = .ok (.ldc2_w 318, 3) := by decide +kernel
theorem d14_32 : decode jdk_35_method_50_code 32 = .ok (.land, 1) := by decide +kernel
theorem d14_33 : decode jdk_35_method_50_code 33 = .ok (.lstore_n 0, 1) := by decide +kernel
theorem d14_34 : decode jdk_35_method_50_code 34 = .ok (.lload_n 0, 1) := by decide +kernel
theorem d14_35 : decode jdk_35_method_50_code 35 = .ok (.lload_n 0, 1) := by decide +kernel
theorem d14_36 : decode jdk_35_method_50_code 36 = .ok (.bipush 8, 2) := by decide +kernel
theorem d14_38 : decode jdk_35_method_50_code 38 = .ok (.lushr, 1) := by decide +kernel
theorem d14_39 : decode jdk_35_method_50_code 39 = .ok (.ladd, 1) := by decide +kernel
theorem d14_40 : decode jdk_35_method_50_code 40 = .ok (.lstore_n 0, 1) := by decide +kernel
theorem d14_41 : decode jdk_35_method_50_code 41 = .ok (.lload_n 0, 1) := by decide +kernel
theorem d14_42 : decode jdk_35_method_50_code 42 = .ok (.lload_n 0, 1) := by decide +kernel
theorem d14_43 : decode jdk_35_method_50_code 43 = .ok (.bipush 16, 2) := by decide +kernel
theorem d14_45 : decode jdk_35_method_50_code 45 = .ok (.lushr, 1) := by decide +kernel
theorem d14_46 : decode jdk_35_method_50_code 46 = .ok (.ladd, 1) := by decide +kernel
theorem d14_47 : decode jdk_35_method_50_code 47 = .ok (.lstore_n 0, 1) := by decide +kernel
theorem d14_48 : decode jdk_35_method_50_code 48 = .ok (.lload_n 0, 1) := by decide +kernel
theorem d14_49 : decode jdk_35_method_50_code 49 = .ok (.lload_n 0, 1) := by decide +kernel
theorem d14_50 : decode jdk_35_method_50_code 50 = .ok (.bipush 32, 2) := by decide +kernel
theorem d14_52 : decode jdk_35_method_50_code 52 = .ok (.lushr, 1) := by decide +kernel
theorem d14_53 : decode jdk_35_method_50_code 53 = .ok (.ladd, 1) := by decide +kernel
theorem d14_54 : decode jdk_35_method_50_code 54 = .ok (.lstore_n 0, 1) := by decide +kernel
theorem d14_55 : decode jdk_35_method_50_code 55 = .ok (.lload_n 0, 1) := by decide +kernel
theorem d14_56 : decode jdk_35_method_50_code 56 = .ok (.l2i, 1) := by decide +kernel
theorem d14_57 : decode jdk_35_method_50_code 57 = .ok (.bipush 127, 2) := by decide +kernel
theorem d14_59 : decode jdk_35_method_50_code 59 = .ok (.iand, 1) := by decide +kernel
theorem d14_60 : decode jdk_35_method_50_code 60 = .ok (.ireturn, 1) := by decide +kernel
theorem pf_6 : plainFor (⟨"java/lang/Long", "bitCount", "(J)I"⟩ : MethodName) = true := by first | exact plainFor_of_name (by first | (simp [plainName, overriddenIn]; done) | decide +kernel) | decide +kernel
def own_bc (w : Int64) : Int32 := ((Int64.toInt32 ((((((((w - ((XT.ushrL w 1) &&& 6148914691236517205)) &&& 3689348814741910323) + ((XT.ushrL (w - ((XT.ushrL w 1) &&& 6148914691236517205)) 2) &&& 3689348814741910323)) + (XT.ushrL (((w - ((XT.ushrL w 1) &&& 6148914691236517205)) &&& 3689348814741910323) + ((XT.ushrL (w - ((XT.ushrL w 1) &&& 6148914691236517205)) 2) &&& 3689348814741910323)) 4)) &&& 1085102592571150095) + (XT.ushrL (((((w - ((XT.ushrL w 1) &&& 6148914691236517205)) &&& 3689348814741910323) + ((XT.ushrL (w - ((XT.ushrL w 1) &&& 6148914691236517205)) 2) &&& 3689348814741910323)) + (XT.ushrL (((w - ((XT.ushrL w 1) &&& 6148914691236517205)) &&& 3689348814741910323) + ((XT.ushrL (w - ((XT.ushrL w 1) &&& 6148914691236517205)) 2) &&& 3689348814741910323)) 4)) &&& 1085102592571150095) 8)) + (XT.ushrL ((((((w - ((XT.ushrL w 1) &&& 6148914691236517205)) &&& 3689348814741910323) + ((XT.ushrL (w - ((XT.ushrL w 1) &&& 6148914691236517205)) 2) &&& 3689348814741910323)) + (XT.ushrL (((w - ((XT.ushrL w 1) &&& 6148914691236517205)) &&& 3689348814741910323) + ((XT.ushrL (w - ((XT.ushrL w 1) &&& 6148914691236517205)) 2) &&& 3689348814741910323)) 4)) &&& 1085102592571150095) + (XT.ushrL (((((w - ((XT.ushrL w 1) &&& 6148914691236517205)) &&& 3689348814741910323) + ((XT.ushrL (w - ((XT.ushrL w 1) &&& 6148914691236517205)) 2) &&& 3689348814741910323)) + (XT.ushrL (((w - ((XT.ushrL w 1) &&& 6148914691236517205)) &&& 3689348814741910323) + ((XT.ushrL (w - ((XT.ushrL w 1) &&& 6148914691236517205)) 2) &&& 3689348814741910323)) 4)) &&& 1085102592571150095) 8)) 16)) + (XT.ushrL (((((((w - ((XT.ushrL w 1) &&& 6148914691236517205)) &&& 3689348814741910323) + ((XT.ushrL (w - ((XT.ushrL w 1) &&& 6148914691236517205)) 2) &&& 3689348814741910323)) + (XT.ushrL (((w - ((XT.ushrL w 1) &&& 6148914691236517205)) &&& 3689348814741910323) + ((XT.ushrL (w - ((XT.ushrL w 1) &&& 6148914691236517205)) 2) &&& 3689348814741910323)) 4)) &&& 1085102592571150095) + (XT.ushrL (((((w - ((XT.ushrL w 1) &&& 6148914691236517205)) &&& 3689348814741910323) + ((XT.ushrL (w - ((XT.ushrL w 1) &&& 6148914691236517205)) 2) &&& 3689348814741910323)) + (XT.ushrL (((w - ((XT.ushrL w 1) &&& 6148914691236517205)) &&& 3689348814741910323) + ((XT.ushrL (w - ((XT.ushrL w 1) &&& 6148914691236517205)) 2) &&& 3689348814741910323)) 4)) &&& 1085102592571150095) 8)) + (XT.ushrL ((((((w - ((XT.ushrL w 1) &&& 6148914691236517205)) &&& 3689348814741910323) + ((XT.ushrL (w - ((XT.ushrL w 1) &&& 6148914691236517205)) 2) &&& 3689348814741910323)) + (XT.ushrL (((w - ((XT.ushrL w 1) &&& 6148914691236517205)) &&& 3689348814741910323) + ((XT.ushrL (w - ((XT.ushrL w 1) &&& 6148914691236517205)) 2) &&& 3689348814741910323)) 4)) &&& 1085102592571150095) + (XT.ushrL (((((w - ((XT.ushrL w 1) &&& 6148914691236517205)) &&& 3689348814741910323) + ((XT.ushrL (w - ((XT.ushrL w 1) &&& 6148914691236517205)) 2) &&& 3689348814741910323)) + (XT.ushrL (((w - ((XT.ushrL w 1) &&& 6148914691236517205)) &&& 3689348814741910323) + ((XT.ushrL (w - ((XT.ushrL w 1) &&& 6148914691236517205)) 2) &&& 3689348814741910323)) 4)) &&& 1085102592571150095) 8)) 16)) 32))) &&& 127)
def Qcon_bc (Z : State) (n0 : Nat) (h0 : Heap) (w : Int64) (v : Option Value) (h' : Heap) : Prop := (v = some (.int (own_bc w))) ∧ (h0 = h')
theorem ef_con_bc (m : MethodId) (w : Int64) : entryFrame m #[(.long w)] 2 = mkF m 0 #[.val (.long w), .second] [] := by first | (simp [entryFrame, mkF, argsToLocals, Value.category]; done) | rfl
set_option maxRecDepth 65536 in
set_option maxHeartbeats 40000000 in
theorem con_bc (l : Launch) (Z : State) (a0 : Array Value) (hw : ∀ d ∈ tables_1, d.before a0 Z = true) (n0 : Nat) (h0 : Heap) (hn0 : n0 ≤ h0.size) (w : Int64) :
    Con l Z n0 [] (⟨"java/lang/Long", "bitCount", "(J)I"⟩ : MethodName) jdk_35_method_50_code 2 (some .int) ({ frames := 0, cells := 0, slots := 0, locals := 0 } : Room) #[(.long w)] h0 (Qcon_bc Z n0 h0 w) := by
  refine Con.of pf_6 (fun m => ef_con_bc m w) hn0 ?_
  intro p e s m below meth c C
  refine C.lloadN d14_0 rfl rfl ?_
  refine C.lloadN d14_1 rfl rfl ?_
  refine C.iconst 1 d14_2 rfl rfl ?_
  refine C.lushr d14_3 rfl ?_
  refine C.ldc2J d14_4 rfl (tw hw 93 rfl) ?_
  refine C.land d14_7 rfl ?_
  refine C.lsub d14_8 rfl ?_
  refine C.lstoreN (Ls' := #[.val (.long (w - ((XT.ushrL w 1) &&& 6148914691236517205))), .second]) d14_9 rfl rfl ?_
  refine C.lloadN d14_10 rfl rfl ?_
  refine C.ldc2J d14_11 rfl (tw hw 94 rfl) ?_
  refine C.land d14_14 rfl ?_
  refine C.lloadN d14_15 rfl rfl ?_
  refine C.iconst 2 d14_16 rfl rfl ?_
  refine C.lushr d14_17 rfl ?_
  refine C.ldc2J d14_18 rfl (tw hw 94 rfl) ?_
  refine C.land d14_21 rfl ?_
  refine C.ladd d14_22 rfl ?_
  refine C.lstoreN (Ls' := #[.val (.long (((w - ((XT.ushrL w 1) &&& 6148914691236517205)) &&& 3689348814741910323) + ((XT.ushrL (w - ((XT.ushrL w 1) &&& 6148914691236517205)) 2) &&& 3689348814741910323))), .second]) d14_23 rfl rfl ?_
  refine C.lloadN d14_24 rfl rfl ?_
  refine C.lloadN d14_25 rfl rfl ?_
  refine C.iconst 4 d14_26 rfl rfl ?_
  refine C.lushr d14_27 rfl ?_
  refine C.ladd d14_28 rfl ?_
  refine C.ldc2J d14_29 rfl (tw hw 95 rfl) ?_
  refine C.land d14_32 rfl ?_
  refine C.lstoreN (Ls' := #[.val (.long (((((w - ((XT.ushrL w 1) &&& 6148914691236517205)) &&& 3689348814741910323) + ((XT.ushrL (w - ((XT.ushrL w 1) &&& 6148914691236517205)) 2) &&& 3689348814741910323)) + (XT.ushrL (((w - ((XT.ushrL w 1) &&& 6148914691236517205)) &&& 3689348814741910323) + ((XT.ushrL (w - ((XT.ushrL w 1) &&& 6148914691236517205)) 2) &&& 3689348814741910323)) 4)) &&& 1085102592571150095)), .second]) d14_33 rfl rfl ?_
  refine C.lloadN d14_34 rfl rfl ?_
  refine C.lloadN d14_35 rfl rfl ?_
  refine C.bipush 8 d14_36 rfl rfl ?_
  refine C.lushr d14_38 rfl ?_
  refine C.ladd d14_39 rfl ?_
  refine C.lstoreN (Ls' := #[.val (.long ((((((w - ((XT.ushrL w 1) &&& 6148914691236517205)) &&& 3689348814741910323) + ((XT.ushrL (w - ((XT.ushrL w 1) &&& 6148914691236517205)) 2) &&& 3689348814741910323)) + (XT.ushrL (((w - ((XT.ushrL w 1) &&& 6148914691236517205)) &&& 3689348814741910323) + ((XT.ushrL (w - ((XT.ushrL w 1) &&& 6148914691236517205)) 2) &&& 3689348814741910323)) 4)) &&& 1085102592571150095) + (XT.ushrL (((((w - ((XT.ushrL w 1) &&& 6148914691236517205)) &&& 3689348814741910323) + ((XT.ushrL (w - ((XT.ushrL w 1) &&& 6148914691236517205)) 2) &&& 3689348814741910323)) + (XT.ushrL (((w - ((XT.ushrL w 1) &&& 6148914691236517205)) &&& 3689348814741910323) + ((XT.ushrL (w - ((XT.ushrL w 1) &&& 6148914691236517205)) 2) &&& 3689348814741910323)) 4)) &&& 1085102592571150095) 8))), .second]) d14_40 rfl rfl ?_
  refine C.lloadN d14_41 rfl rfl ?_
  refine C.lloadN d14_42 rfl rfl ?_
  refine C.bipush 16 d14_43 rfl rfl ?_
  refine C.lushr d14_45 rfl ?_
  refine C.ladd d14_46 rfl ?_
  refine C.lstoreN (Ls' := #[.val (.long (((((((w - ((XT.ushrL w 1) &&& 6148914691236517205)) &&& 3689348814741910323) + ((XT.ushrL (w - ((XT.ushrL w 1) &&& 6148914691236517205)) 2) &&& 3689348814741910323)) + (XT.ushrL (((w - ((XT.ushrL w 1) &&& 6148914691236517205)) &&& 3689348814741910323) + ((XT.ushrL (w - ((XT.ushrL w 1) &&& 6148914691236517205)) 2) &&& 3689348814741910323)) 4)) &&& 1085102592571150095) + (XT.ushrL (((((w - ((XT.ushrL w 1) &&& 6148914691236517205)) &&& 3689348814741910323) + ((XT.ushrL (w - ((XT.ushrL w 1) &&& 6148914691236517205)) 2) &&& 3689348814741910323)) + (XT.ushrL (((w - ((XT.ushrL w 1) &&& 6148914691236517205)) &&& 3689348814741910323) + ((XT.ushrL (w - ((XT.ushrL w 1) &&& 6148914691236517205)) 2) &&& 3689348814741910323)) 4)) &&& 1085102592571150095) 8)) + (XT.ushrL ((((((w - ((XT.ushrL w 1) &&& 6148914691236517205)) &&& 3689348814741910323) + ((XT.ushrL (w - ((XT.ushrL w 1) &&& 6148914691236517205)) 2) &&& 3689348814741910323)) + (XT.ushrL (((w - ((XT.ushrL w 1) &&& 6148914691236517205)) &&& 3689348814741910323) + ((XT.ushrL (w - ((XT.ushrL w 1) &&& 6148914691236517205)) 2) &&& 3689348814741910323)) 4)) &&& 1085102592571150095) + (XT.ushrL (((((w - ((XT.ushrL w 1) &&& 6148914691236517205)) &&& 3689348814741910323) + ((XT.ushrL (w - ((XT.ushrL w 1) &&& 6148914691236517205)) 2) &&& 3689348814741910323)) + (XT.ushrL (((w - ((XT.ushrL w 1) &&& 6148914691236517205)) &&& 3689348814741910323) + ((XT.ushrL (w - ((XT.ushrL w 1) &&& 6148914691236517205)) 2) &&& 3689348814741910323)) 4)) &&& 1085102592571150095) 8)) 16))), .second]) d14_47 rfl rfl ?_
  refine C.lloadN d14_48 rfl rfl ?_
  refine C.lloadN d14_49 rfl rfl ?_
  refine C.bipush 32 d14_50 rfl rfl ?_
  refine C.lushr d14_52 rfl ?_
  refine C.ladd d14_53 rfl ?_
  refine C.lstoreN (Ls' := #[.val (.long ((((((((w - ((XT.ushrL w 1) &&& 6148914691236517205)) &&& 3689348814741910323) + ((XT.ushrL (w - ((XT.ushrL w 1) &&& 6148914691236517205)) 2) &&& 3689348814741910323)) + (XT.ushrL (((w - ((XT.ushrL w 1) &&& 6148914691236517205)) &&& 3689348814741910323) + ((XT.ushrL (w - ((XT.ushrL w 1) &&& 6148914691236517205)) 2) &&& 3689348814741910323)) 4)) &&& 1085102592571150095) + (XT.ushrL (((((w - ((XT.ushrL w 1) &&& 6148914691236517205)) &&& 3689348814741910323) + ((XT.ushrL (w - ((XT.ushrL w 1) &&& 6148914691236517205)) 2) &&& 3689348814741910323)) + (XT.ushrL (((w - ((XT.ushrL w 1) &&& 6148914691236517205)) &&& 3689348814741910323) + ((XT.ushrL (w - ((XT.ushrL w 1) &&& 6148914691236517205)) 2) &&& 3689348814741910323)) 4)) &&& 1085102592571150095) 8)) + (XT.ushrL ((((((w - ((XT.ushrL w 1) &&& 6148914691236517205)) &&& 3689348814741910323) + ((XT.ushrL (w - ((XT.ushrL w 1) &&& 6148914691236517205)) 2) &&& 3689348814741910323)) + (XT.ushrL (((w - ((XT.ushrL w 1) &&& 6148914691236517205)) &&& 3689348814741910323) + ((XT.ushrL (w - ((XT.ushrL w 1) &&& 6148914691236517205)) 2) &&& 3689348814741910323)) 4)) &&& 1085102592571150095) + (XT.ushrL (((((w - ((XT.ushrL w 1) &&& 6148914691236517205)) &&& 3689348814741910323) + ((XT.ushrL (w - ((XT.ushrL w 1) &&& 6148914691236517205)) 2) &&& 3689348814741910323)) + (XT.ushrL (((w - ((XT.ushrL w 1) &&& 6148914691236517205)) &&& 3689348814741910323) + ((XT.ushrL (w - ((XT.ushrL w 1) &&& 6148914691236517205)) 2) &&& 3689348814741910323)) 4)) &&& 1085102592571150095) 8)) 16)) + (XT.ushrL (((((((w - ((XT.ushrL w 1) &&& 6148914691236517205)) &&& 3689348814741910323) + ((XT.ushrL (w - ((XT.ushrL w 1) &&& 6148914691236517205)) 2) &&& 3689348814741910323)) + (XT.ushrL (((w - ((XT.ushrL w 1) &&& 6148914691236517205)) &&& 3689348814741910323) + ((XT.ushrL (w - ((XT.ushrL w 1) &&& 6148914691236517205)) 2) &&& 3689348814741910323)) 4)) &&& 1085102592571150095) + (XT.ushrL (((((w - ((XT.ushrL w 1) &&& 6148914691236517205)) &&& 3689348814741910323) + ((XT.ushrL (w - ((XT.ushrL w 1) &&& 6148914691236517205)) 2) &&& 3689348814741910323)) + (XT.ushrL (((w - ((XT.ushrL w 1) &&& 6148914691236517205)) &&& 3689348814741910323) + ((XT.ushrL (w - ((XT.ushrL w 1) &&& 6148914691236517205)) 2) &&& 3689348814741910323)) 4)) &&& 1085102592571150095) 8)) + (XT.ushrL ((((((w - ((XT.ushrL w 1) &&& 6148914691236517205)) &&& 3689348814741910323) + ((XT.ushrL (w - ((XT.ushrL w 1) &&& 6148914691236517205)) 2) &&& 3689348814741910323)) + (XT.ushrL (((w - ((XT.ushrL w 1) &&& 6148914691236517205)) &&& 3689348814741910323) + ((XT.ushrL (w - ((XT.ushrL w 1) &&& 6148914691236517205)) 2) &&& 3689348814741910323)) 4)) &&& 1085102592571150095) + (XT.ushrL (((((w - ((XT.ushrL w 1) &&& 6148914691236517205)) &&& 3689348814741910323) + ((XT.ushrL (w - ((XT.ushrL w 1) &&& 6148914691236517205)) 2) &&& 3689348814741910323)) + (XT.ushrL (((w - ((XT.ushrL w 1) &&& 6148914691236517205)) &&& 3689348814741910323) + ((XT.ushrL (w - ((XT.ushrL w 1) &&& 6148914691236517205)) 2) &&& 3689348814741910323)) 4)) &&& 1085102592571150095) 8)) 16)) 32))), .second]) d14_54 rfl rfl ?_
  refine C.lloadN d14_55 rfl rfl ?_
  refine C.l2i d14_56 rfl ?_
  refine C.bipush 127 d14_57 rfl rfl ?_
  refine C.iand d14_59 rfl ?_
  exact C.retI d14_60 (by decide) (by decide) ⟨rfl, rfl⟩
def own_ix (L : List (Int32 × Int64)) : List Value := L.map (fun p => .int p.1) ++ List.replicate (16 - L.length) (.int 0)
def own_wd (L : List (Int32 × Int64)) : List Value := L.map (fun p => .long p.2) ++ List.replicate (16 - L.length) (.long 0)
def own_sz (L : List (Int32 × Int64)) : Int32 := L.foldl (fun t p => t + own_bc p.2) 0
theorem own_ixl {L : List (Int32 × Int64)} (h : L.length ≤ 16) : (own_ix L).length = 16 := by simp [own_ix]; omega
theorem own_wdl {L : List (Int32 × Int64)} (h : L.length ≤ 16) : (own_wd L).length = 16 := by simp [own_wd]; omega
theorem own_rep {n : Nat} (v w : Value) (h : 0 < n) : (List.replicate n v).set 0 w = w :: List.replicate (n - 1) v := by
  match n, h with
  | n + 1, _ => rfl
theorem own_ixs {L : List (Int32 × Int64)} (p : Int32 × Int64) (h : L.length < 16) : (own_ix L).set L.length (.int p.1) = own_ix (L ++ [p]) := by
  simp only [own_ix]
  rw [List.set_append_right _ _ (by simp), List.length_map, Nat.sub_self, own_rep _ _ (by omega)]
  simp [show 16 - L.length - 1 = 16 - (L.length + 1) by omega]
theorem own_wds {L : List (Int32 × Int64)} (p : Int32 × Int64) (h : L.length < 16) : (own_wd L).set L.length (.long p.2) = own_wd (L ++ [p]) := by
  simp only [own_wd]
  rw [List.set_append_right _ _ (by simp), List.length_map, Nat.sub_self, own_rep _ _ (by omega)]
  simp [show 16 - L.length - 1 = 16 - (L.length + 1) by omega]
theorem own_ixg {L M : List (Int32 × Int64)} (p : Int32 × Int64) : (own_ix (L ++ [p] ++ M))[L.length]? = some (.int p.1) := by simp [own_ix]
theorem own_wdg {L M : List (Int32 × Int64)} (p : Int32 × Int64) : (own_wd (L ++ [p] ++ M))[L.length]? = some (.long p.2) := by simp [own_wd]
theorem own_tk {L M : List (Int32 × Int64)} {j : Nat} {p : Int32 × Int64} (h : M[j]? = some p) : L ++ M.take (j + 1) = (L ++ M.take j) ++ [p] := by
  rw [List.take_add_one, h]; simp
theorem own_szs {M : List (Int32 × Int64)} {j : Nat} {p : Int32 × Int64} (h : M[j]? = some p) : own_sz (M.take (j + 1)) = own_sz (M.take j) + own_bc p.2 := by
  rw [List.take_add_one, h]; simp [own_sz]
theorem own_sbN {a j : Nat} : Int32.ofNat (a + j) - Int32.ofNat a = Int32.ofNat j := by rw [Int32.ofNat_add, Int32.add_comm]; exact Int32.add_sub_cancel _ _
theorem own_ln {L M : List (Int32 × Int64)} {j : Nat} (h : j ≤ M.length) : (L ++ M.take j).length = L.length + j := by simp; omega
theorem d13_0 : decode prog_22_method_8_code 0 = .ok (.aload_n 0, 1) := by decide +kernel
theorem d13_1 : decode prog_22_method_8_code 1 = .ok (.dup, 1) := by decide +kernel
theorem d13_2 : decode prog_22_method_8_code 2 = .ok (.getfield 46, 3) := by decide +kernel
theorem d13_5 : decode prog_22_method_8_code 5 = .ok (.dup_x1, 1) := by decide +kernel
theorem d13_6 : decode prog_22_method_8_code 6 = .ok (.iconst 1, 1) := by decide +kernel
theorem d13_7 : decode prog_22_method_8_code 7 = .ok (.iadd, 1) := by decide +kernel
theorem d13_8 : decode prog_22_method_8_code 8 = .ok (.putfield 46, 3) := by decide +kernel
theorem d13_11 : decode prog_22_method_8_code 11 = .ok (.istore_n 3, 1) := by decide +kernel
theorem d13_12 : decode prog_22_method_8_code 12 = .ok (.aload_n 0, 1) := by decide +kernel
theorem d13_13 : decode prog_22_method_8_code 13 = .ok (.getfield 7, 3) := by decide +kernel
theorem d13_16 : decode prog_22_method_8_code 16 = .ok (.iload_n 3, 1) := by decide +kernel
theorem d13_17 : decode prog_22_method_8_code 17 = .ok (.iaload, 1) := by decide +kernel
theorem d13_18 : decode prog_22_method_8_code 18 = .ok (.istore 4, 2) := by decide +kernel
theorem d13_20 : decode prog_22_method_8_code 20 = .ok (.iload 4, 2) := by decide +kernel
theorem d13_22 : decode prog_22_method_8_code 22 = .ok (.aload_n 1, 1) := by decide +kernel
theorem d13_23 : decode prog_22_method_8_code 23 = .ok (.invokevirtual 61, 3) := by decide +kernel
theorem d13_26 : decode prog_22_method_8_code 26 = .ok (.iadd, 1) := by decide +kernel
theorem d13_27 : decode prog_22_method_8_code 27 = .ok (.istore 5, 2) := by decide +kernel
theorem d13_29 : decode prog_22_method_8_code 29 = .ok (.aload_n 0, 1) := by decide +kernel
theorem d13_30 : decode prog_22_method_8_code 30 = .ok (.getfield 46, 3) := by decide +kernel
theorem d13_33 : decode prog_22_method_8_code 33 = .ok (.aload_n 0, 1) := by decide +kernel
theorem d13_34 : decode prog_22_method_8_code 34 = .ok (.getfield 20, 3) := by decide +kernel
theorem d13_37 : decode prog_22_method_8_code 37 = .ok (.arraylength, 1) := by decide +kernel
theorem d13_38 : decode prog_22_method_8_code 38 = .ok (.if_icmp .ne 57, 3) := by decide +kernel
theorem d13_95 : decode prog_22_method_8_code 95 = .ok (.aload_n 0, 1) := by decide +kernel
theorem d13_96 : decode prog_22_method_8_code 96 = .ok (.getfield 13, 3) := by decide +kernel
theorem d13_99 : decode prog_22_method_8_code 99 = .ok (.arraylength, 1) := by decide +kernel
theorem d13_100 : decode prog_22_method_8_code 100 = .ok (.iload 5, 2) := by decide +kernel
theorem d13_102 : decode prog_22_method_8_code 102 = .ok (.if_icmp .ge 42, 3) := by decide +kernel
theorem d13_144 : decode prog_22_method_8_code 144 = .ok (.iload 4, 2) := by decide +kernel
theorem d13_146 : decode prog_22_method_8_code 146 = .ok (.istore 6, 2) := by decide +kernel
theorem d13_148 : decode prog_22_method_8_code 148 = .ok (.iload 6, 2) := by decide +kernel
theorem d13_150 : decode prog_22_method_8_code 150 = .ok (.iload 5, 2) := by decide +kernel
theorem d13_152 : decode prog_22_method_8_code 152 = .ok (.if_icmp .ge 62, 3) := by decide +kernel
theorem d13_155 : decode prog_22_method_8_code 155 = .ok (.aload_n 0, 1) := by decide +kernel
theorem d13_156 : decode prog_22_method_8_code 156 = .ok (.getfield 13, 3) := by decide +kernel
theorem d13_159 : decode prog_22_method_8_code 159 = .ok (.iload 6, 2) := by decide +kernel
theorem d13_161 : decode prog_22_method_8_code 161 = .ok (.aload_n 1, 1) := by decide +kernel
theorem d13_162 : decode prog_22_method_8_code 162 = .ok (.iload 6, 2) := by decide +kernel
theorem d13_164 : decode prog_22_method_8_code 164 = .ok (.iload 4, 2) := by decide +kernel
theorem d13_166 : decode prog_22_method_8_code 166 = .ok (.isub, 1) := by decide +kernel
theorem d13_167 : decode prog_22_method_8_code 167 = .ok (.invokevirtual 80, 3) := by decide +kernel
theorem d13_170 : decode prog_22_method_8_code 170 = .ok (.iastore, 1) := by decide +kernel
theorem d13_171 : decode prog_22_method_8_code 171 = .ok (.aload_n 0, 1) := by decide +kernel
theorem d13_172 : decode prog_22_method_8_code 172 = .ok (.getfield 16, 3) := by decide +kernel
theorem d13_175 : decode prog_22_method_8_code 175 = .ok (.iload 6, 2) := by decide +kernel
theorem d13_177 : decode prog_22_method_8_code 177 = .ok (.aload_n 1, 1) := by decide +kernel
theorem d13_178 : decode prog_22_method_8_code 178 = .ok (.aload_n 0, 1) := by decide +kernel
theorem d13_179 : decode prog_22_method_8_code 179 = .ok (.getfield 13, 3) := by decide +kernel
theorem d13_182 : decode prog_22_method_8_code 182 = .ok (.iload 6, 2) := by decide +kernel
theorem d13_184 : decode prog_22_method_8_code 184 = .ok (.iaload, 1) := by decide +kernel
theorem d13_185 : decode prog_22_method_8_code 185 = .ok (.invokevirtual 84, 3) := by decide +kernel
theorem d13_188 : decode prog_22_method_8_code 188 = .ok (.lastore, 1) := by decide +kernel
theorem d13_189 : decode prog_22_method_8_code 189 = .ok (.aload_n 0, 1) := by decide +kernel
theorem d13_190 : decode prog_22_method_8_code 190 = .ok (.getfield 20, 3) := by decide +kernel
theorem d13_193 : decode prog_22_method_8_code 193 = .ok (.iload_n 3, 1) := by decide +kernel
theorem d13_194 : decode prog_22_method_8_code 194 = .ok (.dup2, 1) := by decide +kernel
theorem d13_195 : decode prog_22_method_8_code 195 = .ok (.iaload, 1) := by decide +kernel
theorem d13_196 : decode prog_22_method_8_code 196 = .ok (.aload_n 0, 1) := by decide +kernel
theorem d13_197 : decode prog_22_method_8_code 197 = .ok (.getfield 16, 3) := by decide +kernel
theorem d13_200 : decode prog_22_method_8_code 200 = .ok (.iload 6, 2) := by decide +kernel
theorem d13_202 : decode prog_22_method_8_code 202 = .ok (.laload, 1) := by decide +kernel
theorem d13_203 : decode prog_22_method_8_code 203 = .ok (.invokestatic 88, 3) := by decide +kernel
theorem d13_206 : decode prog_22_method_8_code 206 = .ok (.iadd, 1) := by decide +kernel
theorem d13_207 : decode prog_22_method_8_code 207 = .ok (.iastore, 1) := by decide +kernel
theorem d13_208 : decode prog_22_method_8_code 208 = .ok (.iinc 6 1, 3) := by decide +kernel
theorem d13_211 : decode prog_22_method_8_code 211 = .ok (.goto (-63), 3) := by decide +kernel
theorem d13_214 : decode prog_22_method_8_code 214 = .ok (.aload_n 0, 1) := by decide +kernel
theorem d13_215 : decode prog_22_method_8_code 215 = .ok (.getfield 7, 3) := by decide +kernel
theorem d13_218 : decode prog_22_method_8_code 218 = .ok (.aload_n 0, 1) := by decide +kernel
theorem d13_219 : decode prog_22_method_8_code 219 = .ok (.getfield 46, 3) := by decide +kernel
theorem d13_222 : decode prog_22_method_8_code 222 = .ok (.iload 5, 2) := by decide +kernel
theorem d13_224 : decode prog_22_method_8_code 224 = .ok (.iastore, 1) := by decide +kernel
theorem d13_225 : decode prog_22_method_8_code 225 = .ok (.aload_n 0, 1) := by decide +kernel
theorem d13_226 : decode prog_22_method_8_code 226 = .ok (.getfield 23, 3) := by decide +kernel
theorem d13_229 : decode prog_22_method_8_code 229 = .ok (.iload_n 3, 1) := by decide +kernel
theorem d13_230 : decode prog_22_method_8_code 230 = .ok (.iload_n 2, 1) := by decide +kernel
theorem d13_231 : decode prog_22_method_8_code 231 = .ok (.iastore, 1) := by decide +kernel
theorem d13_232 : decode prog_22_method_8_code 232 = .ok (.iload_n 3, 1) := by decide +kernel
theorem d13_233 : decode prog_22_method_8_code 233 = .ok (.ireturn, 1) := by decide +kernel
theorem pf_7 : plainFor (⟨"com/example/detra/detra/StateSets", "add", "(Lcom/example/detra/detra/SetWords;I)I"⟩ : MethodName) = true := by first | exact plainFor_of_name (by first | (simp [plainName, overriddenIn]; done) | decide +kernel) | decide +kernel
theorem pd_3 : parseMethodDescriptor "(J)I" = some ⟨[.long], some .int⟩ := by decide +kernel
def Qcon_add0 (Z : State) (n0 : Nat) (h0 : Heap) (o : Addr) (os : Addr) (oi : Addr) (ow : Addr) (oz : Addr) (oh : Addr) (ot : Addr) (g : Addr) (gw : Addr) (gh : Addr) (hs : Int32) (l0 : List (Int32 × Int64)) (lb : List (Int32 × Int64)) (HL : List Value) (ws : List Value) (v : Option Value) (h' : Heap) : Prop := (v = some (.int 0)) ∧ (Keep h0 h' [o, os, oi, ow, oz, oh]) ∧ (Fld Z h' o kC1 "starts" "[I" (.ref os)) ∧ (Fld Z h' o kC1 "indices" "[I" (.ref oi)) ∧ (Fld Z h' o kC1 "words" "[J" (.ref ow)) ∧ (Fld Z h' o kC1 "sizes" "[I" (.ref oz)) ∧ (Fld Z h' o kC1 "hashes" "[I" (.ref oh)) ∧ (Fld Z h' o kC1 "table" "[I" (.ref ot)) ∧ (Fld Z h' o kC1 "size" "I" (.int 1)) ∧ (Av Z h' os .int (.int 0 :: .int (Int32.ofNat (l0.length + lb.length)) :: zI15)) ∧ (Av Z h' oi .int (own_ix (l0 ++ lb))) ∧ (Av Z h' ow .long (own_wd (l0 ++ lb))) ∧ (Av Z h' oz .int (.int (own_sz lb) :: zI15)) ∧ (Av Z h' oh .int (.int hs :: zI15))
theorem ef_con_add0 (m : MethodId) (o : Addr) (g : Addr) (hs : Int32) : entryFrame m #[(.ref o), (.ref g), (.int hs)] 7 = mkF m 0 #[rv o, rv g, iv hs, .unset, .unset, .unset, .unset] [] := by first | (simp [entryFrame, mkF, argsToLocals, Value.category]; done) | rfl
set_option maxRecDepth 65536 in
set_option maxHeartbeats 40000000 in
theorem con_add0 (l : Launch) (Z : State) (a0 : Array Value) (hw : ∀ d ∈ tables_1, d.before a0 Z = true) (n0 : Nat) (h0 : Heap) (hn0 : n0 ≤ h0.size) (o : Addr) (os : Addr) (oi : Addr) (ow : Addr) (oz : Addr) (oh : Addr) (ot : Addr) (g : Addr) (gw : Addr) (gh : Addr) (hs : Int32) (l0 : List (Int32 × Int64)) (lb : List (Int32 × Int64)) (HL : List Value) (ws : List Value) (P0 : Exa Z h0 o kC1) (P1 : Fld Z h0 o kC1 "starts" "[I" (.ref os)) (P2 : Fld Z h0 o kC1 "indices" "[I" (.ref oi)) (P3 : Fld Z h0 o kC1 "words" "[J" (.ref ow)) (P4 : Fld Z h0 o kC1 "sizes" "[I" (.ref oz)) (P5 : Fld Z h0 o kC1 "hashes" "[I" (.ref oh)) (P6 : Fld Z h0 o kC1 "table" "[I" (.ref ot)) (P7 : Fld Z h0 o kC1 "size" "I" (.int 0)) (P8 : Av Z h0 os .int zI17) (P9 : Av Z h0 oi .int (own_ix l0)) (P10 : Av Z h0 ow .long (own_wd l0)) (P11 : Av Z h0 oz .int zI16) (P12 : Av Z h0 oh .int zI16) (P13 : Exa Z h0 g kC0) (P14 : Fld Z h0 g kC0 "words" "[J" (.ref gw)) (P15 : Fld Z h0 g kC0 "held" "[I" (.ref gh)) (P16 : Fld Z h0 g kC0 "count" "I" (.int (Int32.ofNat lb.length))) (P17 : Av Z h0 gw .long ws) (P18 : Av Z h0 gh .int HL) (g_o : n0 ≤ o) (g_os : n0 ≤ os) (g_oi : n0 ≤ oi) (g_ow : n0 ≤ ow) (g_oz : n0 ≤ oz) (g_oh : n0 ≤ oh) (ne_o_os : o ≠ os) (ne_o_oi : o ≠ oi) (ne_o_ow : o ≠ ow) (ne_o_oz : o ≠ oz) (ne_o_oh : o ≠ oh) (ne_os_oi : os ≠ oi) (ne_os_ow : os ≠ ow) (ne_os_oz : os ≠ oz) (ne_os_oh : os ≠ oh) (ne_oi_ow : oi ≠ ow) (ne_oi_oz : oi ≠ oz) (ne_oi_oh : oi ≠ oh) (ne_ow_oz : ow ≠ oz) (ne_ow_oh : ow ≠ oh) (ne_oz_oh : oz ≠ oh) (ne_g_o : g ≠ o) (ne_g_os : g ≠ os) (ne_g_oi : g ≠ oi) (ne_g_ow : g ≠ ow) (ne_g_oz : g ≠ oz) (ne_g_oh : g ≠ oh) (ne_gw_o : gw ≠ o) (ne_gw_os : gw ≠ os) (ne_gw_oi : gw ≠ oi) (ne_gw_ow : gw ≠ ow) (ne_gw_oz : gw ≠ oz) (ne_gw_oh : gw ≠ oh) (ne_gh_o : gh ≠ o) (ne_gh_os : gh ≠ os) (ne_gh_oi : gh ≠ oi) (ne_gh_ow : gh ≠ ow) (ne_gh_oz : gh ≠ oz) (ne_gh_oh : gh ≠ oh) (hhd : own_hd lb HL) (hws : own_ws lb ws) (hl00 : l0 = []) (hlb : lb.length ≤ 3) :
    Con l Z n0 [] (⟨"com/example/detra/detra/StateSets", "add", "(Lcom/example/detra/detra/SetWords;I)I"⟩ : MethodName) prog_22_method_8_code 7 (some .int) ({ frames := 1, cells := 0, slots := 0, locals := 16 } : Room) #[(.ref o), (.ref g), (.int hs)] h0 (Qcon_add0 Z n0 h0 o os oi ow oz oh ot g gw gh hs l0 lb HL ws) := by
  refine Con.of pf_7 (fun m => ef_con_add0 m o g hs) hn0 ?_
  intro p e s m below meth c C
  have hl0 : l0.length ≤ 3 := by rw [hl00]; exact Nat.zero_le 3
  refine C.aloadN d13_0 rfl rfl rfl ?_
  refine C.dup d13_1 rfl rfl ?_
  refine C.getF d13_2 rfl (tw hw 87 rfl) P7 ?_
  refine C.dupX1 d13_5 rfl rfl rfl ?_
  refine C.iconst 1 d13_6 rfl rfl ?_
  refine C.iadd d13_7 rfl ?_
  refine Go.cI (y := 1) rfl ?_
  refine C.putF d13_8 rfl (tw hw 87 rfl) P7 P0 (Or.inl (tw hw 88 rfl)) (tw hw 1 rfl) (ty := .int) (by decide) rfl rfl g_o (fun h504 W505 F506 => ?_)
  have F507 := Exa.wr W505 P0
  have F508 := Fld.other W505 P1 (Or.inr (slot_ne (C := kC1) (t := (.array .int)) (t' := .int) (Or.inl (tw hw 11 rfl)) (Or.inl (tw hw 88 rfl)) (by decide) (by decide) (by decide)))
  have F509 := Fld.other W505 P2 (Or.inr (slot_ne (C := kC1) (t := (.array .int)) (t' := .int) (Or.inl (tw hw 13 rfl)) (Or.inl (tw hw 88 rfl)) (by decide) (by decide) (by decide)))
  have F510 := Fld.other W505 P3 (Or.inr (slot_ne (C := kC1) (t := (.array .long)) (t' := .int) (Or.inl (tw hw 16 rfl)) (Or.inl (tw hw 88 rfl)) (by decide) (by decide) (by decide)))
  have F511 := Fld.other W505 P4 (Or.inr (slot_ne (C := kC1) (t := (.array .int)) (t' := .int) (Or.inl (tw hw 18 rfl)) (Or.inl (tw hw 88 rfl)) (by decide) (by decide) (by decide)))
  have F512 := Fld.other W505 P5 (Or.inr (slot_ne (C := kC1) (t := (.array .int)) (t' := .int) (Or.inl (tw hw 20 rfl)) (Or.inl (tw hw 88 rfl)) (by decide) (by decide) (by decide)))
  have F513 := Fld.other W505 P6 (Or.inr (slot_ne (C := kC1) (t := (.array .int)) (t' := .int) (Or.inl (tw hw 22 rfl)) (Or.inl (tw hw 88 rfl)) (by decide) (by decide) (by decide)))
  have F514 := P8.other W505 (Ne.symm ne_o_os)
  have F515 := P9.other W505 (Ne.symm ne_o_oi)
  have F516 := P10.other W505 (Ne.symm ne_o_ow)
  have F517 := P11.other W505 (Ne.symm ne_o_oz)
  have F518 := P12.other W505 (Ne.symm ne_o_oh)
  have F519 := Exa.wr W505 P13
  have F520 := Fld.other W505 P14 (Or.inl ne_g_o)
  have F521 := Fld.other W505 P15 (Or.inl ne_g_o)
  have F522 := Fld.other W505 P16 (Or.inl ne_g_o)
  have F523 := P17.other W505 ne_gw_o
  have F524 := P18.other W505 ne_gh_o
  refine C.istoreN (Ls' := #[rv o, rv g, iv hs, iv 0, .unset, .unset, .unset]) d13_11 rfl rfl ?_
  refine C.aloadN d13_12 rfl rfl rfl ?_
  refine C.getF d13_13 rfl (tw hw 10 rfl) F508 ?_
  refine C.iloadN d13_16 rfl rfl ?_
  refine C.iaload (.int (Int32.ofNat l0.length)) d13_17 rfl F514 (by decide) (by subst hl00; rfl) ?_
  refine C.istore (Ls' := #[rv o, rv g, iv hs, iv 0, iv (Int32.ofNat l0.length), .unset, .unset]) d13_18 rfl rfl ?_
  refine C.iload d13_20 rfl rfl ?_
  refine C.aloadN d13_22 rfl rfl rfl ?_
  refine C.callV (argsL := []) (rest := [(.int (Int32.ofNat l0.length))]) 1 (fun zz => con_hc l Z a0 hw n0 h504 zz g (Int32.ofNat lb.length) F522) F519 d13_23 rfl (tw hw 67 rfl) (tw hw 68 rfl) (tw hw 69 rfl) (tw hw 70 rfl) (tw hw 25 rfl) (tw hw 71 rfl) (by decide) pd_0 rfl rfl rfl (Nat.le_of_eq rfl) (by decide) (by decide) (by decide) (by decide) (fun v525 h526 r527 => ?_)
  obtain ⟨rfl, rfl⟩ := r527
  refine C.iadd d13_26 rfl ?_
  rw [← Int32.ofNat_add]
  refine C.istore (Ls' := #[rv o, rv g, iv hs, iv 0, iv (Int32.ofNat l0.length), iv (Int32.ofNat (l0.length + lb.length)), .unset]) d13_27 rfl rfl ?_
  refine C.aloadN d13_29 rfl rfl rfl ?_
  refine C.getF d13_30 rfl (tw hw 87 rfl) F506 ?_
  refine C.aloadN d13_33 rfl rfl rfl ?_
  refine C.getF d13_34 rfl (tw hw 17 rfl) F511 ?_
  refine C.alen d13_37 rfl F517 ?_
  refine Go.cI (y := 16) rfl ?_
  refine C.icmp_ne_t d13_38 (by decide) rfl (by decide) ?_
  refine C.aloadN d13_95 rfl rfl rfl ?_
  refine C.getF d13_96 rfl (tw hw 12 rfl) F509 ?_
  refine C.alen d13_99 rfl F515 ?_
  rw [show (own_ix l0).length.toInt32 = (16 : Int32) by rw [own_ixl (by omega)]; rfl]
  refine C.iload d13_100 rfl rfl ?_
  refine C.icmp_ge_t d13_102 (by decide) rfl (by rw [show (16 : Int32) = Int32.ofNat 16 from rfl, own_ltN (by omega) (by omega)]; omega) ?_
  refine C.iload d13_144 rfl rfl ?_
  refine C.istore (Ls' := #[rv o, rv g, iv hs, iv 0, iv (Int32.ofNat l0.length), iv (Int32.ofNat (l0.length + lb.length)), iv (Int32.ofNat l0.length)]) d13_146 rfl rfl ?_
  have F529 : Av Z h504 oi .int (own_ix (l0 ++ lb.take 0)) := (by rw [List.take_zero, List.append_nil]; exact F515)
  have F530 : Av Z h504 ow .long (own_wd (l0 ++ lb.take 0)) := (by rw [List.take_zero, List.append_nil]; exact F516)
  have F531 : Av Z h504 oz .int (.int (own_sz (lb.take 0)) :: zI15) := F517
  have JA553 : ∀ (m_ j : Nat) (hJ532 : Heap) (hj : j + m_ = lb.length) (F533 : Exa Z hJ532 o kC1) (F534 : Fld Z hJ532 o kC1 "starts" "[I" (.ref os)) (F535 : Fld Z hJ532 o kC1 "indices" "[I" (.ref oi)) (F536 : Fld Z hJ532 o kC1 "words" "[J" (.ref ow)) (F537 : Fld Z hJ532 o kC1 "sizes" "[I" (.ref oz)) (F538 : Fld Z hJ532 o kC1 "hashes" "[I" (.ref oh)) (F539 : Fld Z hJ532 o kC1 "table" "[I" (.ref ot)) (F540 : Av Z hJ532 os .int zI17) (F541 : Av Z hJ532 oi .int (own_ix (l0 ++ lb.take j))) (F542 : Av Z hJ532 ow .long (own_wd (l0 ++ lb.take j))) (F543 : Av Z hJ532 oz .int (.int (own_sz (lb.take j)) :: zI15)) (F544 : Av Z hJ532 oh .int zI16) (F545 : Exa Z hJ532 g kC0) (F546 : Fld Z hJ532 g kC0 "words" "[J" (.ref gw)) (F547 : Fld Z hJ532 g kC0 "held" "[I" (.ref gh)) (F548 : Fld Z hJ532 g kC0 "count" "I" (.int (Int32.ofNat lb.length))) (F549 : Av Z hJ532 gw .long ws) (F550 : Av Z hJ532 gh .int HL) (F551 : Fld Z hJ532 o kC1 "size" "I" (.int 1)) (KJ552 : Keep h0 hJ532 [o, os, oi, ow, oz, oh]), Go p l e ({ frames := 1, cells := 0, slots := 0, locals := 16 } : Room) s m #[(.ref o), (.ref g), (.int hs)] below meth c n0 (FinQ s n0 (Qcon_add0 Z n0 h0 o os oi ow oz oh ot g gw gh hs l0 lb HL ws) ({ frames := 1, cells := 0, slots := 0, locals := 16 } : Room).cells ({ frames := 1, cells := 0, slots := 0, locals := 16 } : Room).slots) hJ532 0 0 148 #[rv o, rv g, iv hs, iv 0, iv (Int32.ofNat l0.length), iv (Int32.ofNat (l0.length + lb.length)), iv (Int32.ofNat (l0.length + j))] [] := by
    intro m_; induction m_ with
    | zero =>
      intro j hJ532 hj F533 F534 F535 F536 F537 F538 F539 F540 F541 F542 F543 F544 F545 F546 F547 F548 F549 F550 F551 KJ552
      obtain rfl : j = lb.length := by omega
      refine C.iload d13_148 rfl rfl ?_
      refine C.iload d13_150 rfl rfl ?_
      refine C.icmp_ge_t d13_152 (by decide) rfl (by rw [own_ltN (by omega) (by omega)]; omega) ?_
      refine C.aloadN d13_214 rfl rfl rfl ?_
      refine C.getF d13_215 rfl (tw hw 10 rfl) F534 ?_
      refine C.aloadN d13_218 rfl rfl rfl ?_
      refine C.getF d13_219 rfl (tw hw 87 rfl) F551 ?_
      refine C.iload d13_222 rfl rfl ?_
      refine C.iastore d13_224 rfl F540 g_os (by decide) (Nat.le_of_ble_eq_true rfl) (fun h554 W555 F556 => ?_)
      have F557 := Exa.wr W555 F533
      have F558 := Fld.other W555 F534 (Or.inl ne_o_os)
      have F559 := Fld.other W555 F535 (Or.inl ne_o_os)
      have F560 := Fld.other W555 F536 (Or.inl ne_o_os)
      have F561 := Fld.other W555 F537 (Or.inl ne_o_os)
      have F562 := Fld.other W555 F538 (Or.inl ne_o_os)
      have F563 := Fld.other W555 F539 (Or.inl ne_o_os)
      have F564 := F541.other W555 (Ne.symm ne_os_oi)
      have F565 := F542.other W555 (Ne.symm ne_os_ow)
      have F566 := F543.other W555 (Ne.symm ne_os_oz)
      have F567 := F544.other W555 (Ne.symm ne_os_oh)
      have F568 := Exa.wr W555 F545
      have F569 := Fld.other W555 F546 (Or.inl ne_g_os)
      have F570 := Fld.other W555 F547 (Or.inl ne_g_os)
      have F571 := Fld.other W555 F548 (Or.inl ne_g_os)
      have F572 := F549.other W555 ne_gw_os
      have F573 := F550.other W555 ne_gh_os
      have F574 := Fld.other W555 F551 (Or.inl ne_o_os)
      have F575 : Av Z h554 os .int (.int 0 :: .int (Int32.ofNat (l0.length + lb.length)) :: zI15) := F556
      refine C.aloadN d13_225 rfl rfl rfl ?_
      refine C.getF d13_226 rfl (tw hw 19 rfl) F562 ?_
      refine C.iloadN d13_229 rfl rfl ?_
      refine C.iloadN d13_230 rfl rfl ?_
      refine C.iastore d13_231 rfl F567 g_oh (by decide) (Nat.le_of_ble_eq_true rfl) (fun h576 W577 F578 => ?_)
      have F579 := Exa.wr W577 F557
      have F580 := Fld.other W577 F558 (Or.inl ne_o_oh)
      have F581 := Fld.other W577 F559 (Or.inl ne_o_oh)
      have F582 := Fld.other W577 F560 (Or.inl ne_o_oh)
      have F583 := Fld.other W577 F561 (Or.inl ne_o_oh)
      have F584 := Fld.other W577 F562 (Or.inl ne_o_oh)
      have F585 := Fld.other W577 F563 (Or.inl ne_o_oh)
      have F586 := F564.other W577 ne_oi_oh
      have F587 := F565.other W577 ne_ow_oh
      have F588 := F566.other W577 ne_oz_oh
      have F589 := Exa.wr W577 F568
      have F590 := Fld.other W577 F569 (Or.inl ne_g_oh)
      have F591 := Fld.other W577 F570 (Or.inl ne_g_oh)
      have F592 := Fld.other W577 F571 (Or.inl ne_g_oh)
      have F593 := F572.other W577 ne_gw_oh
      have F594 := F573.other W577 ne_gh_oh
      have F595 := Fld.other W577 F574 (Or.inl ne_o_oh)
      have F596 := F575.other W577 ne_os_oh
      have F597 : Av Z h576 oh .int (.int hs :: zI15) := F578
      refine C.iloadN d13_232 rfl rfl ?_
      exact C.retI d13_233 (by decide) (by decide) ⟨rfl, ((KJ552.wr W555 (Or.inl (List.mem_of_getElem? (i := 1) rfl))).wr W577 (Or.inl (List.mem_of_getElem? (i := 5) rfl))), F580, F581, F582, F583, F584, F585, F595, F596, (by have q := F586; rw [List.take_length] at q; exact q), (by have q := F587; rw [List.take_length] at q; exact q), (by have q := F588; rw [List.take_length] at q; exact q), F597⟩
    | succ m_ ih =>
      intro j hJ532 hj F533 F534 F535 F536 F537 F538 F539 F540 F541 F542 F543 F544 F545 F546 F547 F548 F549 F550 F551 KJ552
      obtain ⟨pp, hp, hm⟩ := own_at (lb := lb) (j := j) (by omega)
      refine C.iload d13_148 rfl rfl ?_
      refine C.iload d13_150 rfl rfl ?_
      refine C.icmp_ge_f d13_152 rfl (by rw [own_ltN (by omega) (by omega)]; omega) ?_
      refine C.aloadN d13_155 rfl rfl rfl ?_
      refine C.getF d13_156 rfl (tw hw 12 rfl) F535 ?_
      refine C.iload d13_159 rfl rfl ?_
      refine C.aloadN d13_161 rfl rfl rfl ?_
      refine C.iload d13_162 rfl rfl ?_
      refine C.iload d13_164 rfl rfl ?_
      refine C.isub d13_166 rfl ?_
      rw [own_sbN]
      refine C.callV (argsL := [(.int (Int32.ofNat j))]) (rest := [(.int (Int32.ofNat (l0.length + j))), (.ref oi)]) 2 (fun zz => con_hi l Z a0 hw n0 hJ532 zz g gh (Int32.ofNat j) pp.1 HL F547 F550 (own_nn (by omega)) (by rw [own_toN (by omega)]; exact hhd _ _ hp)) F545 d13_167 rfl (tw hw 72 rfl) (tw hw 73 rfl) (tw hw 74 rfl) (tw hw 75 rfl) (tw hw 25 rfl) (tw hw 76 rfl) (by decide) pd_1 rfl rfl rfl (Nat.le_of_eq rfl) (by decide) (by decide) (by decide) (by decide) (fun v598 h599 r600 => ?_)
      obtain ⟨rfl, rfl⟩ := r600
      refine C.iastore d13_170 rfl F541 g_oi (own_nn (by omega)) (by rw [own_toN (by omega), own_ixl (by rw [own_ln (by omega)]; omega)]; omega) (fun h602 W603 F604 => ?_)
      have F605 := Exa.wr W603 F533
      have F606 := Fld.other W603 F534 (Or.inl ne_o_oi)
      have F607 := Fld.other W603 F535 (Or.inl ne_o_oi)
      have F608 := Fld.other W603 F536 (Or.inl ne_o_oi)
      have F609 := Fld.other W603 F537 (Or.inl ne_o_oi)
      have F610 := Fld.other W603 F538 (Or.inl ne_o_oi)
      have F611 := Fld.other W603 F539 (Or.inl ne_o_oi)
      have F612 := F540.other W603 ne_os_oi
      have F613 := F542.other W603 (Ne.symm ne_oi_ow)
      have F614 := F543.other W603 (Ne.symm ne_oi_oz)
      have F615 := F544.other W603 (Ne.symm ne_oi_oh)
      have F616 := Exa.wr W603 F545
      have F617 := Fld.other W603 F546 (Or.inl ne_g_oi)
      have F618 := Fld.other W603 F547 (Or.inl ne_g_oi)
      have F619 := Fld.other W603 F548 (Or.inl ne_g_oi)
      have F620 := F549.other W603 ne_gw_oi
      have F621 := F550.other W603 ne_gh_oi
      have F622 := Fld.other W603 F551 (Or.inl ne_o_oi)
      have F623 : Av Z h602 oi .int (own_ix (l0 ++ lb.take (j + 1))) := (by have q := F604; rw [own_toN (by omega), ← own_ln (L := l0) (M := lb) (j := j) (by omega), own_ixs pp (by rw [own_ln (by omega)]; omega), ← own_tk hp] at q; exact q)
      refine C.aloadN d13_171 rfl rfl rfl ?_
      refine C.getF d13_172 rfl (tw hw 15 rfl) F608 ?_
      refine C.iload d13_175 rfl rfl ?_
      refine C.aloadN d13_177 rfl rfl rfl ?_
      refine C.aloadN d13_178 rfl rfl rfl ?_
      refine C.getF d13_179 rfl (tw hw 12 rfl) F607 ?_
      refine C.iload d13_182 rfl rfl ?_
      refine C.iaload (.int pp.1) d13_184 rfl F623 (own_nn (by omega)) (by rw [own_toN (by omega), ← own_ln (L := l0) (M := lb) (j := j) (by omega), own_tk hp]; have q := own_ixg (L := l0 ++ lb.take j) (M := []) pp; simpa using q) ?_
      refine C.callV (argsL := [(.int pp.1)]) (rest := [(.int (Int32.ofNat (l0.length + j))), (.ref ow)]) 2 (fun zz => con_wd l Z a0 hw n0 h602 zz g gw pp.1 pp.2 ws F617 F620 (hws _ hm).1 (hws _ hm).2) F616 d13_185 rfl (tw hw 77 rfl) (tw hw 78 rfl) (tw hw 79 rfl) (tw hw 80 rfl) (tw hw 25 rfl) (tw hw 81 rfl) (by decide) pd_2 rfl rfl rfl (Nat.le_of_eq rfl) (by decide) (by decide) (by decide) (by decide) (fun v624 h625 r626 => ?_)
      obtain ⟨rfl, rfl⟩ := r626
      refine C.lastore d13_188 rfl F613 g_ow (own_nn (by omega)) (by rw [own_toN (by omega), own_wdl (by rw [own_ln (by omega)]; omega)]; omega) (fun h628 W629 F630 => ?_)
      have F631 := Exa.wr W629 F605
      have F632 := Fld.other W629 F606 (Or.inl ne_o_ow)
      have F633 := Fld.other W629 F607 (Or.inl ne_o_ow)
      have F634 := Fld.other W629 F608 (Or.inl ne_o_ow)
      have F635 := Fld.other W629 F609 (Or.inl ne_o_ow)
      have F636 := Fld.other W629 F610 (Or.inl ne_o_ow)
      have F637 := Fld.other W629 F611 (Or.inl ne_o_ow)
      have F638 := F612.other W629 ne_os_ow
      have F639 := F614.other W629 (Ne.symm ne_ow_oz)
      have F640 := F615.other W629 (Ne.symm ne_ow_oh)
      have F641 := Exa.wr W629 F616
      have F642 := Fld.other W629 F617 (Or.inl ne_g_ow)
      have F643 := Fld.other W629 F618 (Or.inl ne_g_ow)
      have F644 := Fld.other W629 F619 (Or.inl ne_g_ow)
      have F645 := F620.other W629 ne_gw_ow
      have F646 := F621.other W629 ne_gh_ow
      have F647 := Fld.other W629 F622 (Or.inl ne_o_ow)
      have F648 := F623.other W629 ne_oi_ow
      have F649 : Av Z h628 ow .long (own_wd (l0 ++ lb.take (j + 1))) := (by have q := F630; rw [own_toN (by omega), ← own_ln (L := l0) (M := lb) (j := j) (by omega), own_wds pp (by rw [own_ln (by omega)]; omega), ← own_tk hp] at q; exact q)
      refine C.aloadN d13_189 rfl rfl rfl ?_
      refine C.getF d13_190 rfl (tw hw 17 rfl) F635 ?_
      refine C.iloadN d13_193 rfl rfl ?_
      refine C.dup2 d13_194 rfl rfl rfl ?_
      refine C.iaload (.int (own_sz (lb.take j))) d13_195 rfl F639 (by decide) rfl ?_
      refine C.aloadN d13_196 rfl rfl rfl ?_
      refine C.getF d13_197 rfl (tw hw 15 rfl) F634 ?_
      refine C.iload d13_200 rfl rfl ?_
      refine C.laload (.long pp.2) d13_202 rfl F649 (own_nn (by omega)) (by rw [own_toN (by omega), ← own_ln (L := l0) (M := lb) (j := j) (by omega), own_tk hp]; have q := own_wdg (L := l0 ++ lb.take j) (M := []) pp; simpa using q) ?_
      refine C.callS (argsL := [(.long pp.2)]) (rest := [(.int (own_sz (lb.take j))), (.int 0), (.ref oz)]) 3 (fun zz => con_bc l Z a0 hw n0 h628 zz pp.2 ) d13_203 rfl (tw hw 89 rfl) (tw hw 90 rfl) (tw hw 91 rfl) (tw hw 92 rfl) (by decide) pd_3 rfl rfl rfl (Nat.le_of_eq rfl) (by decide) (by decide) (by decide) (by decide) (fun v650 h651 r652 => ?_)
      obtain ⟨rfl, rfl⟩ := r652
      refine C.iadd d13_206 rfl ?_
      refine C.iastore d13_207 rfl F639 g_oz (by decide) (Nat.le_of_ble_eq_true rfl) (fun h654 W655 F656 => ?_)
      have F657 := Exa.wr W655 F631
      have F658 := Fld.other W655 F632 (Or.inl ne_o_oz)
      have F659 := Fld.other W655 F633 (Or.inl ne_o_oz)
      have F660 := Fld.other W655 F634 (Or.inl ne_o_oz)
      have F661 := Fld.other W655 F635 (Or.inl ne_o_oz)
      have F662 := Fld.other W655 F636 (Or.inl ne_o_oz)
      have F663 := Fld.other W655 F637 (Or.inl ne_o_oz)
      have F664 := F638.other W655 ne_os_oz
      have F665 := F640.other W655 (Ne.symm ne_oz_oh)
      have F666 := Exa.wr W655 F641
      have F667 := Fld.other W655 F642 (Or.inl ne_g_oz)
      have F668 := Fld.other W655 F643 (Or.inl ne_g_oz)
      have F669 := Fld.other W655 F644 (Or.inl ne_g_oz)
      have F670 := F645.other W655 ne_gw_oz
      have F671 := F646.other W655 ne_gh_oz
      have F672 := Fld.other W655 F647 (Or.inl ne_o_oz)
      have F673 := F648.other W655 ne_oi_oz
      have F674 := F649.other W655 ne_ow_oz
      have F675 : Av Z h654 oz .int (.int ((own_sz (lb.take j)) + (own_bc pp.2)) :: zI15) := F656
      have F676 : Av Z h654 oz .int (.int (own_sz (lb.take (j + 1))) :: zI15) := (by rw [own_szs hp]; exact F675)
      refine C.iinc (Ls' := #[rv o, rv g, iv hs, iv 0, iv (Int32.ofNat l0.length), iv (Int32.ofNat (l0.length + lb.length)), iv ((Int32.ofNat (l0.length + j)) + 1)]) 1 d13_208 rfl rfl rfl rfl ?_
      refine C.goto d13_211 (by decide) rfl ?_
      rw [own_s1, Nat.add_assoc]
      exact ih (j + 1) h654 (by omega) F657 F658 F659 F660 F661 F662 F663 F664 F673 F674 F676 F665 F666 F667 F668 F669 F670 F671 F672 (((KJ552.wr W603 (Or.inl (List.mem_of_getElem? (i := 2) rfl))).wr W629 (Or.inl (List.mem_of_getElem? (i := 3) rfl))).wr W655 (Or.inl (List.mem_of_getElem? (i := 4) rfl)))
  exact JA553 lb.length 0 h504 (by omega) F507 F508 F509 F510 F511 F512 F513 F514 F529 F530 F531 F518 F519 F520 F521 F522 F523 F524 F506 ((Keep.refl h0 [o, os, oi, ow, oz, oh]).wr W505 (Or.inl (List.mem_of_getElem? (i := 0) rfl)))
def Qcon_add1 (Z : State) (n0 : Nat) (h0 : Heap) (o : Addr) (os : Addr) (oi : Addr) (ow : Addr) (oz : Addr) (oh : Addr) (ot : Addr) (g : Addr) (gw : Addr) (gh : Addr) (hs : Int32) (l0 : List (Int32 × Int64)) (lb : List (Int32 × Int64)) (HL : List Value) (ws : List Value) (z0 : Int32) (v0 : Int32) (v : Option Value) (h' : Heap) : Prop := (v = some (.int 1)) ∧ (Keep h0 h' [o, os, oi, ow, oz, oh]) ∧ (Fld Z h' o kC1 "starts" "[I" (.ref os)) ∧ (Fld Z h' o kC1 "indices" "[I" (.ref oi)) ∧ (Fld Z h' o kC1 "words" "[J" (.ref ow)) ∧ (Fld Z h' o kC1 "sizes" "[I" (.ref oz)) ∧ (Fld Z h' o kC1 "hashes" "[I" (.ref oh)) ∧ (Fld Z h' o kC1 "table" "[I" (.ref ot)) ∧ (Fld Z h' o kC1 "size" "I" (.int 2)) ∧ (Av Z h' os .int (.int 0 :: .int (Int32.ofNat l0.length) :: .int (Int32.ofNat (l0.length + lb.length)) :: zI14)) ∧ (Av Z h' oi .int (own_ix (l0 ++ lb))) ∧ (Av Z h' ow .long (own_wd (l0 ++ lb))) ∧ (Av Z h' oz .int (.int z0 :: .int (own_sz lb) :: zI14)) ∧ (Av Z h' oh .int (.int v0 :: .int hs :: zI14))
theorem ef_con_add1 (m : MethodId) (o : Addr) (g : Addr) (hs : Int32) : entryFrame m #[(.ref o), (.ref g), (.int hs)] 7 = mkF m 0 #[rv o, rv g, iv hs, .unset, .unset, .unset, .unset] [] := by first | (simp [entryFrame, mkF, argsToLocals, Value.category]; done) | rfl
set_option maxRecDepth 65536 in
set_option maxHeartbeats 40000000 in
theorem con_add1 (l : Launch) (Z : State) (a0 : Array Value) (hw : ∀ d ∈ tables_1, d.before a0 Z = true) (n0 : Nat) (h0 : Heap) (hn0 : n0 ≤ h0.size) (o : Addr) (os : Addr) (oi : Addr) (ow : Addr) (oz : Addr) (oh : Addr) (ot : Addr) (g : Addr) (gw : Addr) (gh : Addr) (hs : Int32) (l0 : List (Int32 × Int64)) (lb : List (Int32 × Int64)) (HL : List Value) (ws : List Value) (z0 : Int32) (v0 : Int32) (P0 : Exa Z h0 o kC1) (P1 : Fld Z h0 o kC1 "starts" "[I" (.ref os)) (P2 : Fld Z h0 o kC1 "indices" "[I" (.ref oi)) (P3 : Fld Z h0 o kC1 "words" "[J" (.ref ow)) (P4 : Fld Z h0 o kC1 "sizes" "[I" (.ref oz)) (P5 : Fld Z h0 o kC1 "hashes" "[I" (.ref oh)) (P6 : Fld Z h0 o kC1 "table" "[I" (.ref ot)) (P7 : Fld Z h0 o kC1 "size" "I" (.int 1)) (P8 : Av Z h0 os .int (.int 0 :: .int (Int32.ofNat l0.length) :: zI15)) (P9 : Av Z h0 oi .int (own_ix l0)) (P10 : Av Z h0 ow .long (own_wd l0)) (P11 : Av Z h0 oz .int (.int z0 :: zI15)) (P12 : Av Z h0 oh .int (.int v0 :: zI15)) (P13 : Exa Z h0 g kC0) (P14 : Fld Z h0 g kC0 "words" "[J" (.ref gw)) (P15 : Fld Z h0 g kC0 "held" "[I" (.ref gh)) (P16 : Fld Z h0 g kC0 "count" "I" (.int (Int32.ofNat lb.length))) (P17 : Av Z h0 gw .long ws) (P18 : Av Z h0 gh .int HL) (g_o : n0 ≤ o) (g_os : n0 ≤ os) (g_oi : n0 ≤ oi) (g_ow : n0 ≤ ow) (g_oz : n0 ≤ oz) (g_oh : n0 ≤ oh) (ne_o_os : o ≠ os) (ne_o_oi : o ≠ oi) (ne_o_ow : o ≠ ow) (ne_o_oz : o ≠ oz) (ne_o_oh : o ≠ oh) (ne_os_oi : os ≠ oi) (ne_os_ow : os ≠ ow) (ne_os_oz : os ≠ oz) (ne_os_oh : os ≠ oh) (ne_oi_ow : oi ≠ ow) (ne_oi_oz : oi ≠ oz) (ne_oi_oh : oi ≠ oh) (ne_ow_oz : ow ≠ oz) (ne_ow_oh : ow ≠ oh) (ne_oz_oh : oz ≠ oh) (ne_g_o : g ≠ o) (ne_g_os : g ≠ os) (ne_g_oi : g ≠ oi) (ne_g_ow : g ≠ ow) (ne_g_oz : g ≠ oz) (ne_g_oh : g ≠ oh) (ne_gw_o : gw ≠ o) (ne_gw_os : gw ≠ os) (ne_gw_oi : gw ≠ oi) (ne_gw_ow : gw ≠ ow) (ne_gw_oz : gw ≠ oz) (ne_gw_oh : gw ≠ oh) (ne_gh_o : gh ≠ o) (ne_gh_os : gh ≠ os) (ne_gh_oi : gh ≠ oi) (ne_gh_ow : gh ≠ ow) (ne_gh_oz : gh ≠ oz) (ne_gh_oh : gh ≠ oh) (hhd : own_hd lb HL) (hws : own_ws lb ws) (hl0 : l0.length ≤ 3) (hlb : lb.length ≤ 3) :
    Con l Z n0 [] (⟨"com/example/detra/detra/StateSets", "add", "(Lcom/example/detra/detra/SetWords;I)I"⟩ : MethodName) prog_22_method_8_code 7 (some .int) ({ frames := 1, cells := 0, slots := 0, locals := 16 } : Room) #[(.ref o), (.ref g), (.int hs)] h0 (Qcon_add1 Z n0 h0 o os oi ow oz oh ot g gw gh hs l0 lb HL ws z0 v0) := by
  refine Con.of pf_7 (fun m => ef_con_add1 m o g hs) hn0 ?_
  intro p e s m below meth c C
  refine C.aloadN d13_0 rfl rfl rfl ?_
  refine C.dup d13_1 rfl rfl ?_
  refine C.getF d13_2 rfl (tw hw 87 rfl) P7 ?_
  refine C.dupX1 d13_5 rfl rfl rfl ?_
  refine C.iconst 1 d13_6 rfl rfl ?_
  refine C.iadd d13_7 rfl ?_
  refine Go.cI (y := 2) rfl ?_
  refine C.putF d13_8 rfl (tw hw 87 rfl) P7 P0 (Or.inl (tw hw 88 rfl)) (tw hw 1 rfl) (ty := .int) (by decide) rfl rfl g_o (fun h850 W851 F852 => ?_)
  have F853 := Exa.wr W851 P0
  have F854 := Fld.other W851 P1 (Or.inr (slot_ne (C := kC1) (t := (.array .int)) (t' := .int) (Or.inl (tw hw 11 rfl)) (Or.inl (tw hw 88 rfl)) (by decide) (by decide) (by decide)))
  have F855 := Fld.other W851 P2 (Or.inr (slot_ne (C := kC1) (t := (.array .int)) (t' := .int) (Or.inl (tw hw 13 rfl)) (Or.inl (tw hw 88 rfl)) (by decide) (by decide) (by decide)))
  have F856 := Fld.other W851 P3 (Or.inr (slot_ne (C := kC1) (t := (.array .long)) (t' := .int) (Or.inl (tw hw 16 rfl)) (Or.inl (tw hw 88 rfl)) (by decide) (by decide) (by decide)))
  have F857 := Fld.other W851 P4 (Or.inr (slot_ne (C := kC1) (t := (.array .int)) (t' := .int) (Or.inl (tw hw 18 rfl)) (Or.inl (tw hw 88 rfl)) (by decide) (by decide) (by decide)))
  have F858 := Fld.other W851 P5 (Or.inr (slot_ne (C := kC1) (t := (.array .int)) (t' := .int) (Or.inl (tw hw 20 rfl)) (Or.inl (tw hw 88 rfl)) (by decide) (by decide) (by decide)))
  have F859 := Fld.other W851 P6 (Or.inr (slot_ne (C := kC1) (t := (.array .int)) (t' := .int) (Or.inl (tw hw 22 rfl)) (Or.inl (tw hw 88 rfl)) (by decide) (by decide) (by decide)))
  have F860 := P8.other W851 (Ne.symm ne_o_os)
  have F861 := P9.other W851 (Ne.symm ne_o_oi)
  have F862 := P10.other W851 (Ne.symm ne_o_ow)
  have F863 := P11.other W851 (Ne.symm ne_o_oz)
  have F864 := P12.other W851 (Ne.symm ne_o_oh)
  have F865 := Exa.wr W851 P13
  have F866 := Fld.other W851 P14 (Or.inl ne_g_o)
  have F867 := Fld.other W851 P15 (Or.inl ne_g_o)
  have F868 := Fld.other W851 P16 (Or.inl ne_g_o)
  have F869 := P17.other W851 ne_gw_o
  have F870 := P18.other W851 ne_gh_o
  refine C.istoreN (Ls' := #[rv o, rv g, iv hs, iv 1, .unset, .unset, .unset]) d13_11 rfl rfl ?_
  refine C.aloadN d13_12 rfl rfl rfl ?_
  refine C.getF d13_13 rfl (tw hw 10 rfl) F854 ?_
  refine C.iloadN d13_16 rfl rfl ?_
  refine C.iaload (.int (Int32.ofNat l0.length)) d13_17 rfl F860 (by decide) rfl ?_
  refine C.istore (Ls' := #[rv o, rv g, iv hs, iv 1, iv (Int32.ofNat l0.length), .unset, .unset]) d13_18 rfl rfl ?_
  refine C.iload d13_20 rfl rfl ?_
  refine C.aloadN d13_22 rfl rfl rfl ?_
  refine C.callV (argsL := []) (rest := [(.int (Int32.ofNat l0.length))]) 1 (fun zz => con_hc l Z a0 hw n0 h850 zz g (Int32.ofNat lb.length) F868) F865 d13_23 rfl (tw hw 67 rfl) (tw hw 68 rfl) (tw hw 69 rfl) (tw hw 70 rfl) (tw hw 25 rfl) (tw hw 71 rfl) (by decide) pd_0 rfl rfl rfl (Nat.le_of_eq rfl) (by decide) (by decide) (by decide) (by decide) (fun v871 h872 r873 => ?_)
  obtain ⟨rfl, rfl⟩ := r873
  refine C.iadd d13_26 rfl ?_
  rw [← Int32.ofNat_add]
  refine C.istore (Ls' := #[rv o, rv g, iv hs, iv 1, iv (Int32.ofNat l0.length), iv (Int32.ofNat (l0.length + lb.length)), .unset]) d13_27 rfl rfl ?_
  refine C.aloadN d13_29 rfl rfl rfl ?_
  refine C.getF d13_30 rfl (tw hw 87 rfl) F852 ?_
  refine C.aloadN d13_33 rfl rfl rfl ?_
  refine C.getF d13_34 rfl (tw hw 17 rfl) F857 ?_
  refine C.alen d13_37 rfl F863 ?_
  refine Go.cI (y := 16) rfl ?_
  refine C.icmp_ne_t d13_38 (by decide) rfl (by decide) ?_
  refine C.aloadN d13_95 rfl rfl rfl ?_
  refine C.getF d13_96 rfl (tw hw 12 rfl) F855 ?_
  refine C.alen d13_99 rfl F861 ?_
  rw [show (own_ix l0).length.toInt32 = (16 : Int32) by rw [own_ixl (by omega)]; rfl]
  refine C.iload d13_100 rfl rfl ?_
  refine C.icmp_ge_t d13_102 (by decide) rfl (by rw [show (16 : Int32) = Int32.ofNat 16 from rfl, own_ltN (by omega) (by omega)]; omega) ?_
  refine C.iload d13_144 rfl rfl ?_
  refine C.istore (Ls' := #[rv o, rv g, iv hs, iv 1, iv (Int32.ofNat l0.length), iv (Int32.ofNat (l0.length + lb.length)), iv (Int32.ofNat l0.length)]) d13_146 rfl rfl ?_
  have F875 : Av Z h850 oi .int (own_ix (l0 ++ lb.take 0)) := (by rw [List.take_zero, List.append_nil]; exact F861)
  have F876 : Av Z h850 ow .long (own_wd (l0 ++ lb.take 0)) := (by rw [List.take_zero, List.append_nil]; exact F862)
  have F877 : Av Z h850 oz .int (.int z0 :: .int (own_sz (lb.take 0)) :: zI14) := F863
  have JA899 : ∀ (m_ j : Nat) (hJ878 : Heap) (hj : j + m_ = lb.length) (F879 : Exa Z hJ878 o kC1) (F880 : Fld Z hJ878 o kC1 "starts" "[I" (.ref os)) (F881 : Fld Z hJ878 o kC1 "indices" "[I" (.ref oi)) (F882 : Fld Z hJ878 o kC1 "words" "[J" (.ref ow)) (F883 : Fld Z hJ878 o kC1 "sizes" "[I" (.ref oz)) (F884 : Fld Z hJ878 o kC1 "hashes" "[I" (.ref oh)) (F885 : Fld Z hJ878 o kC1 "table" "[I" (.ref ot)) (F886 : Av Z hJ878 os .int (.int 0 :: .int (Int32.ofNat l0.length) :: zI15)) (F887 : Av Z hJ878 oi .int (own_ix (l0 ++ lb.take j))) (F888 : Av Z hJ878 ow .long (own_wd (l0 ++ lb.take j))) (F889 : Av Z hJ878 oz .int (.int z0 :: .int (own_sz (lb.take j)) :: zI14)) (F890 : Av Z hJ878 oh .int (.int v0 :: zI15)) (F891 : Exa Z hJ878 g kC0) (F892 : Fld Z hJ878 g kC0 "words" "[J" (.ref gw)) (F893 : Fld Z hJ878 g kC0 "held" "[I" (.ref gh)) (F894 : Fld Z hJ878 g kC0 "count" "I" (.int (Int32.ofNat lb.length))) (F895 : Av Z hJ878 gw .long ws) (F896 : Av Z hJ878 gh .int HL) (F897 : Fld Z hJ878 o kC1 "size" "I" (.int 2)) (KJ898 : Keep h0 hJ878 [o, os, oi, ow, oz, oh]), Go p l e ({ frames := 1, cells := 0, slots := 0, locals := 16 } : Room) s m #[(.ref o), (.ref g), (.int hs)] below meth c n0 (FinQ s n0 (Qcon_add1 Z n0 h0 o os oi ow oz oh ot g gw gh hs l0 lb HL ws z0 v0) ({ frames := 1, cells := 0, slots := 0, locals := 16 } : Room).cells ({ frames := 1, cells := 0, slots := 0, locals := 16 } : Room).slots) hJ878 0 0 148 #[rv o, rv g, iv hs, iv 1, iv (Int32.ofNat l0.length), iv (Int32.ofNat (l0.length + lb.length)), iv (Int32.ofNat (l0.length + j))] [] := by
    intro m_; induction m_ with
    | zero =>
      intro j hJ878 hj F879 F880 F881 F882 F883 F884 F885 F886 F887 F888 F889 F890 F891 F892 F893 F894 F895 F896 F897 KJ898
      obtain rfl : j = lb.length := by omega
      refine C.iload d13_148 rfl rfl ?_
      refine C.iload d13_150 rfl rfl ?_
      refine C.icmp_ge_t d13_152 (by decide) rfl (by rw [own_ltN (by omega) (by omega)]; omega) ?_
      refine C.aloadN d13_214 rfl rfl rfl ?_
      refine C.getF d13_215 rfl (tw hw 10 rfl) F880 ?_
      refine C.aloadN d13_218 rfl rfl rfl ?_
      refine C.getF d13_219 rfl (tw hw 87 rfl) F897 ?_
      refine C.iload d13_222 rfl rfl ?_
      refine C.iastore d13_224 rfl F886 g_os (by decide) (Nat.le_of_ble_eq_true rfl) (fun h900 W901 F902 => ?_)
      have F903 := Exa.wr W901 F879
      have F904 := Fld.other W901 F880 (Or.inl ne_o_os)
      have F905 := Fld.other W901 F881 (Or.inl ne_o_os)
      have F906 := Fld.other W901 F882 (Or.inl ne_o_os)
      have F907 := Fld.other W901 F883 (Or.inl ne_o_os)
      have F908 := Fld.other W901 F884 (Or.inl ne_o_os)
      have F909 := Fld.other W901 F885 (Or.inl ne_o_os)
      have F910 := F887.other W901 (Ne.symm ne_os_oi)
      have F911 := F888.other W901 (Ne.symm ne_os_ow)
      have F912 := F889.other W901 (Ne.symm ne_os_oz)
      have F913 := F890.other W901 (Ne.symm ne_os_oh)
      have F914 := Exa.wr W901 F891
      have F915 := Fld.other W901 F892 (Or.inl ne_g_os)
      have F916 := Fld.other W901 F893 (Or.inl ne_g_os)
      have F917 := Fld.other W901 F894 (Or.inl ne_g_os)
      have F918 := F895.other W901 ne_gw_os
      have F919 := F896.other W901 ne_gh_os
      have F920 := Fld.other W901 F897 (Or.inl ne_o_os)
      have F921 : Av Z h900 os .int (.int 0 :: .int (Int32.ofNat l0.length) :: .int (Int32.ofNat (l0.length + lb.length)) :: zI14) := F902
      refine C.aloadN d13_225 rfl rfl rfl ?_
      refine C.getF d13_226 rfl (tw hw 19 rfl) F908 ?_
      refine C.iloadN d13_229 rfl rfl ?_
      refine C.iloadN d13_230 rfl rfl ?_
      refine C.iastore d13_231 rfl F913 g_oh (by decide) (Nat.le_of_ble_eq_true rfl) (fun h922 W923 F924 => ?_)
      have F925 := Exa.wr W923 F903
      have F926 := Fld.other W923 F904 (Or.inl ne_o_oh)
      have F927 := Fld.other W923 F905 (Or.inl ne_o_oh)
      have F928 := Fld.other W923 F906 (Or.inl ne_o_oh)
      have F929 := Fld.other W923 F907 (Or.inl ne_o_oh)
      have F930 := Fld.other W923 F908 (Or.inl ne_o_oh)
      have F931 := Fld.other W923 F909 (Or.inl ne_o_oh)
      have F932 := F910.other W923 ne_oi_oh
      have F933 := F911.other W923 ne_ow_oh
      have F934 := F912.other W923 ne_oz_oh
      have F935 := Exa.wr W923 F914
      have F936 := Fld.other W923 F915 (Or.inl ne_g_oh)
      have F937 := Fld.other W923 F916 (Or.inl ne_g_oh)
      have F938 := Fld.other W923 F917 (Or.inl ne_g_oh)
      have F939 := F918.other W923 ne_gw_oh
      have F940 := F919.other W923 ne_gh_oh
      have F941 := Fld.other W923 F920 (Or.inl ne_o_oh)
      have F942 := F921.other W923 ne_os_oh
      have F943 : Av Z h922 oh .int (.int v0 :: .int hs :: zI14) := F924
      refine C.iloadN d13_232 rfl rfl ?_
      exact C.retI d13_233 (by decide) (by decide) ⟨rfl, ((KJ898.wr W901 (Or.inl (List.mem_of_getElem? (i := 1) rfl))).wr W923 (Or.inl (List.mem_of_getElem? (i := 5) rfl))), F926, F927, F928, F929, F930, F931, F941, F942, (by have q := F932; rw [List.take_length] at q; exact q), (by have q := F933; rw [List.take_length] at q; exact q), (by have q := F934; rw [List.take_length] at q; exact q), F943⟩
    | succ m_ ih =>
      intro j hJ878 hj F879 F880 F881 F882 F883 F884 F885 F886 F887 F888 F889 F890 F891 F892 F893 F894 F895 F896 F897 KJ898
      obtain ⟨pp, hp, hm⟩ := own_at (lb := lb) (j := j) (by omega)
      refine C.iload d13_148 rfl rfl ?_
      refine C.iload d13_150 rfl rfl ?_
      refine C.icmp_ge_f d13_152 rfl (by rw [own_ltN (by omega) (by omega)]; omega) ?_
      refine C.aloadN d13_155 rfl rfl rfl ?_
      refine C.getF d13_156 rfl (tw hw 12 rfl) F881 ?_
      refine C.iload d13_159 rfl rfl ?_
      refine C.aloadN d13_161 rfl rfl rfl ?_
      refine C.iload d13_162 rfl rfl ?_
      refine C.iload d13_164 rfl rfl ?_
      refine C.isub d13_166 rfl ?_
      rw [own_sbN]
      refine C.callV (argsL := [(.int (Int32.ofNat j))]) (rest := [(.int (Int32.ofNat (l0.length + j))), (.ref oi)]) 2 (fun zz => con_hi l Z a0 hw n0 hJ878 zz g gh (Int32.ofNat j) pp.1 HL F893 F896 (own_nn (by omega)) (by rw [own_toN (by omega)]; exact hhd _ _ hp)) F891 d13_167 rfl (tw hw 72 rfl) (tw hw 73 rfl) (tw hw 74 rfl) (tw hw 75 rfl) (tw hw 25 rfl) (tw hw 76 rfl) (by decide) pd_1 rfl rfl rfl (Nat.le_of_eq rfl) (by decide) (by decide) (by decide) (by decide) (fun v944 h945 r946 => ?_)
      obtain ⟨rfl, rfl⟩ := r946
      refine C.iastore d13_170 rfl F887 g_oi (own_nn (by omega)) (by rw [own_toN (by omega), own_ixl (by rw [own_ln (by omega)]; omega)]; omega) (fun h948 W949 F950 => ?_)
      have F951 := Exa.wr W949 F879
      have F952 := Fld.other W949 F880 (Or.inl ne_o_oi)
      have F953 := Fld.other W949 F881 (Or.inl ne_o_oi)
      have F954 := Fld.other W949 F882 (Or.inl ne_o_oi)
      have F955 := Fld.other W949 F883 (Or.inl ne_o_oi)
      have F956 := Fld.other W949 F884 (Or.inl ne_o_oi)
      have F957 := Fld.other W949 F885 (Or.inl ne_o_oi)
      have F958 := F886.other W949 ne_os_oi
      have F959 := F888.other W949 (Ne.symm ne_oi_ow)
      have F960 := F889.other W949 (Ne.symm ne_oi_oz)
      have F961 := F890.other W949 (Ne.symm ne_oi_oh)
      have F962 := Exa.wr W949 F891
      have F963 := Fld.other W949 F892 (Or.inl ne_g_oi)
      have F964 := Fld.other W949 F893 (Or.inl ne_g_oi)
      have F965 := Fld.other W949 F894 (Or.inl ne_g_oi)
      have F966 := F895.other W949 ne_gw_oi
      have F967 := F896.other W949 ne_gh_oi
      have F968 := Fld.other W949 F897 (Or.inl ne_o_oi)
      have F969 : Av Z h948 oi .int (own_ix (l0 ++ lb.take (j + 1))) := (by have q := F950; rw [own_toN (by omega), ← own_ln (L := l0) (M := lb) (j := j) (by omega), own_ixs pp (by rw [own_ln (by omega)]; omega), ← own_tk hp] at q; exact q)
      refine C.aloadN d13_171 rfl rfl rfl ?_
      refine C.getF d13_172 rfl (tw hw 15 rfl) F954 ?_
      refine C.iload d13_175 rfl rfl ?_
      refine C.aloadN d13_177 rfl rfl rfl ?_
      refine C.aloadN d13_178 rfl rfl rfl ?_
      refine C.getF d13_179 rfl (tw hw 12 rfl) F953 ?_
      refine C.iload d13_182 rfl rfl ?_
      refine C.iaload (.int pp.1) d13_184 rfl F969 (own_nn (by omega)) (by rw [own_toN (by omega), ← own_ln (L := l0) (M := lb) (j := j) (by omega), own_tk hp]; have q := own_ixg (L := l0 ++ lb.take j) (M := []) pp; simpa using q) ?_
      refine C.callV (argsL := [(.int pp.1)]) (rest := [(.int (Int32.ofNat (l0.length + j))), (.ref ow)]) 2 (fun zz => con_wd l Z a0 hw n0 h948 zz g gw pp.1 pp.2 ws F963 F966 (hws _ hm).1 (hws _ hm).2) F962 d13_185 rfl (tw hw 77 rfl) (tw hw 78 rfl) (tw hw 79 rfl) (tw hw 80 rfl) (tw hw 25 rfl) (tw hw 81 rfl) (by decide) pd_2 rfl rfl rfl (Nat.le_of_eq rfl) (by decide) (by decide) (by decide) (by decide) (fun v970 h971 r972 => ?_)
      obtain ⟨rfl, rfl⟩ := r972
      refine C.lastore d13_188 rfl F959 g_ow (own_nn (by omega)) (by rw [own_toN (by omega), own_wdl (by rw [own_ln (by omega)]; omega)]; omega) (fun h974 W975 F976 => ?_)
      have F977 := Exa.wr W975 F951
      have F978 := Fld.other W975 F952 (Or.inl ne_o_ow)
      have F979 := Fld.other W975 F953 (Or.inl ne_o_ow)
      have F980 := Fld.other W975 F954 (Or.inl ne_o_ow)
      have F981 := Fld.other W975 F955 (Or.inl ne_o_ow)
      have F982 := Fld.other W975 F956 (Or.inl ne_o_ow)
      have F983 := Fld.other W975 F957 (Or.inl ne_o_ow)
      have F984 := F958.other W975 ne_os_ow
      have F985 := F960.other W975 (Ne.symm ne_ow_oz)
      have F986 := F961.other W975 (Ne.symm ne_ow_oh)
      have F987 := Exa.wr W975 F962
      have F988 := Fld.other W975 F963 (Or.inl ne_g_ow)
      have F989 := Fld.other W975 F964 (Or.inl ne_g_ow)
      have F990 := Fld.other W975 F965 (Or.inl ne_g_ow)
      have F991 := F966.other W975 ne_gw_ow
      have F992 := F967.other W975 ne_gh_ow
      have F993 := Fld.other W975 F968 (Or.inl ne_o_ow)
      have F994 := F969.other W975 ne_oi_ow
      have F995 : Av Z h974 ow .long (own_wd (l0 ++ lb.take (j + 1))) := (by have q := F976; rw [own_toN (by omega), ← own_ln (L := l0) (M := lb) (j := j) (by omega), own_wds pp (by rw [own_ln (by omega)]; omega), ← own_tk hp] at q; exact q)
      refine C.aloadN d13_189 rfl rfl rfl ?_
      refine C.getF d13_190 rfl (tw hw 17 rfl) F981 ?_
      refine C.iloadN d13_193 rfl rfl ?_
      refine C.dup2 d13_194 rfl rfl rfl ?_
      refine C.iaload (.int (own_sz (lb.take j))) d13_195 rfl F985 (by decide) rfl ?_
      refine C.aloadN d13_196 rfl rfl rfl ?_
      refine C.getF d13_197 rfl (tw hw 15 rfl) F980 ?_
      refine C.iload d13_200 rfl rfl ?_
      refine C.laload (.long pp.2) d13_202 rfl F995 (own_nn (by omega)) (by rw [own_toN (by omega), ← own_ln (L := l0) (M := lb) (j := j) (by omega), own_tk hp]; have q := own_wdg (L := l0 ++ lb.take j) (M := []) pp; simpa using q) ?_
      refine C.callS (argsL := [(.long pp.2)]) (rest := [(.int (own_sz (lb.take j))), (.int 1), (.ref oz)]) 3 (fun zz => con_bc l Z a0 hw n0 h974 zz pp.2 ) d13_203 rfl (tw hw 89 rfl) (tw hw 90 rfl) (tw hw 91 rfl) (tw hw 92 rfl) (by decide) pd_3 rfl rfl rfl (Nat.le_of_eq rfl) (by decide) (by decide) (by decide) (by decide) (fun v996 h997 r998 => ?_)
      obtain ⟨rfl, rfl⟩ := r998
      refine C.iadd d13_206 rfl ?_
      refine C.iastore d13_207 rfl F985 g_oz (by decide) (Nat.le_of_ble_eq_true rfl) (fun h1000 W1001 F1002 => ?_)
      have F1003 := Exa.wr W1001 F977
      have F1004 := Fld.other W1001 F978 (Or.inl ne_o_oz)
      have F1005 := Fld.other W1001 F979 (Or.inl ne_o_oz)
      have F1006 := Fld.other W1001 F980 (Or.inl ne_o_oz)
      have F1007 := Fld.other W1001 F981 (Or.inl ne_o_oz)
      have F1008 := Fld.other W1001 F982 (Or.inl ne_o_oz)
      have F1009 := Fld.other W1001 F983 (Or.inl ne_o_oz)
      have F1010 := F984.other W1001 ne_os_oz
      have F1011 := F986.other W1001 (Ne.symm ne_oz_oh)
      have F1012 := Exa.wr W1001 F987
      have F1013 := Fld.other W1001 F988 (Or.inl ne_g_oz)
      have F1014 := Fld.other W1001 F989 (Or.inl ne_g_oz)
      have F1015 := Fld.other W1001 F990 (Or.inl ne_g_oz)
      have F1016 := F991.other W1001 ne_gw_oz
      have F1017 := F992.other W1001 ne_gh_oz
      have F1018 := Fld.other W1001 F993 (Or.inl ne_o_oz)
      have F1019 := F994.other W1001 ne_oi_oz
      have F1020 := F995.other W1001 ne_ow_oz
      have F1021 : Av Z h1000 oz .int (.int z0 :: .int ((own_sz (lb.take j)) + (own_bc pp.2)) :: zI14) := F1002
      have F1022 : Av Z h1000 oz .int (.int z0 :: .int (own_sz (lb.take (j + 1))) :: zI14) := (by rw [own_szs hp]; exact F1021)
      refine C.iinc (Ls' := #[rv o, rv g, iv hs, iv 1, iv (Int32.ofNat l0.length), iv (Int32.ofNat (l0.length + lb.length)), iv ((Int32.ofNat (l0.length + j)) + 1)]) 1 d13_208 rfl rfl rfl rfl ?_
      refine C.goto d13_211 (by decide) rfl ?_
      rw [own_s1, Nat.add_assoc]
      exact ih (j + 1) h1000 (by omega) F1003 F1004 F1005 F1006 F1007 F1008 F1009 F1010 F1019 F1020 F1022 F1011 F1012 F1013 F1014 F1015 F1016 F1017 F1018 (((KJ898.wr W949 (Or.inl (List.mem_of_getElem? (i := 2) rfl))).wr W975 (Or.inl (List.mem_of_getElem? (i := 3) rfl))).wr W1001 (Or.inl (List.mem_of_getElem? (i := 4) rfl)))
  exact JA899 lb.length 0 h850 (by omega) F853 F854 F855 F856 F857 F858 F859 F860 F875 F876 F877 F864 F865 F866 F867 F868 F869 F870 F852 ((Keep.refl h0 [o, os, oi, ow, oz, oh]).wr W851 (Or.inl (List.mem_of_getElem? (i := 0) rfl)))
theorem own_and_fin (t m : Int32) (k : Nat) (hm : m.toBitVec.toNat < k) : ∃ i : Fin k, t &&& m = Int32.ofNat i.val :=
  ⟨⟨(t &&& m).toBitVec.toNat, by simp only [Int32.toBitVec_and, BitVec.toNat_and]; exact Nat.lt_of_le_of_lt Nat.and_le_right hm⟩, by apply Int32.toBitVec_inj.1; apply BitVec.eq_of_toNat_eq; simp⟩
theorem own_sl (r : Int32) : ¬ (r &&& 31) < 0 ∧ (r &&& 31).toNatClampNeg < 32 := by
  obtain ⟨i, hi⟩ := own_and_fin r 31 32 (by decide)
  rw [hi]; exact ⟨own_nn (by omega), by rw [own_toN (by omega)]; exact i.isLt⟩
theorem own_nx (r : Int32) : ((r &&& 31) + 1 &&& 31).toNatClampNeg ≠ (r &&& 31).toNatClampNeg := by
  obtain ⟨i, hi⟩ := own_and_fin r 31 32 (by decide)
  rw [hi]; exact (show ∀ i : Fin 32, (Int32.ofNat i.val + 1 &&& 31).toNatClampNeg ≠ (Int32.ofNat i.val).toNatClampNeg by decide) i
theorem own_tb0 {j : Nat} (h : j < 32) : zI32[j]? = some (.int 0) := by show (List.replicate 32 (Value.int 0))[j]? = _; rw [List.getElem?_replicate, if_pos h]
theorem own_tb1 {j : Nat} (h : j < 32) : (zI32.set j (.int 1))[j]? = some (.int 1) := by simp [zI32, h]
theorem own_tbn {j k : Nat} (h : k < 32) (q : ¬ k = j) : (zI32.set j (.int 1))[k]? = some (.int 0) := by rw [List.getElem?_set_ne (fun e => q e.symm)]; exact own_tb0 h
def own_set (ST IX WD SZ : List Value) (b : Int32) (l : List (Int32 × Int64)) : Prop := ∃ sb : Nat, sb + l.length ≤ 16 ∧ (¬ b < 0 ∧ ¬ b + 1 < 0) ∧ ST[b.toNatClampNeg]? = some (.int (Int32.ofNat sb)) ∧ ST[(b + 1).toNatClampNeg]? = some (.int (Int32.ofNat (sb + l.length))) ∧ SZ[b.toNatClampNeg]? = some (.int (own_sz l)) ∧ ∀ (j : Nat) (p : Int32 × Int64), l[j]? = some p → IX[sb + j]? = some (.int p.1) ∧ WD[sb + j]? = some (.long p.2)
theorem own_ixa {L M : List (Int32 × Int64)} {j : Nat} {p : Int32 × Int64} (h : L[j]? = some p) : (own_ix (L ++ M))[j]? = some (.int p.1) ∧ (own_wd (L ++ M))[j]? = some (.long p.2) := by
  have hj : j < L.length := (List.getElem?_eq_some_iff.mp h).1
  constructor
  · simp only [own_ix, List.map_append]
    rw [List.getElem?_append_left (by simp; omega), List.getElem?_append_left (by simpa using hj), List.getElem?_map, h]; rfl
  · simp only [own_wd, List.map_append]
    rw [List.getElem?_append_left (by simp; omega), List.getElem?_append_left (by simpa using hj), List.getElem?_map, h]; rfl
theorem own_ixb {L M : List (Int32 × Int64)} {j : Nat} {p : Int32 × Int64} (h : M[j]? = some p) : (own_ix (L ++ M))[L.length + j]? = some (.int p.1) ∧ (own_wd (L ++ M))[L.length + j]? = some (.long p.2) := by
  have hj : j < M.length := (List.getElem?_eq_some_iff.mp h).1
  constructor
  · simp only [own_ix, List.map_append]
    rw [List.getElem?_append_left (by simp; omega), List.getElem?_append_right (by simp), List.length_map, Nat.add_sub_cancel_left, List.getElem?_map, h]; rfl
  · simp only [own_wd, List.map_append]
    rw [List.getElem?_append_left (by simp; omega), List.getElem?_append_right (by simp), List.length_map, Nat.add_sub_cancel_left, List.getElem?_map, h]; rfl
theorem own_hdix (L : List (Int32 × Int64)) : own_hd L (own_ix L) := fun j p h => by have := (own_ixa (M := []) h).1; rwa [List.append_nil] at this
theorem own_wdix (L : List (Int32 × Int64)) : own_wdq L (own_wd L) := fun j p h => by have := (own_ixa (M := []) h).2; rwa [List.append_nil] at this
theorem own_set0 (l M : List (Int32 × Int64)) (z ST' SZ' : List Value) (h : l.length ≤ 3) : own_set (.int 0 :: .int (Int32.ofNat l.length) :: ST') (own_ix (l ++ M)) (own_wd (l ++ M)) (.int (own_sz l) :: SZ') 0 l :=
  ⟨0, by omega, ⟨by decide, by decide⟩, rfl, by rw [Nat.zero_add]; rfl, rfl, fun j p hp => by rw [Nat.zero_add]; exact own_ixa hp⟩
theorem own_set1 (l M : List (Int32 × Int64)) (ST' SZ' : List Value) (z : Value) (h : l.length ≤ 3) (g : M.length ≤ 3) : own_set (.int 0 :: .int (Int32.ofNat l.length) :: .int (Int32.ofNat (l.length + M.length)) :: ST') (own_ix (l ++ M)) (own_wd (l ++ M)) (z :: .int (own_sz M) :: SZ') 1 M :=
  ⟨l.length, by omega, ⟨by decide, by decide⟩, rfl, rfl, rfl, fun j p hp => own_ixb hp⟩
theorem d7_0 : decode prog_22_method_2_code 0 = .ok (.aload_n 1, 1) := by decide +kernel
theorem d7_1 : decode prog_22_method_2_code 1 = .ok (.invokevirtual 29, 3) := by decide +kernel
theorem d7_4 : decode prog_22_method_2_code 4 = .ok (.aload_n 1, 1) := by decide +kernel
theorem d7_5 : decode prog_22_method_2_code 5 = .ok (.invokestatic 34, 3) := by decide +kernel
theorem d7_8 : decode prog_22_method_2_code 8 = .ok (.istore_n 2, 1) := by decide +kernel
theorem d7_9 : decode prog_22_method_2_code 9 = .ok (.aload_n 0, 1) := by decide +kernel
theorem d7_10 : decode prog_22_method_2_code 10 = .ok (.getfield 26, 3) := by decide +kernel
theorem d7_13 : decode prog_22_method_2_code 13 = .ok (.arraylength, 1) := by decide +kernel
theorem d7_14 : decode prog_22_method_2_code 14 = .ok (.iconst 1, 1) := by decide +kernel
theorem d7_15 : decode prog_22_method_2_code 15 = .ok (.isub, 1) := by decide +kernel
theorem d7_16 : decode prog_22_method_2_code 16 = .ok (.istore_n 3, 1) := by decide +kernel
theorem d7_17 : decode prog_22_method_2_code 17 = .ok (.iload_n 2, 1) := by decide +kernel
theorem d7_18 : decode prog_22_method_2_code 18 = .ok (.iload_n 3, 1) := by decide +kernel
theorem d7_19 : decode prog_22_method_2_code 19 = .ok (.iand, 1) := by decide +kernel
theorem d7_20 : decode prog_22_method_2_code 20 = .ok (.istore 4, 2) := by decide +kernel
theorem d7_22 : decode prog_22_method_2_code 22 = .ok (.aload_n 0, 1) := by decide +kernel
theorem d7_23 : decode prog_22_method_2_code 23 = .ok (.getfield 26, 3) := by decide +kernel
theorem d7_26 : decode prog_22_method_2_code 26 = .ok (.iload 4, 2) := by decide +kernel
theorem d7_28 : decode prog_22_method_2_code 28 = .ok (.iaload, 1) := by decide +kernel
theorem d7_29 : decode prog_22_method_2_code 29 = .ok (.ifCond .eq 32, 3) := by decide +kernel
theorem d7_32 : decode prog_22_method_2_code 32 = .ok (.aload_n 0, 1) := by decide +kernel
theorem d7_33 : decode prog_22_method_2_code 33 = .ok (.aload_n 0, 1) := by decide +kernel
theorem d7_34 : decode prog_22_method_2_code 34 = .ok (.getfield 26, 3) := by decide +kernel
theorem d7_37 : decode prog_22_method_2_code 37 = .ok (.iload 4, 2) := by decide +kernel
theorem d7_39 : decode prog_22_method_2_code 39 = .ok (.iaload, 1) := by decide +kernel
theorem d7_40 : decode prog_22_method_2_code 40 = .ok (.iconst 1, 1) := by decide +kernel
theorem d7_41 : decode prog_22_method_2_code 41 = .ok (.isub, 1) := by decide +kernel
theorem d7_42 : decode prog_22_method_2_code 42 = .ok (.iload_n 2, 1) := by decide +kernel
theorem d7_43 : decode prog_22_method_2_code 43 = .ok (.aload_n 1, 1) := by decide +kernel
theorem d7_44 : decode prog_22_method_2_code 44 = .ok (.invokevirtual 38, 3) := by decide +kernel
theorem d7_47 : decode prog_22_method_2_code 47 = .ok (.ifCond .ne 14, 3) := by decide +kernel
theorem d7_50 : decode prog_22_method_2_code 50 = .ok (.iload 4, 2) := by decide +kernel
theorem d7_52 : decode prog_22_method_2_code 52 = .ok (.iconst 1, 1) := by decide +kernel
theorem d7_53 : decode prog_22_method_2_code 53 = .ok (.iadd, 1) := by decide +kernel
theorem d7_54 : decode prog_22_method_2_code 54 = .ok (.iload_n 3, 1) := by decide +kernel
theorem d7_55 : decode prog_22_method_2_code 55 = .ok (.iand, 1) := by decide +kernel
theorem d7_56 : decode prog_22_method_2_code 56 = .ok (.istore 4, 2) := by decide +kernel
theorem d7_58 : decode prog_22_method_2_code 58 = .ok (.goto (-36), 3) := by decide +kernel
theorem d7_61 : decode prog_22_method_2_code 61 = .ok (.aload_n 0, 1) := by decide +kernel
theorem d7_62 : decode prog_22_method_2_code 62 = .ok (.getfield 26, 3) := by decide +kernel
theorem d7_65 : decode prog_22_method_2_code 65 = .ok (.iload 4, 2) := by decide +kernel
theorem d7_67 : decode prog_22_method_2_code 67 = .ok (.iaload, 1) := by decide +kernel
theorem d7_68 : decode prog_22_method_2_code 68 = .ok (.iconst 1, 1) := by decide +kernel
theorem d7_69 : decode prog_22_method_2_code 69 = .ok (.isub, 1) := by decide +kernel
theorem d7_70 : decode prog_22_method_2_code 70 = .ok (.istore 5, 2) := by decide +kernel
theorem d7_72 : decode prog_22_method_2_code 72 = .ok (.iload 5, 2) := by decide +kernel
theorem d7_74 : decode prog_22_method_2_code 74 = .ok (.ifCond .ge 40, 3) := by decide +kernel
theorem d7_77 : decode prog_22_method_2_code 77 = .ok (.aload_n 0, 1) := by decide +kernel
theorem d7_78 : decode prog_22_method_2_code 78 = .ok (.aload_n 1, 1) := by decide +kernel
theorem d7_79 : decode prog_22_method_2_code 79 = .ok (.iload_n 2, 1) := by decide +kernel
theorem d7_80 : decode prog_22_method_2_code 80 = .ok (.invokevirtual 42, 3) := by decide +kernel
theorem d7_83 : decode prog_22_method_2_code 83 = .ok (.istore 5, 2) := by decide +kernel
theorem d7_85 : decode prog_22_method_2_code 85 = .ok (.aload_n 0, 1) := by decide +kernel
theorem d7_86 : decode prog_22_method_2_code 86 = .ok (.getfield 26, 3) := by decide +kernel
theorem d7_89 : decode prog_22_method_2_code 89 = .ok (.iload 4, 2) := by decide +kernel
theorem d7_91 : decode prog_22_method_2_code 91 = .ok (.aload_n 0, 1) := by decide +kernel
theorem d7_92 : decode prog_22_method_2_code 92 = .ok (.getfield 46, 3) := by decide +kernel
theorem d7_95 : decode prog_22_method_2_code 95 = .ok (.iastore, 1) := by decide +kernel
theorem d7_96 : decode prog_22_method_2_code 96 = .ok (.iconst 2, 1) := by decide +kernel
theorem d7_97 : decode prog_22_method_2_code 97 = .ok (.aload_n 0, 1) := by decide +kernel
theorem d7_98 : decode prog_22_method_2_code 98 = .ok (.getfield 46, 3) := by decide +kernel
theorem d7_101 : decode prog_22_method_2_code 101 = .ok (.imul, 1) := by decide +kernel
theorem d7_102 : decode prog_22_method_2_code 102 = .ok (.aload_n 0, 1) := by decide +kernel
theorem d7_103 : decode prog_22_method_2_code 103 = .ok (.getfield 26, 3) := by decide +kernel
theorem d7_106 : decode prog_22_method_2_code 106 = .ok (.arraylength, 1) := by decide +kernel
theorem d7_107 : decode prog_22_method_2_code 107 = .ok (.if_icmp .le 7, 3) := by decide +kernel
theorem d7_114 : decode prog_22_method_2_code 114 = .ok (.iload 5, 2) := by decide +kernel
theorem d7_116 : decode prog_22_method_2_code 116 = .ok (.ireturn, 1) := by decide +kernel
theorem pf_8 : plainFor (⟨"com/example/detra/detra/StateSets", "number", "(Lcom/example/detra/detra/SetWords;)I"⟩ : MethodName) = true := by first | exact plainFor_of_name (by first | (simp [plainName, overriddenIn]; done) | decide +kernel) | decide +kernel
theorem pd_4 : parseMethodDescriptor "()V" = some ⟨[], none⟩ := by decide +kernel
theorem pd_5 : parseMethodDescriptor "(Lcom/example/detra/detra/SetWords;)I" = some ⟨[(.object "com/example/detra/detra/SetWords")], some .int⟩ := by decide +kernel
theorem pd_6 : parseMethodDescriptor "(Lcom/example/detra/detra/SetWords;I)I" = some ⟨[(.object "com/example/detra/detra/SetWords"), .int], some .int⟩ := by decide +kernel
def Qcon_num0 (Z : State) (n0 : Nat) (h0 : Heap) (o : Addr) (os : Addr) (oi : Addr) (ow : Addr) (oz : Addr) (oh : Addr) (ot : Addr) (g : Addr) (gw : Addr) (gh : Addr) (w0 : Int64) (w1 : Int64) (w2 : Int64) (cn : Int32) (hl : List Value) (v : Option Value) (h' : Heap) : Prop := ∃ (HL : List Value) (c9 : Int32) (r : Int32) (sl : Nat), (v = some (.int 0)) ∧ (Keep h0 h' [o, os, oi, ow, oz, oh, ot, g, gh]) ∧ (Fld Z h' o kC1 "starts" "[I" (.ref os)) ∧ (Fld Z h' o kC1 "indices" "[I" (.ref oi)) ∧ (Fld Z h' o kC1 "words" "[J" (.ref ow)) ∧ (Fld Z h' o kC1 "sizes" "[I" (.ref oz)) ∧ (Fld Z h' o kC1 "hashes" "[I" (.ref oh)) ∧ (Fld Z h' o kC1 "table" "[I" (.ref ot)) ∧ (Fld Z h' o kC1 "size" "I" (.int 1)) ∧ (Av Z h' os .int (.int 0 :: .int (Int32.ofNat (own_c3 w0 w1 w2).length) :: zI15)) ∧ (Av Z h' oi .int (own_ix (own_c3 w0 w1 w2))) ∧ (Av Z h' ow .long (own_wd (own_c3 w0 w1 w2))) ∧ (Av Z h' oz .int (.int (own_sz (own_c3 w0 w1 w2)) :: zI15)) ∧ (Av Z h' oh .int (.int r :: zI15)) ∧ (Av Z h' ot .int (zI32.set sl (.int 1))) ∧ (Fld Z h' g kC0 "words" "[J" (.ref gw)) ∧ (Fld Z h' g kC0 "held" "[I" (.ref gh)) ∧ (Fld Z h' g kC0 "listing" "Z" (.int 0)) ∧ (Fld Z h' g kC0 "count" "I" (.int c9)) ∧ (Av Z h' gh .int HL) ∧ (HL.length = 3) ∧ (sl < 32)
theorem ef_con_num0 (m : MethodId) (o : Addr) (g : Addr) : entryFrame m #[(.ref o), (.ref g)] 6 = mkF m 0 #[rv o, rv g, .unset, .unset, .unset, .unset] [] := by first | (simp [entryFrame, mkF, argsToLocals, Value.category]; done) | rfl
set_option maxRecDepth 65536 in
set_option maxHeartbeats 40000000 in
theorem con_num0 (l : Launch) (Z : State) (a0 : Array Value) (hw : ∀ d ∈ tables_1, d.before a0 Z = true) (n0 : Nat) (h0 : Heap) (hn0 : n0 ≤ h0.size) (o : Addr) (os : Addr) (oi : Addr) (ow : Addr) (oz : Addr) (oh : Addr) (ot : Addr) (g : Addr) (gw : Addr) (gh : Addr) (w0 : Int64) (w1 : Int64) (w2 : Int64) (cn : Int32) (hl : List Value) (P0 : Exa Z h0 o kC1) (P1 : Fld Z h0 o kC1 "starts" "[I" (.ref os)) (P2 : Fld Z h0 o kC1 "indices" "[I" (.ref oi)) (P3 : Fld Z h0 o kC1 "words" "[J" (.ref ow)) (P4 : Fld Z h0 o kC1 "sizes" "[I" (.ref oz)) (P5 : Fld Z h0 o kC1 "hashes" "[I" (.ref oh)) (P6 : Fld Z h0 o kC1 "table" "[I" (.ref ot)) (P7 : Fld Z h0 o kC1 "size" "I" (.int 0)) (P8 : Av Z h0 os .int zI17) (P9 : Av Z h0 oi .int zI16) (P10 : Av Z h0 ow .long zJ16) (P11 : Av Z h0 oz .int zI16) (P12 : Av Z h0 oh .int zI16) (P13 : Av Z h0 ot .int zI32) (P14 : Exa Z h0 g kC0) (P15 : Fld Z h0 g kC0 "words" "[J" (.ref gw)) (P16 : Fld Z h0 g kC0 "held" "[I" (.ref gh)) (P17 : Fld Z h0 g kC0 "listing" "Z" (.int 0)) (P18 : Fld Z h0 g kC0 "count" "I" (.int cn)) (P19 : Av Z h0 gw .long ([.long w0, .long w1, .long w2])) (P20 : Av Z h0 gh .int hl) (g_o : n0 ≤ o) (g_os : n0 ≤ os) (g_oi : n0 ≤ oi) (g_ow : n0 ≤ ow) (g_oz : n0 ≤ oz) (g_oh : n0 ≤ oh) (g_ot : n0 ≤ ot) (g_g : n0 ≤ g) (g_gh : n0 ≤ gh) (ne_o_os : o ≠ os) (ne_o_oi : o ≠ oi) (ne_o_ow : o ≠ ow) (ne_o_oz : o ≠ oz) (ne_o_oh : o ≠ oh) (ne_o_ot : o ≠ ot) (ne_o_g : o ≠ g) (ne_o_gw : o ≠ gw) (ne_o_gh : o ≠ gh) (ne_os_oi : os ≠ oi) (ne_os_ow : os ≠ ow) (ne_os_oz : os ≠ oz) (ne_os_oh : os ≠ oh) (ne_os_ot : os ≠ ot) (ne_os_g : os ≠ g) (ne_os_gw : os ≠ gw) (ne_os_gh : os ≠ gh) (ne_oi_ow : oi ≠ ow) (ne_oi_oz : oi ≠ oz) (ne_oi_oh : oi ≠ oh) (ne_oi_ot : oi ≠ ot) (ne_oi_g : oi ≠ g) (ne_oi_gw : oi ≠ gw) (ne_oi_gh : oi ≠ gh) (ne_ow_oz : ow ≠ oz) (ne_ow_oh : ow ≠ oh) (ne_ow_ot : ow ≠ ot) (ne_ow_g : ow ≠ g) (ne_ow_gw : ow ≠ gw) (ne_ow_gh : ow ≠ gh) (ne_oz_oh : oz ≠ oh) (ne_oz_ot : oz ≠ ot) (ne_oz_g : oz ≠ g) (ne_oz_gw : oz ≠ gw) (ne_oz_gh : oz ≠ gh) (ne_oh_ot : oh ≠ ot) (ne_oh_g : oh ≠ g) (ne_oh_gw : oh ≠ gw) (ne_oh_gh : oh ≠ gh) (ne_ot_g : ot ≠ g) (ne_ot_gw : ot ≠ gw) (ne_ot_gh : ot ≠ gh) (ne_g_gw : g ≠ gw) (ne_g_gh : g ≠ gh) (ne_gw_gh : gw ≠ gh) (h3 : hl.length = 3) :
    Con l Z n0 [] (⟨"com/example/detra/detra/StateSets", "number", "(Lcom/example/detra/detra/SetWords;)I"⟩ : MethodName) prog_22_method_2_code 6 (some .int) ({ frames := 2, cells := 0, slots := 0, locals := 34 } : Room) #[(.ref o), (.ref g)] h0 (Qcon_num0 Z n0 h0 o os oi ow oz oh ot g gw gh w0 w1 w2 cn hl) := by
  refine Con.of pf_8 (fun m => ef_con_num0 m o g) hn0 ?_
  intro p e s m below meth c C
  refine C.aloadN d7_0 rfl rfl rfl ?_
  refine C.callV (argsL := []) (rest := []) 0 (fun zz => con_lh l Z a0 hw n0 h0 zz g gw gh w0 w1 w2 cn hl P14 P15 P16 P17 P18 P19 P20 g_g g_gh ne_g_gw ne_g_gh ne_gw_gh h3) P14 d7_1 rfl (tw hw 57 rfl) (tw hw 58 rfl) (tw hw 59 rfl) (tw hw 60 rfl) (tw hw 25 rfl) (tw hw 61 rfl) (by decide) pd_4 rfl rfl rfl (Nat.le_of_eq rfl) (by decide) (by decide) (by decide) (by decide) (fun v1123 h1124 r1125 => ?_)
  obtain ⟨y1126, rfl, K1127, F1128, F1129, F1130, F1131, F1132, u1133, u1134⟩ := r1125
  have F1135 := P0.keep K1127
  have F1136 := P1.keep K1127 (ninS ne_o_g (ninS ne_o_gh nin0))
  have F1137 := P2.keep K1127 (ninS ne_o_g (ninS ne_o_gh nin0))
  have F1138 := P3.keep K1127 (ninS ne_o_g (ninS ne_o_gh nin0))
  have F1139 := P4.keep K1127 (ninS ne_o_g (ninS ne_o_gh nin0))
  have F1140 := P5.keep K1127 (ninS ne_o_g (ninS ne_o_gh nin0))
  have F1141 := P6.keep K1127 (ninS ne_o_g (ninS ne_o_gh nin0))
  have F1142 := P7.keep K1127 (ninS ne_o_g (ninS ne_o_gh nin0))
  have F1143 := P8.keep K1127 (ninS ne_os_g (ninS ne_os_gh nin0))
  have F1144 := P9.keep K1127 (ninS ne_oi_g (ninS ne_oi_gh nin0))
  have F1145 := P10.keep K1127 (ninS ne_ow_g (ninS ne_ow_gh nin0))
  have F1146 := P11.keep K1127 (ninS ne_oz_g (ninS ne_oz_gh nin0))
  have F1147 := P12.keep K1127 (ninS ne_oh_g (ninS ne_oh_gh nin0))
  have F1148 := P13.keep K1127 (ninS ne_ot_g (ninS ne_ot_gh nin0))
  have F1149 := P14.keep K1127
  have F1154 := P19.keep K1127 (ninS (Ne.symm ne_g_gw) (ninS ne_gw_gh nin0))
  refine C.aloadN d7_4 rfl rfl rfl ?_
  refine C.callS (argsL := [(.ref g)]) (rest := []) 0 (fun zz => con_hash l Z a0 hw n0 h1124 zz g gw gh (own_c3 w0 w1 w2) y1126 ([.long w0, .long w1, .long w2]) F1149 F1128 F1129 F1131 F1154 F1132 u1133 (own_c3ws w0 w1 w2) (own_c3len w0 w1 w2)) d7_5 rfl (tw hw 64 rfl) (tw hw 65 rfl) (tw hw 2 rfl) (tw hw 66 rfl) (by decide) pd_5 rfl rfl rfl (Nat.le_of_eq rfl) (by decide) (by decide) (by decide) (by decide) (fun v1156 h1157 r1158 => ?_)
  obtain ⟨y1159, rfl, rfl⟩ := r1158
  refine C.istoreN (Ls' := #[rv o, rv g, iv y1159, .unset, .unset, .unset]) d7_8 rfl rfl ?_
  refine C.aloadN d7_9 rfl rfl rfl ?_
  refine C.getF d7_10 rfl (tw hw 21 rfl) F1141 ?_
  refine C.alen d7_13 rfl F1148 ?_
  refine Go.cI (y := 32) rfl ?_
  refine C.iconst 1 d7_14 rfl rfl ?_
  refine C.isub d7_15 rfl ?_
  refine Go.cI (y := 31) rfl ?_
  refine C.istoreN (Ls' := #[rv o, rv g, iv y1159, iv 31, .unset, .unset]) d7_16 rfl rfl ?_
  refine C.iloadN d7_17 rfl rfl ?_
  refine C.iloadN d7_18 rfl rfl ?_
  refine C.iand d7_19 rfl ?_
  refine C.istore (Ls' := #[rv o, rv g, iv y1159, iv 31, iv (y1159 &&& 31), .unset]) d7_20 rfl rfl ?_
  refine C.aloadN d7_22 rfl rfl rfl ?_
  refine C.getF d7_23 rfl (tw hw 21 rfl) F1141 ?_
  refine C.iload d7_26 rfl rfl ?_
  refine C.iaload (.int 0) d7_28 rfl F1148 (own_sl y1159).1 (own_tb0 (own_sl y1159).2) ?_
  refine C.if_eq_t d7_29 (by decide) rfl (by decide) ?_
  refine C.aloadN d7_61 rfl rfl rfl ?_
  refine C.getF d7_62 rfl (tw hw 21 rfl) F1141 ?_
  refine C.iload d7_65 rfl rfl ?_
  refine C.iaload (.int 0) d7_67 rfl F1148 (own_sl y1159).1 (own_tb0 (own_sl y1159).2) ?_
  refine C.iconst 1 d7_68 rfl rfl ?_
  refine C.isub d7_69 rfl ?_
  refine Go.cI (y := (-1)) rfl ?_
  refine C.istore (Ls' := #[rv o, rv g, iv y1159, iv 31, iv (y1159 &&& 31), iv (-1)]) d7_70 rfl rfl ?_
  refine C.iload d7_72 rfl rfl ?_
  refine C.if_ge_f d7_74 rfl (by decide) ?_
  have F1161 : Av Z h1124 oi .int (own_ix ([] : List (Int32 × Int64))) := F1144
  have F1162 : Av Z h1124 ow .long (own_wd ([] : List (Int32 × Int64))) := F1145
  refine C.aloadN d7_77 rfl rfl rfl ?_
  refine C.aloadN d7_78 rfl rfl rfl ?_
  refine C.iloadN d7_79 rfl rfl ?_
  refine C.callP (argsL := [(.ref g), (.int y1159)]) (rest := []) 0 (fun zz => con_add0 l Z a0 hw n0 h1124 zz o os oi ow oz oh ot g gw gh y1159 ([] : List (Int32 × Int64)) (own_c3 w0 w1 w2) y1126 ([.long w0, .long w1, .long w2]) F1135 F1136 F1137 F1138 F1139 F1140 F1141 F1142 F1143 F1161 F1162 F1146 F1147 F1149 F1128 F1129 F1131 F1154 F1132 g_o g_os g_oi g_ow g_oz g_oh ne_o_os ne_o_oi ne_o_ow ne_o_oz ne_o_oh ne_os_oi ne_os_ow ne_os_oz ne_os_oh ne_oi_ow ne_oi_oz ne_oi_oh ne_ow_oz ne_ow_oh ne_oz_oh (Ne.symm ne_o_g) (Ne.symm ne_os_g) (Ne.symm ne_oi_g) (Ne.symm ne_ow_g) (Ne.symm ne_oz_g) (Ne.symm ne_oh_g) (Ne.symm ne_o_gw) (Ne.symm ne_os_gw) (Ne.symm ne_oi_gw) (Ne.symm ne_ow_gw) (Ne.symm ne_oz_gw) (Ne.symm ne_oh_gw) (Ne.symm ne_o_gh) (Ne.symm ne_os_gh) (Ne.symm ne_oi_gh) (Ne.symm ne_ow_gh) (Ne.symm ne_oz_gh) (Ne.symm ne_oh_gh) u1133 (own_c3ws w0 w1 w2) rfl (own_c3len w0 w1 w2)) F1135 d7_80 rfl (tw hw 83 rfl) (tw hw 85 rfl) (tw hw 84 rfl) (tw hw 1 rfl) (tw hw 2 rfl) (tw hw 86 rfl) (by decide) pd_6 rfl rfl rfl (Nat.le_of_eq rfl) (by decide) (by decide) (by decide) (by decide) (fun v1163 h1164 r1165 => ?_)
  obtain ⟨rfl, K1166, F1167, F1168, F1169, F1170, F1171, F1172, F1173, F1174, F1175, F1176, F1177, F1178⟩ := r1165
  have F1179 := F1135.keep K1166
  have F1192 := F1148.keep K1166 (ninS (Ne.symm ne_o_ot) (ninS (Ne.symm ne_os_ot) (ninS (Ne.symm ne_oi_ot) (ninS (Ne.symm ne_ow_ot) (ninS (Ne.symm ne_oz_ot) (ninS (Ne.symm ne_oh_ot) nin0))))))
  have F1193 := F1149.keep K1166
  have F1194 := F1154.keep K1166 (ninS (Ne.symm ne_o_gw) (ninS (Ne.symm ne_os_gw) (ninS (Ne.symm ne_oi_gw) (ninS (Ne.symm ne_ow_gw) (ninS (Ne.symm ne_oz_gw) (ninS (Ne.symm ne_oh_gw) nin0))))))
  have F1195 := F1128.keep K1166 (ninS (Ne.symm ne_o_g) (ninS (Ne.symm ne_os_g) (ninS (Ne.symm ne_oi_g) (ninS (Ne.symm ne_ow_g) (ninS (Ne.symm ne_oz_g) (ninS (Ne.symm ne_oh_g) nin0))))))
  have F1196 := F1129.keep K1166 (ninS (Ne.symm ne_o_g) (ninS (Ne.symm ne_os_g) (ninS (Ne.symm ne_oi_g) (ninS (Ne.symm ne_ow_g) (ninS (Ne.symm ne_oz_g) (ninS (Ne.symm ne_oh_g) nin0))))))
  have F1197 := F1130.keep K1166 (ninS (Ne.symm ne_o_g) (ninS (Ne.symm ne_os_g) (ninS (Ne.symm ne_oi_g) (ninS (Ne.symm ne_ow_g) (ninS (Ne.symm ne_oz_g) (ninS (Ne.symm ne_oh_g) nin0))))))
  have F1198 := F1131.keep K1166 (ninS (Ne.symm ne_o_g) (ninS (Ne.symm ne_os_g) (ninS (Ne.symm ne_oi_g) (ninS (Ne.symm ne_ow_g) (ninS (Ne.symm ne_oz_g) (ninS (Ne.symm ne_oh_g) nin0))))))
  have F1199 := F1132.keep K1166 (ninS (Ne.symm ne_o_gh) (ninS (Ne.symm ne_os_gh) (ninS (Ne.symm ne_oi_gh) (ninS (Ne.symm ne_ow_gh) (ninS (Ne.symm ne_oz_gh) (ninS (Ne.symm ne_oh_gh) nin0))))))
  refine C.istore (Ls' := #[rv o, rv g, iv y1159, iv 31, iv (y1159 &&& 31), iv 0]) d7_83 rfl rfl ?_
  refine C.aloadN d7_85 rfl rfl rfl ?_
  refine C.getF d7_86 rfl (tw hw 21 rfl) F1172 ?_
  refine C.iload d7_89 rfl rfl ?_
  refine C.aloadN d7_91 rfl rfl rfl ?_
  refine C.getF d7_92 rfl (tw hw 87 rfl) F1173 ?_
  refine C.iastore d7_95 rfl F1192 g_ot (own_sl y1159).1 (own_sl y1159).2 (fun h1200 W1201 F1202 => ?_)
  have F1203 := Exa.wr W1201 F1179
  have F1204 := Exa.wr W1201 F1193
  have F1205 := F1194.other W1201 (Ne.symm ne_ot_gw)
  have F1206 := Fld.other W1201 F1195 (Or.inl (Ne.symm ne_ot_g))
  have F1207 := Fld.other W1201 F1196 (Or.inl (Ne.symm ne_ot_g))
  have F1208 := Fld.other W1201 F1197 (Or.inl (Ne.symm ne_ot_g))
  have F1209 := Fld.other W1201 F1198 (Or.inl (Ne.symm ne_ot_g))
  have F1210 := F1199.other W1201 (Ne.symm ne_ot_gh)
  have F1211 := Fld.other W1201 F1167 (Or.inl ne_o_ot)
  have F1212 := Fld.other W1201 F1168 (Or.inl ne_o_ot)
  have F1213 := Fld.other W1201 F1169 (Or.inl ne_o_ot)
  have F1214 := Fld.other W1201 F1170 (Or.inl ne_o_ot)
  have F1215 := Fld.other W1201 F1171 (Or.inl ne_o_ot)
  have F1216 := Fld.other W1201 F1172 (Or.inl ne_o_ot)
  have F1217 := Fld.other W1201 F1173 (Or.inl ne_o_ot)
  have F1218 := F1174.other W1201 ne_os_ot
  have F1219 := F1175.other W1201 ne_oi_ot
  have F1220 := F1176.other W1201 ne_ow_ot
  have F1221 := F1177.other W1201 ne_oz_ot
  have F1222 := F1178.other W1201 ne_oh_ot
  refine C.iconst 2 d7_96 rfl rfl ?_
  refine C.aloadN d7_97 rfl rfl rfl ?_
  refine C.getF d7_98 rfl (tw hw 87 rfl) F1217 ?_
  refine C.imul d7_101 rfl ?_
  refine Go.cI (y := 2) rfl ?_
  refine C.aloadN d7_102 rfl rfl rfl ?_
  refine C.getF d7_103 rfl (tw hw 21 rfl) F1216 ?_
  refine C.alen d7_106 rfl F1202 ?_
  rw [show ((zI32.set (Int32.toNatClampNeg (y1159 &&& 31)) (.int 1)).length.toInt32) = (32 : Int32) by rw [List.length_set]; rfl]
  refine C.icmp_le_t d7_107 (by decide) rfl (by decide) ?_
  refine C.iload d7_114 rfl rfl ?_
  exact C.retI d7_116 (by decide) (by decide) ⟨y1126, (Int32.ofNat (own_c3 w0 w1 w2).length), y1159, (Int32.toNatClampNeg (y1159 &&& 31)), rfl, ((((Keep.refl h0 [o, os, oi, ow, oz, oh, ot, g, gh]).trans K1127 (allS (Or.inl (List.mem_of_getElem? (i := 7) rfl)) (allS (Or.inl (List.mem_of_getElem? (i := 8) rfl)) all0))).trans K1166 (allS (Or.inl (List.mem_of_getElem? (i := 0) rfl)) (allS (Or.inl (List.mem_of_getElem? (i := 1) rfl)) (allS (Or.inl (List.mem_of_getElem? (i := 2) rfl)) (allS (Or.inl (List.mem_of_getElem? (i := 3) rfl)) (allS (Or.inl (List.mem_of_getElem? (i := 4) rfl)) (allS (Or.inl (List.mem_of_getElem? (i := 5) rfl)) all0))))))).wr W1201 (Or.inl (List.mem_of_getElem? (i := 6) rfl))), F1211, F1212, F1213, F1214, F1215, F1216, F1217, (by have q := F1218; rw [List.length_nil, Nat.zero_add] at q; exact q), F1219, F1220, F1221, F1222, F1202, F1206, F1207, F1208, F1209, F1210, u1134, (own_sl y1159).2⟩
theorem pd_7 : parseMethodDescriptor "(IILcom/example/detra/detra/SetWords;)Z" = some ⟨[.int, .int, (.object "com/example/detra/detra/SetWords")], some .boolean⟩ := by decide +kernel
def Qcon_num1 (Z : State) (n0 : Nat) (h0 : Heap) (o : Addr) (os : Addr) (oi : Addr) (ow : Addr) (oz : Addr) (oh : Addr) (ot : Addr) (g : Addr) (gw : Addr) (gh : Addr) (w0 : Int64) (w1 : Int64) (w2 : Int64) (cn : Int32) (hl : List Value) (la : List (Int32 × Int64)) (v0 : Int32) (sl : Nat) (v : Option Value) (h' : Heap) : Prop := ∃ (HL : List Value) (c9 : Int32) (b9 : Int32) (ST : List Value) (IX : List Value) (WD : List Value) (SZ : List Value), (v = some (.int b9)) ∧ (Keep h0 h' [o, os, oi, ow, oz, oh, ot, g, gh]) ∧ (Fld Z h' o kC1 "starts" "[I" (.ref os)) ∧ (Fld Z h' o kC1 "indices" "[I" (.ref oi)) ∧ (Fld Z h' o kC1 "words" "[J" (.ref ow)) ∧ (Fld Z h' o kC1 "sizes" "[I" (.ref oz)) ∧ (Fld Z h' o kC1 "hashes" "[I" (.ref oh)) ∧ (Fld Z h' o kC1 "table" "[I" (.ref ot)) ∧ (Av Z h' os .int ST) ∧ (Av Z h' oi .int IX) ∧ (Av Z h' ow .long WD) ∧ (Av Z h' oz .int SZ) ∧ (Fld Z h' g kC0 "words" "[J" (.ref gw)) ∧ (Fld Z h' g kC0 "held" "[I" (.ref gh)) ∧ (Fld Z h' g kC0 "listing" "Z" (.int 0)) ∧ (Fld Z h' g kC0 "count" "I" (.int c9)) ∧ (Av Z h' gh .int HL) ∧ (HL.length = 3) ∧ (own_set ST IX WD SZ 0 la) ∧ (own_set ST IX WD SZ b9 (own_c3 w0 w1 w2)) ∧ (b9 = 0 → la = (own_c3 w0 w1 w2))
theorem ef_con_num1 (m : MethodId) (o : Addr) (g : Addr) : entryFrame m #[(.ref o), (.ref g)] 6 = mkF m 0 #[rv o, rv g, .unset, .unset, .unset, .unset] [] := by first | (simp [entryFrame, mkF, argsToLocals, Value.category]; done) | rfl
set_option maxRecDepth 65536 in
set_option maxHeartbeats 40000000 in
theorem con_num1 (l : Launch) (Z : State) (a0 : Array Value) (hw : ∀ d ∈ tables_1, d.before a0 Z = true) (n0 : Nat) (h0 : Heap) (hn0 : n0 ≤ h0.size) (o : Addr) (os : Addr) (oi : Addr) (ow : Addr) (oz : Addr) (oh : Addr) (ot : Addr) (g : Addr) (gw : Addr) (gh : Addr) (w0 : Int64) (w1 : Int64) (w2 : Int64) (cn : Int32) (hl : List Value) (la : List (Int32 × Int64)) (v0 : Int32) (sl : Nat) (P0 : Exa Z h0 o kC1) (P1 : Fld Z h0 o kC1 "starts" "[I" (.ref os)) (P2 : Fld Z h0 o kC1 "indices" "[I" (.ref oi)) (P3 : Fld Z h0 o kC1 "words" "[J" (.ref ow)) (P4 : Fld Z h0 o kC1 "sizes" "[I" (.ref oz)) (P5 : Fld Z h0 o kC1 "hashes" "[I" (.ref oh)) (P6 : Fld Z h0 o kC1 "table" "[I" (.ref ot)) (P7 : Fld Z h0 o kC1 "size" "I" (.int 1)) (P8 : Av Z h0 os .int (.int 0 :: .int (Int32.ofNat la.length) :: zI15)) (P9 : Av Z h0 oi .int (own_ix la)) (P10 : Av Z h0 ow .long (own_wd la)) (P11 : Av Z h0 oz .int (.int (own_sz la) :: zI15)) (P12 : Av Z h0 oh .int (.int v0 :: zI15)) (P13 : Av Z h0 ot .int (zI32.set sl (.int 1))) (P14 : Exa Z h0 g kC0) (P15 : Fld Z h0 g kC0 "words" "[J" (.ref gw)) (P16 : Fld Z h0 g kC0 "held" "[I" (.ref gh)) (P17 : Fld Z h0 g kC0 "listing" "Z" (.int 0)) (P18 : Fld Z h0 g kC0 "count" "I" (.int cn)) (P19 : Av Z h0 gw .long ([.long w0, .long w1, .long w2])) (P20 : Av Z h0 gh .int hl) (g_o : n0 ≤ o) (g_os : n0 ≤ os) (g_oi : n0 ≤ oi) (g_ow : n0 ≤ ow) (g_oz : n0 ≤ oz) (g_oh : n0 ≤ oh) (g_ot : n0 ≤ ot) (g_g : n0 ≤ g) (g_gh : n0 ≤ gh) (ne_o_os : o ≠ os) (ne_o_oi : o ≠ oi) (ne_o_ow : o ≠ ow) (ne_o_oz : o ≠ oz) (ne_o_oh : o ≠ oh) (ne_o_ot : o ≠ ot) (ne_o_g : o ≠ g) (ne_o_gw : o ≠ gw) (ne_o_gh : o ≠ gh) (ne_os_oi : os ≠ oi) (ne_os_ow : os ≠ ow) (ne_os_oz : os ≠ oz) (ne_os_oh : os ≠ oh) (ne_os_ot : os ≠ ot) (ne_os_g : os ≠ g) (ne_os_gw : os ≠ gw) (ne_os_gh : os ≠ gh) (ne_oi_ow : oi ≠ ow) (ne_oi_oz : oi ≠ oz) (ne_oi_oh : oi ≠ oh) (ne_oi_ot : oi ≠ ot) (ne_oi_g : oi ≠ g) (ne_oi_gw : oi ≠ gw) (ne_oi_gh : oi ≠ gh) (ne_ow_oz : ow ≠ oz) (ne_ow_oh : ow ≠ oh) (ne_ow_ot : ow ≠ ot) (ne_ow_g : ow ≠ g) (ne_ow_gw : ow ≠ gw) (ne_ow_gh : ow ≠ gh) (ne_oz_oh : oz ≠ oh) (ne_oz_ot : oz ≠ ot) (ne_oz_g : oz ≠ g) (ne_oz_gw : oz ≠ gw) (ne_oz_gh : oz ≠ gh) (ne_oh_ot : oh ≠ ot) (ne_oh_g : oh ≠ g) (ne_oh_gw : oh ≠ gw) (ne_oh_gh : oh ≠ gh) (ne_ot_g : ot ≠ g) (ne_ot_gw : ot ≠ gw) (ne_ot_gh : ot ≠ gh) (ne_g_gw : g ≠ gw) (ne_g_gh : g ≠ gh) (ne_gw_gh : gw ≠ gh) (h3 : hl.length = 3) (hla : la.length ≤ 3) (hsl : sl < 32) :
    Con l Z n0 [] (⟨"com/example/detra/detra/StateSets", "number", "(Lcom/example/detra/detra/SetWords;)I"⟩ : MethodName) prog_22_method_2_code 6 (some .int) ({ frames := 2, cells := 0, slots := 0, locals := 34 } : Room) #[(.ref o), (.ref g)] h0 (Qcon_num1 Z n0 h0 o os oi ow oz oh ot g gw gh w0 w1 w2 cn hl la v0 sl) := by
  refine Con.of pf_8 (fun m => ef_con_num1 m o g) hn0 ?_
  intro p e s m below meth c C
  refine C.aloadN d7_0 rfl rfl rfl ?_
  refine C.callV (argsL := []) (rest := []) 0 (fun zz => con_lh l Z a0 hw n0 h0 zz g gw gh w0 w1 w2 cn hl P14 P15 P16 P17 P18 P19 P20 g_g g_gh ne_g_gw ne_g_gh ne_gw_gh h3) P14 d7_1 rfl (tw hw 57 rfl) (tw hw 58 rfl) (tw hw 59 rfl) (tw hw 60 rfl) (tw hw 25 rfl) (tw hw 61 rfl) (by decide) pd_4 rfl rfl rfl (Nat.le_of_eq rfl) (by decide) (by decide) (by decide) (by decide) (fun v1387 h1388 r1389 => ?_)
  obtain ⟨y1390, rfl, K1391, F1392, F1393, F1394, F1395, F1396, u1397, u1398⟩ := r1389
  have F1399 := P0.keep K1391
  have F1400 := P1.keep K1391 (ninS ne_o_g (ninS ne_o_gh nin0))
  have F1401 := P2.keep K1391 (ninS ne_o_g (ninS ne_o_gh nin0))
  have F1402 := P3.keep K1391 (ninS ne_o_g (ninS ne_o_gh nin0))
  have F1403 := P4.keep K1391 (ninS ne_o_g (ninS ne_o_gh nin0))
  have F1404 := P5.keep K1391 (ninS ne_o_g (ninS ne_o_gh nin0))
  have F1405 := P6.keep K1391 (ninS ne_o_g (ninS ne_o_gh nin0))
  have F1406 := P7.keep K1391 (ninS ne_o_g (ninS ne_o_gh nin0))
  have F1407 := P8.keep K1391 (ninS ne_os_g (ninS ne_os_gh nin0))
  have F1408 := P9.keep K1391 (ninS ne_oi_g (ninS ne_oi_gh nin0))
  have F1409 := P10.keep K1391 (ninS ne_ow_g (ninS ne_ow_gh nin0))
  have F1410 := P11.keep K1391 (ninS ne_oz_g (ninS ne_oz_gh nin0))
  have F1411 := P12.keep K1391 (ninS ne_oh_g (ninS ne_oh_gh nin0))
  have F1412 := P13.keep K1391 (ninS ne_ot_g (ninS ne_ot_gh nin0))
  have F1413 := P14.keep K1391
  have F1418 := P19.keep K1391 (ninS (Ne.symm ne_g_gw) (ninS ne_gw_gh nin0))
  refine C.aloadN d7_4 rfl rfl rfl ?_
  refine C.callS (argsL := [(.ref g)]) (rest := []) 0 (fun zz => con_hash l Z a0 hw n0 h1388 zz g gw gh (own_c3 w0 w1 w2) y1390 ([.long w0, .long w1, .long w2]) F1413 F1392 F1393 F1395 F1418 F1396 u1397 (own_c3ws w0 w1 w2) (own_c3len w0 w1 w2)) d7_5 rfl (tw hw 64 rfl) (tw hw 65 rfl) (tw hw 2 rfl) (tw hw 66 rfl) (by decide) pd_5 rfl rfl rfl (Nat.le_of_eq rfl) (by decide) (by decide) (by decide) (by decide) (fun v1420 h1421 r1422 => ?_)
  obtain ⟨y1423, rfl, rfl⟩ := r1422
  refine C.istoreN (Ls' := #[rv o, rv g, iv y1423, .unset, .unset, .unset]) d7_8 rfl rfl ?_
  refine C.aloadN d7_9 rfl rfl rfl ?_
  refine C.getF d7_10 rfl (tw hw 21 rfl) F1405 ?_
  refine C.alen d7_13 rfl F1412 ?_
  rw [show ((zI32.set sl (.int 1)).length.toInt32) = (32 : Int32) by simp only [List.length_set]; rfl]
  refine C.iconst 1 d7_14 rfl rfl ?_
  refine C.isub d7_15 rfl ?_
  refine Go.cI (y := 31) rfl ?_
  refine C.istoreN (Ls' := #[rv o, rv g, iv y1423, iv 31, .unset, .unset]) d7_16 rfl rfl ?_
  refine C.iloadN d7_17 rfl rfl ?_
  refine C.iloadN d7_18 rfl rfl ?_
  refine C.iand d7_19 rfl ?_
  refine C.istore (Ls' := #[rv o, rv g, iv y1423, iv 31, iv (y1423 &&& 31), .unset]) d7_20 rfl rfl ?_
  by_cases hq1 : Int32.toNatClampNeg (y1423 &&& 31) = sl
  · refine C.aloadN d7_22 rfl rfl rfl ?_
    refine C.getF d7_23 rfl (tw hw 21 rfl) F1405 ?_
    refine C.iload d7_26 rfl rfl ?_
    refine C.iaload (.int 1) d7_28 rfl F1412 (own_sl y1423).1 (by rw [hq1]; exact own_tb1 hsl) ?_
    refine C.if_eq_f d7_29 rfl (by decide) ?_
    refine C.aloadN d7_32 rfl rfl rfl ?_
    refine C.aloadN d7_33 rfl rfl rfl ?_
    refine C.getF d7_34 rfl (tw hw 21 rfl) F1405 ?_
    refine C.iload d7_37 rfl rfl ?_
    refine C.iaload (.int 1) d7_39 rfl F1412 (own_sl y1423).1 (by rw [hq1]; exact own_tb1 hsl) ?_
    refine C.iconst 1 d7_40 rfl rfl ?_
    refine C.isub d7_41 rfl ?_
    refine Go.cI (y := 0) rfl ?_
    refine C.iloadN d7_42 rfl rfl ?_
    refine C.aloadN d7_43 rfl rfl rfl ?_
    refine C.callP (argsL := [(.int 0), (.int y1423), (.ref g)]) (rest := []) 0 (fun zz => con_eq l Z a0 hw n0 h1388 zz o os oi ow oh g gw gh y1423 v0 la (own_c3 w0 w1 w2) (.int 0 :: .int (Int32.ofNat la.length) :: zI15) (own_ix la) (own_wd la) (.int v0 :: zI15) y1390 ([.long w0, .long w1, .long w2]) F1399 F1400 F1401 F1402 F1404 F1407 F1408 F1409 F1411 F1413 F1392 F1393 F1395 F1418 F1396 rfl rfl rfl (own_hdix la) (own_wdix la) u1397 (own_c3ws w0 w1 w2) hla (own_c3len w0 w1 w2)) F1399 d7_44 rfl (tw hw 103 rfl) (tw hw 105 rfl) (tw hw 104 rfl) (tw hw 1 rfl) (tw hw 2 rfl) (tw hw 106 rfl) (by decide) pd_7 rfl rfl rfl (Nat.le_of_eq rfl) (by decide) (by decide) (by decide) (by decide) (fun v1425 h1426 r1427 => ?_)
    obtain ⟨y1428, rfl, rfl, u1430⟩ := r1427
    rcases u1430 with rfl | ⟨rfl, hab⟩
    · refine C.if_ne_f d7_47 rfl (by decide) ?_
      refine C.iload d7_50 rfl rfl ?_
      refine C.iconst 1 d7_52 rfl rfl ?_
      refine C.iadd d7_53 rfl ?_
      refine C.iloadN d7_54 rfl rfl ?_
      refine C.iand d7_55 rfl ?_
      refine C.istore (Ls' := #[rv o, rv g, iv y1423, iv 31, iv (((y1423 &&& 31) + 1) &&& 31), .unset]) d7_56 rfl rfl ?_
      refine C.goto d7_58 (by decide) rfl ?_
      refine C.aloadN d7_22 rfl rfl rfl ?_
      refine C.getF d7_23 rfl (tw hw 21 rfl) F1405 ?_
      refine C.iload d7_26 rfl rfl ?_
      refine C.iaload (.int 0) d7_28 rfl F1412 (own_sl ((y1423 &&& 31) + 1)).1 (own_tbn (own_sl ((y1423 &&& 31) + 1)).2 (fun q => own_nx y1423 (q.trans hq1.symm))) ?_
      refine C.if_eq_t d7_29 (by decide) rfl (by decide) ?_
      refine C.aloadN d7_61 rfl rfl rfl ?_
      refine C.getF d7_62 rfl (tw hw 21 rfl) F1405 ?_
      refine C.iload d7_65 rfl rfl ?_
      refine C.iaload (.int 0) d7_67 rfl F1412 (own_sl ((y1423 &&& 31) + 1)).1 (own_tbn (own_sl ((y1423 &&& 31) + 1)).2 (fun q => own_nx y1423 (q.trans hq1.symm))) ?_
      refine C.iconst 1 d7_68 rfl rfl ?_
      refine C.isub d7_69 rfl ?_
      refine Go.cI (y := (-1)) rfl ?_
      refine C.istore (Ls' := #[rv o, rv g, iv y1423, iv 31, iv (((y1423 &&& 31) + 1) &&& 31), iv (-1)]) d7_70 rfl rfl ?_
      refine C.iload d7_72 rfl rfl ?_
      refine C.if_ge_f d7_74 rfl (by decide) ?_
      refine C.aloadN d7_77 rfl rfl rfl ?_
      refine C.aloadN d7_78 rfl rfl rfl ?_
      refine C.iloadN d7_79 rfl rfl ?_
      refine C.callP (argsL := [(.ref g), (.int y1423)]) (rest := []) 0 (fun zz => con_add1 l Z a0 hw n0 h1388 zz o os oi ow oz oh ot g gw gh y1423 la (own_c3 w0 w1 w2) y1390 ([.long w0, .long w1, .long w2]) (own_sz la) v0 F1399 F1400 F1401 F1402 F1403 F1404 F1405 F1406 F1407 F1408 F1409 F1410 F1411 F1413 F1392 F1393 F1395 F1418 F1396 g_o g_os g_oi g_ow g_oz g_oh ne_o_os ne_o_oi ne_o_ow ne_o_oz ne_o_oh ne_os_oi ne_os_ow ne_os_oz ne_os_oh ne_oi_ow ne_oi_oz ne_oi_oh ne_ow_oz ne_ow_oh ne_oz_oh (Ne.symm ne_o_g) (Ne.symm ne_os_g) (Ne.symm ne_oi_g) (Ne.symm ne_ow_g) (Ne.symm ne_oz_g) (Ne.symm ne_oh_g) (Ne.symm ne_o_gw) (Ne.symm ne_os_gw) (Ne.symm ne_oi_gw) (Ne.symm ne_ow_gw) (Ne.symm ne_oz_gw) (Ne.symm ne_oh_gw) (Ne.symm ne_o_gh) (Ne.symm ne_os_gh) (Ne.symm ne_oi_gh) (Ne.symm ne_ow_gh) (Ne.symm ne_oz_gh) (Ne.symm ne_oh_gh) u1397 (own_c3ws w0 w1 w2) hla (own_c3len w0 w1 w2)) F1399 d7_80 rfl (tw hw 83 rfl) (tw hw 85 rfl) (tw hw 84 rfl) (tw hw 1 rfl) (tw hw 2 rfl) (tw hw 86 rfl) (by decide) pd_6 rfl rfl rfl (Nat.le_of_eq rfl) (by decide) (by decide) (by decide) (by decide) (fun v1431 h1432 r1433 => ?_)
      obtain ⟨rfl, K1434, F1435, F1436, F1437, F1438, F1439, F1440, F1441, F1442, F1443, F1444, F1445, F1446⟩ := r1433
      have F1447 := F1399.keep K1434
      have F1460 := F1412.keep K1434 (ninS (Ne.symm ne_o_ot) (ninS (Ne.symm ne_os_ot) (ninS (Ne.symm ne_oi_ot) (ninS (Ne.symm ne_ow_ot) (ninS (Ne.symm ne_oz_ot) (ninS (Ne.symm ne_oh_ot) nin0))))))
      have F1461 := F1413.keep K1434
      have F1462 := F1418.keep K1434 (ninS (Ne.symm ne_o_gw) (ninS (Ne.symm ne_os_gw) (ninS (Ne.symm ne_oi_gw) (ninS (Ne.symm ne_ow_gw) (ninS (Ne.symm ne_oz_gw) (ninS (Ne.symm ne_oh_gw) nin0))))))
      have F1463 := F1392.keep K1434 (ninS (Ne.symm ne_o_g) (ninS (Ne.symm ne_os_g) (ninS (Ne.symm ne_oi_g) (ninS (Ne.symm ne_ow_g) (ninS (Ne.symm ne_oz_g) (ninS (Ne.symm ne_oh_g) nin0))))))
      have F1464 := F1393.keep K1434 (ninS (Ne.symm ne_o_g) (ninS (Ne.symm ne_os_g) (ninS (Ne.symm ne_oi_g) (ninS (Ne.symm ne_ow_g) (ninS (Ne.symm ne_oz_g) (ninS (Ne.symm ne_oh_g) nin0))))))
      have F1465 := F1394.keep K1434 (ninS (Ne.symm ne_o_g) (ninS (Ne.symm ne_os_g) (ninS (Ne.symm ne_oi_g) (ninS (Ne.symm ne_ow_g) (ninS (Ne.symm ne_oz_g) (ninS (Ne.symm ne_oh_g) nin0))))))
      have F1466 := F1395.keep K1434 (ninS (Ne.symm ne_o_g) (ninS (Ne.symm ne_os_g) (ninS (Ne.symm ne_oi_g) (ninS (Ne.symm ne_ow_g) (ninS (Ne.symm ne_oz_g) (ninS (Ne.symm ne_oh_g) nin0))))))
      have F1467 := F1396.keep K1434 (ninS (Ne.symm ne_o_gh) (ninS (Ne.symm ne_os_gh) (ninS (Ne.symm ne_oi_gh) (ninS (Ne.symm ne_ow_gh) (ninS (Ne.symm ne_oz_gh) (ninS (Ne.symm ne_oh_gh) nin0))))))
      refine C.istore (Ls' := #[rv o, rv g, iv y1423, iv 31, iv (((y1423 &&& 31) + 1) &&& 31), iv 1]) d7_83 rfl rfl ?_
      refine C.aloadN d7_85 rfl rfl rfl ?_
      refine C.getF d7_86 rfl (tw hw 21 rfl) F1440 ?_
      refine C.iload d7_89 rfl rfl ?_
      refine C.aloadN d7_91 rfl rfl rfl ?_
      refine C.getF d7_92 rfl (tw hw 87 rfl) F1441 ?_
      refine C.iastore d7_95 rfl F1460 g_ot (own_sl ((y1423 &&& 31) + 1)).1 (by rw [List.length_set]; exact (own_sl ((y1423 &&& 31) + 1)).2) (fun h1468 W1469 F1470 => ?_)
      have F1471 := Exa.wr W1469 F1447
      have F1472 := Exa.wr W1469 F1461
      have F1473 := F1462.other W1469 (Ne.symm ne_ot_gw)
      have F1474 := Fld.other W1469 F1463 (Or.inl (Ne.symm ne_ot_g))
      have F1475 := Fld.other W1469 F1464 (Or.inl (Ne.symm ne_ot_g))
      have F1476 := Fld.other W1469 F1465 (Or.inl (Ne.symm ne_ot_g))
      have F1477 := Fld.other W1469 F1466 (Or.inl (Ne.symm ne_ot_g))
      have F1478 := F1467.other W1469 (Ne.symm ne_ot_gh)
      have F1479 := Fld.other W1469 F1435 (Or.inl ne_o_ot)
      have F1480 := Fld.other W1469 F1436 (Or.inl ne_o_ot)
      have F1481 := Fld.other W1469 F1437 (Or.inl ne_o_ot)
      have F1482 := Fld.other W1469 F1438 (Or.inl ne_o_ot)
      have F1483 := Fld.other W1469 F1439 (Or.inl ne_o_ot)
      have F1484 := Fld.other W1469 F1440 (Or.inl ne_o_ot)
      have F1485 := Fld.other W1469 F1441 (Or.inl ne_o_ot)
      have F1486 := F1442.other W1469 ne_os_ot
      have F1487 := F1443.other W1469 ne_oi_ot
      have F1488 := F1444.other W1469 ne_ow_ot
      have F1489 := F1445.other W1469 ne_oz_ot
      have F1490 := F1446.other W1469 ne_oh_ot
      refine C.iconst 2 d7_96 rfl rfl ?_
      refine C.aloadN d7_97 rfl rfl rfl ?_
      refine C.getF d7_98 rfl (tw hw 87 rfl) F1485 ?_
      refine C.imul d7_101 rfl ?_
      refine Go.cI (y := 4) rfl ?_
      refine C.aloadN d7_102 rfl rfl rfl ?_
      refine C.getF d7_103 rfl (tw hw 21 rfl) F1484 ?_
      refine C.alen d7_106 rfl F1470 ?_
      rw [show (((zI32.set sl (.int 1)).set (Int32.toNatClampNeg (((y1423 &&& 31) + 1) &&& 31)) (.int 2)).length.toInt32) = (32 : Int32) by simp only [List.length_set]; rfl]
      refine C.icmp_le_t d7_107 (by decide) rfl (by decide) ?_
      refine C.iload d7_114 rfl rfl ?_
      exact C.retI d7_116 (by decide) (by decide) ⟨y1390, (Int32.ofNat (own_c3 w0 w1 w2).length), 1, (.int 0 :: .int (Int32.ofNat la.length) :: .int (Int32.ofNat (la.length + (own_c3 w0 w1 w2).length)) :: zI14), own_ix (la ++ (own_c3 w0 w1 w2)), own_wd (la ++ (own_c3 w0 w1 w2)), (.int (own_sz la) :: .int (own_sz (own_c3 w0 w1 w2)) :: zI14), rfl, ((((Keep.refl h0 [o, os, oi, ow, oz, oh, ot, g, gh]).trans K1391 (allS (Or.inl (List.mem_of_getElem? (i := 7) rfl)) (allS (Or.inl (List.mem_of_getElem? (i := 8) rfl)) all0))).trans K1434 (allS (Or.inl (List.mem_of_getElem? (i := 0) rfl)) (allS (Or.inl (List.mem_of_getElem? (i := 1) rfl)) (allS (Or.inl (List.mem_of_getElem? (i := 2) rfl)) (allS (Or.inl (List.mem_of_getElem? (i := 3) rfl)) (allS (Or.inl (List.mem_of_getElem? (i := 4) rfl)) (allS (Or.inl (List.mem_of_getElem? (i := 5) rfl)) all0))))))).wr W1469 (Or.inl (List.mem_of_getElem? (i := 6) rfl))), F1479, F1480, F1481, F1482, F1483, F1484, F1486, F1487, F1488, F1489, F1474, F1475, F1476, F1477, F1478, u1398, (own_set0 la (own_c3 w0 w1 w2) [] _ _ hla), (own_set1 la (own_c3 w0 w1 w2) _ _ _ hla (own_c3len w0 w1 w2)), (fun q => absurd q (by decide))⟩
    refine C.if_ne_t d7_47 (by decide) rfl (by decide) ?_
    refine C.aloadN d7_61 rfl rfl rfl ?_
    refine C.getF d7_62 rfl (tw hw 21 rfl) F1405 ?_
    refine C.iload d7_65 rfl rfl ?_
    refine C.iaload (.int 1) d7_67 rfl F1412 (own_sl y1423).1 (by rw [hq1]; exact own_tb1 hsl) ?_
    refine C.iconst 1 d7_68 rfl rfl ?_
    refine C.isub d7_69 rfl ?_
    refine Go.cI (y := 0) rfl ?_
    refine C.istore (Ls' := #[rv o, rv g, iv y1423, iv 31, iv (y1423 &&& 31), iv 0]) d7_70 rfl rfl ?_
    refine C.iload d7_72 rfl rfl ?_
    refine C.if_ge_t d7_74 (by decide) rfl (by decide) ?_
    refine C.iload d7_114 rfl rfl ?_
    exact C.retI d7_116 (by decide) (by decide) ⟨y1390, (Int32.ofNat (own_c3 w0 w1 w2).length), 0, (.int 0 :: .int (Int32.ofNat la.length) :: zI15), own_ix la, own_wd la, (.int (own_sz la) :: zI15), rfl, ((Keep.refl h0 [o, os, oi, ow, oz, oh, ot, g, gh]).trans K1391 (allS (Or.inl (List.mem_of_getElem? (i := 7) rfl)) (allS (Or.inl (List.mem_of_getElem? (i := 8) rfl)) all0))), F1400, F1401, F1402, F1403, F1404, F1405, F1407, F1408, F1409, F1410, F1392, F1393, F1394, F1395, F1396, u1398, (by have q := own_set0 la [] [] zI15 zI15 hla; rw [List.append_nil] at q; exact q), (by rw [← hab]; have q := own_set0 la [] [] zI15 zI15 hla; rw [List.append_nil] at q; exact q), (fun _ => hab)⟩
  refine C.aloadN d7_22 rfl rfl rfl ?_
  refine C.getF d7_23 rfl (tw hw 21 rfl) F1405 ?_
  refine C.iload d7_26 rfl rfl ?_
  refine C.iaload (.int 0) d7_28 rfl F1412 (own_sl y1423).1 (own_tbn (own_sl y1423).2 hq1) ?_
  refine C.if_eq_t d7_29 (by decide) rfl (by decide) ?_
  refine C.aloadN d7_61 rfl rfl rfl ?_
  refine C.getF d7_62 rfl (tw hw 21 rfl) F1405 ?_
  refine C.iload d7_65 rfl rfl ?_
  refine C.iaload (.int 0) d7_67 rfl F1412 (own_sl y1423).1 (own_tbn (own_sl y1423).2 hq1) ?_
  refine C.iconst 1 d7_68 rfl rfl ?_
  refine C.isub d7_69 rfl ?_
  refine Go.cI (y := (-1)) rfl ?_
  refine C.istore (Ls' := #[rv o, rv g, iv y1423, iv 31, iv (y1423 &&& 31), iv (-1)]) d7_70 rfl rfl ?_
  refine C.iload d7_72 rfl rfl ?_
  refine C.if_ge_f d7_74 rfl (by decide) ?_
  refine C.aloadN d7_77 rfl rfl rfl ?_
  refine C.aloadN d7_78 rfl rfl rfl ?_
  refine C.iloadN d7_79 rfl rfl ?_
  refine C.callP (argsL := [(.ref g), (.int y1423)]) (rest := []) 0 (fun zz => con_add1 l Z a0 hw n0 h1388 zz o os oi ow oz oh ot g gw gh y1423 la (own_c3 w0 w1 w2) y1390 ([.long w0, .long w1, .long w2]) (own_sz la) v0 F1399 F1400 F1401 F1402 F1403 F1404 F1405 F1406 F1407 F1408 F1409 F1410 F1411 F1413 F1392 F1393 F1395 F1418 F1396 g_o g_os g_oi g_ow g_oz g_oh ne_o_os ne_o_oi ne_o_ow ne_o_oz ne_o_oh ne_os_oi ne_os_ow ne_os_oz ne_os_oh ne_oi_ow ne_oi_oz ne_oi_oh ne_ow_oz ne_ow_oh ne_oz_oh (Ne.symm ne_o_g) (Ne.symm ne_os_g) (Ne.symm ne_oi_g) (Ne.symm ne_ow_g) (Ne.symm ne_oz_g) (Ne.symm ne_oh_g) (Ne.symm ne_o_gw) (Ne.symm ne_os_gw) (Ne.symm ne_oi_gw) (Ne.symm ne_ow_gw) (Ne.symm ne_oz_gw) (Ne.symm ne_oh_gw) (Ne.symm ne_o_gh) (Ne.symm ne_os_gh) (Ne.symm ne_oi_gh) (Ne.symm ne_ow_gh) (Ne.symm ne_oz_gh) (Ne.symm ne_oh_gh) u1397 (own_c3ws w0 w1 w2) hla (own_c3len w0 w1 w2)) F1399 d7_80 rfl (tw hw 83 rfl) (tw hw 85 rfl) (tw hw 84 rfl) (tw hw 1 rfl) (tw hw 2 rfl) (tw hw 86 rfl) (by decide) pd_6 rfl rfl rfl (Nat.le_of_eq rfl) (by decide) (by decide) (by decide) (by decide) (fun v1491 h1492 r1493 => ?_)
  obtain ⟨rfl, K1494, F1495, F1496, F1497, F1498, F1499, F1500, F1501, F1502, F1503, F1504, F1505, F1506⟩ := r1493
  have F1507 := F1399.keep K1494
  have F1520 := F1412.keep K1494 (ninS (Ne.symm ne_o_ot) (ninS (Ne.symm ne_os_ot) (ninS (Ne.symm ne_oi_ot) (ninS (Ne.symm ne_ow_ot) (ninS (Ne.symm ne_oz_ot) (ninS (Ne.symm ne_oh_ot) nin0))))))
  have F1521 := F1413.keep K1494
  have F1522 := F1418.keep K1494 (ninS (Ne.symm ne_o_gw) (ninS (Ne.symm ne_os_gw) (ninS (Ne.symm ne_oi_gw) (ninS (Ne.symm ne_ow_gw) (ninS (Ne.symm ne_oz_gw) (ninS (Ne.symm ne_oh_gw) nin0))))))
  have F1523 := F1392.keep K1494 (ninS (Ne.symm ne_o_g) (ninS (Ne.symm ne_os_g) (ninS (Ne.symm ne_oi_g) (ninS (Ne.symm ne_ow_g) (ninS (Ne.symm ne_oz_g) (ninS (Ne.symm ne_oh_g) nin0))))))
  have F1524 := F1393.keep K1494 (ninS (Ne.symm ne_o_g) (ninS (Ne.symm ne_os_g) (ninS (Ne.symm ne_oi_g) (ninS (Ne.symm ne_ow_g) (ninS (Ne.symm ne_oz_g) (ninS (Ne.symm ne_oh_g) nin0))))))
  have F1525 := F1394.keep K1494 (ninS (Ne.symm ne_o_g) (ninS (Ne.symm ne_os_g) (ninS (Ne.symm ne_oi_g) (ninS (Ne.symm ne_ow_g) (ninS (Ne.symm ne_oz_g) (ninS (Ne.symm ne_oh_g) nin0))))))
  have F1526 := F1395.keep K1494 (ninS (Ne.symm ne_o_g) (ninS (Ne.symm ne_os_g) (ninS (Ne.symm ne_oi_g) (ninS (Ne.symm ne_ow_g) (ninS (Ne.symm ne_oz_g) (ninS (Ne.symm ne_oh_g) nin0))))))
  have F1527 := F1396.keep K1494 (ninS (Ne.symm ne_o_gh) (ninS (Ne.symm ne_os_gh) (ninS (Ne.symm ne_oi_gh) (ninS (Ne.symm ne_ow_gh) (ninS (Ne.symm ne_oz_gh) (ninS (Ne.symm ne_oh_gh) nin0))))))
  refine C.istore (Ls' := #[rv o, rv g, iv y1423, iv 31, iv (y1423 &&& 31), iv 1]) d7_83 rfl rfl ?_
  refine C.aloadN d7_85 rfl rfl rfl ?_
  refine C.getF d7_86 rfl (tw hw 21 rfl) F1500 ?_
  refine C.iload d7_89 rfl rfl ?_
  refine C.aloadN d7_91 rfl rfl rfl ?_
  refine C.getF d7_92 rfl (tw hw 87 rfl) F1501 ?_
  refine C.iastore d7_95 rfl F1520 g_ot (own_sl y1423).1 (by rw [List.length_set]; exact (own_sl y1423).2) (fun h1528 W1529 F1530 => ?_)
  have F1531 := Exa.wr W1529 F1507
  have F1532 := Exa.wr W1529 F1521
  have F1533 := F1522.other W1529 (Ne.symm ne_ot_gw)
  have F1534 := Fld.other W1529 F1523 (Or.inl (Ne.symm ne_ot_g))
  have F1535 := Fld.other W1529 F1524 (Or.inl (Ne.symm ne_ot_g))
  have F1536 := Fld.other W1529 F1525 (Or.inl (Ne.symm ne_ot_g))
  have F1537 := Fld.other W1529 F1526 (Or.inl (Ne.symm ne_ot_g))
  have F1538 := F1527.other W1529 (Ne.symm ne_ot_gh)
  have F1539 := Fld.other W1529 F1495 (Or.inl ne_o_ot)
  have F1540 := Fld.other W1529 F1496 (Or.inl ne_o_ot)
  have F1541 := Fld.other W1529 F1497 (Or.inl ne_o_ot)
  have F1542 := Fld.other W1529 F1498 (Or.inl ne_o_ot)
  have F1543 := Fld.other W1529 F1499 (Or.inl ne_o_ot)
  have F1544 := Fld.other W1529 F1500 (Or.inl ne_o_ot)
  have F1545 := Fld.other W1529 F1501 (Or.inl ne_o_ot)
  have F1546 := F1502.other W1529 ne_os_ot
  have F1547 := F1503.other W1529 ne_oi_ot
  have F1548 := F1504.other W1529 ne_ow_ot
  have F1549 := F1505.other W1529 ne_oz_ot
  have F1550 := F1506.other W1529 ne_oh_ot
  refine C.iconst 2 d7_96 rfl rfl ?_
  refine C.aloadN d7_97 rfl rfl rfl ?_
  refine C.getF d7_98 rfl (tw hw 87 rfl) F1545 ?_
  refine C.imul d7_101 rfl ?_
  refine Go.cI (y := 4) rfl ?_
  refine C.aloadN d7_102 rfl rfl rfl ?_
  refine C.getF d7_103 rfl (tw hw 21 rfl) F1544 ?_
  refine C.alen d7_106 rfl F1530 ?_
  rw [show (((zI32.set sl (.int 1)).set (Int32.toNatClampNeg (y1423 &&& 31)) (.int 2)).length.toInt32) = (32 : Int32) by simp only [List.length_set]; rfl]
  refine C.icmp_le_t d7_107 (by decide) rfl (by decide) ?_
  refine C.iload d7_114 rfl rfl ?_
  exact C.retI d7_116 (by decide) (by decide) ⟨y1390, (Int32.ofNat (own_c3 w0 w1 w2).length), 1, (.int 0 :: .int (Int32.ofNat la.length) :: .int (Int32.ofNat (la.length + (own_c3 w0 w1 w2).length)) :: zI14), own_ix (la ++ (own_c3 w0 w1 w2)), own_wd (la ++ (own_c3 w0 w1 w2)), (.int (own_sz la) :: .int (own_sz (own_c3 w0 w1 w2)) :: zI14), rfl, ((((Keep.refl h0 [o, os, oi, ow, oz, oh, ot, g, gh]).trans K1391 (allS (Or.inl (List.mem_of_getElem? (i := 7) rfl)) (allS (Or.inl (List.mem_of_getElem? (i := 8) rfl)) all0))).trans K1494 (allS (Or.inl (List.mem_of_getElem? (i := 0) rfl)) (allS (Or.inl (List.mem_of_getElem? (i := 1) rfl)) (allS (Or.inl (List.mem_of_getElem? (i := 2) rfl)) (allS (Or.inl (List.mem_of_getElem? (i := 3) rfl)) (allS (Or.inl (List.mem_of_getElem? (i := 4) rfl)) (allS (Or.inl (List.mem_of_getElem? (i := 5) rfl)) all0))))))).wr W1529 (Or.inl (List.mem_of_getElem? (i := 6) rfl))), F1539, F1540, F1541, F1542, F1543, F1544, F1546, F1547, F1548, F1549, F1534, F1535, F1536, F1537, F1538, u1398, (own_set0 la (own_c3 w0 w1 w2) [] _ _ hla), (own_set1 la (own_c3 w0 w1 w2) _ _ _ hla (own_c3len w0 w1 w2)), (fun q => absurd q (by decide))⟩
def own_sub : List (Int32 × Int64) → List (Int32 × Int64) → Int32
  | [], _ => 1
  | (i, w) :: t, lo => match lo.dropWhile (fun q => decide (q.1 < i)) with
    | [] => 0
    | (k, v) :: r => if k = i ∧ w &&& (v ^^^ (-1 : Int64)) = 0 then own_sub t ((k, v) :: r) else 0
def own_hold (lo li : List (Int32 × Int64)) : Int32 := if own_sz lo < own_sz li then 0 else own_sub li lo
theorem own_dw {lo : List (Int32 × Int64)} {k : Nat} {q : Int32 × Int64} {i : Int32} (h : lo[k]? = some q) (g : q.1 < i) : (lo.drop k).dropWhile (fun q => decide (q.1 < i)) = (lo.drop (k + 1)).dropWhile (fun q => decide (q.1 < i)) := by
  have e : lo.drop k = q :: lo.drop (k + 1) := by rw [List.drop_eq_getElem_cons (List.getElem?_eq_some_iff.mp h).1, (List.getElem?_eq_some_iff.mp h).2]
  rw [e, List.dropWhile_cons]; simp [g]
theorem own_dn {lo : List (Int32 × Int64)} {k : Nat} {q : Int32 × Int64} {i : Int32} (h : lo[k]? = some q) (g : ¬ q.1 < i) : (lo.drop k).dropWhile (fun q => decide (q.1 < i)) = q :: lo.drop (k + 1) := by
  have e : lo.drop k = q :: lo.drop (k + 1) := by rw [List.drop_eq_getElem_cons (List.getElem?_eq_some_iff.mp h).1, (List.getElem?_eq_some_iff.mp h).2]
  rw [e, List.dropWhile_cons]; simp [g]
theorem own_dc {l : List (Int32 × Int64)} {j : Nat} {p : Int32 × Int64} (h : l[j]? = some p) : l.drop j = p :: l.drop (j + 1) := by
  rw [List.drop_eq_getElem_cons (List.getElem?_eq_some_iff.mp h).1, (List.getElem?_eq_some_iff.mp h).2]
theorem own_sub0 {p : Int32 × Int64} {t lo : List (Int32 × Int64)} (h : lo.dropWhile (fun q => decide (q.1 < p.1)) = []) : own_sub (p :: t) lo = 0 := by
  simp only [own_sub, h]
theorem own_subY {p q : Int32 × Int64} {t lo r : List (Int32 × Int64)} (h : lo.dropWhile (fun q => decide (q.1 < p.1)) = q :: r) (h1 : q.1 = p.1) (h2 : p.2 &&& (q.2 ^^^ (-1 : Int64)) = 0) : own_sub (p :: t) lo = own_sub t (q :: r) := by
  simp only [own_sub, h]; rw [if_pos ⟨h1, h2⟩]
theorem own_subN {p q : Int32 × Int64} {t lo r : List (Int32 × Int64)} (h : lo.dropWhile (fun q => decide (q.1 < p.1)) = q :: r) (h1 : ¬ (q.1 = p.1 ∧ p.2 &&& (q.2 ^^^ (-1 : Int64)) = 0)) : own_sub (p :: t) lo = 0 := by
  simp only [own_sub, h, h1, if_false]
theorem own_subD {p : Int32 × Int64} {t lo lo' : List (Int32 × Int64)} (h : lo.dropWhile (fun q => decide (q.1 < p.1)) = lo'.dropWhile (fun q => decide (q.1 < p.1))) : own_sub (p :: t) lo = own_sub (p :: t) lo' := by
  simp only [own_sub, h]
theorem d15_0 : decode prog_22_method_6_code 0 = .ok (.aload_n 0, 1) := by decide +kernel
theorem d15_1 : decode prog_22_method_6_code 1 = .ok (.getfield 7, 3) := by decide +kernel
theorem d15_4 : decode prog_22_method_6_code 4 = .ok (.iload_n 1, 1) := by decide +kernel
theorem d15_5 : decode prog_22_method_6_code 5 = .ok (.iaload, 1) := by decide +kernel
theorem d15_6 : decode prog_22_method_6_code 6 = .ok (.istore_n 3, 1) := by decide +kernel
theorem d15_7 : decode prog_22_method_6_code 7 = .ok (.aload_n 0, 1) := by decide +kernel
theorem d15_8 : decode prog_22_method_6_code 8 = .ok (.getfield 7, 3) := by decide +kernel
theorem d15_11 : decode prog_22_method_6_code 11 = .ok (.iload_n 1, 1) := by decide +kernel
theorem d15_12 : decode prog_22_method_6_code 12 = .ok (.iconst 1, 1) := by decide +kernel
theorem d15_13 : decode prog_22_method_6_code 13 = .ok (.iadd, 1) := by decide +kernel
theorem d15_14 : decode prog_22_method_6_code 14 = .ok (.iaload, 1) := by decide +kernel
theorem d15_15 : decode prog_22_method_6_code 15 = .ok (.istore 4, 2) := by decide +kernel
theorem d15_17 : decode prog_22_method_6_code 17 = .ok (.aload_n 0, 1) := by decide +kernel
theorem d15_18 : decode prog_22_method_6_code 18 = .ok (.getfield 20, 3) := by decide +kernel
theorem d15_21 : decode prog_22_method_6_code 21 = .ok (.iload_n 2, 1) := by decide +kernel
theorem d15_22 : decode prog_22_method_6_code 22 = .ok (.iaload, 1) := by decide +kernel
theorem d15_23 : decode prog_22_method_6_code 23 = .ok (.aload_n 0, 1) := by decide +kernel
theorem d15_24 : decode prog_22_method_6_code 24 = .ok (.getfield 20, 3) := by decide +kernel
theorem d15_27 : decode prog_22_method_6_code 27 = .ok (.iload_n 1, 1) := by decide +kernel
theorem d15_28 : decode prog_22_method_6_code 28 = .ok (.iaload, 1) := by decide +kernel
theorem d15_29 : decode prog_22_method_6_code 29 = .ok (.if_icmp .gt 7, 3) := by decide +kernel
theorem d15_32 : decode prog_22_method_6_code 32 = .ok (.iconst 1, 1) := by decide +kernel
theorem d15_33 : decode prog_22_method_6_code 33 = .ok (.goto 4, 3) := by decide +kernel
theorem d15_36 : decode prog_22_method_6_code 36 = .ok (.iconst 0, 1) := by decide +kernel
theorem d15_37 : decode prog_22_method_6_code 37 = .ok (.istore 5, 2) := by decide +kernel
theorem d15_39 : decode prog_22_method_6_code 39 = .ok (.aload_n 0, 1) := by decide +kernel
theorem d15_40 : decode prog_22_method_6_code 40 = .ok (.getfield 7, 3) := by decide +kernel
theorem d15_43 : decode prog_22_method_6_code 43 = .ok (.iload_n 2, 1) := by decide +kernel
theorem d15_44 : decode prog_22_method_6_code 44 = .ok (.iaload, 1) := by decide +kernel
theorem d15_45 : decode prog_22_method_6_code 45 = .ok (.istore 6, 2) := by decide +kernel
theorem d15_47 : decode prog_22_method_6_code 47 = .ok (.iload 6, 2) := by decide +kernel
theorem d15_49 : decode prog_22_method_6_code 49 = .ok (.aload_n 0, 1) := by decide +kernel
theorem d15_50 : decode prog_22_method_6_code 50 = .ok (.getfield 7, 3) := by decide +kernel
theorem d15_53 : decode prog_22_method_6_code 53 = .ok (.iload_n 2, 1) := by decide +kernel
theorem d15_54 : decode prog_22_method_6_code 54 = .ok (.iconst 1, 1) := by decide +kernel
theorem d15_55 : decode prog_22_method_6_code 55 = .ok (.iadd, 1) := by decide +kernel
theorem d15_56 : decode prog_22_method_6_code 56 = .ok (.iaload, 1) := by decide +kernel
theorem d15_57 : decode prog_22_method_6_code 57 = .ok (.if_icmp .ge 94, 3) := by decide +kernel
theorem d15_60 : decode prog_22_method_6_code 60 = .ok (.iload 5, 2) := by decide +kernel
theorem d15_62 : decode prog_22_method_6_code 62 = .ok (.ifCond .eq 89, 3) := by decide +kernel
theorem d15_65 : decode prog_22_method_6_code 65 = .ok (.iload_n 3, 1) := by decide +kernel
theorem d15_66 : decode prog_22_method_6_code 66 = .ok (.iload 4, 2) := by decide +kernel
theorem d15_68 : decode prog_22_method_6_code 68 = .ok (.if_icmp .ge 25, 3) := by decide +kernel
theorem d15_71 : decode prog_22_method_6_code 71 = .ok (.aload_n 0, 1) := by decide +kernel
theorem d15_72 : decode prog_22_method_6_code 72 = .ok (.getfield 13, 3) := by decide +kernel
theorem d15_75 : decode prog_22_method_6_code 75 = .ok (.iload_n 3, 1) := by decide +kernel
theorem d15_76 : decode prog_22_method_6_code 76 = .ok (.iaload, 1) := by decide +kernel
theorem d15_77 : decode prog_22_method_6_code 77 = .ok (.aload_n 0, 1) := by decide +kernel
theorem d15_78 : decode prog_22_method_6_code 78 = .ok (.getfield 13, 3) := by decide +kernel
theorem d15_81 : decode prog_22_method_6_code 81 = .ok (.iload 6, 2) := by decide +kernel
theorem d15_83 : decode prog_22_method_6_code 83 = .ok (.iaload, 1) := by decide +kernel
theorem d15_84 : decode prog_22_method_6_code 84 = .ok (.if_icmp .ge 9, 3) := by decide +kernel
theorem d15_87 : decode prog_22_method_6_code 87 = .ok (.iinc 3 1, 3) := by decide +kernel
theorem d15_90 : decode prog_22_method_6_code 90 = .ok (.goto (-25), 3) := by decide +kernel
theorem d15_93 : decode prog_22_method_6_code 93 = .ok (.iload_n 3, 1) := by decide +kernel
theorem d15_94 : decode prog_22_method_6_code 94 = .ok (.iload 4, 2) := by decide +kernel
theorem d15_96 : decode prog_22_method_6_code 96 = .ok (.if_icmp .ge 46, 3) := by decide +kernel
theorem d15_99 : decode prog_22_method_6_code 99 = .ok (.aload_n 0, 1) := by decide +kernel
theorem d15_100 : decode prog_22_method_6_code 100 = .ok (.getfield 13, 3) := by decide +kernel
theorem d15_103 : decode prog_22_method_6_code 103 = .ok (.iload_n 3, 1) := by decide +kernel
theorem d15_104 : decode prog_22_method_6_code 104 = .ok (.iaload, 1) := by decide +kernel
theorem d15_105 : decode prog_22_method_6_code 105 = .ok (.aload_n 0, 1) := by decide +kernel
theorem d15_106 : decode prog_22_method_6_code 106 = .ok (.getfield 13, 3) := by decide +kernel
theorem d15_109 : decode prog_22_method_6_code 109 = .ok (.iload 6, 2) := by decide +kernel
theorem d15_111 : decode prog_22_method_6_code 111 = .ok (.iaload, 1) := by decide +kernel
theorem d15_112 : decode prog_22_method_6_code 112 = .ok (.if_icmp .ne 30, 3) := by decide +kernel
theorem d15_115 : decode prog_22_method_6_code 115 = .ok (.aload_n 0, 1) := by decide +kernel
theorem d15_116 : decode prog_22_method_6_code 116 = .ok (.getfield 16, 3) := by decide +kernel
theorem d15_119 : decode prog_22_method_6_code 119 = .ok (.iload 6, 2) := by decide +kernel
theorem d15_121 : decode prog_22_method_6_code 121 = .ok (.laload, 1) := by decide +kernel
theorem d15_122 : decode prog_22_method_6_code 122 = .ok (.aload_n 0, 1) := by decide +kernel
theorem d15_123 : decode prog_22_method_6_code 123 = .ok (.getfield 16, 3) := by decide +kernel
theorem d15_126 : decode prog_22_method_6_code 126 = .ok (.iload_n 3, 1) := by decide +kernel
theorem d15_127 : decode prog_22_method_6_code 127 = .ok (.laload, 1) := by decide +kernel
theorem d15_128 : decode prog_22_method_6_code 128 = .ok (.ldc2_w 59, 3) := by decide +kernel
theorem d15_131 : decode prog_22_method_6_code 131 = .ok (.lxor, 1) := by decide +kernel
theorem d15_132 : decode prog_22_method_6_code 132 = .ok (.land, 1) := by decide +kernel
theorem d15_133 : decode prog_22_method_6_code 133 = .ok (.lconst 0, 1) := by decide +kernel
theorem d15_134 : decode prog_22_method_6_code 134 = .ok (.lcmp, 1) := by decide +kernel
theorem d15_135 : decode prog_22_method_6_code 135 = .ok (.ifCond .ne 7, 3) := by decide +kernel
theorem d15_138 : decode prog_22_method_6_code 138 = .ok (.iconst 1, 1) := by decide +kernel
theorem d15_139 : decode prog_22_method_6_code 139 = .ok (.goto 4, 3) := by decide +kernel
theorem d15_142 : decode prog_22_method_6_code 142 = .ok (.iconst 0, 1) := by decide +kernel
theorem d15_143 : decode prog_22_method_6_code 143 = .ok (.istore 5, 2) := by decide +kernel
theorem d15_145 : decode prog_22_method_6_code 145 = .ok (.iinc 6 1, 3) := by decide +kernel
theorem d15_148 : decode prog_22_method_6_code 148 = .ok (.goto (-101), 3) := by decide +kernel
theorem d15_151 : decode prog_22_method_6_code 151 = .ok (.iload 5, 2) := by decide +kernel
theorem d15_153 : decode prog_22_method_6_code 153 = .ok (.ireturn, 1) := by decide +kernel
theorem pf_9 : plainFor (⟨"com/example/detra/detra/StateSets", "holds", "(II)Z"⟩ : MethodName) = true := by first | exact plainFor_of_name (by first | (simp [plainName, overriddenIn]; done) | decide +kernel) | decide +kernel
def Qcon_holds (Z : State) (n0 : Nat) (h0 : Heap) (o : Addr) (os : Addr) (oi : Addr) (ow : Addr) (oz : Addr) (x9 : Int32) (y9 : Int32) (lo : List (Int32 × Int64)) (li : List (Int32 × Int64)) (ST : List Value) (IX : List Value) (WD : List Value) (SZ : List Value) (v : Option Value) (h' : Heap) : Prop := (v = some (.int (own_hold lo li))) ∧ (h0 = h')
theorem ef_con_holds (m : MethodId) (o : Addr) (x9 : Int32) (y9 : Int32) : entryFrame m #[(.ref o), (.int x9), (.int y9)] 7 = mkF m 0 #[rv o, iv x9, iv y9, .unset, .unset, .unset, .unset] [] := by first | (simp [entryFrame, mkF, argsToLocals, Value.category]; done) | rfl
set_option maxRecDepth 65536 in
set_option maxHeartbeats 40000000 in
theorem con_holds (l : Launch) (Z : State) (a0 : Array Value) (hw : ∀ d ∈ tables_1, d.before a0 Z = true) (n0 : Nat) (h0 : Heap) (hn0 : n0 ≤ h0.size) (o : Addr) (os : Addr) (oi : Addr) (ow : Addr) (oz : Addr) (x9 : Int32) (y9 : Int32) (lo : List (Int32 × Int64)) (li : List (Int32 × Int64)) (ST : List Value) (IX : List Value) (WD : List Value) (SZ : List Value) (P0 : Fld Z h0 o kC1 "starts" "[I" (.ref os)) (P1 : Fld Z h0 o kC1 "indices" "[I" (.ref oi)) (P2 : Fld Z h0 o kC1 "words" "[J" (.ref ow)) (P3 : Fld Z h0 o kC1 "sizes" "[I" (.ref oz)) (P4 : Av Z h0 os .int ST) (P5 : Av Z h0 oi .int IX) (P6 : Av Z h0 ow .long WD) (P7 : Av Z h0 oz .int SZ) (hso : own_set ST IX WD SZ x9 lo) (hsi : own_set ST IX WD SZ y9 li) (hlo : lo.length ≤ 3) (hli : li.length ≤ 3) :
    Con l Z n0 [] (⟨"com/example/detra/detra/StateSets", "holds", "(II)Z"⟩ : MethodName) prog_22_method_6_code 7 (some .boolean) ({ frames := 0, cells := 0, slots := 0, locals := 0 } : Room) #[(.ref o), (.int x9), (.int y9)] h0 (Qcon_holds Z n0 h0 o os oi ow oz x9 y9 lo li ST IX WD SZ) := by
  refine Con.of pf_9 (fun m => ef_con_holds m o x9 y9) hn0 ?_
  intro p e s m below meth c C
  obtain ⟨so, so1, so2, so3, so4, so5, so6⟩ := hso
  obtain ⟨si, si1, si2, si3, si4, si5, si6⟩ := hsi
  refine C.aloadN d15_0 rfl rfl rfl ?_
  refine C.getF d15_1 rfl (tw hw 10 rfl) P0 ?_
  refine C.iloadN d15_4 rfl rfl ?_
  refine C.iaload (.int (Int32.ofNat so)) d15_5 rfl P4 so2.1 so3 ?_
  refine C.istoreN (Ls' := #[rv o, iv x9, iv y9, iv (Int32.ofNat so), .unset, .unset, .unset]) d15_6 rfl rfl ?_
  refine C.aloadN d15_7 rfl rfl rfl ?_
  refine C.getF d15_8 rfl (tw hw 10 rfl) P0 ?_
  refine C.iloadN d15_11 rfl rfl ?_
  refine C.iconst 1 d15_12 rfl rfl ?_
  refine C.iadd d15_13 rfl ?_
  refine C.iaload (.int (Int32.ofNat (so + lo.length))) d15_14 rfl P4 so2.2 so4 ?_
  refine C.istore (Ls' := #[rv o, iv x9, iv y9, iv (Int32.ofNat so), iv (Int32.ofNat (so + lo.length)), .unset, .unset]) d15_15 rfl rfl ?_
  refine C.aloadN d15_17 rfl rfl rfl ?_
  refine C.getF d15_18 rfl (tw hw 17 rfl) P3 ?_
  refine C.iloadN d15_21 rfl rfl ?_
  refine C.iaload (.int (own_sz li)) d15_22 rfl P7 si2.1 si5 ?_
  refine C.aloadN d15_23 rfl rfl rfl ?_
  refine C.getF d15_24 rfl (tw hw 17 rfl) P3 ?_
  refine C.iloadN d15_27 rfl rfl ?_
  refine C.iaload (.int (own_sz lo)) d15_28 rfl P7 so2.1 so5 ?_
  have JO1553 : ∀ (m_ j kk : Nat) (hd : Int32) (hj : j + m_ = li.length) (hk : kk ≤ lo.length) (hE : (hd = 0 ∧ own_hold lo li = 0) ∨ (hd = 1 ∧ own_hold lo li = own_sub (li.drop j) (lo.drop kk))), Go p l e ({ frames := 0, cells := 0, slots := 0, locals := 0 } : Room) s m #[(.ref o), (.int x9), (.int y9)] below meth c n0 (FinQ s n0 (Qcon_holds Z n0 h0 o os oi ow oz x9 y9 lo li ST IX WD SZ) ({ frames := 0, cells := 0, slots := 0, locals := 0 } : Room).cells ({ frames := 0, cells := 0, slots := 0, locals := 0 } : Room).slots) h0 0 0 47 #[rv o, iv x9, iv y9, iv (Int32.ofNat (so + kk)), iv (Int32.ofNat (so + lo.length)), iv hd, iv (Int32.ofNat (si + j))] [] := by
    intro m_; induction m_ with
    | zero =>
      intro j kk hd hj hk hE
      refine C.iload d15_47 rfl rfl ?_
      refine C.aloadN d15_49 rfl rfl rfl ?_
      refine C.getF d15_50 rfl (tw hw 10 rfl) P0 ?_
      refine C.iloadN d15_53 rfl rfl ?_
      refine C.iconst 1 d15_54 rfl rfl ?_
      refine C.iadd d15_55 rfl ?_
      refine C.iaload (.int (Int32.ofNat (si + li.length))) d15_56 rfl P4 si2.2 si4 ?_
      refine C.icmp_ge_t d15_57 (by decide) rfl (by rw [own_ltN (by omega) (by omega)]; omega) ?_
      refine C.iload d15_151 rfl rfl ?_
      exact C.retZ d15_153 (by rcases hE with ⟨h, -⟩ | ⟨h, -⟩ <;> rw [h] <;> rfl) (by decide) (by decide) ⟨(by rcases hE with ⟨h, hE⟩ | ⟨h, hE⟩ <;> rw [h, hE] <;> first | rfl | (rw [List.drop_eq_nil_of_le (by omega)]; rfl)), rfl⟩
    | succ m_ ih =>
      intro j kk hd hj hk hE
      obtain ⟨pp, hp, hm⟩ := own_at (lb := li) (j := j) (by omega)
      rcases hE with ⟨rfl, hE⟩ | ⟨rfl, hE⟩
      · refine C.iload d15_47 rfl rfl ?_
        refine C.aloadN d15_49 rfl rfl rfl ?_
        refine C.getF d15_50 rfl (tw hw 10 rfl) P0 ?_
        refine C.iloadN d15_53 rfl rfl ?_
        refine C.iconst 1 d15_54 rfl rfl ?_
        refine C.iadd d15_55 rfl ?_
        refine C.iaload (.int (Int32.ofNat (si + li.length))) d15_56 rfl P4 si2.2 si4 ?_
        refine C.icmp_ge_f d15_57 rfl (by rw [own_ltN (by omega) (by omega)]; omega) ?_
        refine C.iload d15_60 rfl rfl ?_
        refine C.if_eq_t d15_62 (by decide) rfl (by decide) ?_
        refine C.iload d15_151 rfl rfl ?_
        exact C.retZ d15_153 rfl (by decide) (by decide) ⟨(by rw [hE]), rfl⟩
      rw [own_dc hp] at hE
      refine C.iload d15_47 rfl rfl ?_
      refine C.aloadN d15_49 rfl rfl rfl ?_
      refine C.getF d15_50 rfl (tw hw 10 rfl) P0 ?_
      refine C.iloadN d15_53 rfl rfl ?_
      refine C.iconst 1 d15_54 rfl rfl ?_
      refine C.iadd d15_55 rfl ?_
      refine C.iaload (.int (Int32.ofNat (si + li.length))) d15_56 rfl P4 si2.2 si4 ?_
      refine C.icmp_ge_f d15_57 rfl (by rw [own_ltN (by omega) (by omega)]; omega) ?_
      refine C.iload d15_60 rfl rfl ?_
      refine C.if_eq_f d15_62 rfl (by decide) ?_
      have JI1554 : ∀ (n_ kk : Nat) (hn : kk + n_ = lo.length) (hE : own_hold lo li = own_sub (pp :: li.drop (j + 1)) (lo.drop kk)), Go p l e ({ frames := 0, cells := 0, slots := 0, locals := 0 } : Room) s m #[(.ref o), (.int x9), (.int y9)] below meth c n0 (FinQ s n0 (Qcon_holds Z n0 h0 o os oi ow oz x9 y9 lo li ST IX WD SZ) ({ frames := 0, cells := 0, slots := 0, locals := 0 } : Room).cells ({ frames := 0, cells := 0, slots := 0, locals := 0 } : Room).slots) h0 0 0 65 #[rv o, iv x9, iv y9, iv (Int32.ofNat (so + kk)), iv (Int32.ofNat (so + lo.length)), iv 1, iv (Int32.ofNat (si + j))] [] := by
        intro n_; induction n_ with
        | zero =>
          intro kk hn hE
          refine C.iloadN d15_65 rfl rfl ?_
          refine C.iload d15_66 rfl rfl ?_
          refine C.icmp_ge_t d15_68 (by decide) rfl (by rw [own_ltN (by omega) (by omega)]; omega) ?_
          refine C.iloadN d15_93 rfl rfl ?_
          refine C.iload d15_94 rfl rfl ?_
          refine C.icmp_ge_t d15_96 (by decide) rfl (by rw [own_ltN (by omega) (by omega)]; omega) ?_
          refine C.iconst 0 d15_142 rfl rfl ?_
          refine C.istore (Ls' := #[rv o, iv x9, iv y9, iv (Int32.ofNat (so + kk)), iv (Int32.ofNat (so + lo.length)), iv 0, iv (Int32.ofNat (si + j))]) d15_143 rfl rfl ?_
          refine C.iinc (Ls' := #[rv o, iv x9, iv y9, iv (Int32.ofNat (so + kk)), iv (Int32.ofNat (so + lo.length)), iv 0, iv ((Int32.ofNat (si + j)) + 1)]) 1 d15_145 rfl rfl rfl rfl ?_
          refine C.goto d15_148 (by decide) rfl ?_
          rw [own_s1, Nat.add_assoc]
          exact ih (j + 1) kk 0 (by omega) (by omega) (Or.inl ⟨rfl, hE.trans (own_sub0 (by rw [List.drop_eq_nil_of_le (by omega)]; rfl))⟩)
        | succ n_ ih2 =>
          intro kk hn hE
          obtain ⟨qq, hq, hmq⟩ := own_at (lb := lo) (j := kk) (by omega)
          refine C.iloadN d15_65 rfl rfl ?_
          refine C.iload d15_66 rfl rfl ?_
          refine C.icmp_ge_f d15_68 rfl (by rw [own_ltN (by omega) (by omega)]; omega) ?_
          refine C.aloadN d15_71 rfl rfl rfl ?_
          refine C.getF d15_72 rfl (tw hw 12 rfl) P1 ?_
          refine C.iloadN d15_75 rfl rfl ?_
          refine C.iaload (.int qq.1) d15_76 rfl P5 (own_nn (by omega)) (by rw [own_toN (by omega)]; exact (so6 _ _ hq).1) ?_
          refine C.aloadN d15_77 rfl rfl rfl ?_
          refine C.getF d15_78 rfl (tw hw 12 rfl) P1 ?_
          refine C.iload d15_81 rfl rfl ?_
          refine C.iaload (.int pp.1) d15_83 rfl P5 (own_nn (by omega)) (by rw [own_toN (by omega)]; exact (si6 _ _ hp).1) ?_
          refine C.icmp_ge d15_84 (by decide) rfl rfl (fun q84 => ?_) (fun q84 => ?_)
          · have hge : ¬ qq.1 < pp.1 := q84
            refine C.iloadN d15_93 rfl rfl ?_
            refine C.iload d15_94 rfl rfl ?_
            refine C.icmp_ge_f d15_96 rfl (by rw [own_ltN (by omega) (by omega)]; omega) ?_
            refine C.aloadN d15_99 rfl rfl rfl ?_
            refine C.getF d15_100 rfl (tw hw 12 rfl) P1 ?_
            refine C.iloadN d15_103 rfl rfl ?_
            refine C.iaload (.int qq.1) d15_104 rfl P5 (own_nn (by omega)) (by rw [own_toN (by omega)]; exact (so6 _ _ hq).1) ?_
            refine C.aloadN d15_105 rfl rfl rfl ?_
            refine C.getF d15_106 rfl (tw hw 12 rfl) P1 ?_
            refine C.iload d15_109 rfl rfl ?_
            refine C.iaload (.int pp.1) d15_111 rfl P5 (own_nn (by omega)) (by rw [own_toN (by omega)]; exact (si6 _ _ hp).1) ?_
            refine C.icmp_ne d15_112 (by decide) rfl rfl (fun q112 => ?_) (fun q112 => ?_)
            · refine C.iconst 0 d15_142 rfl rfl ?_
              refine C.istore (Ls' := #[rv o, iv x9, iv y9, iv (Int32.ofNat (so + kk)), iv (Int32.ofNat (so + lo.length)), iv 0, iv (Int32.ofNat (si + j))]) d15_143 rfl rfl ?_
              refine C.iinc (Ls' := #[rv o, iv x9, iv y9, iv (Int32.ofNat (so + kk)), iv (Int32.ofNat (so + lo.length)), iv 0, iv ((Int32.ofNat (si + j)) + 1)]) 1 d15_145 rfl rfl rfl rfl ?_
              refine C.goto d15_148 (by decide) rfl ?_
              rw [own_s1, Nat.add_assoc]
              exact ih (j + 1) kk 0 (by omega) (by omega) (Or.inl ⟨rfl, hE.trans (own_subN (own_dn hq hge) (fun q => q112 q.1))⟩)
            refine C.aloadN d15_115 rfl rfl rfl ?_
            refine C.getF d15_116 rfl (tw hw 15 rfl) P2 ?_
            refine C.iload d15_119 rfl rfl ?_
            refine C.laload (.long pp.2) d15_121 rfl P6 (own_nn (by omega)) (by rw [own_toN (by omega)]; exact (si6 _ _ hp).2) ?_
            refine C.aloadN d15_122 rfl rfl rfl ?_
            refine C.getF d15_123 rfl (tw hw 15 rfl) P2 ?_
            refine C.iloadN d15_126 rfl rfl ?_
            refine C.laload (.long qq.2) d15_127 rfl P6 (own_nn (by omega)) (by rw [own_toN (by omega)]; exact (so6 _ _ hq).2) ?_
            refine C.ldc2J d15_128 rfl (tw hw 102 rfl) ?_
            refine C.lxor d15_131 rfl ?_
            refine C.land d15_132 rfl ?_
            refine C.lconst 0 d15_133 rfl rfl ?_
            refine C.lcmp d15_134 rfl ?_
            refine C.lif_ne d15_135 (by decide) rfl rfl (fun q135 => ?_) (fun q135 => ?_)
            · refine C.iconst 0 d15_142 rfl rfl ?_
              refine C.istore (Ls' := #[rv o, iv x9, iv y9, iv (Int32.ofNat (so + kk)), iv (Int32.ofNat (so + lo.length)), iv 0, iv (Int32.ofNat (si + j))]) d15_143 rfl rfl ?_
              refine C.iinc (Ls' := #[rv o, iv x9, iv y9, iv (Int32.ofNat (so + kk)), iv (Int32.ofNat (so + lo.length)), iv 0, iv ((Int32.ofNat (si + j)) + 1)]) 1 d15_145 rfl rfl rfl rfl ?_
              refine C.goto d15_148 (by decide) rfl ?_
              rw [own_s1, Nat.add_assoc]
              exact ih (j + 1) kk 0 (by omega) (by omega) (Or.inl ⟨rfl, hE.trans (own_subN (own_dn hq hge) (fun q => q135 q.2))⟩)
            refine C.iconst 1 d15_138 rfl rfl ?_
            refine C.goto d15_139 (by decide) rfl ?_
            refine C.istore (Ls' := #[rv o, iv x9, iv y9, iv (Int32.ofNat (so + kk)), iv (Int32.ofNat (so + lo.length)), iv 1, iv (Int32.ofNat (si + j))]) d15_143 rfl rfl ?_
            refine C.iinc (Ls' := #[rv o, iv x9, iv y9, iv (Int32.ofNat (so + kk)), iv (Int32.ofNat (so + lo.length)), iv 1, iv ((Int32.ofNat (si + j)) + 1)]) 1 d15_145 rfl rfl rfl rfl ?_
            refine C.goto d15_148 (by decide) rfl ?_
            rw [own_s1, Nat.add_assoc]
            exact ih (j + 1) kk 1 (by omega) (by omega) (Or.inr ⟨rfl, hE.trans (by rw [own_subY (own_dn hq hge) q112 q135, own_dc hq])⟩)
          refine C.iinc (Ls' := #[rv o, iv x9, iv y9, iv ((Int32.ofNat (so + kk)) + 1), iv (Int32.ofNat (so + lo.length)), iv 1, iv (Int32.ofNat (si + j))]) 1 d15_87 rfl rfl rfl rfl ?_
          refine C.goto d15_90 (by decide) rfl ?_
          rw [own_s1, Nat.add_assoc]
          exact ih2 (kk + 1) (by omega) (hE.trans (own_subD (own_dw hq q84)))
      exact JI1554 (lo.length - kk) kk (by omega) hE
  refine C.icmp_gt d15_29 (by decide) rfl rfl (fun q29 => ?_) (fun q29 => ?_)
  · refine C.iconst 0 d15_36 rfl rfl ?_
    refine C.istore (Ls' := #[rv o, iv x9, iv y9, iv (Int32.ofNat so), iv (Int32.ofNat (so + lo.length)), iv 0, .unset]) d15_37 rfl rfl ?_
    refine C.aloadN d15_39 rfl rfl rfl ?_
    refine C.getF d15_40 rfl (tw hw 10 rfl) P0 ?_
    refine C.iloadN d15_43 rfl rfl ?_
    refine C.iaload (.int (Int32.ofNat si)) d15_44 rfl P4 si2.1 si3 ?_
    refine C.istore (Ls' := #[rv o, iv x9, iv y9, iv (Int32.ofNat so), iv (Int32.ofNat (so + lo.length)), iv 0, iv (Int32.ofNat si)]) d15_45 rfl rfl ?_
    exact JO1553 li.length 0 0 0 (by omega) (Nat.zero_le _) (Or.inl ⟨rfl, if_pos q29⟩)
  refine C.iconst 1 d15_32 rfl rfl ?_
  refine C.goto d15_33 (by decide) rfl ?_
  refine C.istore (Ls' := #[rv o, iv x9, iv y9, iv (Int32.ofNat so), iv (Int32.ofNat (so + lo.length)), iv 1, .unset]) d15_37 rfl rfl ?_
  refine C.aloadN d15_39 rfl rfl rfl ?_
  refine C.getF d15_40 rfl (tw hw 10 rfl) P0 ?_
  refine C.iloadN d15_43 rfl rfl ?_
  refine C.iaload (.int (Int32.ofNat si)) d15_44 rfl P4 si2.1 si3 ?_
  refine C.istore (Ls' := #[rv o, iv x9, iv y9, iv (Int32.ofNat so), iv (Int32.ofNat (so + lo.length)), iv 1, iv (Int32.ofNat si)]) d15_45 rfl rfl ?_
  exact JO1553 li.length 0 0 1 (by omega) (Nat.zero_le _) (Or.inr ⟨rfl, if_neg q29⟩)
def own_ss (o0 o1 o2 i0 i1 i2 : Int64) : Int32 := if i0 &&& (o0 ^^^ (-1 : Int64)) = 0 ∧ i1 &&& (o1 ^^^ (-1 : Int64)) = 0 ∧ i2 &&& (o2 ^^^ (-1 : Int64)) = 0 then 1 else 0
def own_rm (d : Nat) : Nat → Nat
  | 0 => 0
  | k + 1 => d + 256 * own_rm d k
def own_w1 (k n : Nat) : Nat := n - ((n / 2) &&& own_rm 0x55 k)
def own_w2 (k a : Nat) : Nat := (a &&& own_rm 0x33 k) + ((a / 4) &&& own_rm 0x33 k)
def own_w3 (k b : Nat) : Nat := (b + b / 16) &&& own_rm 0x0f k
def own_bt : Nat → Nat → Nat
  | 0, _ => 0
  | k + 1, n => n % 2 + own_bt k (n / 2)
def own_tp : Nat → Nat → Nat
  | 0, _ => 0
  | k + 1, n => own_bt 8 (n % 256) + own_tp k (n / 256)
def own_dg : Nat → Nat → Nat
  | 0, _ => 0
  | k + 1, n => own_bt 8 (n % 256) + 256 * own_dg k (n / 256)
theorem own_and8 (a b q r : Nat) (hb : b < 256) (hr : r < 256) : (256 * a + b) &&& (r + 256 * q) = 256 * (a &&& q) + (b &&& r) := by
  have e1 : ((256 * a + b) &&& (r + 256 * q)) / 2 ^ 8 = a &&& q := by
    rw [Nat.and_div_two_pow, show (256 * a + b) / 2 ^ 8 = a by omega, show (r + 256 * q) / 2 ^ 8 = q by omega]
  have e2 : ((256 * a + b) &&& (r + 256 * q)) % 2 ^ 8 = b &&& r := by
    rw [Nat.and_mod_two_pow, show (256 * a + b) % 2 ^ 8 = b by omega, show (r + 256 * q) % 2 ^ 8 = r by omega]
  omega
theorem own_t1 : ∀ x, x < 256 → x &&& 0x55 = (x % 128) &&& 0x55 := by decide +kernel
theorem own_t2 : ∀ x, x < 256 → x &&& 0x33 = (x % 64) &&& 0x33 := by decide +kernel
theorem own_t3 : ∀ x, x < 256 → x &&& 0x0f = x % 16 := by decide +kernel
theorem own_t4 : ∀ r, r < 256 → r - ((r / 2) &&& 0x55) < 256 ∧ ((r - ((r / 2) &&& 0x55)) &&& 0x33) + ((r - ((r / 2) &&& 0x55)) / 4 &&& 0x33) ≤ 68 ∧ (((r - ((r / 2) &&& 0x55)) &&& 0x33) + ((r - ((r / 2) &&& 0x55)) / 4 &&& 0x33)) % 16 ≤ 4 ∧ ((((r - ((r / 2) &&& 0x55)) &&& 0x33) + ((r - ((r / 2) &&& 0x55)) / 4 &&& 0x33)) + (((r - ((r / 2) &&& 0x55)) &&& 0x33) + ((r - ((r / 2) &&& 0x55)) / 4 &&& 0x33)) / 16) % 16 = own_bt 8 r ∧ own_bt 8 r ≤ 8 := by decide +kernel
theorem own_w1s (k q r : Nat) (h : r < 256) : own_w1 (k + 1) (256 * q + r) = 256 * own_w1 k q + (r - ((r / 2) &&& 0x55)) := by
  have e : ((256 * q + r) / 2) &&& own_rm 0x55 (k + 1) = 256 * ((q / 2) &&& own_rm 0x55 k) + ((r / 2) &&& 0x55) := by
    rw [show (256 * q + r) / 2 = 256 * (q / 2) + (128 * (q % 2) + r / 2) by omega]
    show _ &&& (0x55 + 256 * own_rm 0x55 k) = _
    rw [own_and8 _ _ _ _ (by omega) (by omega), own_t1 (128 * (q % 2) + r / 2) (by omega), show (128 * (q % 2) + r / 2) % 128 = r / 2 by omega]
  have g1 : (q / 2) &&& own_rm 0x55 k ≤ q / 2 := Nat.and_le_left
  have g2 : (r / 2) &&& 0x55 ≤ r / 2 := Nat.and_le_left
  simp only [own_w1]
  rw [e]; omega
theorem own_w2s (k q r : Nat) (h : r < 256) : own_w2 (k + 1) (256 * q + r) = 256 * own_w2 k q + ((r &&& 0x33) + (r / 4 &&& 0x33)) := by
  have e : ((256 * q + r) / 4) &&& own_rm 0x33 (k + 1) = 256 * ((q / 4) &&& own_rm 0x33 k) + ((r / 4) &&& 0x33) := by
    rw [show (256 * q + r) / 4 = 256 * (q / 4) + (64 * (q % 4) + r / 4) by omega]
    show _ &&& (0x33 + 256 * own_rm 0x33 k) = _
    rw [own_and8 _ _ _ _ (by omega) (by omega), own_t2 (64 * (q % 4) + r / 4) (by omega), show (64 * (q % 4) + r / 4) % 64 = r / 4 by omega]
  have e' : (256 * q + r) &&& own_rm 0x33 (k + 1) = 256 * (q &&& own_rm 0x33 k) + (r &&& 0x33) := own_and8 _ _ _ _ h (by omega)
  simp only [own_w2]
  rw [e, e']; omega
theorem own_w3s (k q r : Nat) (h : r ≤ 68) (hq : q % 16 ≤ 4) : own_w3 (k + 1) (256 * q + r) = 256 * own_w3 k q + (r + r / 16) % 16 := by
  simp only [own_w3]
  rw [show 256 * q + r + (256 * q + r) / 16 = 256 * (q + q / 16) + (16 * (q % 16) + (r + r / 16)) by omega]
  show _ &&& (0x0f + 256 * own_rm 0x0f k) = _
  rw [own_and8 _ _ _ _ (by omega) (by omega), own_t3 _ (by omega)]; omega
theorem own_sw (k : Nat) : ∀ n, own_w3 k (own_w2 k (own_w1 k n)) = own_dg k n ∧ (own_w2 k (own_w1 k n)) % 16 ≤ 4 := by
  induction k with
  | zero => intro n; exact ⟨Nat.and_zero _, by show ((_ &&& 0) + (_ &&& 0)) % 16 ≤ 4; rw [Nat.and_zero, Nat.and_zero]; decide⟩
  | succ k ih =>
    intro n
    obtain ⟨t1, t2, t3, t4, t5⟩ := own_t4 (n % 256) (by omega)
    have g : n = 256 * (n / 256) + n % 256 := by omega
    have f1 := own_w1s k (n / 256) (n % 256) (by omega)
    rw [← g] at f1
    have f2 := own_w2s k (own_w1 k (n / 256)) _ t1
    have f3 := own_w3s k (own_w2 k (own_w1 k (n / 256))) _ t2 (ih (n / 256)).2
    rw [f1, f2, f3, (ih (n / 256)).1, t4]
    exact ⟨by show _ = own_bt 8 (n % 256) + 256 * own_dg k (n / 256); omega, by rw [show ∀ a b : Nat, 256 * a + b = b + 16 * (16 * a) from fun a b => by omega, Nat.add_mul_mod_self_left]; exact t3⟩
theorem own_btm (k : Nat) : ∀ x y : Nat, x &&& y = x → own_bt k x ≤ own_bt k y := by
  induction k with
  | zero => intro x y _; exact Nat.le_refl _
  | succ k ih =>
    intro x y h
    have a : (x / 2) &&& (y / 2) = x / 2 := by have := Nat.and_div_two_pow (a := x) (b := y) (n := 1); rw [h] at this; exact this.symm
    have b : (x % 2) &&& (y % 2) = x % 2 := by have := Nat.and_mod_two_pow (a := x) (b := y) (n := 1); rw [h] at this; exact this.symm
    have c : (x % 2) &&& (y % 2) ≤ y % 2 := Nat.and_le_right
    have d := ih _ _ a
    show x % 2 + own_bt k (x / 2) ≤ y % 2 + own_bt k (y / 2)
    omega
theorem own_tpm (k : Nat) : ∀ x y : Nat, x &&& y = x → own_tp k x ≤ own_tp k y := by
  induction k with
  | zero => intro x y _; exact Nat.le_refl _
  | succ k ih =>
    intro x y h
    have a : (x / 256) &&& (y / 256) = x / 256 := by have := Nat.and_div_two_pow (a := x) (b := y) (n := 8); rw [h] at this; exact this.symm
    have b : (x % 256) &&& (y % 256) = x % 256 := by have := Nat.and_mod_two_pow (a := x) (b := y) (n := 8); rw [h] at this; exact this.symm
    have c := own_btm 8 _ _ b
    have d := ih _ _ a
    show own_bt 8 (x % 256) + own_tp k (x / 256) ≤ own_bt 8 (y % 256) + own_tp k (y / 256)
    omega
theorem own_bt8 (n : Nat) : own_bt 8 (n % 256) ≤ 8 := (own_t4 (n % 256) (by omega)).2.2.2.2
theorem own_fold (n : Nat) : own_tp 8 n ≤ 64 ∧ (own_dg 8 n < 2 ^ 60) ∧ (let d := own_dg 8 n; let e := d + d / 2 ^ 8; let f := e + e / 2 ^ 16; let g := f + f / 2 ^ 32; g < 2 ^ 63 ∧ g % 128 = own_tp 8 n) := by
  simp only [own_tp, own_dg]
  have a0 := own_bt8 n
  have a1 := own_bt8 (n / 256)
  have a2 := own_bt8 (n / 256 / 256)
  have a3 := own_bt8 (n / 256 / 256 / 256)
  have a4 := own_bt8 (n / 256 / 256 / 256 / 256)
  have a5 := own_bt8 (n / 256 / 256 / 256 / 256 / 256)
  have a6 := own_bt8 (n / 256 / 256 / 256 / 256 / 256 / 256)
  have a7 := own_bt8 (n / 256 / 256 / 256 / 256 / 256 / 256 / 256)
  generalize own_bt 8 (n % 256) = c0 at *
  generalize own_bt 8 (n / 256 % 256) = c1 at *
  generalize own_bt 8 (n / 256 / 256 % 256) = c2 at *
  generalize own_bt 8 (n / 256 / 256 / 256 % 256) = c3 at *
  generalize own_bt 8 (n / 256 / 256 / 256 / 256 % 256) = c4 at *
  generalize own_bt 8 (n / 256 / 256 / 256 / 256 / 256 % 256) = c5 at *
  generalize own_bt 8 (n / 256 / 256 / 256 / 256 / 256 / 256 % 256) = c6 at *
  generalize own_bt 8 (n / 256 / 256 / 256 / 256 / 256 / 256 / 256 % 256) = c7 at *
  refine ⟨by omega, by omega, ?_⟩
  have e0 : c0 + 256 * (c1 + 256 * (c2 + 256 * (c3 + 256 * (c4 + 256 * (c5 + 256 * (c6 + 256 * (c7 + 256 * 0))))))) = c0 + 2 ^ 8 * (c1 + 256 * (c2 + 256 * (c3 + 256 * (c4 + 256 * (c5 + 256 * (c6 + 256 * c7)))))) := by omega
  rw [e0]
  rw [Nat.add_mul_div_left _ _ (by decide : 0 < 2 ^ 8), Nat.div_eq_of_lt (by omega : c0 < 2 ^ 8), Nat.zero_add]
  rw [show c0 + 2 ^ 8 * (c1 + 256 * (c2 + 256 * (c3 + 256 * (c4 + 256 * (c5 + 256 * (c6 + 256 * c7)))))) + (c1 + 256 * (c2 + 256 * (c3 + 256 * (c4 + 256 * (c5 + 256 * (c6 + 256 * c7)))))) = (c0 + c1 + 256 * (c1 + c2)) + 2 ^ 16 * ((c2 + c3) + 256 * ((c3 + c4) + 256 * ((c4 + c5) + 256 * ((c5 + c6) + 256 * ((c6 + c7) + 256 * c7))))) by omega]
  rw [Nat.add_mul_div_left _ _ (by decide : 0 < 2 ^ 16), Nat.div_eq_of_lt (by omega : c0 + c1 + 256 * (c1 + c2) < 2 ^ 16), Nat.zero_add]
  rw [show (c0 + c1 + 256 * (c1 + c2)) + 2 ^ 16 * ((c2 + c3) + 256 * ((c3 + c4) + 256 * ((c4 + c5) + 256 * ((c5 + c6) + 256 * ((c6 + c7) + 256 * c7))))) + ((c2 + c3) + 256 * ((c3 + c4) + 256 * ((c4 + c5) + 256 * ((c5 + c6) + 256 * ((c6 + c7) + 256 * c7))))) = (c0 + c1 + c2 + c3 + 256 * (c1 + c2 + c3 + c4 + 256 * (c2 + c3 + c4 + c5 + 256 * (c3 + c4 + c5 + c6)))) + 2 ^ 32 * (c4 + c5 + c6 + c7 + 256 * (c5 + c6 + c7 + 256 * (c6 + c7 + 256 * c7))) by omega]
  rw [Nat.add_mul_div_left _ _ (by decide : 0 < 2 ^ 32), Nat.div_eq_of_lt (by omega : c0 + c1 + c2 + c3 + 256 * (c1 + c2 + c3 + c4 + 256 * (c2 + c3 + c4 + c5 + 256 * (c3 + c4 + c5 + c6))) < 2 ^ 32), Nat.zero_add]
  refine ⟨by omega, ?_⟩
  rw [show (c0 + c1 + c2 + c3 + 256 * (c1 + c2 + c3 + c4 + 256 * (c2 + c3 + c4 + c5 + 256 * (c3 + c4 + c5 + c6)))) + 2 ^ 32 * (c4 + c5 + c6 + c7 + 256 * (c5 + c6 + c7 + 256 * (c6 + c7 + 256 * c7))) + (c4 + c5 + c6 + c7 + 256 * (c5 + c6 + c7 + 256 * (c6 + c7 + 256 * c7))) = (c0 + (c1 + (c2 + (c3 + (c4 + (c5 + (c6 + (c7 + 0)))))))) + 128 * (2 * ((c1 + c2 + c3 + c4 + 256 * (c2 + c3 + c4 + c5 + 256 * (c3 + c4 + c5 + c6))) + 2 ^ 24 * (c4 + c5 + c6 + c7 + 256 * (c5 + c6 + c7 + 256 * (c6 + c7 + 256 * c7))) + (c5 + c6 + c7 + 256 * (c6 + c7 + 256 * c7)))) by omega, Nat.add_mul_mod_self_left]
  exact Nat.mod_eq_of_lt (by omega)
def own_N (x : Int64) : Nat := x.toUInt64.toNat
theorem own_Nlt (x : Int64) : own_N x < 2 ^ 64 := x.toUInt64.toNat_lt
theorem own_Nand (x y : Int64) : own_N (x &&& y) = own_N x &&& own_N y := UInt64.toNat_and x.toUInt64 y.toUInt64
theorem own_Nadd (x y : Int64) (h : own_N x + own_N y < 2 ^ 64) : own_N (x + y) = own_N x + own_N y := by
  show (x.toUInt64 + y.toUInt64).toNat = _
  rw [UInt64.toNat_add]; exact Nat.mod_eq_of_lt h
theorem own_Nsub (x y : Int64) (h : own_N y ≤ own_N x) : own_N (x - y) = own_N x - own_N y := by
  show (x.toUInt64 - y.toUInt64).toNat = _
  exact UInt64.toNat_sub_of_le _ _ (UInt64.le_iff_toNat_le.mpr h)
theorem own_Nsh (x : Int64) (k : Int32) (j : Nat) (h : (k.toInt64.toUInt64 &&& Int64.toUInt64 63).toNat % 64 = j) : own_N (XT.ushrL x k) = own_N x / 2 ^ j := by
  show (x.toUInt64 >>> (k.toInt64.toUInt64 &&& Int64.toUInt64 63)).toNat = _
  rw [UInt64.toNat_shiftRight, h, Nat.shiftRight_eq_div_pow]; rfl
theorem own_Nfin (g : Int64) : Int64.toInt32 g &&& 127 = Int32.ofNat (own_N g % 128) := by
  apply Int32.toBitVec_inj.1
  apply BitVec.eq_of_toNat_eq
  have e : (Int64.toInt32 g).toBitVec = g.toBitVec.setWidth 32 := by
    rw [Int64.toBitVec_toInt32]; exact BitVec.signExtend_eq_setWidth_of_le _ (by decide)
  rw [Int32.toBitVec_and, BitVec.toNat_and, e, BitVec.toNat_setWidth]
  show g.toBitVec.toNat % 2 ^ 32 &&& 127 = _
  rw [show (127 : Nat) = 2 ^ 7 - 1 from rfl, Nat.and_two_pow_sub_one_eq_mod]
  have q : (Int32.ofNat (own_N g % 128)).toBitVec.toNat = own_N g % 128 % 2 ^ 32 := by simp
  rw [q]
  have : own_N g = g.toBitVec.toNat := rfl
  omega
theorem own_bcq (w : Int64) : own_bc w = Int32.ofNat (own_tp 8 (own_N w)) := by
  have h1 : own_N (w - (XT.ushrL w 1 &&& 6148914691236517205)) = own_w1 8 (own_N w) := by
    have e : own_N (XT.ushrL w 1 &&& 6148914691236517205) = (own_N w / 2) &&& own_rm 0x55 8 := by
      rw [own_Nand, own_Nsh w 1 1 (by decide)]; rfl
    have le : (own_N w / 2) &&& own_rm 0x55 8 ≤ own_N w / 2 := Nat.and_le_left
    rw [own_Nsub _ _ (by rw [e]; omega), e]; rfl
  unfold own_bc
  generalize w - (XT.ushrL w 1 &&& 6148914691236517205) = w1 at *
  have r3 : own_rm 0x33 8 = 3689348814741910323 := rfl
  have h2 : own_N ((w1 &&& 3689348814741910323) + (XT.ushrL w1 2 &&& 3689348814741910323)) = own_w2 8 (own_N w1) := by
    have e : own_N (XT.ushrL w1 2 &&& 3689348814741910323) = (own_N w1 / 4) &&& own_rm 0x33 8 := by
      rw [own_Nand, own_Nsh w1 2 2 (by decide)]; rfl
    have e' : own_N (w1 &&& 3689348814741910323) = own_N w1 &&& own_rm 0x33 8 := own_Nand _ _
    have l1 : (own_N w1 / 4) &&& own_rm 0x33 8 ≤ own_rm 0x33 8 := Nat.and_le_right
    have l2 : own_N w1 &&& own_rm 0x33 8 ≤ own_rm 0x33 8 := Nat.and_le_right
    rw [own_Nadd _ _ (by rw [e, e']; omega), e, e']; rfl
  have b2 : own_w2 8 (own_N w1) ≤ 2 * 3689348814741910323 := by
    have l1 : (own_N w1 / 4) &&& own_rm 0x33 8 ≤ own_rm 0x33 8 := Nat.and_le_right
    have l2 : own_N w1 &&& own_rm 0x33 8 ≤ own_rm 0x33 8 := Nat.and_le_right
    show (own_N w1 &&& own_rm 0x33 8) + ((own_N w1 / 4) &&& own_rm 0x33 8) ≤ _
    omega
  generalize (w1 &&& 3689348814741910323) + (XT.ushrL w1 2 &&& 3689348814741910323) = w2 at *
  have h3 : own_N ((w2 + XT.ushrL w2 4) &&& 1085102592571150095) = own_w3 8 (own_N w2) := by
    rw [own_Nand, own_Nadd _ _ (by rw [own_Nsh w2 4 4 (by decide)]; omega), own_Nsh w2 4 4 (by decide)]; rfl
  generalize (w2 + XT.ushrL w2 4) &&& 1085102592571150095 = w3 at *
  rw [h2, h1, (own_sw 8 _).1] at h3
  obtain ⟨-, f2, f3, f4⟩ := own_fold (own_N w)
  rw [← h3] at f2 f3 f4
  have h4 : own_N (w3 + XT.ushrL w3 8) = own_N w3 + own_N w3 / 2 ^ 8 := by
    rw [own_Nadd _ _ (by rw [own_Nsh w3 8 8 (by decide)]; omega), own_Nsh w3 8 8 (by decide)]
  generalize w3 + XT.ushrL w3 8 = w4 at *
  rw [← h4] at f3 f4
  have h5 : own_N (w4 + XT.ushrL w4 16) = own_N w4 + own_N w4 / 2 ^ 16 := by
    rw [own_Nadd _ _ (by rw [own_Nsh w4 16 16 (by decide)]; omega), own_Nsh w4 16 16 (by decide)]
  generalize w4 + XT.ushrL w4 16 = w5 at *
  rw [← h5] at f3 f4
  have h6 : own_N (w5 + XT.ushrL w5 32) = own_N w5 + own_N w5 / 2 ^ 32 := by
    rw [own_Nadd _ _ (by rw [own_Nsh w5 32 32 (by decide)]; omega), own_Nsh w5 32 32 (by decide)]
  rw [own_Nfin, h6, f4]
theorem own_bc0 : own_bc 0 = 0 := by rw [own_bcq]; decide
theorem own_szc (a b c : Int64) : own_sz (own_c3 a b c) = Int32.ofNat (own_tp 8 (own_N a) + own_tp 8 (own_N b) + own_tp 8 (own_N c)) := by
  rw [Int32.ofNat_add, Int32.ofNat_add, ← own_bcq, ← own_bcq, ← own_bcq]
  by_cases h0 : a = 0 <;> by_cases h1 : b = 0 <;> by_cases h2 : c = 0 <;> simp [own_sz, own_c3, h0, h1, h2, own_bc0]
theorem own_ss1 {o i : Int64} (h : i &&& (o ^^^ (-1 : Int64)) = 0) : own_tp 8 (own_N i) ≤ own_tp 8 (own_N o) := by
  apply own_tpm
  rw [← own_Nand]
  have e : i &&& o = i := by
    apply Int64.toBitVec_inj.1
    have g : i.toBitVec &&& (o.toBitVec ^^^ BitVec.allOnes 64) = 0#64 := congrArg Int64.toBitVec h
    show i.toBitVec &&& o.toBitVec = i.toBitVec
    apply BitVec.eq_of_getLsbD_eq
    intro j hj
    have q := congrArg (fun t => t.getLsbD j) g
    simp only [BitVec.getLsbD_and, BitVec.getLsbD_xor, BitVec.getLsbD_allOnes, hj, decide_true, BitVec.getLsbD_zero] at q ⊢
    revert q; cases i.toBitVec.getLsbD j <;> cases o.toBitVec.getLsbD j <;> decide
  rw [e]
theorem own_subq (o0 o1 o2 i0 i1 i2 : Int64) : own_sub (own_c3 i0 i1 i2) (own_c3 o0 o1 o2) = own_ss o0 o1 o2 i0 i1 i2 := by
  by_cases a0 : i0 = 0 <;> by_cases a1 : i1 = 0 <;> by_cases a2 : i2 = 0 <;> by_cases b0 : o0 = 0 <;> by_cases b1 : o1 = 0 <;> by_cases b2 : o2 = 0 <;> simp [own_c3, own_sub, own_ss, a0, a1, a2, b0, b1, b2, List.dropWhile] <;> (repeat' split) <;> simp_all
theorem own_holdq (o0 o1 o2 i0 i1 i2 : Int64) : own_hold (own_c3 o0 o1 o2) (own_c3 i0 i1 i2) = own_ss o0 o1 o2 i0 i1 i2 := by
  rw [own_hold, own_szc, own_szc, own_subq]
  split
  · rename_i h
    have t := fun x => (own_fold (own_N x)).1
    have t0 := t o0; have t1 := t o1; have t2 := t o2; have t3 := t i0; have t4 := t i1; have t5 := t i2
    rw [Int32.lt_iff_toInt_lt, Int32.toInt_ofNat_of_lt (by omega), Int32.toInt_ofNat_of_lt (by omega)] at h
    rw [own_ss, if_neg]
    intro q
    have g0 := own_ss1 q.1; have g1 := own_ss1 q.2.1; have g2 := own_ss1 q.2.2
    omega
  · rfl

theorem pf_10 : plainFor x = true := by first | exact plainFor_of_name (by first | (simp [plainName, overriddenIn]; done) | decide +kernel) | decide +kernel
theorem d1_0 : decode prog_22_method_1_code 0 = .ok (.aload_n 0, 1) := by decide +kernel
theorem d1_1 : decode prog_22_method_1_code 1 = .ok (.invokespecial 1, 3) := by decide +kernel
theorem d1_4 : decode prog_22_method_1_code 4 = .ok (.aload_n 0, 1) := by decide +kernel
theorem d1_5 : decode prog_22_method_1_code 5 = .ok (.bipush 17, 2) := by decide +kernel
theorem d1_7 : decode prog_22_method_1_code 7 = .ok (.newarray .int, 2) := by decide +kernel
theorem d1_9 : decode prog_22_method_1_code 9 = .ok (.putfield 7, 3) := by decide +kernel
theorem d1_12 : decode prog_22_method_1_code 12 = .ok (.aload_n 0, 1) := by decide +kernel
theorem d1_13 : decode prog_22_method_1_code 13 = .ok (.bipush 16, 2) := by decide +kernel
theorem d1_15 : decode prog_22_method_1_code 15 = .ok (.newarray .int, 2) := by decide +kernel
theorem d1_17 : decode prog_22_method_1_code 17 = .ok (.putfield 13, 3) := by decide +kernel
theorem d1_20 : decode prog_22_method_1_code 20 = .ok (.aload_n 0, 1) := by decide +kernel
theorem d1_21 : decode prog_22_method_1_code 21 = .ok (.bipush 16, 2) := by decide +kernel
theorem d1_23 : decode prog_22_method_1_code 23 = .ok (.newarray .long, 2) := by decide +kernel
theorem d1_25 : decode prog_22_method_1_code 25 = .ok (.putfield 16, 3) := by decide +kernel
theorem d1_28 : decode prog_22_method_1_code 28 = .ok (.aload_n 0, 1) := by decide +kernel
theorem d1_29 : decode prog_22_method_1_code 29 = .ok (.bipush 16, 2) := by decide +kernel
theorem d1_31 : decode prog_22_method_1_code 31 = .ok (.newarray .int, 2) := by decide +kernel
theorem d1_33 : decode prog_22_method_1_code 33 = .ok (.putfield 20, 3) := by decide +kernel
theorem d1_36 : decode prog_22_method_1_code 36 = .ok (.aload_n 0, 1) := by decide +kernel
theorem d1_37 : decode prog_22_method_1_code 37 = .ok (.bipush 16, 2) := by decide +kernel
theorem d1_39 : decode prog_22_method_1_code 39 = .ok (.newarray .int, 2) := by decide +kernel
theorem d1_41 : decode prog_22_method_1_code 41 = .ok (.putfield 23, 3) := by decide +kernel
theorem d1_44 : decode prog_22_method_1_code 44 = .ok (.aload_n 0, 1) := by decide +kernel
theorem d1_45 : decode prog_22_method_1_code 45 = .ok (.bipush 32, 2) := by decide +kernel
theorem d1_47 : decode prog_22_method_1_code 47 = .ok (.newarray .int, 2) := by decide +kernel
theorem d1_49 : decode prog_22_method_1_code 49 = .ok (.putfield 26, 3) := by decide +kernel
theorem d1_52 : decode prog_22_method_1_code 52 = .ok (.return_, 1) := by decide +kernel
theorem pf_11 : plainFor (⟨"com/example/detra/detra/StateSets", "<init>", "()V"⟩ : MethodName) = true := by first | exact plainFor_of_name (by first | (simp [plainName, overriddenIn]; done) | decide +kernel) | decide +kernel
def Qau1569_1 (Z : State) (n0 : Nat) (h0 : Heap) (o0 : Addr) (v : Option Value) (h' : Heap) : Prop := ∃ (f0 : Addr) (f1 : Addr) (f2 : Addr) (f3 : Addr) (f4 : Addr) (f5 : Addr), (v = none) ∧ (Keep h0 h' [o0]) ∧ (n0 ≤ f0) ∧ (h0.size ≤ f0) ∧ (n0 ≤ f1) ∧ (h0.size ≤ f1) ∧ (n0 ≤ f2) ∧ (h0.size ≤ f2) ∧ (n0 ≤ f3) ∧ (h0.size ≤ f3) ∧ (n0 ≤ f4) ∧ (h0.size ≤ f4) ∧ (n0 ≤ f5) ∧ (h0.size ≤ f5) ∧ (f0 ≠ f1) ∧ (f0 ≠ f2) ∧ (f0 ≠ f3) ∧ (f0 ≠ f4) ∧ (f0 ≠ f5) ∧ (f1 ≠ f2) ∧ (f1 ≠ f3) ∧ (f1 ≠ f4) ∧ (f1 ≠ f5) ∧ (f2 ≠ f3) ∧ (f2 ≠ f4) ∧ (f2 ≠ f5) ∧ (f3 ≠ f4) ∧ (f3 ≠ f5) ∧ (f4 ≠ f5) ∧ (Fld Z h' o0 kC1 "hashes" "[I" (.ref f0)) ∧ (Fld Z h' o0 kC1 "indices" "[I" (.ref f1)) ∧ (Fld Z h' o0 kC1 "size" "I" (.int 0)) ∧ (Fld Z h' o0 kC1 "sizes" "[I" (.ref f2)) ∧ (Fld Z h' o0 kC1 "starts" "[I" (.ref f3)) ∧ (Fld Z h' o0 kC1 "table" "[I" (.ref f4)) ∧ (Fld Z h' o0 kC1 "words" "[J" (.ref f5)) ∧ (Av Z h' f0 .int zI16) ∧ (Av Z h' f1 .int zI16) ∧ (Av Z h' f2 .int zI16) ∧ (Av Z h' f3 .int zI17) ∧ (Av Z h' f4 .int zI32) ∧ (Av Z h' f5 .long zJ16)
theorem ef_au1569_1 (m : MethodId) (o0 : Addr) : entryFrame m #[(.ref o0)] 1 = mkF m 0 #[rv o0] [] := by first | (simp [entryFrame, mkF, argsToLocals, Value.category]; done) | rfl
set_option maxRecDepth 65536 in
set_option maxHeartbeats 40000000 in
theorem au1569_1 (l : Launch) (Z : State) (a0 : Array Value) (hw : ∀ d ∈ tables_1, d.before a0 Z = true) (n0 : Nat) (h0 : Heap) (hn0 : n0 ≤ h0.size) (o0 : Addr) (P0 : Exa Z h0 o0 kC1) (P1 : Fld Z h0 o0 kC1 "hashes" "[I" (.null)) (P2 : Fld Z h0 o0 kC1 "indices" "[I" (.null)) (P3 : Fld Z h0 o0 kC1 "size" "I" (.int 0)) (P4 : Fld Z h0 o0 kC1 "sizes" "[I" (.null)) (P5 : Fld Z h0 o0 kC1 "starts" "[I" (.null)) (P6 : Fld Z h0 o0 kC1 "table" "[I" (.null)) (P7 : Fld Z h0 o0 kC1 "words" "[J" (.null)) (g_o0 : n0 ≤ o0) :
    Con l Z n0 [] (⟨"com/example/detra/detra/StateSets", "<init>", "()V"⟩ : MethodName) prog_22_method_1_code 1 none ({ frames := 1, cells := 6, slots := 113, locals := 12 } : Room) #[(.ref o0)] h0 (Qau1569_1 Z n0 h0 o0) := by
  refine Con.of pf_11 (fun m => ef_au1569_1 m o0) hn0 ?_
  intro p e s m below meth c C
  refine C.aloadN d1_0 rfl rfl rfl ?_
  refine C.initO 0 d1_1 rfl (tw hw 6 rfl) (tw hw 7 rfl) (tw hw 8 rfl) rfl (by decide) (Nat.le_of_eq rfl) (by decide) ?_
  refine C.aloadN d1_4 rfl rfl rfl ?_
  refine C.bipush 17 d1_5 rfl rfl ?_
  refine C.newarr 17 d1_7 rfl rfl (tw hw 9 rfl) (by decide) (by decide) (by decide) (by decide) (by decide) (fun a1996 h1997 z2000 g2001 X1998 F1999 => ?_)
  have gz2002 : h0.size ≤ a1996 := by rw [z2000]; exact (Keep.refl h0 [o0]).1
  have ne2003 : o0 ≠ a1996 := by rw [z2000]; exact Nat.ne_of_lt P0.lt
  have F2004 := Exa.ext X1998 P0
  have F2005 := Fld.ext X1998 P1
  have F2006 := Fld.ext X1998 P2
  have F2007 := Fld.ext X1998 P3
  have F2008 := Fld.ext X1998 P4
  have F2009 := Fld.ext X1998 P5
  have F2010 := Fld.ext X1998 P6
  have F2011 := Fld.ext X1998 P7
  have F2012 : Av Z h1997 a1996 .int zI17 := F1999
  refine C.putF d1_9 rfl (tw hw 10 rfl) F2009 F2004 (Or.inl (tw hw 11 rfl)) (tw hw 1 rfl) (ty := (.array .int)) (by decide) rfl rfl g_o0 (fun h2013 W2014 F2015 => ?_)
  have F2016 := Exa.wr W2014 F2004
  have F2017 := Fld.other W2014 F2005 (Or.inr (slot_ne (C := kC1) (t := (.array .int)) (t' := (.array .int)) (Or.inl (tw hw 20 rfl)) (Or.inl (tw hw 11 rfl)) (by decide) (by decide) (by decide)))
  have F2018 := Fld.other W2014 F2006 (Or.inr (slot_ne (C := kC1) (t := (.array .int)) (t' := (.array .int)) (Or.inl (tw hw 13 rfl)) (Or.inl (tw hw 11 rfl)) (by decide) (by decide) (by decide)))
  have F2019 := Fld.other W2014 F2007 (Or.inr (slot_ne (C := kC1) (t := .int) (t' := (.array .int)) (Or.inl (tw hw 88 rfl)) (Or.inl (tw hw 11 rfl)) (by decide) (by decide) (by decide)))
  have F2020 := Fld.other W2014 F2008 (Or.inr (slot_ne (C := kC1) (t := (.array .int)) (t' := (.array .int)) (Or.inl (tw hw 18 rfl)) (Or.inl (tw hw 11 rfl)) (by decide) (by decide) (by decide)))
  have F2021 := Fld.other W2014 F2010 (Or.inr (slot_ne (C := kC1) (t := (.array .int)) (t' := (.array .int)) (Or.inl (tw hw 22 rfl)) (Or.inl (tw hw 11 rfl)) (by decide) (by decide) (by decide)))
  have F2022 := Fld.other W2014 F2011 (Or.inr (slot_ne (C := kC1) (t := (.array .long)) (t' := (.array .int)) (Or.inl (tw hw 16 rfl)) (Or.inl (tw hw 11 rfl)) (by decide) (by decide) (by decide)))
  have F2023 := F2012.other W2014 (Ne.symm ne2003)
  refine C.aloadN d1_12 rfl rfl rfl ?_
  refine C.bipush 16 d1_13 rfl rfl ?_
  refine C.newarr 16 d1_15 rfl rfl (tw hw 9 rfl) (by decide) (by decide) (by decide) (by decide) (by decide) (fun a2024 h2025 z2028 g2029 X2026 F2027 => ?_)
  have gz2030 : h0.size ≤ a2024 := by rw [z2028]; exact (((Keep.refl h0 [o0]).ext X1998).wr W2014 (Or.inl (List.mem_of_getElem? (i := 0) rfl))).1
  have ne2031 : o0 ≠ a2024 := by rw [z2028]; exact Nat.ne_of_lt F2016.lt
  have ne2032 : a1996 ≠ a2024 := by rw [z2028]; exact Nat.ne_of_lt F2023.lt
  have F2033 := Exa.ext X2026 F2016
  have F2034 := Fld.ext X2026 F2017
  have F2035 := Fld.ext X2026 F2018
  have F2036 := Fld.ext X2026 F2019
  have F2037 := Fld.ext X2026 F2020
  have F2038 := Fld.ext X2026 F2021
  have F2039 := Fld.ext X2026 F2022
  have F2040 := F2023.ext X2026
  have F2041 := Fld.ext X2026 F2015
  have F2042 : Av Z h2025 a2024 .int zI16 := F2027
  refine C.putF d1_17 rfl (tw hw 12 rfl) F2035 F2033 (Or.inl (tw hw 13 rfl)) (tw hw 1 rfl) (ty := (.array .int)) (by decide) rfl rfl g_o0 (fun h2043 W2044 F2045 => ?_)
  have F2046 := Exa.wr W2044 F2033
  have F2047 := Fld.other W2044 F2034 (Or.inr (slot_ne (C := kC1) (t := (.array .int)) (t' := (.array .int)) (Or.inl (tw hw 20 rfl)) (Or.inl (tw hw 13 rfl)) (by decide) (by decide) (by decide)))
  have F2048 := Fld.other W2044 F2036 (Or.inr (slot_ne (C := kC1) (t := .int) (t' := (.array .int)) (Or.inl (tw hw 88 rfl)) (Or.inl (tw hw 13 rfl)) (by decide) (by decide) (by decide)))
  have F2049 := Fld.other W2044 F2037 (Or.inr (slot_ne (C := kC1) (t := (.array .int)) (t' := (.array .int)) (Or.inl (tw hw 18 rfl)) (Or.inl (tw hw 13 rfl)) (by decide) (by decide) (by decide)))
  have F2050 := Fld.other W2044 F2038 (Or.inr (slot_ne (C := kC1) (t := (.array .int)) (t' := (.array .int)) (Or.inl (tw hw 22 rfl)) (Or.inl (tw hw 13 rfl)) (by decide) (by decide) (by decide)))
  have F2051 := Fld.other W2044 F2039 (Or.inr (slot_ne (C := kC1) (t := (.array .long)) (t' := (.array .int)) (Or.inl (tw hw 16 rfl)) (Or.inl (tw hw 13 rfl)) (by decide) (by decide) (by decide)))
  have F2052 := F2040.other W2044 (Ne.symm ne2003)
  have F2053 := Fld.other W2044 F2041 (Or.inr (slot_ne (C := kC1) (t := (.array .int)) (t' := (.array .int)) (Or.inl (tw hw 11 rfl)) (Or.inl (tw hw 13 rfl)) (by decide) (by decide) (by decide)))
  have F2054 := F2042.other W2044 (Ne.symm ne2031)
  refine C.aloadN d1_20 rfl rfl rfl ?_
  refine C.bipush 16 d1_21 rfl rfl ?_
  refine C.newarr 16 d1_23 rfl rfl (tw hw 14 rfl) (by decide) (by decide) (by decide) (by decide) (by decide) (fun a2055 h2056 z2059 g2060 X2057 F2058 => ?_)
  have gz2061 : h0.size ≤ a2055 := by rw [z2059]; exact (((((Keep.refl h0 [o0]).ext X1998).wr W2014 (Or.inl (List.mem_of_getElem? (i := 0) rfl))).ext X2026).wr W2044 (Or.inl (List.mem_of_getElem? (i := 0) rfl))).1
  have ne2062 : o0 ≠ a2055 := by rw [z2059]; exact Nat.ne_of_lt F2046.lt
  have ne2063 : a1996 ≠ a2055 := by rw [z2059]; exact Nat.ne_of_lt F2052.lt
  have ne2064 : a2024 ≠ a2055 := by rw [z2059]; exact Nat.ne_of_lt F2054.lt
  have F2065 := Exa.ext X2057 F2046
  have F2066 := Fld.ext X2057 F2047
  have F2067 := Fld.ext X2057 F2048
  have F2068 := Fld.ext X2057 F2049
  have F2069 := Fld.ext X2057 F2050
  have F2070 := Fld.ext X2057 F2051
  have F2071 := F2052.ext X2057
  have F2072 := Fld.ext X2057 F2053
  have F2073 := F2054.ext X2057
  have F2074 := Fld.ext X2057 F2045
  have F2075 : Av Z h2056 a2055 .long zJ16 := F2058
  refine C.putF d1_25 rfl (tw hw 15 rfl) F2070 F2065 (Or.inl (tw hw 16 rfl)) (tw hw 1 rfl) (ty := (.array .long)) (by decide) rfl rfl g_o0 (fun h2076 W2077 F2078 => ?_)
  have F2079 := Exa.wr W2077 F2065
  have F2080 := Fld.other W2077 F2066 (Or.inr (slot_ne (C := kC1) (t := (.array .int)) (t' := (.array .long)) (Or.inl (tw hw 20 rfl)) (Or.inl (tw hw 16 rfl)) (by decide) (by decide) (by decide)))
  have F2081 := Fld.other W2077 F2067 (Or.inr (slot_ne (C := kC1) (t := .int) (t' := (.array .long)) (Or.inl (tw hw 88 rfl)) (Or.inl (tw hw 16 rfl)) (by decide) (by decide) (by decide)))
  have F2082 := Fld.other W2077 F2068 (Or.inr (slot_ne (C := kC1) (t := (.array .int)) (t' := (.array .long)) (Or.inl (tw hw 18 rfl)) (Or.inl (tw hw 16 rfl)) (by decide) (by decide) (by decide)))
  have F2083 := Fld.other W2077 F2069 (Or.inr (slot_ne (C := kC1) (t := (.array .int)) (t' := (.array .long)) (Or.inl (tw hw 22 rfl)) (Or.inl (tw hw 16 rfl)) (by decide) (by decide) (by decide)))
  have F2084 := F2071.other W2077 (Ne.symm ne2003)
  have F2085 := Fld.other W2077 F2072 (Or.inr (slot_ne (C := kC1) (t := (.array .int)) (t' := (.array .long)) (Or.inl (tw hw 11 rfl)) (Or.inl (tw hw 16 rfl)) (by decide) (by decide) (by decide)))
  have F2086 := F2073.other W2077 (Ne.symm ne2031)
  have F2087 := Fld.other W2077 F2074 (Or.inr (slot_ne (C := kC1) (t := (.array .int)) (t' := (.array .long)) (Or.inl (tw hw 13 rfl)) (Or.inl (tw hw 16 rfl)) (by decide) (by decide) (by decide)))
  have F2088 := F2075.other W2077 (Ne.symm ne2062)
  refine C.aloadN d1_28 rfl rfl rfl ?_
  refine C.bipush 16 d1_29 rfl rfl ?_
  refine C.newarr 16 d1_31 rfl rfl (tw hw 9 rfl) (by decide) (by decide) (by decide) (by decide) (by decide) (fun a2089 h2090 z2093 g2094 X2091 F2092 => ?_)
  have gz2095 : h0.size ≤ a2089 := by rw [z2093]; exact (((((((Keep.refl h0 [o0]).ext X1998).wr W2014 (Or.inl (List.mem_of_getElem? (i := 0) rfl))).ext X2026).wr W2044 (Or.inl (List.mem_of_getElem? (i := 0) rfl))).ext X2057).wr W2077 (Or.inl (List.mem_of_getElem? (i := 0) rfl))).1
  have ne2096 : o0 ≠ a2089 := by rw [z2093]; exact Nat.ne_of_lt F2079.lt
  have ne2097 : a1996 ≠ a2089 := by rw [z2093]; exact Nat.ne_of_lt F2084.lt
  have ne2098 : a2024 ≠ a2089 := by rw [z2093]; exact Nat.ne_of_lt F2086.lt
  have ne2099 : a2055 ≠ a2089 := by rw [z2093]; exact Nat.ne_of_lt F2088.lt
  have F2100 := Exa.ext X2091 F2079
  have F2101 := Fld.ext X2091 F2080
  have F2102 := Fld.ext X2091 F2081
  have F2103 := Fld.ext X2091 F2082
  have F2104 := Fld.ext X2091 F2083
  have F2105 := F2084.ext X2091
  have F2106 := Fld.ext X2091 F2085
  have F2107 := F2086.ext X2091
  have F2108 := Fld.ext X2091 F2087
  have F2109 := F2088.ext X2091
  have F2110 := Fld.ext X2091 F2078
  have F2111 : Av Z h2090 a2089 .int zI16 := F2092
  refine C.putF d1_33 rfl (tw hw 17 rfl) F2103 F2100 (Or.inl (tw hw 18 rfl)) (tw hw 1 rfl) (ty := (.array .int)) (by decide) rfl rfl g_o0 (fun h2112 W2113 F2114 => ?_)
  have F2115 := Exa.wr W2113 F2100
  have F2116 := Fld.other W2113 F2101 (Or.inr (slot_ne (C := kC1) (t := (.array .int)) (t' := (.array .int)) (Or.inl (tw hw 20 rfl)) (Or.inl (tw hw 18 rfl)) (by decide) (by decide) (by decide)))
  have F2117 := Fld.other W2113 F2102 (Or.inr (slot_ne (C := kC1) (t := .int) (t' := (.array .int)) (Or.inl (tw hw 88 rfl)) (Or.inl (tw hw 18 rfl)) (by decide) (by decide) (by decide)))
  have F2118 := Fld.other W2113 F2104 (Or.inr (slot_ne (C := kC1) (t := (.array .int)) (t' := (.array .int)) (Or.inl (tw hw 22 rfl)) (Or.inl (tw hw 18 rfl)) (by decide) (by decide) (by decide)))
  have F2119 := F2105.other W2113 (Ne.symm ne2003)
  have F2120 := Fld.other W2113 F2106 (Or.inr (slot_ne (C := kC1) (t := (.array .int)) (t' := (.array .int)) (Or.inl (tw hw 11 rfl)) (Or.inl (tw hw 18 rfl)) (by decide) (by decide) (by decide)))
  have F2121 := F2107.other W2113 (Ne.symm ne2031)
  have F2122 := Fld.other W2113 F2108 (Or.inr (slot_ne (C := kC1) (t := (.array .int)) (t' := (.array .int)) (Or.inl (tw hw 13 rfl)) (Or.inl (tw hw 18 rfl)) (by decide) (by decide) (by decide)))
  have F2123 := F2109.other W2113 (Ne.symm ne2062)
  have F2124 := Fld.other W2113 F2110 (Or.inr (slot_ne (C := kC1) (t := (.array .long)) (t' := (.array .int)) (Or.inl (tw hw 16 rfl)) (Or.inl (tw hw 18 rfl)) (by decide) (by decide) (by decide)))
  have F2125 := F2111.other W2113 (Ne.symm ne2096)
  refine C.aloadN d1_36 rfl rfl rfl ?_
  refine C.bipush 16 d1_37 rfl rfl ?_
  refine C.newarr 16 d1_39 rfl rfl (tw hw 9 rfl) (by decide) (by decide) (by decide) (by decide) (by decide) (fun a2126 h2127 z2130 g2131 X2128 F2129 => ?_)
  have gz2132 : h0.size ≤ a2126 := by rw [z2130]; exact (((((((((Keep.refl h0 [o0]).ext X1998).wr W2014 (Or.inl (List.mem_of_getElem? (i := 0) rfl))).ext X2026).wr W2044 (Or.inl (List.mem_of_getElem? (i := 0) rfl))).ext X2057).wr W2077 (Or.inl (List.mem_of_getElem? (i := 0) rfl))).ext X2091).wr W2113 (Or.inl (List.mem_of_getElem? (i := 0) rfl))).1
  have ne2133 : o0 ≠ a2126 := by rw [z2130]; exact Nat.ne_of_lt F2115.lt
  have ne2134 : a1996 ≠ a2126 := by rw [z2130]; exact Nat.ne_of_lt F2119.lt
  have ne2135 : a2024 ≠ a2126 := by rw [z2130]; exact Nat.ne_of_lt F2121.lt
  have ne2136 : a2055 ≠ a2126 := by rw [z2130]; exact Nat.ne_of_lt F2123.lt
  have ne2137 : a2089 ≠ a2126 := by rw [z2130]; exact Nat.ne_of_lt F2125.lt
  have F2138 := Exa.ext X2128 F2115
  have F2139 := Fld.ext X2128 F2116
  have F2140 := Fld.ext X2128 F2117
  have F2141 := Fld.ext X2128 F2118
  have F2142 := F2119.ext X2128
  have F2143 := Fld.ext X2128 F2120
  have F2144 := F2121.ext X2128
  have F2145 := Fld.ext X2128 F2122
  have F2146 := F2123.ext X2128
  have F2147 := Fld.ext X2128 F2124
  have F2148 := F2125.ext X2128
  have F2149 := Fld.ext X2128 F2114
  have F2150 : Av Z h2127 a2126 .int zI16 := F2129
  refine C.putF d1_41 rfl (tw hw 19 rfl) F2139 F2138 (Or.inl (tw hw 20 rfl)) (tw hw 1 rfl) (ty := (.array .int)) (by decide) rfl rfl g_o0 (fun h2151 W2152 F2153 => ?_)
  have F2154 := Exa.wr W2152 F2138
  have F2155 := Fld.other W2152 F2140 (Or.inr (slot_ne (C := kC1) (t := .int) (t' := (.array .int)) (Or.inl (tw hw 88 rfl)) (Or.inl (tw hw 20 rfl)) (by decide) (by decide) (by decide)))
  have F2156 := Fld.other W2152 F2141 (Or.inr (slot_ne (C := kC1) (t := (.array .int)) (t' := (.array .int)) (Or.inl (tw hw 22 rfl)) (Or.inl (tw hw 20 rfl)) (by decide) (by decide) (by decide)))
  have F2157 := F2142.other W2152 (Ne.symm ne2003)
  have F2158 := Fld.other W2152 F2143 (Or.inr (slot_ne (C := kC1) (t := (.array .int)) (t' := (.array .int)) (Or.inl (tw hw 11 rfl)) (Or.inl (tw hw 20 rfl)) (by decide) (by decide) (by decide)))
  have F2159 := F2144.other W2152 (Ne.symm ne2031)
  have F2160 := Fld.other W2152 F2145 (Or.inr (slot_ne (C := kC1) (t := (.array .int)) (t' := (.array .int)) (Or.inl (tw hw 13 rfl)) (Or.inl (tw hw 20 rfl)) (by decide) (by decide) (by decide)))
  have F2161 := F2146.other W2152 (Ne.symm ne2062)
  have F2162 := Fld.other W2152 F2147 (Or.inr (slot_ne (C := kC1) (t := (.array .long)) (t' := (.array .int)) (Or.inl (tw hw 16 rfl)) (Or.inl (tw hw 20 rfl)) (by decide) (by decide) (by decide)))
  have F2163 := F2148.other W2152 (Ne.symm ne2096)
  have F2164 := Fld.other W2152 F2149 (Or.inr (slot_ne (C := kC1) (t := (.array .int)) (t' := (.array .int)) (Or.inl (tw hw 18 rfl)) (Or.inl (tw hw 20 rfl)) (by decide) (by decide) (by decide)))
  have F2165 := F2150.other W2152 (Ne.symm ne2133)
  refine C.aloadN d1_44 rfl rfl rfl ?_
  refine C.bipush 32 d1_45 rfl rfl ?_
  refine C.newarr 32 d1_47 rfl rfl (tw hw 9 rfl) (by decide) (by decide) (by decide) (by decide) (by decide) (fun a2166 h2167 z2170 g2171 X2168 F2169 => ?_)
  have gz2172 : h0.size ≤ a2166 := by rw [z2170]; exact (((((((((((Keep.refl h0 [o0]).ext X1998).wr W2014 (Or.inl (List.mem_of_getElem? (i := 0) rfl))).ext X2026).wr W2044 (Or.inl (List.mem_of_getElem? (i := 0) rfl))).ext X2057).wr W2077 (Or.inl (List.mem_of_getElem? (i := 0) rfl))).ext X2091).wr W2113 (Or.inl (List.mem_of_getElem? (i := 0) rfl))).ext X2128).wr W2152 (Or.inl (List.mem_of_getElem? (i := 0) rfl))).1
  have ne2173 : o0 ≠ a2166 := by rw [z2170]; exact Nat.ne_of_lt F2154.lt
  have ne2174 : a1996 ≠ a2166 := by rw [z2170]; exact Nat.ne_of_lt F2157.lt
  have ne2175 : a2024 ≠ a2166 := by rw [z2170]; exact Nat.ne_of_lt F2159.lt
  have ne2176 : a2055 ≠ a2166 := by rw [z2170]; exact Nat.ne_of_lt F2161.lt
  have ne2177 : a2089 ≠ a2166 := by rw [z2170]; exact Nat.ne_of_lt F2163.lt
  have ne2178 : a2126 ≠ a2166 := by rw [z2170]; exact Nat.ne_of_lt F2165.lt
  have F2179 := Exa.ext X2168 F2154
  have F2180 := Fld.ext X2168 F2155
  have F2181 := Fld.ext X2168 F2156
  have F2182 := F2157.ext X2168
  have F2183 := Fld.ext X2168 F2158
  have F2184 := F2159.ext X2168
  have F2185 := Fld.ext X2168 F2160
  have F2186 := F2161.ext X2168
  have F2187 := Fld.ext X2168 F2162
  have F2188 := F2163.ext X2168
  have F2189 := Fld.ext X2168 F2164
  have F2190 := F2165.ext X2168
  have F2191 := Fld.ext X2168 F2153
  have F2192 : Av Z h2167 a2166 .int zI32 := F2169
  refine C.putF d1_49 rfl (tw hw 21 rfl) F2181 F2179 (Or.inl (tw hw 22 rfl)) (tw hw 1 rfl) (ty := (.array .int)) (by decide) rfl rfl g_o0 (fun h2193 W2194 F2195 => ?_)
  have F2196 := Exa.wr W2194 F2179
  have F2197 := Fld.other W2194 F2180 (Or.inr (slot_ne (C := kC1) (t := .int) (t' := (.array .int)) (Or.inl (tw hw 88 rfl)) (Or.inl (tw hw 22 rfl)) (by decide) (by decide) (by decide)))
  have F2198 := F2182.other W2194 (Ne.symm ne2003)
  have F2199 := Fld.other W2194 F2183 (Or.inr (slot_ne (C := kC1) (t := (.array .int)) (t' := (.array .int)) (Or.inl (tw hw 11 rfl)) (Or.inl (tw hw 22 rfl)) (by decide) (by decide) (by decide)))
  have F2200 := F2184.other W2194 (Ne.symm ne2031)
  have F2201 := Fld.other W2194 F2185 (Or.inr (slot_ne (C := kC1) (t := (.array .int)) (t' := (.array .int)) (Or.inl (tw hw 13 rfl)) (Or.inl (tw hw 22 rfl)) (by decide) (by decide) (by decide)))
  have F2202 := F2186.other W2194 (Ne.symm ne2062)
  have F2203 := Fld.other W2194 F2187 (Or.inr (slot_ne (C := kC1) (t := (.array .long)) (t' := (.array .int)) (Or.inl (tw hw 16 rfl)) (Or.inl (tw hw 22 rfl)) (by decide) (by decide) (by decide)))
  have F2204 := F2188.other W2194 (Ne.symm ne2096)
  have F2205 := Fld.other W2194 F2189 (Or.inr (slot_ne (C := kC1) (t := (.array .int)) (t' := (.array .int)) (Or.inl (tw hw 18 rfl)) (Or.inl (tw hw 22 rfl)) (by decide) (by decide) (by decide)))
  have F2206 := F2190.other W2194 (Ne.symm ne2133)
  have F2207 := Fld.other W2194 F2191 (Or.inr (slot_ne (C := kC1) (t := (.array .int)) (t' := (.array .int)) (Or.inl (tw hw 20 rfl)) (Or.inl (tw hw 22 rfl)) (by decide) (by decide) (by decide)))
  have F2208 := F2192.other W2194 (Ne.symm ne2173)
  exact C.ret0 d1_52 (by decide) (by decide) ⟨a2126, a2024, a2089, a1996, a2166, a2055, rfl, (((((((((((((Keep.refl h0 [o0]).ext X1998).wr W2014 (Or.inl (List.mem_of_getElem? (i := 0) rfl))).ext X2026).wr W2044 (Or.inl (List.mem_of_getElem? (i := 0) rfl))).ext X2057).wr W2077 (Or.inl (List.mem_of_getElem? (i := 0) rfl))).ext X2091).wr W2113 (Or.inl (List.mem_of_getElem? (i := 0) rfl))).ext X2128).wr W2152 (Or.inl (List.mem_of_getElem? (i := 0) rfl))).ext X2168).wr W2194 (Or.inl (List.mem_of_getElem? (i := 0) rfl))), g2131, gz2132, g2029, gz2030, g2094, gz2095, g2001, gz2002, g2171, gz2172, g2060, gz2061, (Ne.symm ne2135), (Ne.symm ne2137), (Ne.symm ne2134), ne2178, (Ne.symm ne2136), ne2098, (Ne.symm ne2032), ne2175, ne2064, (Ne.symm ne2097), ne2177, (Ne.symm ne2099), ne2174, ne2063, (Ne.symm ne2176), F2207, F2201, F2197, F2205, F2199, F2195, F2203, F2206, F2200, F2204, F2198, F2208, F2202⟩
theorem d3_0 : decode prog_21_method_1_code 0 = .ok (.aload_n 0, 1) := by decide +kernel
theorem d3_1 : decode prog_21_method_1_code 1 = .ok (.invokespecial 1, 3) := by decide +kernel
theorem d3_4 : decode prog_21_method_1_code 4 = .ok (.iload_n 1, 1) := by decide +kernel
theorem d3_5 : decode prog_21_method_1_code 5 = .ok (.bipush 64, 2) := by decide +kernel
theorem d3_7 : decode prog_21_method_1_code 7 = .ok (.iadd, 1) := by decide +kernel
theorem d3_8 : decode prog_21_method_1_code 8 = .ok (.iconst 1, 1) := by decide +kernel
theorem d3_9 : decode prog_21_method_1_code 9 = .ok (.isub, 1) := by decide +kernel
theorem d3_10 : decode prog_21_method_1_code 10 = .ok (.bipush 64, 2) := by decide +kernel
theorem d3_12 : decode prog_21_method_1_code 12 = .ok (.idiv, 1) := by decide +kernel
theorem d3_13 : decode prog_21_method_1_code 13 = .ok (.istore_n 2, 1) := by decide +kernel
theorem d3_14 : decode prog_21_method_1_code 14 = .ok (.aload_n 0, 1) := by decide +kernel
theorem d3_15 : decode prog_21_method_1_code 15 = .ok (.iload_n 2, 1) := by decide +kernel
theorem d3_16 : decode prog_21_method_1_code 16 = .ok (.newarray .long, 2) := by decide +kernel
theorem d3_18 : decode prog_21_method_1_code 18 = .ok (.putfield 9, 3) := by decide +kernel
theorem d3_21 : decode prog_21_method_1_code 21 = .ok (.aload_n 0, 1) := by decide +kernel
theorem d3_22 : decode prog_21_method_1_code 22 = .ok (.iload_n 2, 1) := by decide +kernel
theorem d3_23 : decode prog_21_method_1_code 23 = .ok (.bipush 16, 2) := by decide +kernel
theorem d3_25 : decode prog_21_method_1_code 25 = .ok (.if_icmp .le 7, 3) := by decide +kernel
theorem d3_32 : decode prog_21_method_1_code 32 = .ok (.iconst 0, 1) := by decide +kernel
theorem d3_33 : decode prog_21_method_1_code 33 = .ok (.putfield 15, 3) := by decide +kernel
theorem d3_36 : decode prog_21_method_1_code 36 = .ok (.aload_n 0, 1) := by decide +kernel
theorem d3_37 : decode prog_21_method_1_code 37 = .ok (.iload_n 2, 1) := by decide +kernel
theorem d3_38 : decode prog_21_method_1_code 38 = .ok (.newarray .int, 2) := by decide +kernel
theorem d3_40 : decode prog_21_method_1_code 40 = .ok (.putfield 19, 3) := by decide +kernel
theorem d3_43 : decode prog_21_method_1_code 43 = .ok (.return_, 1) := by decide +kernel
theorem pf_12 : plainFor (⟨"com/example/detra/detra/SetWords", "<init>", "(I)V"⟩ : MethodName) = true := by first | exact plainFor_of_name (by first | (simp [plainName, overriddenIn]; done) | decide +kernel) | decide +kernel
def Qau2305_3 (Z : State) (n0 : Nat) (h0 : Heap) (o0 : Addr) (v : Option Value) (h' : Heap) : Prop := ∃ (f0 : Addr) (f1 : Addr), (v = none) ∧ (Keep h0 h' [o0]) ∧ (n0 ≤ f0) ∧ (h0.size ≤ f0) ∧ (n0 ≤ f1) ∧ (h0.size ≤ f1) ∧ (f0 ≠ f1) ∧ (Fld Z h' o0 kC0 "count" "I" (.int 0)) ∧ (Fld Z h' o0 kC0 "held" "[I" (.ref f0)) ∧ (Fld Z h' o0 kC0 "listing" "Z" (.int 0)) ∧ (Fld Z h' o0 kC0 "words" "[J" (.ref f1)) ∧ (Av Z h' f0 .int ([.int 0, .int 0, .int 0])) ∧ (Av Z h' f1 .long ([.long 0, .long 0, .long 0]))
theorem ef_au2305_3 (m : MethodId) (o0 : Addr) : entryFrame m #[(.ref o0), (.int 192)] 3 = mkF m 0 #[rv o0, iv 192, .unset] [] := by first | (simp [entryFrame, mkF, argsToLocals, Value.category]; done) | rfl
set_option maxRecDepth 65536 in
set_option maxHeartbeats 40000000 in
theorem au2305_3 (l : Launch) (Z : State) (a0 : Array Value) (hw : ∀ d ∈ tables_1, d.before a0 Z = true) (n0 : Nat) (h0 : Heap) (hn0 : n0 ≤ h0.size) (o0 : Addr) (P0 : Exa Z h0 o0 kC0) (P1 : Fld Z h0 o0 kC0 "count" "I" (.int 0)) (P2 : Fld Z h0 o0 kC0 "held" "[I" (.null)) (P3 : Fld Z h0 o0 kC0 "listing" "Z" (.int 0)) (P4 : Fld Z h0 o0 kC0 "words" "[J" (.null)) (g_o0 : n0 ≤ o0) :
    Con l Z n0 [] (⟨"com/example/detra/detra/SetWords", "<init>", "(I)V"⟩ : MethodName) prog_21_method_1_code 3 none ({ frames := 1, cells := 2, slots := 6, locals := 12 } : Room) #[(.ref o0), (.int 192)] h0 (Qau2305_3 Z n0 h0 o0) := by
  refine Con.of pf_12 (fun m => ef_au2305_3 m o0) hn0 ?_
  intro p e s m below meth c C
  refine C.aloadN d3_0 rfl rfl rfl ?_
  refine C.initO 0 d3_1 rfl (tw hw 29 rfl) (tw hw 7 rfl) (tw hw 8 rfl) rfl (by decide) (Nat.le_of_eq rfl) (by decide) ?_
  refine C.iloadN d3_4 rfl rfl ?_
  refine C.bipush 64 d3_5 rfl rfl ?_
  refine C.iadd d3_7 rfl ?_
  refine Go.cI (y := 256) rfl ?_
  refine C.iconst 1 d3_8 rfl rfl ?_
  refine C.isub d3_9 rfl ?_
  refine Go.cI (y := 255) rfl ?_
  refine C.bipush 64 d3_10 rfl rfl ?_
  refine C.idiv d3_12 rfl (by decide) ?_
  refine Go.cI (y := 3) rfl ?_
  refine C.istoreN (Ls' := #[rv o0, iv 192, iv 3]) d3_13 rfl rfl ?_
  refine C.aloadN d3_14 rfl rfl rfl ?_
  refine C.iloadN d3_15 rfl rfl ?_
  refine C.newarr 3 d3_16 rfl rfl (tw hw 14 rfl) (by decide) (by decide) (by decide) (by decide) (by decide) (fun a2416 h2417 z2420 g2421 X2418 F2419 => ?_)
  have gz2422 : h0.size ≤ a2416 := by rw [z2420]; exact (Keep.refl h0 [o0]).1
  have ne2423 : o0 ≠ a2416 := by rw [z2420]; exact Nat.ne_of_lt P0.lt
  have F2424 := Exa.ext X2418 P0
  have F2425 := Fld.ext X2418 P1
  have F2426 := Fld.ext X2418 P2
  have F2427 := Fld.ext X2418 P3
  have F2428 := Fld.ext X2418 P4
  have F2429 : Av Z h2417 a2416 .long ([.long 0, .long 0, .long 0]) := F2419
  refine C.putF d3_18 rfl (tw hw 30 rfl) F2428 F2424 (Or.inr ⟨(tw hw 31 rfl), rfl, rfl⟩) (tw hw 24 rfl) (ty := (.array .long)) (by decide) rfl rfl g_o0 (fun h2430 W2431 F2432 => ?_)
  have F2433 := Exa.wr W2431 F2424
  have F2434 := Fld.other W2431 F2425 (Or.inr (slot_ne (C := kC0) (t := .int) (t' := (.array .long)) (Or.inl (tw hw 63 rfl)) (Or.inr (tw hw 31 rfl)) (by decide) (by decide) (by decide)))
  have F2435 := Fld.other W2431 F2426 (Or.inr (slot_ne (C := kC0) (t := (.array .int)) (t' := (.array .long)) (Or.inr (tw hw 35 rfl)) (Or.inr (tw hw 31 rfl)) (by decide) (by decide) (by decide)))
  have F2436 := Fld.other W2431 F2427 (Or.inr (slot_ne (C := kC0) (t := .boolean) (t' := (.array .long)) (Or.inr (tw hw 33 rfl)) (Or.inr (tw hw 31 rfl)) (by decide) (by decide) (by decide)))
  have F2437 := F2429.other W2431 (Ne.symm ne2423)
  refine C.aloadN d3_21 rfl rfl rfl ?_
  refine C.iloadN d3_22 rfl rfl ?_
  refine C.bipush 16 d3_23 rfl rfl ?_
  refine C.icmp_le_t d3_25 (by decide) rfl (by decide) ?_
  refine C.iconst 0 d3_32 rfl rfl ?_
  refine C.putF d3_33 rfl (tw hw 32 rfl) F2436 F2433 (Or.inr ⟨(tw hw 33 rfl), rfl, rfl⟩) (tw hw 24 rfl) (ty := .boolean) (by decide) rfl rfl g_o0 (fun h2438 W2439 F2440 => ?_)
  have F2441 := Exa.wr W2439 F2433
  have F2442 := Fld.other W2439 F2434 (Or.inr (slot_ne (C := kC0) (t := .int) (t' := .boolean) (Or.inl (tw hw 63 rfl)) (Or.inr (tw hw 33 rfl)) (by decide) (by decide) (by decide)))
  have F2443 := Fld.other W2439 F2435 (Or.inr (slot_ne (C := kC0) (t := (.array .int)) (t' := .boolean) (Or.inr (tw hw 35 rfl)) (Or.inr (tw hw 33 rfl)) (by decide) (by decide) (by decide)))
  have F2444 := F2437.other W2439 (Ne.symm ne2423)
  have F2445 := Fld.other W2439 F2432 (Or.inr (slot_ne (C := kC0) (t := (.array .long)) (t' := .boolean) (Or.inr (tw hw 31 rfl)) (Or.inr (tw hw 33 rfl)) (by decide) (by decide) (by decide)))
  refine C.aloadN d3_36 rfl rfl rfl ?_
  refine C.iloadN d3_37 rfl rfl ?_
  refine C.newarr 3 d3_38 rfl rfl (tw hw 9 rfl) (by decide) (by decide) (by decide) (by decide) (by decide) (fun a2446 h2447 z2450 g2451 X2448 F2449 => ?_)
  have gz2452 : h0.size ≤ a2446 := by rw [z2450]; exact ((((Keep.refl h0 [o0]).ext X2418).wr W2431 (Or.inl (List.mem_of_getElem? (i := 0) rfl))).wr W2439 (Or.inl (List.mem_of_getElem? (i := 0) rfl))).1
  have ne2453 : o0 ≠ a2446 := by rw [z2450]; exact Nat.ne_of_lt F2441.lt
  have ne2454 : a2416 ≠ a2446 := by rw [z2450]; exact Nat.ne_of_lt F2444.lt
  have F2455 := Exa.ext X2448 F2441
  have F2456 := Fld.ext X2448 F2442
  have F2457 := Fld.ext X2448 F2443
  have F2458 := F2444.ext X2448
  have F2459 := Fld.ext X2448 F2445
  have F2460 := Fld.ext X2448 F2440
  have F2461 : Av Z h2447 a2446 .int ([.int 0, .int 0, .int 0]) := F2449
  refine C.putF d3_40 rfl (tw hw 34 rfl) F2457 F2455 (Or.inr ⟨(tw hw 35 rfl), rfl, rfl⟩) (tw hw 24 rfl) (ty := (.array .int)) (by decide) rfl rfl g_o0 (fun h2462 W2463 F2464 => ?_)
  have F2465 := Exa.wr W2463 F2455
  have F2466 := Fld.other W2463 F2456 (Or.inr (slot_ne (C := kC0) (t := .int) (t' := (.array .int)) (Or.inl (tw hw 63 rfl)) (Or.inr (tw hw 35 rfl)) (by decide) (by decide) (by decide)))
  have F2467 := F2458.other W2463 (Ne.symm ne2423)
  have F2468 := Fld.other W2463 F2459 (Or.inr (slot_ne (C := kC0) (t := (.array .long)) (t' := (.array .int)) (Or.inr (tw hw 31 rfl)) (Or.inr (tw hw 35 rfl)) (by decide) (by decide) (by decide)))
  have F2469 := Fld.other W2463 F2460 (Or.inr (slot_ne (C := kC0) (t := .boolean) (t' := (.array .int)) (Or.inr (tw hw 33 rfl)) (Or.inr (tw hw 35 rfl)) (by decide) (by decide) (by decide)))
  have F2470 := F2461.other W2463 (Ne.symm ne2453)
  exact C.ret0 d3_43 (by decide) (by decide) ⟨a2446, a2416, rfl, ((((((Keep.refl h0 [o0]).ext X2418).wr W2431 (Or.inl (List.mem_of_getElem? (i := 0) rfl))).wr W2439 (Or.inl (List.mem_of_getElem? (i := 0) rfl))).ext X2448).wr W2463 (Or.inl (List.mem_of_getElem? (i := 0) rfl))), g2451, gz2452, g2421, gz2422, (Ne.symm ne2454), F2466, F2464, F2469, F2468, F2470, F2467⟩
theorem pd_8 : parseMethodDescriptor "(I)V" = some ⟨[.int], none⟩ := by decide +kernel
theorem d4_0 : decode prog_21_method_5_code 0 = .ok (.aload_n 0, 1) := by decide +kernel
theorem d4_1 : decode prog_21_method_5_code 1 = .ok (.getfield 15, 3) := by decide +kernel
theorem d4_4 : decode prog_21_method_5_code 4 = .ok (.ifCond .eq 17, 3) := by decide +kernel
theorem d4_21 : decode prog_21_method_5_code 21 = .ok (.aload_n 1, 1) := by decide +kernel
theorem d4_22 : decode prog_21_method_5_code 22 = .ok (.iload_n 2, 1) := by decide +kernel
theorem d4_23 : decode prog_21_method_5_code 23 = .ok (.aload_n 0, 1) := by decide +kernel
theorem d4_24 : decode prog_21_method_5_code 24 = .ok (.getfield 9, 3) := by decide +kernel
theorem d4_27 : decode prog_21_method_5_code 27 = .ok (.iconst 0, 1) := by decide +kernel
theorem d4_28 : decode prog_21_method_5_code 28 = .ok (.iload_n 3, 1) := by decide +kernel
theorem d4_29 : decode prog_21_method_5_code 29 = .ok (.invokestatic 34, 3) := by decide +kernel
theorem d4_32 : decode prog_21_method_5_code 32 = .ok (.aload_n 0, 1) := by decide +kernel
theorem d4_33 : decode prog_21_method_5_code 33 = .ok (.getfield 9, 3) := by decide +kernel
theorem d4_36 : decode prog_21_method_5_code 36 = .ok (.iload_n 3, 1) := by decide +kernel
theorem d4_37 : decode prog_21_method_5_code 37 = .ok (.aload_n 0, 1) := by decide +kernel
theorem d4_38 : decode prog_21_method_5_code 38 = .ok (.getfield 9, 3) := by decide +kernel
theorem d4_41 : decode prog_21_method_5_code 41 = .ok (.arraylength, 1) := by decide +kernel
theorem d4_42 : decode prog_21_method_5_code 42 = .ok (.lconst 0, 1) := by decide +kernel
theorem d4_43 : decode prog_21_method_5_code 43 = .ok (.invokestatic 40, 3) := by decide +kernel
theorem d4_46 : decode prog_21_method_5_code 46 = .ok (.return_, 1) := by decide +kernel
theorem pf_13 : plainFor (⟨"com/example/detra/detra/SetWords", "assign", "([JII)V"⟩ : MethodName) = true := by first | exact plainFor_of_name (by first | (simp [plainName, overriddenIn]; done) | decide +kernel) | decide +kernel
theorem d5_0 : decode jdk_65_method_102_code 0 = .ok (.aload_n 0, 1) := by decide +kernel
theorem d5_1 : decode jdk_65_method_102_code 1 = .ok (.arraylength, 1) := by decide +kernel
theorem d5_2 : decode jdk_65_method_102_code 2 = .ok (.iload_n 1, 1) := by decide +kernel
theorem d5_3 : decode jdk_65_method_102_code 3 = .ok (.iload_n 2, 1) := by decide +kernel
theorem d5_4 : decode jdk_65_method_102_code 4 = .ok (.invokestatic 13, 3) := by decide +kernel
theorem d5_7 : decode jdk_65_method_102_code 7 = .ok (.iload_n 1, 1) := by decide +kernel
theorem d5_8 : decode jdk_65_method_102_code 8 = .ok (.istore 5, 2) := by decide +kernel
theorem d5_10 : decode jdk_65_method_102_code 10 = .ok (.iload 5, 2) := by decide +kernel
theorem d5_12 : decode jdk_65_method_102_code 12 = .ok (.iload_n 2, 1) := by decide +kernel
theorem d5_13 : decode jdk_65_method_102_code 13 = .ok (.if_icmp .ge 14, 3) := by decide +kernel
theorem d5_27 : decode jdk_65_method_102_code 27 = .ok (.return_, 1) := by decide +kernel
theorem pf_14 : plainFor (⟨"java/util/Arrays", "fill", "([JIIJ)V"⟩ : MethodName) = true := by first | exact plainFor_of_name (by first | (simp [plainName, overriddenIn]; done) | decide +kernel) | decide +kernel
theorem d6_0 : decode jdk_65_method_30_code 0 = .ok (.iload_n 1, 1) := by decide +kernel
theorem d6_1 : decode jdk_65_method_30_code 1 = .ok (.iload_n 2, 1) := by decide +kernel
theorem d6_2 : decode jdk_65_method_30_code 2 = .ok (.if_icmp .le 44, 3) := by decide +kernel
theorem d6_46 : decode jdk_65_method_30_code 46 = .ok (.iload_n 1, 1) := by decide +kernel
theorem d6_47 : decode jdk_65_method_30_code 47 = .ok (.ifCond .ge 12, 3) := by decide +kernel
theorem d6_59 : decode jdk_65_method_30_code 59 = .ok (.iload_n 2, 1) := by decide +kernel
theorem d6_60 : decode jdk_65_method_30_code 60 = .ok (.iload_n 0, 1) := by decide +kernel
theorem d6_61 : decode jdk_65_method_30_code 61 = .ok (.if_icmp .le 12, 3) := by decide +kernel
theorem d6_73 : decode jdk_65_method_30_code 73 = .ok (.return_, 1) := by decide +kernel
theorem pf_15 : plainFor (⟨"java/util/Arrays", "rangeCheck", "(III)V"⟩ : MethodName) = true := by first | exact plainFor_of_name (by first | (simp [plainName, overriddenIn]; done) | decide +kernel) | decide +kernel
def Qau2768_6 (Z : State) (n0 : Nat) (h0 : Heap)  (v : Option Value) (h' : Heap) : Prop := (v = none) ∧ (h0 = h')
theorem ef_au2768_6 (m : MethodId)  : entryFrame m #[(.int 3), (.int 3), (.int 3)] 3 = mkF m 0 #[iv 3, iv 3, iv 3] [] := by first | (simp [entryFrame, mkF, argsToLocals, Value.category]; done) | rfl
set_option maxRecDepth 65536 in
set_option maxHeartbeats 40000000 in
theorem au2768_6 (l : Launch) (Z : State) (a0 : Array Value) (hw : ∀ d ∈ tables_1, d.before a0 Z = true) (n0 : Nat) (h0 : Heap) (hn0 : n0 ≤ h0.size)  :
    Con l Z n0 [] (⟨"java/util/Arrays", "rangeCheck", "(III)V"⟩ : MethodName) jdk_65_method_30_code 3 none ({ frames := 0, cells := 0, slots := 0, locals := 0 } : Room) #[(.int 3), (.int 3), (.int 3)] h0 (Qau2768_6 Z n0 h0) := by
  refine Con.of pf_15 (fun m => ef_au2768_6 m ) hn0 ?_
  intro p e s m below meth c C
  refine C.iloadN d6_0 rfl rfl ?_
  refine C.iloadN d6_1 rfl rfl ?_
  refine C.icmp_le_t d6_2 (by decide) rfl (by decide) ?_
  refine C.iloadN d6_46 rfl rfl ?_
  refine C.if_ge_t d6_47 (by decide) rfl (by decide) ?_
  refine C.iloadN d6_59 rfl rfl ?_
  refine C.iloadN d6_60 rfl rfl ?_
  refine C.icmp_le_t d6_61 (by decide) rfl (by decide) ?_
  exact C.ret0 d6_73 (by decide) (by decide) ⟨rfl, rfl⟩
theorem pd_9 : parseMethodDescriptor "(III)V" = some ⟨[.int, .int, .int], none⟩ := by decide +kernel
def Qau2767_5 (Z : State) (n0 : Nat) (h0 : Heap) (o0 : Addr) (j0 : Int64) (j1 : Int64) (j2 : Int64) (v : Option Value) (h' : Heap) : Prop := (v = none) ∧ (h0 = h')
theorem ef_au2767_5 (m : MethodId) (o0 : Addr) : entryFrame m #[(.ref o0), (.int 3), (.int 3), (.long 0)] 6 = mkF m 0 #[rv o0, iv 3, iv 3, .val (.long 0), .second, .unset] [] := by first | (simp [entryFrame, mkF, argsToLocals, Value.category]; done) | rfl
set_option maxRecDepth 65536 in
set_option maxHeartbeats 40000000 in
theorem au2767_5 (l : Launch) (Z : State) (a0 : Array Value) (hw : ∀ d ∈ tables_1, d.before a0 Z = true) (n0 : Nat) (h0 : Heap) (hn0 : n0 ≤ h0.size) (o0 : Addr) (j0 : Int64) (j1 : Int64) (j2 : Int64) (P0 : Av Z h0 o0 .long ([.long j0, .long j1, .long j2])) (g_o0 : n0 ≤ o0) :
    Con l Z n0 [] (⟨"java/util/Arrays", "fill", "([JIIJ)V"⟩ : MethodName) jdk_65_method_102_code 6 none ({ frames := 1, cells := 0, slots := 0, locals := 14 } : Room) #[(.ref o0), (.int 3), (.int 3), (.long 0)] h0 (Qau2767_5 Z n0 h0 o0 j0 j1 j2) := by
  refine Con.of pf_14 (fun m => ef_au2767_5 m o0) hn0 ?_
  intro p e s m below meth c C
  refine C.aloadN d5_0 rfl rfl rfl ?_
  refine C.alen d5_1 rfl P0 ?_
  refine Go.cI (y := 3) rfl ?_
  refine C.iloadN d5_2 rfl rfl ?_
  refine C.iloadN d5_3 rfl rfl ?_
  refine C.callS (argsL := [(.int 3), (.int 3), (.int 3)]) (rest := []) 0 (fun zz => au2768_6 l Z a0 hw n0 h0 zz  ) d5_4 rfl (tw hw 49 rfl) (tw hw 50 rfl) (tw hw 47 rfl) (tw hw 51 rfl) (by decide) pd_9 rfl rfl rfl (Nat.le_of_eq rfl) (by decide) (by decide) (by decide) (by decide) (fun v2777 h2778 r2779 => ?_)
  obtain ⟨rfl, rfl⟩ := r2779
  refine C.iloadN d5_7 rfl rfl ?_
  refine C.istore (Ls' := #[rv o0, iv 3, iv 3, .val (.long 0), .second, iv 3]) d5_8 rfl rfl ?_
  refine C.iload d5_10 rfl rfl ?_
  refine C.iloadN d5_12 rfl rfl ?_
  refine C.icmp_ge_t d5_13 (by decide) rfl (by decide) ?_
  exact C.ret0 d5_27 (by decide) (by decide) ⟨rfl, rfl⟩
theorem pd_10 : parseMethodDescriptor "([JIIJ)V" = some ⟨[(.array .long), .int, .int, .long], none⟩ := by decide +kernel
def Qau2754_4 (Z : State) (n0 : Nat) (h0 : Heap) (o0 : Addr) (o1 : Addr) (o2 : Addr) (o3 : Addr) (j0 : Int64) (j1 : Int64) (j2 : Int64) (v : Option Value) (h' : Heap) : Prop := (v = none) ∧ (Keep h0 h' [o3]) ∧ (Av Z h' o3 .long ([.long j0, .long j1, .long j2]))
theorem ef_au2754_4 (m : MethodId) (o0 : Addr) (o1 : Addr) : entryFrame m #[(.ref o0), (.ref o1), (.int 0), (.int 3)] 4 = mkF m 0 #[rv o0, rv o1, iv 0, iv 3] [] := by first | (simp [entryFrame, mkF, argsToLocals, Value.category]; done) | rfl
set_option maxRecDepth 65536 in
set_option maxHeartbeats 40000000 in
theorem au2754_4 (l : Launch) (Z : State) (a0 : Array Value) (hw : ∀ d ∈ tables_1, d.before a0 Z = true) (n0 : Nat) (h0 : Heap) (hn0 : n0 ≤ h0.size) (o0 : Addr) (o1 : Addr) (o2 : Addr) (o3 : Addr) (j0 : Int64) (j1 : Int64) (j2 : Int64) (P0 : Exa Z h0 o0 kC0) (P1 : Fld Z h0 o0 kC0 "count" "I" (.int 0)) (P2 : Fld Z h0 o0 kC0 "held" "[I" (.ref o2)) (P3 : Fld Z h0 o0 kC0 "listing" "Z" (.int 0)) (P4 : Fld Z h0 o0 kC0 "words" "[J" (.ref o3)) (P5 : Av Z h0 o1 .long ([.long j0, .long j1, .long j2])) (P6 : Av Z h0 o2 .int ([.int 0, .int 0, .int 0])) (P7 : Av Z h0 o3 .long ([.long 0, .long 0, .long 0])) (g_o0 : n0 ≤ o0) (g_o1 : n0 ≤ o1) (g_o2 : n0 ≤ o2) (g_o3 : n0 ≤ o3) (ne_o0_o1 : o0 ≠ o1) (ne_o0_o2 : o0 ≠ o2) (ne_o0_o3 : o0 ≠ o3) (ne_o1_o2 : o1 ≠ o2) (ne_o1_o3 : o1 ≠ o3) (ne_o2_o3 : o2 ≠ o3) :
    Con l Z n0 [] (⟨"com/example/detra/detra/SetWords", "assign", "([JII)V"⟩ : MethodName) prog_21_method_5_code 4 none ({ frames := 2, cells := 0, slots := 0, locals := 31 } : Room) #[(.ref o0), (.ref o1), (.int 0), (.int 3)] h0 (Qau2754_4 Z n0 h0 o0 o1 o2 o3 j0 j1 j2) := by
  refine Con.of pf_13 (fun m => ef_au2754_4 m o0 o1) hn0 ?_
  intro p e s m below meth c C
  refine C.aloadN d4_0 rfl rfl rfl ?_
  refine C.getF d4_1 rfl (tw hw 32 rfl) P3 ?_
  refine C.if_eq_t d4_4 (by decide) rfl (by decide) ?_
  refine C.aloadN d4_21 rfl rfl rfl ?_
  refine C.iloadN d4_22 rfl rfl ?_
  refine C.aloadN d4_23 rfl rfl rfl ?_
  refine C.getF d4_24 rfl (tw hw 30 rfl) P4 ?_
  refine C.iconst 0 d4_27 rfl rfl ?_
  refine C.iloadN d4_28 rfl rfl ?_
  refine C.acopy 0 d4_29 rfl (tw hw 41 rfl) (tw hw 44 rfl) (tw hw 42 rfl) (tw hw 43 rfl) P5 P7 rfl (Nat.le_of_ble_eq_true rfl) (Nat.le_of_ble_eq_true rfl) (by decide) (by decide) (by decide) (Nat.le_of_ble_eq_true rfl) (Nat.le_of_ble_eq_true rfl) g_o3 rfl (by decide) (Nat.le_of_eq rfl) (by decide) (fun h2801 K2802 F2803 => ?_)
  have F2804 := P0.keep K2802
  have F2805 := P1.keep K2802 (ninS ne_o0_o3 nin0)
  have F2806 := P2.keep K2802 (ninS ne_o0_o3 nin0)
  have F2807 := P3.keep K2802 (ninS ne_o0_o3 nin0)
  have F2808 := P4.keep K2802 (ninS ne_o0_o3 nin0)
  have F2809 := P5.keep K2802 (ninS ne_o1_o3 nin0)
  have F2810 := P6.keep K2802 (ninS ne_o2_o3 nin0)
  have F2812 : Av Z h2801 o3 .long ([.long j0, .long j1, .long j2]) := F2803
  refine C.aloadN d4_32 rfl rfl rfl ?_
  refine C.getF d4_33 rfl (tw hw 30 rfl) F2808 ?_
  refine C.iloadN d4_36 rfl rfl ?_
  refine C.aloadN d4_37 rfl rfl rfl ?_
  refine C.getF d4_38 rfl (tw hw 30 rfl) F2808 ?_
  refine C.alen d4_41 rfl F2812 ?_
  refine Go.cI (y := 3) rfl ?_
  refine C.lconst 0 d4_42 rfl rfl ?_
  refine C.callS (argsL := [(.ref o3), (.int 3), (.int 3), (.long 0)]) (rest := []) 0 (fun zz => au2767_5 l Z a0 hw n0 h2801 zz o3 j0 j1 j2 F2812 g_o3) d4_43 rfl (tw hw 45 rfl) (tw hw 46 rfl) (tw hw 47 rfl) (tw hw 48 rfl) (by decide) pd_10 rfl rfl rfl (Nat.le_of_eq rfl) (by decide) (by decide) (by decide) (by decide) (fun v2813 h2814 r2815 => ?_)
  obtain ⟨rfl, rfl⟩ := r2815
  exact C.ret0 d4_46 (by decide) (by decide) ⟨rfl, ((Keep.refl h0 [o3]).trans K2802 (allS (Or.inl (List.mem_of_getElem? (i := 0) rfl)) all0)), F2812⟩
theorem pd_11 : parseMethodDescriptor "([JII)V" = some ⟨[(.array .long), .int, .int], none⟩ := by decide +kernel
def Qau2896_4 (Z : State) (n0 : Nat) (h0 : Heap) (o0 : Addr) (o1 : Addr) (i0 : Int32) (o2 : Addr) (o3 : Addr) (j0 : Int64) (j1 : Int64) (j2 : Int64) (vso2 : List Value) (j3 : Int64) (j4 : Int64) (j5 : Int64) (v : Option Value) (h' : Heap) : Prop := (v = none) ∧ (Keep h0 h' [o3]) ∧ (Av Z h' o3 .long ([.long j0, .long j1, .long j2]))
theorem ef_au2896_4 (m : MethodId) (o0 : Addr) (o1 : Addr) : entryFrame m #[(.ref o0), (.ref o1), (.int 0), (.int 3)] 4 = mkF m 0 #[rv o0, rv o1, iv 0, iv 3] [] := by first | (simp [entryFrame, mkF, argsToLocals, Value.category]; done) | rfl
set_option maxRecDepth 65536 in
set_option maxHeartbeats 40000000 in
theorem au2896_4 (l : Launch) (Z : State) (a0 : Array Value) (hw : ∀ d ∈ tables_1, d.before a0 Z = true) (n0 : Nat) (h0 : Heap) (hn0 : n0 ≤ h0.size) (o0 : Addr) (o1 : Addr) (i0 : Int32) (o2 : Addr) (o3 : Addr) (j0 : Int64) (j1 : Int64) (j2 : Int64) (vso2 : List Value) (j3 : Int64) (j4 : Int64) (j5 : Int64) (P0 : Exa Z h0 o0 kC0) (P1 : Fld Z h0 o0 kC0 "count" "I" (.int i0)) (P2 : Fld Z h0 o0 kC0 "held" "[I" (.ref o2)) (P3 : Fld Z h0 o0 kC0 "listing" "Z" (.int 0)) (P4 : Fld Z h0 o0 kC0 "words" "[J" (.ref o3)) (P5 : Av Z h0 o1 .long ([.long j0, .long j1, .long j2])) (P6 : Av Z h0 o2 .int vso2) (P7 : Av Z h0 o3 .long ([.long j3, .long j4, .long j5])) (g_o0 : n0 ≤ o0) (g_o1 : n0 ≤ o1) (g_o2 : n0 ≤ o2) (g_o3 : n0 ≤ o3) (ne_o0_o1 : o0 ≠ o1) (ne_o0_o2 : o0 ≠ o2) (ne_o0_o3 : o0 ≠ o3) (ne_o1_o2 : o1 ≠ o2) (ne_o1_o3 : o1 ≠ o3) (ne_o2_o3 : o2 ≠ o3) :
    Con l Z n0 [] (⟨"com/example/detra/detra/SetWords", "assign", "([JII)V"⟩ : MethodName) prog_21_method_5_code 4 none ({ frames := 2, cells := 0, slots := 0, locals := 31 } : Room) #[(.ref o0), (.ref o1), (.int 0), (.int 3)] h0 (Qau2896_4 Z n0 h0 o0 o1 i0 o2 o3 j0 j1 j2 vso2 j3 j4 j5) := by
  refine Con.of pf_13 (fun m => ef_au2896_4 m o0 o1) hn0 ?_
  intro p e s m below meth c C
  refine C.aloadN d4_0 rfl rfl rfl ?_
  refine C.getF d4_1 rfl (tw hw 32 rfl) P3 ?_
  refine C.if_eq_t d4_4 (by decide) rfl (by decide) ?_
  refine C.aloadN d4_21 rfl rfl rfl ?_
  refine C.iloadN d4_22 rfl rfl ?_
  refine C.aloadN d4_23 rfl rfl rfl ?_
  refine C.getF d4_24 rfl (tw hw 30 rfl) P4 ?_
  refine C.iconst 0 d4_27 rfl rfl ?_
  refine C.iloadN d4_28 rfl rfl ?_
  refine C.acopy 0 d4_29 rfl (tw hw 41 rfl) (tw hw 44 rfl) (tw hw 42 rfl) (tw hw 43 rfl) P5 P7 rfl (Nat.le_of_ble_eq_true rfl) (Nat.le_of_ble_eq_true rfl) (by decide) (by decide) (by decide) (Nat.le_of_ble_eq_true rfl) (Nat.le_of_ble_eq_true rfl) g_o3 rfl (by decide) (Nat.le_of_eq rfl) (by decide) (fun h2929 K2930 F2931 => ?_)
  have F2932 := P0.keep K2930
  have F2933 := P1.keep K2930 (ninS ne_o0_o3 nin0)
  have F2934 := P2.keep K2930 (ninS ne_o0_o3 nin0)
  have F2935 := P3.keep K2930 (ninS ne_o0_o3 nin0)
  have F2936 := P4.keep K2930 (ninS ne_o0_o3 nin0)
  have F2937 := P5.keep K2930 (ninS ne_o1_o3 nin0)
  have F2938 := P6.keep K2930 (ninS ne_o2_o3 nin0)
  have F2940 : Av Z h2929 o3 .long ([.long j0, .long j1, .long j2]) := F2931
  refine C.aloadN d4_32 rfl rfl rfl ?_
  refine C.getF d4_33 rfl (tw hw 30 rfl) F2936 ?_
  refine C.iloadN d4_36 rfl rfl ?_
  refine C.aloadN d4_37 rfl rfl rfl ?_
  refine C.getF d4_38 rfl (tw hw 30 rfl) F2936 ?_
  refine C.alen d4_41 rfl F2940 ?_
  refine Go.cI (y := 3) rfl ?_
  refine C.lconst 0 d4_42 rfl rfl ?_
  refine C.callS (argsL := [(.ref o3), (.int 3), (.int 3), (.long 0)]) (rest := []) 0 (fun zz => au2767_5 l Z a0 hw n0 h2929 zz o3 j0 j1 j2 F2940 g_o3) d4_43 rfl (tw hw 45 rfl) (tw hw 46 rfl) (tw hw 47 rfl) (tw hw 48 rfl) (by decide) pd_10 rfl rfl rfl (Nat.le_of_eq rfl) (by decide) (by decide) (by decide) (by decide) (fun v2941 h2942 r2943 => ?_)
  obtain ⟨rfl, rfl⟩ := r2943
  exact C.ret0 d4_46 (by decide) (by decide) ⟨rfl, ((Keep.refl h0 [o3]).trans K2930 (allS (Or.inl (List.mem_of_getElem? (i := 0) rfl)) all0)), F2940⟩
theorem pd_12 : parseMethodDescriptor "(II)Z" = some ⟨[.int, .int], some .boolean⟩ := by decide +kernel
def Qcon0 (Z : State) (n0 : Nat) (h0 : Heap) (x0 : Int64) (x1 : Int64) (x2 : Int64) (x3 : Int64) (x4 : Int64) (x5 : Int64) (v : Option Value) (h' : Heap) : Prop := v = some (.int 1) ∧ True
theorem ef_con0 (m : MethodId) (x0 : Int64) (x1 : Int64) (x2 : Int64) (x3 : Int64) (x4 : Int64) (x5 : Int64) : entryFrame m #[(.long x0), (.long x1), (.long x2), (.long x3), (.long x4), (.long x5)] maxLocals = mkF m 0 #[.val (.long x0), .second, .val (.long x1), .second, .val (.long x2), .second, .val (.long x3), .second, .val (.long x4), .second, .val (.long x5), .second, .unset, .unset, .unset, .unset, .unset, .unset, .unset, .unset, .unset, .unset] [] := by first | (simp [entryFrame, mkF, argsToLocals, Value.category, maxLocals]; done) | rfl
set_option maxRecDepth 65536 in
set_option maxHeartbeats 40000000 in
theorem con0 (l : Launch) (Z : State) (a0 : Array Value) (hw : ∀ d ∈ tables_1, d.before a0 Z = true) (n0 : Nat) (h0 : Heap) (hn0 : n0 ≤ h0.size) (x0 : Int64) (x1 : Int64) (x2 : Int64) (x3 : Int64) (x4 : Int64) (x5 : Int64) :
    Con l Z n0 tables_1 x code maxLocals ret room_1 #[(.long x0), (.long x1), (.long x2), (.long x3), (.long x4), (.long x5)] h0 (Qcon0 Z n0 h0 x0 x1 x2 x3 x4 x5) := by
  refine Con.of pf_10 (fun m => ef_con0 m x0 x1 x2 x3 x4 x5) hn0 ?_
  intro p e s m below meth c C
  refine C.new at_0 rfl (tw hw 0 rfl) (tw hw 1 rfl) (tw hw 2 rfl) (by decide) (by decide) (fun a1555 h1556 z1560 g1561 X1558 E1557 D1559 => ?_)
  have F1562 : Fld Z h1556 a1555 kC1 "starts" "[I" (.null) := D1559 (Or.inl (tw hw 11 rfl)) (ty := (.array .int)) (by decide)
  have F1563 : Fld Z h1556 a1555 kC1 "indices" "[I" (.null) := D1559 (Or.inl (tw hw 13 rfl)) (ty := (.array .int)) (by decide)
  have F1564 : Fld Z h1556 a1555 kC1 "words" "[J" (.null) := D1559 (Or.inl (tw hw 16 rfl)) (ty := (.array .long)) (by decide)
  have F1565 : Fld Z h1556 a1555 kC1 "sizes" "[I" (.null) := D1559 (Or.inl (tw hw 18 rfl)) (ty := (.array .int)) (by decide)
  have F1566 : Fld Z h1556 a1555 kC1 "hashes" "[I" (.null) := D1559 (Or.inl (tw hw 20 rfl)) (ty := (.array .int)) (by decide)
  have F1567 : Fld Z h1556 a1555 kC1 "table" "[I" (.null) := D1559 (Or.inl (tw hw 22 rfl)) (ty := (.array .int)) (by decide)
  have F1568 : Fld Z h1556 a1555 kC1 "size" "I" (.int 0) := D1559 (Or.inl (tw hw 88 rfl)) (ty := .int) (by decide)
  refine C.dup at_3 rfl rfl ?_
  refine C.callN (argsL := []) (rest := [(.ref a1555)]) 1 (fun zz => au1569_1 l Z a0 hw n0 h1556 zz a1555 E1557 F1566 F1563 F1568 F1565 F1562 F1567 F1564 g1561) at_4 rfl rfl (tw hw 3 rfl) (tw hw 4 rfl) (tw hw 2 rfl) (tw hw 5 rfl) (by decide) pd_4 rfl rfl rfl (Nat.le_of_eq rfl) (by decide) (by decide) (by decide) (by decide) (fun v2209 h2210 r2211 => ?_)
  obtain ⟨a2212, a2213, a2214, a2215, a2216, a2217, rfl, K2218, g2247, gz2248, g2249, gz2250, g2251, gz2252, g2253, gz2254, g2255, gz2256, g2257, gz2258, ne2219, ne2220, ne2221, ne2222, ne2223, ne2224, ne2225, ne2226, ne2227, ne2228, ne2229, ne2230, ne2231, ne2232, ne2233, F2234, F2235, F2236, F2237, F2238, F2239, F2240, F2241, F2242, F2243, F2244, F2245, F2246⟩ := r2211
  have ne2259 : a1555 ≠ a2212 := Nat.ne_of_lt (Nat.lt_of_lt_of_le E1557.lt gz2248)
  have ne2260 : a1555 ≠ a2213 := Nat.ne_of_lt (Nat.lt_of_lt_of_le E1557.lt gz2250)
  have ne2261 : a1555 ≠ a2214 := Nat.ne_of_lt (Nat.lt_of_lt_of_le E1557.lt gz2252)
  have ne2262 : a1555 ≠ a2215 := Nat.ne_of_lt (Nat.lt_of_lt_of_le E1557.lt gz2254)
  have ne2263 : a1555 ≠ a2216 := Nat.ne_of_lt (Nat.lt_of_lt_of_le E1557.lt gz2256)
  have ne2264 : a1555 ≠ a2217 := Nat.ne_of_lt (Nat.lt_of_lt_of_le E1557.lt gz2258)
  have F2265 := E1557.keep K2218
  refine C.astore (Ls' := #[.val (.long x0), .second, .val (.long x1), .second, .val (.long x2), .second, .val (.long x3), .second, .val (.long x4), .second, .val (.long x5), .second, rv a1555, .unset, .unset, .unset, .unset, .unset, .unset, .unset, .unset, .unset]) at_7 rfl rfl rfl ?_
  refine C.new at_9 rfl (tw hw 23 rfl) (tw hw 24 rfl) (tw hw 25 rfl) (by decide) (by decide) (fun a2273 h2274 z2278 g2279 X2276 E2275 D2277 => ?_)
  have ne2280 : a1555 ≠ a2273 := by rw [z2278]; exact Nat.ne_of_lt F2265.lt
  have ne2281 : a2212 ≠ a2273 := by rw [z2278]; exact Nat.ne_of_lt F2241.lt
  have ne2282 : a2213 ≠ a2273 := by rw [z2278]; exact Nat.ne_of_lt F2242.lt
  have ne2283 : a2214 ≠ a2273 := by rw [z2278]; exact Nat.ne_of_lt F2243.lt
  have ne2284 : a2215 ≠ a2273 := by rw [z2278]; exact Nat.ne_of_lt F2244.lt
  have ne2285 : a2216 ≠ a2273 := by rw [z2278]; exact Nat.ne_of_lt F2245.lt
  have ne2286 : a2217 ≠ a2273 := by rw [z2278]; exact Nat.ne_of_lt F2246.lt
  have F2287 := Exa.ext X2276 F2265
  have F2288 := Fld.ext X2276 F2234
  have F2289 := Fld.ext X2276 F2235
  have F2290 := Fld.ext X2276 F2236
  have F2291 := Fld.ext X2276 F2237
  have F2292 := Fld.ext X2276 F2238
  have F2293 := Fld.ext X2276 F2239
  have F2294 := Fld.ext X2276 F2240
  have F2295 := F2241.ext X2276
  have F2296 := F2242.ext X2276
  have F2297 := F2243.ext X2276
  have F2298 := F2244.ext X2276
  have F2299 := F2245.ext X2276
  have F2300 := F2246.ext X2276
  have F2301 : Fld Z h2274 a2273 kC0 "words" "[J" (.null) := D2277 (Or.inr (tw hw 31 rfl)) (ty := (.array .long)) (by decide)
  have F2302 : Fld Z h2274 a2273 kC0 "listing" "Z" (.int 0) := D2277 (Or.inr (tw hw 33 rfl)) (ty := .boolean) (by decide)
  have F2303 : Fld Z h2274 a2273 kC0 "held" "[I" (.null) := D2277 (Or.inr (tw hw 35 rfl)) (ty := (.array .int)) (by decide)
  have F2304 : Fld Z h2274 a2273 kC0 "count" "I" (.int 0) := D2277 (Or.inl (tw hw 63 rfl)) (ty := .int) (by decide)
  refine C.dup at_12 rfl rfl ?_
  refine C.sipush 192 at_13 rfl rfl ?_
  refine C.callN (argsL := [(.int 192)]) (rest := [(.ref a2273)]) 1 (fun zz => au2305_3 l Z a0 hw n0 h2274 zz a2273 E2275 F2304 F2303 F2302 F2301 g2279) at_16 rfl rfl (tw hw 26 rfl) (tw hw 27 rfl) (tw hw 25 rfl) (tw hw 28 rfl) (by decide) pd_8 rfl rfl rfl (Nat.le_of_eq rfl) (by decide) (by decide) (by decide) (by decide) (fun v2471 h2472 r2473 => ?_)
  obtain ⟨a2474, a2475, rfl, K2476, g2484, gz2485, g2486, gz2487, ne2477, F2478, F2479, F2480, F2481, F2482, F2483⟩ := r2473
  have ne2488 : a1555 ≠ a2474 := Nat.ne_of_lt (Nat.lt_of_lt_of_le F2287.lt gz2485)
  have ne2489 : a2212 ≠ a2474 := Nat.ne_of_lt (Nat.lt_of_lt_of_le F2295.lt gz2485)
  have ne2490 : a2213 ≠ a2474 := Nat.ne_of_lt (Nat.lt_of_lt_of_le F2296.lt gz2485)
  have ne2491 : a2214 ≠ a2474 := Nat.ne_of_lt (Nat.lt_of_lt_of_le F2297.lt gz2485)
  have ne2492 : a2215 ≠ a2474 := Nat.ne_of_lt (Nat.lt_of_lt_of_le F2298.lt gz2485)
  have ne2493 : a2216 ≠ a2474 := Nat.ne_of_lt (Nat.lt_of_lt_of_le F2299.lt gz2485)
  have ne2494 : a2217 ≠ a2474 := Nat.ne_of_lt (Nat.lt_of_lt_of_le F2300.lt gz2485)
  have ne2495 : a2273 ≠ a2474 := Nat.ne_of_lt (Nat.lt_of_lt_of_le E2275.lt gz2485)
  have ne2496 : a1555 ≠ a2475 := Nat.ne_of_lt (Nat.lt_of_lt_of_le F2287.lt gz2487)
  have ne2497 : a2212 ≠ a2475 := Nat.ne_of_lt (Nat.lt_of_lt_of_le F2295.lt gz2487)
  have ne2498 : a2213 ≠ a2475 := Nat.ne_of_lt (Nat.lt_of_lt_of_le F2296.lt gz2487)
  have ne2499 : a2214 ≠ a2475 := Nat.ne_of_lt (Nat.lt_of_lt_of_le F2297.lt gz2487)
  have ne2500 : a2215 ≠ a2475 := Nat.ne_of_lt (Nat.lt_of_lt_of_le F2298.lt gz2487)
  have ne2501 : a2216 ≠ a2475 := Nat.ne_of_lt (Nat.lt_of_lt_of_le F2299.lt gz2487)
  have ne2502 : a2217 ≠ a2475 := Nat.ne_of_lt (Nat.lt_of_lt_of_le F2300.lt gz2487)
  have ne2503 : a2273 ≠ a2475 := Nat.ne_of_lt (Nat.lt_of_lt_of_le E2275.lt gz2487)
  have F2504 := F2287.keep K2476
  have F2505 := F2288.keep K2476 (ninS ne2280 nin0)
  have F2506 := F2289.keep K2476 (ninS ne2280 nin0)
  have F2507 := F2290.keep K2476 (ninS ne2280 nin0)
  have F2508 := F2291.keep K2476 (ninS ne2280 nin0)
  have F2509 := F2292.keep K2476 (ninS ne2280 nin0)
  have F2510 := F2293.keep K2476 (ninS ne2280 nin0)
  have F2511 := F2294.keep K2476 (ninS ne2280 nin0)
  have F2512 := F2295.keep K2476 (ninS ne2281 nin0)
  have F2513 := F2296.keep K2476 (ninS ne2282 nin0)
  have F2514 := F2297.keep K2476 (ninS ne2283 nin0)
  have F2515 := F2298.keep K2476 (ninS ne2284 nin0)
  have F2516 := F2299.keep K2476 (ninS ne2285 nin0)
  have F2517 := F2300.keep K2476 (ninS ne2286 nin0)
  have F2518 := E2275.keep K2476
  refine C.astore (Ls' := #[.val (.long x0), .second, .val (.long x1), .second, .val (.long x2), .second, .val (.long x3), .second, .val (.long x4), .second, .val (.long x5), .second, rv a1555, rv a2273, .unset, .unset, .unset, .unset, .unset, .unset, .unset, .unset]) at_19 rfl rfl rfl ?_
  refine C.iconst 3 at_21 rfl rfl ?_
  refine C.newarr 3 at_22 rfl rfl (tw hw 14 rfl) (by decide) (by decide) (by decide) (by decide) (by decide) (fun a2523 h2524 z2527 g2528 X2525 F2526 => ?_)
  have ne2529 : a1555 ≠ a2523 := by rw [z2527]; exact Nat.ne_of_lt F2504.lt
  have ne2530 : a2212 ≠ a2523 := by rw [z2527]; exact Nat.ne_of_lt F2512.lt
  have ne2531 : a2213 ≠ a2523 := by rw [z2527]; exact Nat.ne_of_lt F2513.lt
  have ne2532 : a2214 ≠ a2523 := by rw [z2527]; exact Nat.ne_of_lt F2514.lt
  have ne2533 : a2215 ≠ a2523 := by rw [z2527]; exact Nat.ne_of_lt F2515.lt
  have ne2534 : a2216 ≠ a2523 := by rw [z2527]; exact Nat.ne_of_lt F2516.lt
  have ne2535 : a2217 ≠ a2523 := by rw [z2527]; exact Nat.ne_of_lt F2517.lt
  have ne2536 : a2273 ≠ a2523 := by rw [z2527]; exact Nat.ne_of_lt F2518.lt
  have ne2537 : a2474 ≠ a2523 := by rw [z2527]; exact Nat.ne_of_lt F2482.lt
  have ne2538 : a2475 ≠ a2523 := by rw [z2527]; exact Nat.ne_of_lt F2483.lt
  have F2539 := Exa.ext X2525 F2504
  have F2540 := Fld.ext X2525 F2505
  have F2541 := Fld.ext X2525 F2506
  have F2542 := Fld.ext X2525 F2507
  have F2543 := Fld.ext X2525 F2508
  have F2544 := Fld.ext X2525 F2509
  have F2545 := Fld.ext X2525 F2510
  have F2546 := Fld.ext X2525 F2511
  have F2547 := F2512.ext X2525
  have F2548 := F2513.ext X2525
  have F2549 := F2514.ext X2525
  have F2550 := F2515.ext X2525
  have F2551 := F2516.ext X2525
  have F2552 := F2517.ext X2525
  have F2553 := Exa.ext X2525 F2518
  have F2554 := Fld.ext X2525 F2478
  have F2555 := Fld.ext X2525 F2479
  have F2556 := Fld.ext X2525 F2480
  have F2557 := Fld.ext X2525 F2481
  have F2558 := F2482.ext X2525
  have F2559 := F2483.ext X2525
  have F2560 : Av Z h2524 a2523 .long ([.long 0, .long 0, .long 0]) := F2526
  refine C.dup at_24 rfl rfl ?_
  refine C.iconst 0 at_25 rfl rfl ?_
  refine C.lloadN at_26 rfl rfl ?_
  refine C.lastore at_27 rfl F2560 g2528 (by decide) (Nat.le_of_ble_eq_true rfl) (fun h2561 W2562 F2563 => ?_)
  have F2564 := Exa.wr W2562 F2539
  have F2565 := Fld.other W2562 F2540 (Or.inl ne2529)
  have F2566 := Fld.other W2562 F2541 (Or.inl ne2529)
  have F2567 := Fld.other W2562 F2542 (Or.inl ne2529)
  have F2568 := Fld.other W2562 F2543 (Or.inl ne2529)
  have F2569 := Fld.other W2562 F2544 (Or.inl ne2529)
  have F2570 := Fld.other W2562 F2545 (Or.inl ne2529)
  have F2571 := Fld.other W2562 F2546 (Or.inl ne2529)
  have F2572 := F2547.other W2562 ne2530
  have F2573 := F2548.other W2562 ne2531
  have F2574 := F2549.other W2562 ne2532
  have F2575 := F2550.other W2562 ne2533
  have F2576 := F2551.other W2562 ne2534
  have F2577 := F2552.other W2562 ne2535
  have F2578 := Exa.wr W2562 F2553
  have F2579 := Fld.other W2562 F2554 (Or.inl ne2536)
  have F2580 := Fld.other W2562 F2555 (Or.inl ne2536)
  have F2581 := Fld.other W2562 F2556 (Or.inl ne2536)
  have F2582 := Fld.other W2562 F2557 (Or.inl ne2536)
  have F2583 := F2558.other W2562 ne2537
  have F2584 := F2559.other W2562 ne2538
  have F2585 : Av Z h2561 a2523 .long ([.long x0, .long 0, .long 0]) := F2563
  refine C.dup at_28 rfl rfl ?_
  refine C.iconst 1 at_29 rfl rfl ?_
  refine C.lloadN at_30 rfl rfl ?_
  refine C.lastore at_31 rfl F2585 g2528 (by decide) (Nat.le_of_ble_eq_true rfl) (fun h2586 W2587 F2588 => ?_)
  have F2589 := Exa.wr W2587 F2564
  have F2590 := Fld.other W2587 F2565 (Or.inl ne2529)
  have F2591 := Fld.other W2587 F2566 (Or.inl ne2529)
  have F2592 := Fld.other W2587 F2567 (Or.inl ne2529)
  have F2593 := Fld.other W2587 F2568 (Or.inl ne2529)
  have F2594 := Fld.other W2587 F2569 (Or.inl ne2529)
  have F2595 := Fld.other W2587 F2570 (Or.inl ne2529)
  have F2596 := Fld.other W2587 F2571 (Or.inl ne2529)
  have F2597 := F2572.other W2587 ne2530
  have F2598 := F2573.other W2587 ne2531
  have F2599 := F2574.other W2587 ne2532
  have F2600 := F2575.other W2587 ne2533
  have F2601 := F2576.other W2587 ne2534
  have F2602 := F2577.other W2587 ne2535
  have F2603 := Exa.wr W2587 F2578
  have F2604 := Fld.other W2587 F2579 (Or.inl ne2536)
  have F2605 := Fld.other W2587 F2580 (Or.inl ne2536)
  have F2606 := Fld.other W2587 F2581 (Or.inl ne2536)
  have F2607 := Fld.other W2587 F2582 (Or.inl ne2536)
  have F2608 := F2583.other W2587 ne2537
  have F2609 := F2584.other W2587 ne2538
  have F2610 : Av Z h2586 a2523 .long ([.long x0, .long x1, .long 0]) := F2588
  refine C.dup at_32 rfl rfl ?_
  refine C.iconst 2 at_33 rfl rfl ?_
  refine C.lload at_34 rfl rfl ?_
  refine C.lastore at_36 rfl F2610 g2528 (by decide) (Nat.le_of_ble_eq_true rfl) (fun h2611 W2612 F2613 => ?_)
  have F2614 := Exa.wr W2612 F2589
  have F2615 := Fld.other W2612 F2590 (Or.inl ne2529)
  have F2616 := Fld.other W2612 F2591 (Or.inl ne2529)
  have F2617 := Fld.other W2612 F2592 (Or.inl ne2529)
  have F2618 := Fld.other W2612 F2593 (Or.inl ne2529)
  have F2619 := Fld.other W2612 F2594 (Or.inl ne2529)
  have F2620 := Fld.other W2612 F2595 (Or.inl ne2529)
  have F2621 := Fld.other W2612 F2596 (Or.inl ne2529)
  have F2622 := F2597.other W2612 ne2530
  have F2623 := F2598.other W2612 ne2531
  have F2624 := F2599.other W2612 ne2532
  have F2625 := F2600.other W2612 ne2533
  have F2626 := F2601.other W2612 ne2534
  have F2627 := F2602.other W2612 ne2535
  have F2628 := Exa.wr W2612 F2603
  have F2629 := Fld.other W2612 F2604 (Or.inl ne2536)
  have F2630 := Fld.other W2612 F2605 (Or.inl ne2536)
  have F2631 := Fld.other W2612 F2606 (Or.inl ne2536)
  have F2632 := Fld.other W2612 F2607 (Or.inl ne2536)
  have F2633 := F2608.other W2612 ne2537
  have F2634 := F2609.other W2612 ne2538
  have F2635 : Av Z h2611 a2523 .long ([.long x0, .long x1, .long x2]) := F2613
  refine C.astore (Ls' := #[.val (.long x0), .second, .val (.long x1), .second, .val (.long x2), .second, .val (.long x3), .second, .val (.long x4), .second, .val (.long x5), .second, rv a1555, rv a2273, rv a2523, .unset, .unset, .unset, .unset, .unset, .unset, .unset]) at_37 rfl rfl rfl ?_
  refine C.iconst 3 at_39 rfl rfl ?_
  refine C.newarr 3 at_40 rfl rfl (tw hw 14 rfl) (by decide) (by decide) (by decide) (by decide) (by decide) (fun a2636 h2637 z2640 g2641 X2638 F2639 => ?_)
  have ne2642 : a1555 ≠ a2636 := by rw [z2640]; exact Nat.ne_of_lt F2614.lt
  have ne2643 : a2212 ≠ a2636 := by rw [z2640]; exact Nat.ne_of_lt F2622.lt
  have ne2644 : a2213 ≠ a2636 := by rw [z2640]; exact Nat.ne_of_lt F2623.lt
  have ne2645 : a2214 ≠ a2636 := by rw [z2640]; exact Nat.ne_of_lt F2624.lt
  have ne2646 : a2215 ≠ a2636 := by rw [z2640]; exact Nat.ne_of_lt F2625.lt
  have ne2647 : a2216 ≠ a2636 := by rw [z2640]; exact Nat.ne_of_lt F2626.lt
  have ne2648 : a2217 ≠ a2636 := by rw [z2640]; exact Nat.ne_of_lt F2627.lt
  have ne2649 : a2273 ≠ a2636 := by rw [z2640]; exact Nat.ne_of_lt F2628.lt
  have ne2650 : a2474 ≠ a2636 := by rw [z2640]; exact Nat.ne_of_lt F2633.lt
  have ne2651 : a2475 ≠ a2636 := by rw [z2640]; exact Nat.ne_of_lt F2634.lt
  have ne2652 : a2523 ≠ a2636 := by rw [z2640]; exact Nat.ne_of_lt F2635.lt
  have F2653 := Exa.ext X2638 F2614
  have F2654 := Fld.ext X2638 F2615
  have F2655 := Fld.ext X2638 F2616
  have F2656 := Fld.ext X2638 F2617
  have F2657 := Fld.ext X2638 F2618
  have F2658 := Fld.ext X2638 F2619
  have F2659 := Fld.ext X2638 F2620
  have F2660 := Fld.ext X2638 F2621
  have F2661 := F2622.ext X2638
  have F2662 := F2623.ext X2638
  have F2663 := F2624.ext X2638
  have F2664 := F2625.ext X2638
  have F2665 := F2626.ext X2638
  have F2666 := F2627.ext X2638
  have F2667 := Exa.ext X2638 F2628
  have F2668 := Fld.ext X2638 F2629
  have F2669 := Fld.ext X2638 F2630
  have F2670 := Fld.ext X2638 F2631
  have F2671 := Fld.ext X2638 F2632
  have F2672 := F2633.ext X2638
  have F2673 := F2634.ext X2638
  have F2674 := F2635.ext X2638
  have F2675 : Av Z h2637 a2636 .long ([.long 0, .long 0, .long 0]) := F2639
  refine C.dup at_42 rfl rfl ?_
  refine C.iconst 0 at_43 rfl rfl ?_
  refine C.lload at_44 rfl rfl ?_
  refine C.lastore at_46 rfl F2675 g2641 (by decide) (Nat.le_of_ble_eq_true rfl) (fun h2676 W2677 F2678 => ?_)
  have F2679 := Exa.wr W2677 F2653
  have F2680 := Fld.other W2677 F2654 (Or.inl ne2642)
  have F2681 := Fld.other W2677 F2655 (Or.inl ne2642)
  have F2682 := Fld.other W2677 F2656 (Or.inl ne2642)
  have F2683 := Fld.other W2677 F2657 (Or.inl ne2642)
  have F2684 := Fld.other W2677 F2658 (Or.inl ne2642)
  have F2685 := Fld.other W2677 F2659 (Or.inl ne2642)
  have F2686 := Fld.other W2677 F2660 (Or.inl ne2642)
  have F2687 := F2661.other W2677 ne2643
  have F2688 := F2662.other W2677 ne2644
  have F2689 := F2663.other W2677 ne2645
  have F2690 := F2664.other W2677 ne2646
  have F2691 := F2665.other W2677 ne2647
  have F2692 := F2666.other W2677 ne2648
  have F2693 := Exa.wr W2677 F2667
  have F2694 := Fld.other W2677 F2668 (Or.inl ne2649)
  have F2695 := Fld.other W2677 F2669 (Or.inl ne2649)
  have F2696 := Fld.other W2677 F2670 (Or.inl ne2649)
  have F2697 := Fld.other W2677 F2671 (Or.inl ne2649)
  have F2698 := F2672.other W2677 ne2650
  have F2699 := F2673.other W2677 ne2651
  have F2700 := F2674.other W2677 ne2652
  have F2701 : Av Z h2676 a2636 .long ([.long x3, .long 0, .long 0]) := F2678
  refine C.dup at_47 rfl rfl ?_
  refine C.iconst 1 at_48 rfl rfl ?_
  refine C.lload at_49 rfl rfl ?_
  refine C.lastore at_51 rfl F2701 g2641 (by decide) (Nat.le_of_ble_eq_true rfl) (fun h2702 W2703 F2704 => ?_)
  have F2705 := Exa.wr W2703 F2679
  have F2706 := Fld.other W2703 F2680 (Or.inl ne2642)
  have F2707 := Fld.other W2703 F2681 (Or.inl ne2642)
  have F2708 := Fld.other W2703 F2682 (Or.inl ne2642)
  have F2709 := Fld.other W2703 F2683 (Or.inl ne2642)
  have F2710 := Fld.other W2703 F2684 (Or.inl ne2642)
  have F2711 := Fld.other W2703 F2685 (Or.inl ne2642)
  have F2712 := Fld.other W2703 F2686 (Or.inl ne2642)
  have F2713 := F2687.other W2703 ne2643
  have F2714 := F2688.other W2703 ne2644
  have F2715 := F2689.other W2703 ne2645
  have F2716 := F2690.other W2703 ne2646
  have F2717 := F2691.other W2703 ne2647
  have F2718 := F2692.other W2703 ne2648
  have F2719 := Exa.wr W2703 F2693
  have F2720 := Fld.other W2703 F2694 (Or.inl ne2649)
  have F2721 := Fld.other W2703 F2695 (Or.inl ne2649)
  have F2722 := Fld.other W2703 F2696 (Or.inl ne2649)
  have F2723 := Fld.other W2703 F2697 (Or.inl ne2649)
  have F2724 := F2698.other W2703 ne2650
  have F2725 := F2699.other W2703 ne2651
  have F2726 := F2700.other W2703 ne2652
  have F2727 : Av Z h2702 a2636 .long ([.long x3, .long x4, .long 0]) := F2704
  refine C.dup at_52 rfl rfl ?_
  refine C.iconst 2 at_53 rfl rfl ?_
  refine C.lload at_54 rfl rfl ?_
  refine C.lastore at_56 rfl F2727 g2641 (by decide) (Nat.le_of_ble_eq_true rfl) (fun h2728 W2729 F2730 => ?_)
  have F2731 := Exa.wr W2729 F2705
  have F2732 := Fld.other W2729 F2706 (Or.inl ne2642)
  have F2733 := Fld.other W2729 F2707 (Or.inl ne2642)
  have F2734 := Fld.other W2729 F2708 (Or.inl ne2642)
  have F2735 := Fld.other W2729 F2709 (Or.inl ne2642)
  have F2736 := Fld.other W2729 F2710 (Or.inl ne2642)
  have F2737 := Fld.other W2729 F2711 (Or.inl ne2642)
  have F2738 := Fld.other W2729 F2712 (Or.inl ne2642)
  have F2739 := F2713.other W2729 ne2643
  have F2740 := F2714.other W2729 ne2644
  have F2741 := F2715.other W2729 ne2645
  have F2742 := F2716.other W2729 ne2646
  have F2743 := F2717.other W2729 ne2647
  have F2744 := F2718.other W2729 ne2648
  have F2745 := Exa.wr W2729 F2719
  have F2746 := Fld.other W2729 F2720 (Or.inl ne2649)
  have F2747 := Fld.other W2729 F2721 (Or.inl ne2649)
  have F2748 := Fld.other W2729 F2722 (Or.inl ne2649)
  have F2749 := Fld.other W2729 F2723 (Or.inl ne2649)
  have F2750 := F2724.other W2729 ne2650
  have F2751 := F2725.other W2729 ne2651
  have F2752 := F2726.other W2729 ne2652
  have F2753 : Av Z h2728 a2636 .long ([.long x3, .long x4, .long x5]) := F2730
  refine C.astore (Ls' := #[.val (.long x0), .second, .val (.long x1), .second, .val (.long x2), .second, .val (.long x3), .second, .val (.long x4), .second, .val (.long x5), .second, rv a1555, rv a2273, rv a2523, rv a2636, .unset, .unset, .unset, .unset, .unset, .unset]) at_57 rfl rfl rfl ?_
  refine C.aload at_59 rfl rfl rfl ?_
  refine C.aload at_61 rfl rfl rfl ?_
  refine C.iconst 0 at_63 rfl rfl ?_
  refine C.iconst 3 at_64 rfl rfl ?_
  refine C.callV (argsL := [(.ref a2523), (.int 0), (.int 3)]) (rest := []) 0 (fun zz => au2754_4 l Z a0 hw n0 h2728 zz a2273 a2523 a2474 a2475 x0 x1 x2 F2745 F2746 F2747 F2748 F2749 F2752 F2750 F2751 g2279 g2528 g2484 g2486 ne2536 ne2495 ne2503 (Ne.symm ne2537) (Ne.symm ne2538) ne2477) F2745 at_65 rfl (tw hw 36 rfl) (tw hw 37 rfl) (tw hw 38 rfl) (tw hw 39 rfl) (tw hw 25 rfl) (tw hw 40 rfl) (by decide) pd_11 rfl rfl rfl (Nat.le_of_eq rfl) (by decide) (by decide) (by decide) (by decide) (fun v2817 h2818 r2819 => ?_)
  obtain ⟨rfl, K2820, F2821⟩ := r2819
  have F2822 := F2731.keep K2820
  have F2823 := F2732.keep K2820 (ninS ne2496 nin0)
  have F2824 := F2733.keep K2820 (ninS ne2496 nin0)
  have F2825 := F2734.keep K2820 (ninS ne2496 nin0)
  have F2826 := F2735.keep K2820 (ninS ne2496 nin0)
  have F2827 := F2736.keep K2820 (ninS ne2496 nin0)
  have F2828 := F2737.keep K2820 (ninS ne2496 nin0)
  have F2829 := F2738.keep K2820 (ninS ne2496 nin0)
  have F2830 := F2739.keep K2820 (ninS ne2497 nin0)
  have F2831 := F2740.keep K2820 (ninS ne2498 nin0)
  have F2832 := F2741.keep K2820 (ninS ne2499 nin0)
  have F2833 := F2742.keep K2820 (ninS ne2500 nin0)
  have F2834 := F2743.keep K2820 (ninS ne2501 nin0)
  have F2835 := F2744.keep K2820 (ninS ne2502 nin0)
  have F2836 := F2745.keep K2820
  have F2837 := F2746.keep K2820 (ninS ne2503 nin0)
  have F2838 := F2747.keep K2820 (ninS ne2503 nin0)
  have F2839 := F2748.keep K2820 (ninS ne2503 nin0)
  have F2840 := F2749.keep K2820 (ninS ne2503 nin0)
  have F2841 := F2750.keep K2820 (ninS ne2477 nin0)
  have F2843 := F2752.keep K2820 (ninS (Ne.symm ne2538) nin0)
  have F2844 := F2753.keep K2820 (ninS (Ne.symm ne2651) nin0)
  refine C.aload at_68 rfl rfl rfl ?_
  refine C.aload at_70 rfl rfl rfl ?_
  refine C.callV (argsL := [(.ref a2273)]) (rest := []) 0 (fun zz => con_num0 l Z a0 hw n0 h2818 zz a1555 a2215 a2213 a2217 a2214 a2212 a2216 a2273 a2475 a2474 x0 x1 x2 0 ([.int 0, .int 0, .int 0]) F2822 F2827 F2824 F2829 F2826 F2823 F2828 F2825 F2833 F2831 F2835 F2832 F2830 F2834 F2836 F2840 F2838 F2839 F2837 F2821 F2841 g1561 g2253 g2249 g2257 g2251 g2247 g2255 g2279 g2484 ne2262 ne2260 ne2264 ne2261 ne2259 ne2263 ne2280 ne2496 ne2488 (Ne.symm ne2225) ne2232 (Ne.symm ne2228) (Ne.symm ne2221) ne2231 ne2284 ne2500 ne2492 ne2227 ne2224 (Ne.symm ne2219) ne2226 ne2282 ne2498 ne2490 (Ne.symm ne2230) (Ne.symm ne2223) (Ne.symm ne2233) ne2286 ne2502 ne2494 (Ne.symm ne2220) ne2229 ne2283 ne2499 ne2491 ne2222 ne2281 ne2497 ne2489 ne2285 ne2501 ne2493 ne2503 ne2495 (Ne.symm ne2477) rfl) F2822 at_72 rfl (tw hw 52 rfl) (tw hw 53 rfl) (tw hw 54 rfl) (tw hw 55 rfl) (tw hw 2 rfl) (tw hw 56 rfl) (by decide) pd_5 rfl rfl rfl (Nat.le_of_eq rfl) (by decide) (by decide) (by decide) (by decide) (fun v2845 h2846 r2847 => ?_)
  obtain ⟨y2848, y2849, y2850, y2851, rfl, K2852, F2853, F2854, F2855, F2856, F2857, F2858, F2859, F2860, F2861, F2862, F2863, F2864, F2865, F2866, F2867, F2868, F2869, F2870, u2871, u2872⟩ := r2847
  have F2873 := F2822.keep K2852
  have F2887 := F2836.keep K2852
  have F2893 := F2843.keep K2852 (ninS (Ne.symm ne2529) (ninS (Ne.symm ne2533) (ninS (Ne.symm ne2531) (ninS (Ne.symm ne2535) (ninS (Ne.symm ne2532) (ninS (Ne.symm ne2530) (ninS (Ne.symm ne2534) (ninS (Ne.symm ne2536) (ninS (Ne.symm ne2537) nin0)))))))))
  have F2894 := F2844.keep K2852 (ninS (Ne.symm ne2642) (ninS (Ne.symm ne2646) (ninS (Ne.symm ne2644) (ninS (Ne.symm ne2648) (ninS (Ne.symm ne2645) (ninS (Ne.symm ne2643) (ninS (Ne.symm ne2647) (ninS (Ne.symm ne2649) (ninS (Ne.symm ne2650) nin0)))))))))
  have F2895 := F2821.keep K2852 (ninS (Ne.symm ne2496) (ninS (Ne.symm ne2500) (ninS (Ne.symm ne2498) (ninS (Ne.symm ne2502) (ninS (Ne.symm ne2499) (ninS (Ne.symm ne2497) (ninS (Ne.symm ne2501) (ninS (Ne.symm ne2503) (ninS (Ne.symm ne2477) nin0)))))))))
  refine C.istore (Ls' := #[.val (.long x0), .second, .val (.long x1), .second, .val (.long x2), .second, .val (.long x3), .second, .val (.long x4), .second, .val (.long x5), .second, rv a1555, rv a2273, rv a2523, rv a2636, iv 0, .unset, .unset, .unset, .unset, .unset]) at_75 rfl rfl ?_
  refine C.aload at_77 rfl rfl rfl ?_
  refine C.aload at_79 rfl rfl rfl ?_
  refine C.iconst 0 at_81 rfl rfl ?_
  refine C.iconst 3 at_82 rfl rfl ?_
  refine C.callV (argsL := [(.ref a2636), (.int 0), (.int 3)]) (rest := []) 0 (fun zz => au2896_4 l Z a0 hw n0 h2846 zz a2273 a2636 y2849 a2474 a2475 x3 x4 x5 y2848 x0 x1 x2 F2887 F2869 F2867 F2868 F2866 F2894 F2870 F2895 g2279 g2641 g2484 g2486 ne2649 ne2495 ne2503 (Ne.symm ne2650) (Ne.symm ne2651) ne2477) F2887 at_83 rfl (tw hw 36 rfl) (tw hw 37 rfl) (tw hw 38 rfl) (tw hw 39 rfl) (tw hw 25 rfl) (tw hw 40 rfl) (by decide) pd_11 rfl rfl rfl (Nat.le_of_eq rfl) (by decide) (by decide) (by decide) (by decide) (fun v2945 h2946 r2947 => ?_)
  obtain ⟨rfl, K2948, F2949⟩ := r2947
  have F2950 := F2873.keep K2948
  have F2951 := F2887.keep K2948
  have F2952 := F2893.keep K2948 (ninS (Ne.symm ne2538) nin0)
  have F2953 := F2894.keep K2948 (ninS (Ne.symm ne2651) nin0)
  have F2955 := F2853.keep K2948 (ninS ne2496 nin0)
  have F2956 := F2854.keep K2948 (ninS ne2496 nin0)
  have F2957 := F2855.keep K2948 (ninS ne2496 nin0)
  have F2958 := F2856.keep K2948 (ninS ne2496 nin0)
  have F2959 := F2857.keep K2948 (ninS ne2496 nin0)
  have F2960 := F2858.keep K2948 (ninS ne2496 nin0)
  have F2961 := F2859.keep K2948 (ninS ne2496 nin0)
  have F2962 := F2860.keep K2948 (ninS ne2500 nin0)
  have F2963 := F2861.keep K2948 (ninS ne2498 nin0)
  have F2964 := F2862.keep K2948 (ninS ne2502 nin0)
  have F2965 := F2863.keep K2948 (ninS ne2499 nin0)
  have F2966 := F2864.keep K2948 (ninS ne2497 nin0)
  have F2967 := F2865.keep K2948 (ninS ne2501 nin0)
  have F2968 := F2866.keep K2948 (ninS ne2503 nin0)
  have F2969 := F2867.keep K2948 (ninS ne2503 nin0)
  have F2970 := F2868.keep K2948 (ninS ne2503 nin0)
  have F2971 := F2869.keep K2948 (ninS ne2503 nin0)
  have F2972 := F2870.keep K2948 (ninS ne2477 nin0)
  refine C.aload at_86 rfl rfl rfl ?_
  refine C.aload at_88 rfl rfl rfl ?_
  refine C.callV (argsL := [(.ref a2273)]) (rest := []) 0 (fun zz => con_num1 l Z a0 hw n0 h2946 zz a1555 a2215 a2213 a2217 a2214 a2212 a2216 a2273 a2475 a2474 x3 x4 x5 y2849 y2848 (own_c3 x0 x1 x2) y2850 y2851 F2950 F2955 F2956 F2957 F2958 F2959 F2960 F2961 F2962 F2963 F2964 F2965 F2966 F2967 F2951 F2968 F2969 F2970 F2971 F2949 F2972 g1561 g2253 g2249 g2257 g2251 g2247 g2255 g2279 g2484 ne2262 ne2260 ne2264 ne2261 ne2259 ne2263 ne2280 ne2496 ne2488 (Ne.symm ne2225) ne2232 (Ne.symm ne2228) (Ne.symm ne2221) ne2231 ne2284 ne2500 ne2492 ne2227 ne2224 (Ne.symm ne2219) ne2226 ne2282 ne2498 ne2490 (Ne.symm ne2230) (Ne.symm ne2223) (Ne.symm ne2233) ne2286 ne2502 ne2494 (Ne.symm ne2220) ne2229 ne2283 ne2499 ne2491 ne2222 ne2281 ne2497 ne2489 ne2285 ne2501 ne2493 ne2503 ne2495 (Ne.symm ne2477) u2871 (own_c3len x0 x1 x2) u2872) F2950 at_90 rfl (tw hw 52 rfl) (tw hw 53 rfl) (tw hw 54 rfl) (tw hw 55 rfl) (tw hw 2 rfl) (tw hw 56 rfl) (by decide) pd_5 rfl rfl rfl (Nat.le_of_eq rfl) (by decide) (by decide) (by decide) (by decide) (fun v2973 h2974 r2975 => ?_)
  obtain ⟨y2976, y2977, y2978, y2979, y2980, y2981, y2982, rfl, K2983, F2984, F2985, F2986, F2987, F2988, F2989, F2990, F2991, F2992, F2993, F2994, F2995, F2996, F2997, F2998, u2999, u3000, u3001, u3002⟩ := r2975
  have F3003 := F2950.keep K2983
  have F3004 := F2951.keep K2983
  have F3005 := F2952.keep K2983 (ninS (Ne.symm ne2529) (ninS (Ne.symm ne2533) (ninS (Ne.symm ne2531) (ninS (Ne.symm ne2535) (ninS (Ne.symm ne2532) (ninS (Ne.symm ne2530) (ninS (Ne.symm ne2534) (ninS (Ne.symm ne2536) (ninS (Ne.symm ne2537) nin0)))))))))
  have F3006 := F2953.keep K2983 (ninS (Ne.symm ne2642) (ninS (Ne.symm ne2646) (ninS (Ne.symm ne2644) (ninS (Ne.symm ne2648) (ninS (Ne.symm ne2645) (ninS (Ne.symm ne2643) (ninS (Ne.symm ne2647) (ninS (Ne.symm ne2649) (ninS (Ne.symm ne2650) nin0)))))))))
  have F3025 := F2949.keep K2983 (ninS (Ne.symm ne2496) (ninS (Ne.symm ne2500) (ninS (Ne.symm ne2498) (ninS (Ne.symm ne2502) (ninS (Ne.symm ne2499) (ninS (Ne.symm ne2497) (ninS (Ne.symm ne2501) (ninS (Ne.symm ne2503) (ninS (Ne.symm ne2477) nin0)))))))))
  refine C.istore (Ls' := #[.val (.long x0), .second, .val (.long x1), .second, .val (.long x2), .second, .val (.long x3), .second, .val (.long x4), .second, .val (.long x5), .second, rv a1555, rv a2273, rv a2523, rv a2636, iv 0, iv y2978, .unset, .unset, .unset, .unset]) at_93 rfl rfl ?_
  have J140_3026 : ∀ (b18 : Int32) (hb18 : b18 = own_ss x0 x1 x2 x3 x4 x5), Go p l e room_1 s m #[(.long x0), (.long x1), (.long x2), (.long x3), (.long x4), (.long x5)] below meth c n0 (FinQ s n0 (Qcon0 Z n0 h0 x0 x1 x2 x3 x4 x5) room_1.cells room_1.slots) h2974 12 136 140 #[.val (.long x0), .second, .val (.long x1), .second, .val (.long x2), .second, .val (.long x3), .second, .val (.long x4), .second, .val (.long x5), .second, rv a1555, rv a2273, rv a2523, rv a2636, iv 0, iv y2978, .unset, .unset, .unset, .unset] [(.int b18)] := by
    intro b18 hb18
    refine C.istore (Ls' := #[.val (.long x0), .second, .val (.long x1), .second, .val (.long x2), .second, .val (.long x3), .second, .val (.long x4), .second, .val (.long x5), .second, rv a1555, rv a2273, rv a2523, rv a2636, iv 0, iv y2978, iv b18, .unset, .unset, .unset]) at_140 rfl rfl ?_
    have J187_3027 : ∀ (b19 : Int32) (hb19 : b19 = own_ss x3 x4 x5 x0 x1 x2), Go p l e room_1 s m #[(.long x0), (.long x1), (.long x2), (.long x3), (.long x4), (.long x5)] below meth c n0 (FinQ s n0 (Qcon0 Z n0 h0 x0 x1 x2 x3 x4 x5) room_1.cells room_1.slots) h2974 12 136 187 #[.val (.long x0), .second, .val (.long x1), .second, .val (.long x2), .second, .val (.long x3), .second, .val (.long x4), .second, .val (.long x5), .second, rv a1555, rv a2273, rv a2523, rv a2636, iv 0, iv y2978, iv b18, .unset, .unset, .unset] [(.int b19)] := by
      intro b19 hb19
      refine C.istore (Ls' := #[.val (.long x0), .second, .val (.long x1), .second, .val (.long x2), .second, .val (.long x3), .second, .val (.long x4), .second, .val (.long x5), .second, rv a1555, rv a2273, rv a2523, rv a2636, iv 0, iv y2978, iv b18, iv b19, .unset, .unset]) at_187 rfl rfl ?_
      refine C.aload at_189 rfl rfl rfl ?_
      refine C.iload at_191 rfl rfl ?_
      refine C.iload at_193 rfl rfl ?_
      refine C.callV (argsL := [(.int 0), (.int y2978)]) (rest := []) 0 (fun zz => con_holds l Z a0 hw n0 h2974 zz a1555 a2215 a2213 a2217 a2214 0 y2978 (own_c3 x0 x1 x2) (own_c3 x3 x4 x5) y2979 y2980 y2981 y2982 F2984 F2985 F2986 F2987 F2990 F2991 F2992 F2993 u3000 u3001 (own_c3len x0 x1 x2) (own_c3len x3 x4 x5)) F3003 at_195 rfl (tw hw 97 rfl) (tw hw 98 rfl) (tw hw 99 rfl) (tw hw 100 rfl) (tw hw 2 rfl) (tw hw 101 rfl) (by decide) pd_12 rfl rfl rfl (Nat.le_of_eq rfl) (by decide) (by decide) (by decide) (by decide) (fun v3028 h3029 r3030 => ?_)
      obtain ⟨rfl, rfl⟩ := r3030
      refine C.istore (Ls' := #[.val (.long x0), .second, .val (.long x1), .second, .val (.long x2), .second, .val (.long x3), .second, .val (.long x4), .second, .val (.long x5), .second, rv a1555, rv a2273, rv a2523, rv a2636, iv 0, iv y2978, iv b18, iv b19, iv (own_hold (own_c3 x0 x1 x2) (own_c3 x3 x4 x5)), .unset]) at_198 rfl rfl ?_
      refine C.aload at_200 rfl rfl rfl ?_
      refine C.iload at_202 rfl rfl ?_
      refine C.iload at_204 rfl rfl ?_
      refine C.callV (argsL := [(.int y2978), (.int 0)]) (rest := []) 0 (fun zz => con_holds l Z a0 hw n0 h2974 zz a1555 a2215 a2213 a2217 a2214 y2978 0 (own_c3 x3 x4 x5) (own_c3 x0 x1 x2) y2979 y2980 y2981 y2982 F2984 F2985 F2986 F2987 F2990 F2991 F2992 F2993 u3001 u3000 (own_c3len x3 x4 x5) (own_c3len x0 x1 x2)) F3003 at_206 rfl (tw hw 97 rfl) (tw hw 98 rfl) (tw hw 99 rfl) (tw hw 100 rfl) (tw hw 2 rfl) (tw hw 101 rfl) (by decide) pd_12 rfl rfl rfl (Nat.le_of_eq rfl) (by decide) (by decide) (by decide) (by decide) (fun v3032 h3033 r3034 => ?_)
      obtain ⟨rfl, rfl⟩ := r3034
      refine C.istore (Ls' := #[.val (.long x0), .second, .val (.long x1), .second, .val (.long x2), .second, .val (.long x3), .second, .val (.long x4), .second, .val (.long x5), .second, rv a1555, rv a2273, rv a2523, rv a2636, iv 0, iv y2978, iv b18, iv b19, iv (own_hold (own_c3 x0 x1 x2) (own_c3 x3 x4 x5)), iv (own_hold (own_c3 x3 x4 x5) (own_c3 x0 x1 x2))]) at_209 rfl rfl ?_
      refine C.iload at_211 rfl rfl ?_
      refine C.iload at_213 rfl rfl ?_
      refine C.icmp_ne_f at_215 rfl ((own_holdq _ _ _ _ _ _).trans hb18.symm) ?_
      refine C.iload at_218 rfl rfl ?_
      refine C.iload at_220 rfl rfl ?_
      refine C.icmp_ne_f at_222 rfl ((own_holdq _ _ _ _ _ _).trans hb19.symm) ?_
      refine C.iconst 1 at_225 rfl rfl ?_
      refine C.goto at_226 (by decide) rfl ?_
      exact C.retZ at_230 rfl (by decide) (by decide) ⟨rfl, trivial⟩
    refine C.lloadN at_142 rfl rfl ?_
    refine C.lload at_143 rfl rfl ?_
    refine C.ldc2J at_145 rfl (tw hw 96 rfl) ?_
    refine C.lxor at_148 rfl ?_
    refine C.land at_149 rfl ?_
    refine C.lconst 0 at_150 rfl rfl ?_
    refine C.lcmp at_151 rfl ?_
    refine C.lif_ne at_152 (by decide) rfl rfl (fun q152 => ?_) (fun q152 => ?_)
    · refine C.iconst 0 at_186 rfl rfl ?_
      exact J187_3027 0 ((if_neg (fun q => q152 q.1)).symm)
    refine C.lloadN at_155 rfl rfl ?_
    refine C.lload at_156 rfl rfl ?_
    refine C.ldc2J at_158 rfl (tw hw 96 rfl) ?_
    refine C.lxor at_161 rfl ?_
    refine C.land at_162 rfl ?_
    refine C.lconst 0 at_163 rfl rfl ?_
    refine C.lcmp at_164 rfl ?_
    refine C.lif_ne at_165 (by decide) rfl rfl (fun q165 => ?_) (fun q165 => ?_)
    · refine C.iconst 0 at_186 rfl rfl ?_
      exact J187_3027 0 ((if_neg (fun q => q165 q.2.1)).symm)
    refine C.lload at_168 rfl rfl ?_
    refine C.lload at_170 rfl rfl ?_
    refine C.ldc2J at_172 rfl (tw hw 96 rfl) ?_
    refine C.lxor at_175 rfl ?_
    refine C.land at_176 rfl ?_
    refine C.lconst 0 at_177 rfl rfl ?_
    refine C.lcmp at_178 rfl ?_
    refine C.lif_ne at_179 (by decide) rfl rfl (fun q179 => ?_) (fun q179 => ?_)
    · refine C.iconst 0 at_186 rfl rfl ?_
      exact J187_3027 0 ((if_neg (fun q => q179 q.2.2)).symm)
    refine C.iconst 1 at_182 rfl rfl ?_
    refine C.goto at_183 (by decide) rfl ?_
    exact J187_3027 1 ((if_pos ⟨q152, q165, q179⟩).symm)
  refine C.lload at_95 rfl rfl ?_
  refine C.lloadN at_97 rfl rfl ?_
  refine C.ldc2J at_98 rfl (tw hw 96 rfl) ?_
  refine C.lxor at_101 rfl ?_
  refine C.land at_102 rfl ?_
  refine C.lconst 0 at_103 rfl rfl ?_
  refine C.lcmp at_104 rfl ?_
  refine C.lif_ne at_105 (by decide) rfl rfl (fun q105 => ?_) (fun q105 => ?_)
  · refine C.iconst 0 at_139 rfl rfl ?_
    exact J140_3026 0 ((if_neg (fun q => q105 q.1)).symm)
  refine C.lload at_108 rfl rfl ?_
  refine C.lloadN at_110 rfl rfl ?_
  refine C.ldc2J at_111 rfl (tw hw 96 rfl) ?_
  refine C.lxor at_114 rfl ?_
  refine C.land at_115 rfl ?_
  refine C.lconst 0 at_116 rfl rfl ?_
  refine C.lcmp at_117 rfl ?_
  refine C.lif_ne at_118 (by decide) rfl rfl (fun q118 => ?_) (fun q118 => ?_)
  · refine C.iconst 0 at_139 rfl rfl ?_
    exact J140_3026 0 ((if_neg (fun q => q118 q.2.1)).symm)
  refine C.lload at_121 rfl rfl ?_
  refine C.lload at_123 rfl rfl ?_
  refine C.ldc2J at_125 rfl (tw hw 96 rfl) ?_
  refine C.lxor at_128 rfl ?_
  refine C.land at_129 rfl ?_
  refine C.lconst 0 at_130 rfl rfl ?_
  refine C.lcmp at_131 rfl ?_
  refine C.lif_ne at_132 (by decide) rfl rfl (fun q132 => ?_) (fun q132 => ?_)
  · refine C.iconst 0 at_139 rfl rfl ?_
    exact J140_3026 0 ((if_neg (fun q => q132 q.2.2)).symm)
  refine C.iconst 1 at_135 rfl rfl ?_
  refine C.goto at_136 (by decide) rfl ?_
  exact J140_3026 1 ((if_pos ⟨q105, q118, q132⟩).symm)
set_option maxRecDepth 65536 in
set_option maxHeartbeats 40000000 in
theorem comes_1 {Post : Tables → Env → Array Value → State → Outcome → State → Prop} (hpost : ∀ tb e args s v u, (limb_1_1.after args s (.returned v) u = true ∧ limb_1_2.after args s (.returned v) u = true ∧ True) → FrameEnd s (.returned v) u (Jvm.fieldLocs frame_1_writes args s ++ Jvm.arrayLocs frame_1_arrays args s ++ Jvm.staticLocs frame_1_statics s) 32 384 → Post tb e args s (.returned v) u) :
    ArmFor flags0 classFile x code maxLocals ret World_1 tables_1 room_1 Calls_1 rest_1 Pre_1 Post := by
  intro l hfl _ _ p e ha hc hk s m args below hf hA hF happ hP
  obtain ⟨hcalls, hrest, hpre⟩ := hP
  obtain ⟨-, -, -, hnamed, -, -, -, hat⟩ := (Spec.applies_iff hf).mp happ
  obtain ⟨hg, hn⟩ := and_e (Cond.before_iff.mp (show (Jvm.Cond.and given_1 narrow_1).before args s = true from hpre))
  obtain ⟨h1, h2⟩ := and_e hg
  obtain ⟨w0, w1, w2, w3, w4, w5, rfl⟩ : ∃ w0 w1 w2 w3 w4 w5 : Value, args = #[w0, w1, w2, w3, w4, w5] := by
    have hs : args.size = 6 := by simpa [Cond.value, given_1] using h1
    obtain ⟨L⟩ := args
    match L, hs with
    | [w0, w1, w2, w3, w4, w5], _ => exact ⟨w0, w1, w2, w3, w4, w5, rfl⟩
  have hw := fun d (hd : d ∈ tables_1) => atoms_spec (ws := Jvm.Cond.code x code maxLocals ret :: tables_1) hat d (List.mem_cons_of_mem _ hd)
  obtain ⟨u0, t0⟩ := and_e h2
  obtain ⟨i0, e0⟩ := isL_v u0
  obtain rfl : w0 = (.long i0) := Option.some.inj e0
  obtain ⟨u1, t1⟩ := and_e t0
  obtain ⟨i1, e1⟩ := isL_v u1
  obtain rfl : w1 = (.long i1) := Option.some.inj e1
  obtain ⟨u2, t2⟩ := and_e t1
  obtain ⟨i2, e2⟩ := isL_v u2
  obtain rfl : w2 = (.long i2) := Option.some.inj e2
  obtain ⟨u3, t3⟩ := and_e t2
  obtain ⟨i3, e3⟩ := isL_v u3
  obtain rfl : w3 = (.long i3) := Option.some.inj e3
  obtain ⟨u4, t4⟩ := and_e t3
  obtain ⟨i4, e4⟩ := isL_v u4
  obtain rfl : w4 = (.long i4) := Option.some.inj e4
  obtain ⟨i5, e5⟩ := isL_v t4
  obtain rfl : w5 = (.long i5) := Option.some.inj e5
  obtain ⟨n, o, h1, h2, h3, _, L, rfl, ⟨⟨rfl, -⟩, N⟩, hq⟩ := con0 l s _ hw s.heap.size s.heap (Nat.le_refl _) i0 i1 i2 i3 i4 i5 p e ha hc hk s m _ below hf ((Spec.applies_iff_loose hf).mp happ).1 ⟨rfl, State.Warmed39.refl s, rfl⟩ trivial
  refine ⟨n, _, h1, h2, h3, hpost _ _ _ _ _ _ ⟨Cond.after_iff.mpr rfl, Cond.after_iff.mpr (eq_i res_at (Term.int_eval (1)) rfl), trivial⟩ ⟨hq.1, hq.2.1, (hq.2.2.sift fun y hy => Or.inr (N y hy)).mono (by decide) (by decide)⟩⟩
theorem main_1_1 : Claimed_1_1 := comes_1 fun _ _ _ _ _ _ h hF => ⟨h.1, hF⟩
theorem main_1_2 : Claimed_1_2 := comes_1 fun _ _ _ _ _ _ h hF => ⟨h.2.1, hF⟩
end Jvm.Pilot.@@N@@
namespace Jvm.Pilot.@@N@@
open Jvm Jvm.ClassFile Sem Op Lib Jvm.Free Jvm.Stand Jvm.Pilot.@@N@@.Jvm.D
/-! MADE BY PROGRAM (witnessworld.py) out of the Statement's table words and the real class files: 19 classes; the members and pool entries that the words name. The judged class is class 1, her method 1. -/
namespace start1
open Jvm.ClassFile
def u (s : String) : CpInfo := .utf8 (stringToUtf16 s)
/-- a pool by its gaps: so many unusable entries, then the entry; so many at the end -/
def gap : Nat → List CpInfo → List CpInfo
  | 0, r => r
  | n + 1, r => .unusable :: gap n r
def poolList (es : List (Nat × CpInfo)) (last : Nat) : List CpInfo := es.foldr (fun e r => gap e.1 (e.2 :: r)) (gap last [])
def pool (es : List (Nat × CpInfo)) (last : Nat) : Array CpInfo := ⟨poolList es last⟩
def fileOf (pool : Array CpInfo) (this : Nat) (attrs : Array Attribute := #[]) (ms : Array MethodInfo := #[]) (fl : Nat := 33) (sup : Nat := 0) (ifs : Array Nat := #[]) (fds : Array FieldInfo := #[]) : ClassFile where
  minorVersion := 0
  majorVersion := 65
  constantPool := pool
  accessFlags := fl
  thisClass := this
  superClass := sup
  interfaces := ifs
  fields := fds
  methods := ms
  attributes := attrs
def plain (name : String) (sup : Option ClassId) : Class where
  name := name
  kind := .ordinary
  loader := none
  accessFlags := 33
  super := sup
  interfaces := #[]
  cf := none
  fields := #[]
  methods := #[]
  instanceTypes := #[]
  staticTypes := #[]
  resolved := #[]
  callSites := []
  init := .initialized
  statics := none
  mirror := none

def pool0 : Array CpInfo := pool [(5, u "<init>"), (0, u "()V"), (1, .class_ 10), (1, u "java/lang/Object")] 113

def k0c0 : Code := { maxStack := 0, maxLocals := 1, code := object_method_1_code, exceptionTable := #[], attributes := #[] }
def k0m0 : Method := { name := "<init>", desc := "()V", sig := { parameters := [], returnType := none }, accessFlags := 1, code := some k0c0 }
/-- java/lang/Object -/
def k0 : Class := { plain "java/lang/Object" none with
  accessFlags := 33
  interfaces := #[]
  cf := some (fileOf pool0 8 #[] #[{ accessFlags := 1, nameIndex := 5, descriptorIndex := 6, attributes := #[] }] 33 0 #[] #[])
  fields := #[]
  methods := #[k0m0]
  instanceTypes := #[]
  staticTypes := #[]
  resolved := Array.replicate 124 none
  statics := none }

def pool1 : Array CpInfo := pool [(2, .class_ 4), (0, .nameAndType 5 6), (0, u "java/lang/Object"), (0, u "<init>"), (0, u "()V"), (0, .class_ 8), (0, u "com/example/detra/detra/StateSets"), (0, .methodref 7 3), (0, .class_ 11), (0, u "com/example/detra/detra/SetWords"), (0, .methodref 10 13), (0, .nameAndType 5 14), (0, u "(I)V"), (0, .methodref 10 16), (0, .nameAndType 17 18), (0, u "assign"), (0, u "([JII)V"), (0, .methodref 7 20), (0, .nameAndType 21 22), (0, u "number"), (0, u "(Lcom/example/detra/detra/SetWords;)I"), (0, .long 18446744073709551615), (1, .methodref 7 26), (0, .nameAndType 27 28), (0, u "holds"), (0, u "(II)Z"), (0, .class_ 30), (0, u "com/example/detra/detra/StateSetsHoldsPinLaw"), (2, u "law"), (0, u "(JJJJJJ)Z")] 5

def k1m0 : Method := { name := "<init>", desc := "()V", sig := { parameters := [], returnType := none }, accessFlags := 1, code := none }
def k1c1 : Code := { maxStack := 6, maxLocals := 22, code := code, exceptionTable := #[], attributes := #[] }
def k1m1 : Method := { name := "law", desc := "(JJJJJJ)Z", sig := { parameters := [.long, .long, .long, .long, .long, .long], returnType := some .boolean }, accessFlags := 9, code := some k1c1 }
/-- com/example/detra/detra/StateSetsHoldsPinLaw -/
def k1 : Class := { plain "com/example/detra/detra/StateSetsHoldsPinLaw" (some 0) with
  accessFlags := 49
  interfaces := #[]
  cf := some (fileOf pool1 29 #[] #[{ accessFlags := 1, nameIndex := 5, descriptorIndex := 6, attributes := #[] }, { accessFlags := 9, nameIndex := 33, descriptorIndex := 34, attributes := #[] }] 49 2 #[] #[])
  fields := #[]
  methods := #[k1m0, k1m1]
  instanceTypes := #[]
  staticTypes := #[]
  resolved := Array.replicate 40 none
  statics := none }

def pool2 : Array CpInfo := pool [(1, .methodref 2 3), (0, .class_ 4), (0, .nameAndType 5 6), (0, u "java/lang/Object"), (0, u "<init>"), (0, u "()V"), (0, .fieldref 8 9), (0, .class_ 10), (0, .nameAndType 11 12), (0, u "com/example/detra/detra/StateSets"), (0, u "starts"), (0, u "[I"), (0, .fieldref 8 14), (0, .nameAndType 15 12), (0, u "indices"), (0, .fieldref 8 17), (0, .nameAndType 18 19), (0, u "words"), (0, u "[J"), (0, .fieldref 8 21), (0, .nameAndType 22 12), (0, u "sizes"), (0, .fieldref 8 24), (0, .nameAndType 25 12), (0, u "hashes"), (0, .fieldref 8 27), (0, .nameAndType 28 12), (0, u "table"), (0, .methodref 30 31), (0, .class_ 32), (0, .nameAndType 33 6), (0, u "com/example/detra/detra/SetWords"), (0, u "listHeld"), (0, .methodref 8 35), (0, .nameAndType 36 37), (0, u "hash"), (0, u "(Lcom/example/detra/detra/SetWords;)I"), (0, .methodref 8 39), (0, .nameAndType 40 41), (0, u "equal"), (0, u "(IILcom/example/detra/detra/SetWords;)Z"), (0, .methodref 8 43), (0, .nameAndType 44 45), (0, u "add"), (0, u "(Lcom/example/detra/detra/SetWords;I)I"), (0, .fieldref 8 47), (0, .nameAndType 48 49), (0, u "size"), (0, u "I"), (3, .class_ 54), (0, u "java/lang/Long"), (3, u "(J)I"), (0, .long 18446744073709551615), (1, .methodref 30 62), (0, .nameAndType 63 64), (0, u "heldCount"), (0, u "()I"), (15, .methodref 30 81), (0, .nameAndType 82 83), (0, u "heldIndex"), (0, u "(I)I"), (0, .methodref 30 85), (0, .nameAndType 86 87), (0, u "word"), (0, u "(I)J"), (0, .methodref 53 89), (0, .nameAndType 90 58), (0, u "bitCount"), (0, .long 11400714819323198485), (1, u "MIX"), (0, u "J"), (3, u "number"), (5, u "holds"), (0, u "(II)Z")] 4

def k2c0 : Code := { maxStack := 2, maxLocals := 1, code := prog_22_method_1_code, exceptionTable := #[], attributes := #[] }
def k2m0 : Method := { name := "<init>", desc := "()V", sig := { parameters := [], returnType := none }, accessFlags := 0, code := some k2c0 }
def k2c1 : Code := { maxStack := 4, maxLocals := 6, code := prog_22_method_2_code, exceptionTable := #[], attributes := #[] }
def k2m1 : Method := { name := "number", desc := "(Lcom/example/detra/detra/SetWords;)I", sig := { parameters := [(.object "com/example/detra/detra/SetWords")], returnType := some .int }, accessFlags := 0, code := some k2c1 }
def k2c2 : Code := { maxStack := 6, maxLocals := 7, code := prog_22_method_6_code, exceptionTable := #[], attributes := #[] }
def k2m2 : Method := { name := "holds", desc := "(II)Z", sig := { parameters := [.int, .int], returnType := some .boolean }, accessFlags := 0, code := some k2c2 }
def k2c3 : Code := { maxStack := 5, maxLocals := 7, code := prog_22_method_8_code, exceptionTable := #[], attributes := #[] }
def k2m3 : Method := { name := "add", desc := "(Lcom/example/detra/detra/SetWords;I)I", sig := { parameters := [(.object "com/example/detra/detra/SetWords"), .int], returnType := some .int }, accessFlags := 2, code := some k2c3 }
def k2c4 : Code := { maxStack := 4, maxLocals := 8, code := prog_22_method_10_code, exceptionTable := #[], attributes := #[] }
def k2m4 : Method := { name := "equal", desc := "(IILcom/example/detra/detra/SetWords;)Z", sig := { parameters := [.int, .int, (.object "com/example/detra/detra/SetWords")], returnType := some .boolean }, accessFlags := 2, code := some k2c4 }
def k2c5 : Code := { maxStack := 5, maxLocals := 5, code := prog_22_method_11_code, exceptionTable := #[], attributes := #[] }
def k2m5 : Method := { name := "hash", desc := "(Lcom/example/detra/detra/SetWords;)I", sig := { parameters := [(.object "com/example/detra/detra/SetWords")], returnType := some .int }, accessFlags := 10, code := some k2c5 }
/-- com/example/detra/detra/StateSets -/
def k2 : Class := { plain "com/example/detra/detra/StateSets" (some 0) with
  accessFlags := 48
  interfaces := #[]
  cf := some (fileOf pool2 8 #[] #[{ accessFlags := 0, nameIndex := 5, descriptorIndex := 6, attributes := #[] }, { accessFlags := 0, nameIndex := 98, descriptorIndex := 37, attributes := #[] }, { accessFlags := 0, nameIndex := 104, descriptorIndex := 105, attributes := #[] }, { accessFlags := 2, nameIndex := 44, descriptorIndex := 45, attributes := #[] }, { accessFlags := 2, nameIndex := 40, descriptorIndex := 41, attributes := #[] }, { accessFlags := 10, nameIndex := 36, descriptorIndex := 37, attributes := #[] }] 48 2 #[] #[{ accessFlags := 26, nameIndex := 93, descriptorIndex := 94, attributes := #[] }, { accessFlags := 2, nameIndex := 11, descriptorIndex := 12, attributes := #[] }, { accessFlags := 2, nameIndex := 15, descriptorIndex := 12, attributes := #[] }, { accessFlags := 2, nameIndex := 18, descriptorIndex := 19, attributes := #[] }, { accessFlags := 2, nameIndex := 22, descriptorIndex := 12, attributes := #[] }, { accessFlags := 2, nameIndex := 25, descriptorIndex := 12, attributes := #[] }, { accessFlags := 2, nameIndex := 28, descriptorIndex := 12, attributes := #[] }, { accessFlags := 2, nameIndex := 48, descriptorIndex := 49, attributes := #[] }])
  fields := #[{ name := "MIX", type := .long, accessFlags := 26, slot := 0, constantValue := 0 }, { name := "starts", type := (.array .int), accessFlags := 2, slot := 0, constantValue := 0 }, { name := "indices", type := (.array .int), accessFlags := 2, slot := 1, constantValue := 0 }, { name := "words", type := (.array .long), accessFlags := 2, slot := 2, constantValue := 0 }, { name := "sizes", type := (.array .int), accessFlags := 2, slot := 3, constantValue := 0 }, { name := "hashes", type := (.array .int), accessFlags := 2, slot := 4, constantValue := 0 }, { name := "table", type := (.array .int), accessFlags := 2, slot := 5, constantValue := 0 }, { name := "size", type := .int, accessFlags := 2, slot := 6, constantValue := 0 }]
  methods := #[k2m0, k2m1, k2m2, k2m3, k2m4, k2m5]
  instanceTypes := #[(.array .int), (.array .int), (.array .long), (.array .int), (.array .int), (.array .int), .int]
  staticTypes := #[.long]
  resolved := Array.replicate 110 none
  statics := none }

def pool3 : Array CpInfo := pool [(1, .methodref 2 3), (0, .class_ 4), (0, .nameAndType 5 6), (0, u "java/lang/Object"), (0, u "<init>"), (0, u "()V"), (2, .fieldref 10 11), (0, .class_ 12), (0, .nameAndType 13 14), (0, u "com/example/detra/detra/SetWords"), (0, u "words"), (0, u "[J"), (0, .fieldref 10 16), (0, .nameAndType 17 18), (0, u "listing"), (0, u "Z"), (0, .fieldref 10 20), (0, .nameAndType 21 22), (0, u "held"), (0, u "[I"), (0, .fieldref 10 24), (0, .nameAndType 25 26), (0, u "count"), (0, u "I"), (6, u "([JII)V"), (0, .methodref 35 36), (0, .class_ 37), (0, .nameAndType 38 39), (0, u "java/lang/System"), (0, u "arraycopy"), (0, u "(Ljava/lang/Object;ILjava/lang/Object;II)V"), (0, .methodref 41 42), (0, .class_ 43), (0, .nameAndType 44 45), (0, u "java/util/Arrays"), (0, u "fill"), (0, u "([JIIJ)V"), (9, u "listHeld"), (10, u "(I)V"), (0, u "FEW_WORDS"), (8, u "assign"), (2, u "heldCount"), (0, u "()I"), (0, u "heldIndex"), (0, u "(I)I"), (0, u "word"), (0, u "(I)J")] 4

def k3c0 : Code := { maxStack := 3, maxLocals := 3, code := prog_21_method_1_code, exceptionTable := #[], attributes := #[] }
def k3m0 : Method := { name := "<init>", desc := "(I)V", sig := { parameters := [.int], returnType := none }, accessFlags := 0, code := some k3c0 }
def k3c1 : Code := { maxStack := 5, maxLocals := 4, code := prog_21_method_5_code, exceptionTable := #[], attributes := #[] }
def k3m1 : Method := { name := "assign", desc := "([JII)V", sig := { parameters := [(.array .long), .int, .int], returnType := none }, accessFlags := 0, code := some k3c1 }
def k3c2 : Code := { maxStack := 5, maxLocals := 2, code := prog_21_method_7_code, exceptionTable := #[], attributes := #[] }
def k3m2 : Method := { name := "listHeld", desc := "()V", sig := { parameters := [], returnType := none }, accessFlags := 0, code := some k3c2 }
def k3c3 : Code := { maxStack := 1, maxLocals := 1, code := prog_21_method_9_code, exceptionTable := #[], attributes := #[] }
def k3m3 : Method := { name := "heldCount", desc := "()I", sig := { parameters := [], returnType := some .int }, accessFlags := 0, code := some k3c3 }
def k3c4 : Code := { maxStack := 2, maxLocals := 2, code := prog_21_method_10_code, exceptionTable := #[], attributes := #[] }
def k3m4 : Method := { name := "heldIndex", desc := "(I)I", sig := { parameters := [.int], returnType := some .int }, accessFlags := 0, code := some k3c4 }
def k3c5 : Code := { maxStack := 2, maxLocals := 2, code := prog_21_method_11_code, exceptionTable := #[], attributes := #[] }
def k3m5 : Method := { name := "word", desc := "(I)J", sig := { parameters := [.int], returnType := some .long }, accessFlags := 0, code := some k3c5 }
/-- com/example/detra/detra/SetWords -/
def k3 : Class := { plain "com/example/detra/detra/SetWords" (some 0) with
  accessFlags := 48
  interfaces := #[]
  cf := some (fileOf pool3 10 #[] #[{ accessFlags := 0, nameIndex := 5, descriptorIndex := 66, attributes := #[] }, { accessFlags := 0, nameIndex := 76, descriptorIndex := 33, attributes := #[] }, { accessFlags := 0, nameIndex := 55, descriptorIndex := 6, attributes := #[] }, { accessFlags := 0, nameIndex := 79, descriptorIndex := 80, attributes := #[] }, { accessFlags := 0, nameIndex := 81, descriptorIndex := 82, attributes := #[] }, { accessFlags := 0, nameIndex := 83, descriptorIndex := 84, attributes := #[] }] 48 2 #[] #[{ accessFlags := 24, nameIndex := 67, descriptorIndex := 26, attributes := #[] }, { accessFlags := 18, nameIndex := 13, descriptorIndex := 14, attributes := #[] }, { accessFlags := 18, nameIndex := 17, descriptorIndex := 18, attributes := #[] }, { accessFlags := 18, nameIndex := 21, descriptorIndex := 22, attributes := #[] }, { accessFlags := 2, nameIndex := 25, descriptorIndex := 26, attributes := #[] }])
  fields := #[{ name := "FEW_WORDS", type := .int, accessFlags := 24, slot := 0, constantValue := 0 }, { name := "words", type := (.array .long), accessFlags := 18, slot := 0, constantValue := 0 }, { name := "listing", type := .boolean, accessFlags := 18, slot := 1, constantValue := 0 }, { name := "held", type := (.array .int), accessFlags := 18, slot := 2, constantValue := 0 }, { name := "count", type := .int, accessFlags := 2, slot := 3, constantValue := 0 }]
  methods := #[k3m0, k3m1, k3m2, k3m3, k3m4, k3m5]
  instanceTypes := #[(.array .long), .boolean, (.array .int), .int]
  staticTypes := #[.int]
  resolved := Array.replicate 89 none
  statics := none }

def pool4 : Array CpInfo := pool [(2, .class_ 4), (1, u "java/lang/Object"), (0, u "<init>"), (0, u "()V"), (1, .class_ 10), (1, u "java/lang/System"), (0, u "allowSecurityManager"), (0, u "I"), (16, u "cons"), (0, u "Ljava/io/Console;"), (77, .class_ 110), (1, u "java/lang/System$CallersHolder"), (43, u "initialErrStream"), (0, u "Ljava/io/PrintStream;"), (19, u "security"), (0, u "Ljava/lang/SecurityManager;"), (31, .class_ 209), (0, u "java/lang/System$1"), (7, u "props"), (0, u "Ljava/util/Properties;"), (2, u "lineSeparator"), (0, u "Ljava/lang/String;"), (96, .class_ 321), (1, u "java/lang/System$LoggerFinder"), (5, .class_ 328), (0, u "java/lang/System$Logger"), (67, u "err"), (2, u "out"), (91, u "notSupportedJnuEncoding"), (15, u "in"), (17, u "initialIn"), (0, u "Ljava/io/InputStream;"), (35, u "bootLayer"), (0, u "Ljava/lang/ModuleLayer;"), (99, .class_ 664), (0, u "java/lang/System$2"), (9, u "NEVER"), (2, u "MAYBE"), (49, u "arraycopy"), (0, u "(Ljava/lang/Object;ILjava/lang/Object;II)V"), (72, .class_ 802), (0, u "java/lang/System$Logger$Level")] 31

def k4m0 : Method := { name := "<init>", desc := "()V", sig := { parameters := [], returnType := none }, accessFlags := 2, code := none }
def k4m1 : Method := { name := "arraycopy", desc := "(Ljava/lang/Object;ILjava/lang/Object;II)V", sig := { parameters := [(.object "java/lang/Object"), .int, (.object "java/lang/Object"), .int, .int], returnType := none }, accessFlags := 265, code := none }
/-- java/lang/System -/
def k4 : Class := { plain "java/lang/System" (some 0) with
  accessFlags := 49
  interfaces := #[]
  cf := some (fileOf pool4 8 #[.nestMembers #[319, 327, 801, 108, 663, 208]] #[{ accessFlags := 2, nameIndex := 5, descriptorIndex := 6, attributes := #[] }, { accessFlags := 265, nameIndex := 727, descriptorIndex := 728, attributes := #[] }] 49 2 #[] #[{ accessFlags := 25, nameIndex := 507, descriptorIndex := 526, attributes := #[] }, { accessFlags := 25, nameIndex := 399, descriptorIndex := 155, attributes := #[] }, { accessFlags := 25, nameIndex := 396, descriptorIndex := 155, attributes := #[] }, { accessFlags := 10, nameIndex := 525, descriptorIndex := 526, attributes := #[] }, { accessFlags := 26, nameIndex := 674, descriptorIndex := 12, attributes := #[] }, { accessFlags := 26, nameIndex := 677, descriptorIndex := 12, attributes := #[] }, { accessFlags := 10, nameIndex := 11, descriptorIndex := 12, attributes := #[] }, { accessFlags := 74, nameIndex := 175, descriptorIndex := 176, attributes := #[] }, { accessFlags := 10, nameIndex := 491, descriptorIndex := 222, attributes := #[] }, { accessFlags := 74, nameIndex := 29, descriptorIndex := 30, attributes := #[] }, { accessFlags := 74, nameIndex := 154, descriptorIndex := 155, attributes := #[] }, { accessFlags := 10, nameIndex := 217, descriptorIndex := 218, attributes := #[] }, { accessFlags := 10, nameIndex := 221, descriptorIndex := 222, attributes := #[] }, { accessFlags := 8, nameIndex := 562, descriptorIndex := 563, attributes := #[] }])
  fields := #[{ name := "in", type := (.object "java/io/InputStream"), accessFlags := 25, slot := 0, constantValue := 0 }, { name := "out", type := (.object "java/io/PrintStream"), accessFlags := 25, slot := 1, constantValue := 0 }, { name := "err", type := (.object "java/io/PrintStream"), accessFlags := 25, slot := 2, constantValue := 0 }, { name := "initialIn", type := (.object "java/io/InputStream"), accessFlags := 10, slot := 3, constantValue := 0 }, { name := "NEVER", type := .int, accessFlags := 26, slot := 4, constantValue := 0 }, { name := "MAYBE", type := .int, accessFlags := 26, slot := 5, constantValue := 0 }, { name := "allowSecurityManager", type := .int, accessFlags := 10, slot := 6, constantValue := 0 }, { name := "security", type := (.object "java/lang/SecurityManager"), accessFlags := 74, slot := 7, constantValue := 0 }, { name := "notSupportedJnuEncoding", type := (.object "java/lang/String"), accessFlags := 10, slot := 8, constantValue := 0 }, { name := "cons", type := (.object "java/io/Console"), accessFlags := 74, slot := 9, constantValue := 0 }, { name := "initialErrStream", type := (.object "java/io/PrintStream"), accessFlags := 74, slot := 10, constantValue := 0 }, { name := "props", type := (.object "java/util/Properties"), accessFlags := 10, slot := 11, constantValue := 0 }, { name := "lineSeparator", type := (.object "java/lang/String"), accessFlags := 10, slot := 12, constantValue := 0 }, { name := "bootLayer", type := (.object "java/lang/ModuleLayer"), accessFlags := 8, slot := 13, constantValue := 0 }]
  methods := #[k4m0, k4m1]
  instanceTypes := #[]
  staticTypes := #[(.object "java/io/InputStream"), (.object "java/io/PrintStream"), (.object "java/io/PrintStream"), (.object "java/io/InputStream"), .int, .int, .int, (.object "java/lang/SecurityManager"), (.object "java/lang/String"), (.object "java/io/Console"), (.object "java/io/PrintStream"), (.object "java/util/Properties"), (.object "java/lang/String"), (.object "java/lang/ModuleLayer")]
  resolved := Array.replicate 834 none
  statics := none }

def pool5 : Array CpInfo := pool [(2, .class_ 4), (1, u "java/lang/Object"), (0, u "<init>"), (0, u "()V"), (6, .methodref 14 15), (0, .class_ 16), (0, .nameAndType 17 18), (0, u "java/util/Arrays"), (0, u "rangeCheck"), (0, u "(III)V"), (55, .class_ 76), (1, u "java/util/Arrays$NaturalOrder"), (36, .class_ 115), (1, u "java/util/Arrays$LegacyMergeSort"), (1, u "Z"), (257, .class_ 376), (0, u "java/util/Arrays$ArrayList"), (68, u "$assertionsDisabled"), (269, u "MIN_ARRAY_SORT_GRAN"), (0, u "I"), (2, u "INSERTIONSORT_THRESHOLD"), (120, u "fill"), (3, u "([JIIJ)V"), (130, .class_ 976), (0, u "java/util/Arrays$ArrayItr")] 52

def k5m0 : Method := { name := "<init>", desc := "()V", sig := { parameters := [], returnType := none }, accessFlags := 2, code := none }
def k5c1 : Code := { maxStack := 4, maxLocals := 3, code := jdk_65_method_30_code, exceptionTable := #[], attributes := #[] }
def k5m1 : Method := { name := "rangeCheck", desc := "(III)V", sig := { parameters := [.int, .int, .int], returnType := none }, accessFlags := 8, code := some k5c1 }
def k5c2 : Code := { maxStack := 4, maxLocals := 6, code := jdk_65_method_102_code, exceptionTable := #[], attributes := #[] }
def k5m2 : Method := { name := "fill", desc := "([JIIJ)V", sig := { parameters := [(.array .long), .int, .int, .long], returnType := none }, accessFlags := 9, code := some k5c2 }
/-- java/util/Arrays -/
def k5 : Class := { plain "java/util/Arrays" (some 0) with
  accessFlags := 49
  interfaces := #[]
  cf := some (fileOf pool5 14 #[.nestMembers #[975, 375, 113, 74]] #[{ accessFlags := 2, nameIndex := 5, descriptorIndex := 6, attributes := #[] }, { accessFlags := 8, nameIndex := 17, descriptorIndex := 18, attributes := #[] }, { accessFlags := 9, nameIndex := 840, descriptorIndex := 844, attributes := #[] }] 49 2 #[] #[{ accessFlags := 26, nameIndex := 715, descriptorIndex := 716, attributes := #[] }, { accessFlags := 26, nameIndex := 719, descriptorIndex := 716, attributes := #[] }, { accessFlags := 4120, nameIndex := 445, descriptorIndex := 117, attributes := #[] }])
  fields := #[{ name := "MIN_ARRAY_SORT_GRAN", type := .int, accessFlags := 26, slot := 0, constantValue := 0 }, { name := "INSERTIONSORT_THRESHOLD", type := .int, accessFlags := 26, slot := 1, constantValue := 0 }, { name := "$assertionsDisabled", type := .boolean, accessFlags := 4120, slot := 2, constantValue := 0 }]
  methods := #[k5m0, k5m1, k5m2]
  instanceTypes := #[]
  staticTypes := #[.int, .int, .boolean]
  resolved := Array.replicate 1029 none
  statics := none }

def pool6 : Array CpInfo := pool [(1, .class_ 2), (0, u "java/io/Serializable"), (0, .class_ 4), (0, u "java/lang/Object")] 2

/-- java/io/Serializable -/
def k6 : Class := { plain "java/io/Serializable" (some 0) with
  accessFlags := 1537
  interfaces := #[]
  cf := some (fileOf pool6 1 #[] #[] 1537 3 #[] #[])
  fields := #[]
  methods := #[]
  instanceTypes := #[]
  staticTypes := #[]
  resolved := Array.replicate 7 none
  statics := none }

def pool7 : Array CpInfo := pool [(2, .class_ 4), (1, u "java/lang/Object"), (0, u "<init>"), (0, u "()V"), (1, .class_ 10), (1, u "java/lang/Number"), (2, .class_ 14), (0, u "java/io/Serializable"), (0, u "serialVersionUID"), (0, u "J")] 20

def k7m0 : Method := { name := "<init>", desc := "()V", sig := { parameters := [], returnType := none }, accessFlags := 1, code := none }
/-- java/lang/Number -/
def k7 : Class := { plain "java/lang/Number" (some 0) with
  accessFlags := 1057
  interfaces := #[6]
  cf := some (fileOf pool7 8 #[] #[{ accessFlags := 1, nameIndex := 5, descriptorIndex := 6, attributes := #[] }] 1057 2 #[13] #[{ accessFlags := 26, nameIndex := 15, descriptorIndex := 16, attributes := #[] }])
  fields := #[{ name := "serialVersionUID", type := .long, accessFlags := 26, slot := 0, constantValue := 0 }]
  methods := #[k7m0]
  instanceTypes := #[]
  staticTypes := #[.long]
  resolved := Array.replicate 37 none
  statics := none }

def pool8 : Array CpInfo := pool [(1, .class_ 2), (0, u "java/lang/Comparable"), (0, .class_ 4), (0, u "java/lang/Object")] 7

/-- java/lang/Comparable -/
def k8 : Class := { plain "java/lang/Comparable" (some 0) with
  accessFlags := 1537
  interfaces := #[]
  cf := some (fileOf pool8 1 #[] #[] 1537 3 #[] #[])
  fields := #[]
  methods := #[]
  instanceTypes := #[]
  staticTypes := #[]
  resolved := Array.replicate 12 none
  statics := none }

def pool9 : Array CpInfo := pool [(1, .class_ 2), (0, u "java/lang/constant/Constable"), (0, .class_ 4), (0, u "java/lang/Object")] 6

/-- java/lang/constant/Constable -/
def k9 : Class := { plain "java/lang/constant/Constable" (some 0) with
  accessFlags := 1537
  interfaces := #[]
  cf := some (fileOf pool9 1 #[] #[] 1537 3 #[] #[])
  fields := #[]
  methods := #[]
  instanceTypes := #[]
  staticTypes := #[]
  resolved := Array.replicate 11 none
  statics := none }

def pool10 : Array CpInfo := pool [(1, .class_ 2), (0, u "java/lang/constant/ConstantDesc"), (0, .class_ 4), (0, u "java/lang/Object")] 32

/-- java/lang/constant/ConstantDesc -/
def k10 : Class := { plain "java/lang/constant/ConstantDesc" (some 0) with
  accessFlags := 1537
  interfaces := #[]
  cf := some (fileOf pool10 1 #[] #[] 1537 3 #[] #[])
  fields := #[]
  methods := #[]
  instanceTypes := #[]
  staticTypes := #[]
  resolved := Array.replicate 37 none
  statics := none }

def pool11 : Array CpInfo := pool [(1, .class_ 2), (0, u "java/lang/Long"), (98, u "(J)I"), (133, .class_ 237), (1, u "java/lang/Long$LongCache"), (33, .class_ 272), (0, u "java/lang/Number"), (2, u "value"), (0, u "J"), (37, .long 6148914691236517205), (1, .long 3689348814741910323), (1, .long 1085102592571150095), (42, u "TYPE"), (0, u "Ljava/lang/Class;"), (0, .class_ 364), (0, u "java/lang/Comparable"), (0, .class_ 366), (0, u "java/lang/constant/Constable"), (0, .class_ 368), (0, u "java/lang/constant/ConstantDesc"), (0, u "MIN_VALUE"), (1, u "MAX_VALUE"), (4, u "SIZE"), (0, u "I"), (1, u "BYTES"), (1, u "serialVersionUID"), (94, u "bitCount")] 47

def k11c0 : Code := { maxStack := 6, maxLocals := 2, code := jdk_35_method_50_code, exceptionTable := #[], attributes := #[] }
def k11m0 : Method := { name := "bitCount", desc := "(J)I", sig := { parameters := [.long], returnType := some .int }, accessFlags := 9, code := some k11c0 }
/-- java/lang/Long -/
def k11 : Class := { plain "java/lang/Long" (some 7) with
  accessFlags := 49
  interfaces := #[8, 9, 10]
  cf := some (fileOf pool11 1 #[.nestMembers #[235]] #[{ accessFlags := 9, nameIndex := 476, descriptorIndex := 101, attributes := #[] }] 49 271 #[363, 365, 367] #[{ accessFlags := 25, nameIndex := 369, descriptorIndex := 276, attributes := #[] }, { accessFlags := 25, nameIndex := 371, descriptorIndex := 276, attributes := #[] }, { accessFlags := 25, nameIndex := 361, descriptorIndex := 362, attributes := #[] }, { accessFlags := 18, nameIndex := 275, descriptorIndex := 276, attributes := #[] }, { accessFlags := 25, nameIndex := 376, descriptorIndex := 377, attributes := #[] }, { accessFlags := 25, nameIndex := 379, descriptorIndex := 377, attributes := #[] }, { accessFlags := 26, nameIndex := 381, descriptorIndex := 276, attributes := #[] }])
  fields := #[{ name := "MIN_VALUE", type := .long, accessFlags := 25, slot := 0, constantValue := 0 }, { name := "MAX_VALUE", type := .long, accessFlags := 25, slot := 1, constantValue := 0 }, { name := "TYPE", type := (.object "java/lang/Class"), accessFlags := 25, slot := 2, constantValue := 0 }, { name := "value", type := .long, accessFlags := 18, slot := 0, constantValue := 0 }, { name := "SIZE", type := .int, accessFlags := 25, slot := 3, constantValue := 0 }, { name := "BYTES", type := .int, accessFlags := 25, slot := 4, constantValue := 0 }, { name := "serialVersionUID", type := .long, accessFlags := 26, slot := 5, constantValue := 0 }]
  methods := #[k11m0]
  instanceTypes := #[.long]
  staticTypes := #[.long, .long, (.object "java/lang/Class"), .int, .int, .long]
  resolved := Array.replicate 524 none
  statics := none }

def pool12 : Array CpInfo := pool [(1, u "java/lang/Cloneable"), (0, .class_ 1), (0, u "java/lang/Object"), (0, .class_ 3)] 3

/-- java/lang/Cloneable -/
def k12 : Class := { plain "java/lang/Cloneable" (some 0) with
  accessFlags := 1537
  interfaces := #[]
  cf := some (fileOf pool12 2 #[] #[] 1537 4 #[] #[])
  fields := #[]
  methods := #[]
  instanceTypes := #[]
  staticTypes := #[]
  resolved := Array.replicate 8 none
  statics := none }

/-- the primitive byte -/
def k13 : Class := { plain "byte" none with kind := .primitive 'B', accessFlags := 0x411 }
/-- [B -/
def k14 : Class := { plain "[B" (some 0) with kind := .array 13 .byte, interfaces := #[12, 6], accessFlags := 1041 }

/-- the primitive int -/
def k15 : Class := { plain "int" none with kind := .primitive 'I', accessFlags := 0x411 }
/-- [I -/
def k16 : Class := { plain "[I" (some 0) with kind := .array 15 .int, interfaces := #[12, 6], accessFlags := 1041 }

/-- the primitive long -/
def k17 : Class := { plain "long" none with kind := .primitive 'J', accessFlags := 0x411 }
/-- [J -/
def k18 : Class := { plain "[J" (some 0) with kind := .array 17 .long, interfaces := #[12, 6], accessFlags := 1041 }

def heap : Heap := #[]
def classes : Array Class := #[k0, k1, k2, k3, k4, k5, k6, k7, k8, k9, k10, k11, k12, k13, k14, k15, k16, k17, k18]
def interned : List (Array UInt16 × Addr) := []
def slotsUsed : Nat := 0
def theMethod : MethodId := ⟨1, 1⟩
def args0 : Array Value := #[.long 1, .long 2, .long 3, .long 4, .long 5, .long 6]
def aboutOver (below : List Frame) : State where
  vm := { classes := classes, interned := interned.toArray }
  heap := heap
  slotsUsed := slotsUsed
  threads := #[{ frames := .invoking theMethod args0 :: below }]
def below0 : List Frame := [.native { method := ⟨0, 0⟩, args := #[] }]
def about1 : State := aboutOver below0
def p0 : Program := .bare "" "" ""
def e0 : Env := launch0.env 0 0 0
theorem w_frames : about1.frames = Frame.invoking theMethod args0 :: below0 := rfl
set_option maxRecDepth 65536 in
theorem w_args : argsFit about1.vm theMethod args0 = true := by decide +kernel
set_option maxRecDepth 65536 in
theorem w_heap : heapFits about1 = true := by decide +kernel
set_option maxRecDepth 65536 in
theorem w_runnable : about1.curStatus? = some .runnable := by decide +kernel
set_option maxRecDepth 65536 in
theorem w_alone : about1.alone = true := by decide +kernel
set_option maxRecDepth 65536 in
theorem w_named : about1.methodNamed? x = some theMethod := by decide +kernel
set_option maxRecDepth 65536 in
theorem w_hears : about1.hears theMethod below0 = true := by decide +kernel
set_option maxRecDepth 65536 in
theorem w_ripe : about1.ripe theMethod args0 below0 = true := by decide +kernel
theorem w_running : about1.status = .running := rfl
set_option maxRecDepth 65536 in
theorem w_room : about1.hasRoom e0.platform room_1 = true :=
  launch0.hasRoom_least _ room_1 (by decide +kernel) (by decide +kernel) (by decide +kernel) (by decide +kernel) (by decide +kernel) (by decide +kernel)
theorem allAtoms_all (ts : List Jvm.Cond) (a : Array Jvm.Value) (st : Jvm.State) : (allAtoms ts).before a st = ts.all (fun c => c.before a st) := by
  induction ts with
  | nil => rfl
  | cons c t ih =>
    show (Jvm.Cond.and c (allAtoms t)).before a st = _
    rw [Jvm.Cond.before_and, ih, List.all_cons]
def words1 : List Jvm.Cond := Jvm.Cond.code x code maxLocals ret :: tables_1
/-- a 'code' word, met by the world's own term for the bytes: nothing is compared byte by byte -/
theorem code_word {y : MethodName} {bytes : ByteArray} {mx : Nat} {rt : Option FieldType} {a : Array Value} {s : State} {m : MethodId} {meth : Method} {c : Code} (h1 : s.methodNamed? y = some m) (h2 : s.vm.method? m = some meth) (h3 : meth.code = some c) (h4 : c.code = bytes)
    (h5 : (c.maxLocals == mx && c.exceptionTable.isEmpty && decide (c.maxStack ≤ mostOperands) && decide (meth.sig.returnType = rt) && !meth.locks && decide (parseMethodDescriptor y.desc = some meth.sig)) = true) : (Jvm.Cond.code y bytes mx rt).before a s = true := by
  simp only [Bool.and_eq_true, beq_iff_eq, Bool.not_eq_true', decide_eq_true_eq] at h5
  obtain ⟨⟨⟨⟨⟨g1, g2⟩, g3⟩, g4⟩, g5⟩, g6⟩ := h5
  simp [Cond.before, Cond.holds, Cond.value, h1, h2, h3, h4, g1, g2, g3, g4, g5, g6]
def isCode : Jvm.Cond → Bool
  | .code _ _ _ _ => true
  | _ => false
theorem all_split {L : List Jvm.Cond} {P : Jvm.Cond → Bool} (h1 : L.all (fun c => isCode c || P c) = true) (h2 : ∀ c ∈ L.filter isCode, P c = true) : L.all P = true := by
  refine List.all_eq_true.mpr fun c hc => ?_
  have h := List.all_eq_true.mp h1 c hc
  rcases Bool.eq_false_or_eq_true (isCode c) with hi | hi
  · exact h2 c (List.mem_filter.mpr ⟨hc, hi⟩)
  · simpa [hi] using h
set_option maxRecDepth 65536 in
theorem w_c0 : (Jvm.Cond.code x code maxLocals ret).before args0 about1 = true := code_word (m := ⟨1, 1⟩) (meth := k1m1) (c := k1c1) (by decide +kernel) rfl rfl rfl (by decide +kernel)
set_option maxRecDepth 65536 in
theorem w_c1 : (Jvm.Cond.code ({ cls := "com/example/detra/detra/StateSets", name := "<init>", desc := "()V" } : Jvm.MethodName) prog_22_method_1_code (1 : Nat) (Option.none : Option Jvm.ClassFile.FieldType)).before args0 about1 = true := code_word (m := ⟨2, 0⟩) (meth := k2m0) (c := k2c0) (by decide +kernel) rfl rfl rfl (by decide +kernel)
set_option maxRecDepth 65536 in
theorem w_c2 : (Jvm.Cond.code ({ cls := "java/lang/Object", name := "<init>", desc := "()V" } : Jvm.MethodName) object_method_1_code (1 : Nat) (Option.none : Option Jvm.ClassFile.FieldType)).before args0 about1 = true := code_word (m := ⟨0, 0⟩) (meth := k0m0) (c := k0c0) (by decide +kernel) rfl rfl rfl (by decide +kernel)
set_option maxRecDepth 65536 in
theorem w_c3 : (Jvm.Cond.code ({ cls := "com/example/detra/detra/SetWords", name := "<init>", desc := "(I)V" } : Jvm.MethodName) prog_21_method_1_code (3 : Nat) (Option.none : Option Jvm.ClassFile.FieldType)).before args0 about1 = true := code_word (m := ⟨3, 0⟩) (meth := k3m0) (c := k3c0) (by decide +kernel) rfl rfl rfl (by decide +kernel)
set_option maxRecDepth 65536 in
theorem w_c4 : (Jvm.Cond.code ({ cls := "com/example/detra/detra/SetWords", name := "assign", desc := "([JII)V" } : Jvm.MethodName) prog_21_method_5_code (4 : Nat) (Option.none : Option Jvm.ClassFile.FieldType)).before args0 about1 = true := code_word (m := ⟨3, 1⟩) (meth := k3m1) (c := k3c1) (by decide +kernel) rfl rfl rfl (by decide +kernel)
set_option maxRecDepth 65536 in
theorem w_c5 : (Jvm.Cond.code ({ cls := "java/util/Arrays", name := "fill", desc := "([JIIJ)V" } : Jvm.MethodName) jdk_65_method_102_code (6 : Nat) (Option.none : Option Jvm.ClassFile.FieldType)).before args0 about1 = true := code_word (m := ⟨5, 2⟩) (meth := k5m2) (c := k5c2) (by decide +kernel) rfl rfl rfl (by decide +kernel)
set_option maxRecDepth 65536 in
theorem w_c6 : (Jvm.Cond.code ({ cls := "java/util/Arrays", name := "rangeCheck", desc := "(III)V" } : Jvm.MethodName) jdk_65_method_30_code (3 : Nat) (Option.none : Option Jvm.ClassFile.FieldType)).before args0 about1 = true := code_word (m := ⟨5, 1⟩) (meth := k5m1) (c := k5c1) (by decide +kernel) rfl rfl rfl (by decide +kernel)
set_option maxRecDepth 65536 in
theorem w_c7 : (Jvm.Cond.code ({ cls := "com/example/detra/detra/StateSets", name := "number", desc := "(Lcom/example/detra/detra/SetWords;)I" } : Jvm.MethodName) prog_22_method_2_code (6 : Nat) (Option.some Jvm.ClassFile.FieldType.int)).before args0 about1 = true := code_word (m := ⟨2, 1⟩) (meth := k2m1) (c := k2c1) (by decide +kernel) rfl rfl rfl (by decide +kernel)
set_option maxRecDepth 65536 in
theorem w_c8 : (Jvm.Cond.code ({ cls := "com/example/detra/detra/SetWords", name := "listHeld", desc := "()V" } : Jvm.MethodName) prog_21_method_7_code (2 : Nat) (Option.none : Option Jvm.ClassFile.FieldType)).before args0 about1 = true := code_word (m := ⟨3, 2⟩) (meth := k3m2) (c := k3c2) (by decide +kernel) rfl rfl rfl (by decide +kernel)
set_option maxRecDepth 65536 in
theorem w_c9 : (Jvm.Cond.code ({ cls := "com/example/detra/detra/StateSets", name := "hash", desc := "(Lcom/example/detra/detra/SetWords;)I" } : Jvm.MethodName) prog_22_method_11_code (5 : Nat) (Option.some Jvm.ClassFile.FieldType.int)).before args0 about1 = true := code_word (m := ⟨2, 5⟩) (meth := k2m5) (c := k2c5) (by decide +kernel) rfl rfl rfl (by decide +kernel)
set_option maxRecDepth 65536 in
theorem w_c10 : (Jvm.Cond.code ({ cls := "com/example/detra/detra/SetWords", name := "heldCount", desc := "()I" } : Jvm.MethodName) prog_21_method_9_code (1 : Nat) (Option.some Jvm.ClassFile.FieldType.int)).before args0 about1 = true := code_word (m := ⟨3, 3⟩) (meth := k3m3) (c := k3c3) (by decide +kernel) rfl rfl rfl (by decide +kernel)
set_option maxRecDepth 65536 in
theorem w_c11 : (Jvm.Cond.code ({ cls := "com/example/detra/detra/SetWords", name := "heldIndex", desc := "(I)I" } : Jvm.MethodName) prog_21_method_10_code (2 : Nat) (Option.some Jvm.ClassFile.FieldType.int)).before args0 about1 = true := code_word (m := ⟨3, 4⟩) (meth := k3m4) (c := k3c4) (by decide +kernel) rfl rfl rfl (by decide +kernel)
set_option maxRecDepth 65536 in
theorem w_c12 : (Jvm.Cond.code ({ cls := "com/example/detra/detra/SetWords", name := "word", desc := "(I)J" } : Jvm.MethodName) prog_21_method_11_code (2 : Nat) (Option.some Jvm.ClassFile.FieldType.long)).before args0 about1 = true := code_word (m := ⟨3, 5⟩) (meth := k3m5) (c := k3c5) (by decide +kernel) rfl rfl rfl (by decide +kernel)
set_option maxRecDepth 65536 in
theorem w_c13 : (Jvm.Cond.code ({ cls := "com/example/detra/detra/StateSets", name := "add", desc := "(Lcom/example/detra/detra/SetWords;I)I" } : Jvm.MethodName) prog_22_method_8_code (7 : Nat) (Option.some Jvm.ClassFile.FieldType.int)).before args0 about1 = true := code_word (m := ⟨2, 3⟩) (meth := k2m3) (c := k2c3) (by decide +kernel) rfl rfl rfl (by decide +kernel)
set_option maxRecDepth 65536 in
theorem w_c14 : (Jvm.Cond.code ({ cls := "java/lang/Long", name := "bitCount", desc := "(J)I" } : Jvm.MethodName) jdk_35_method_50_code (2 : Nat) (Option.some Jvm.ClassFile.FieldType.int)).before args0 about1 = true := code_word (m := ⟨11, 0⟩) (meth := k11m0) (c := k11c0) (by decide +kernel) rfl rfl rfl (by decide +kernel)
set_option maxRecDepth 65536 in
theorem w_c15 : (Jvm.Cond.code ({ cls := "com/example/detra/detra/StateSets", name := "holds", desc := "(II)Z" } : Jvm.MethodName) prog_22_method_6_code (7 : Nat) (Option.some Jvm.ClassFile.FieldType.boolean)).before args0 about1 = true := code_word (m := ⟨2, 2⟩) (meth := k2m2) (c := k2c2) (by decide +kernel) rfl rfl rfl (by decide +kernel)
set_option maxRecDepth 65536 in
theorem w_c16 : (Jvm.Cond.code ({ cls := "com/example/detra/detra/StateSets", name := "equal", desc := "(IILcom/example/detra/detra/SetWords;)Z" } : Jvm.MethodName) prog_22_method_10_code (8 : Nat) (Option.some Jvm.ClassFile.FieldType.boolean)).before args0 about1 = true := code_word (m := ⟨2, 4⟩) (meth := k2m4) (c := k2c4) (by decide +kernel) rfl rfl rfl (by decide +kernel)
def codes1 : List Jvm.Cond := [Jvm.Cond.code x code maxLocals ret, Jvm.Cond.code ({ cls := "com/example/detra/detra/StateSets", name := "<init>", desc := "()V" } : Jvm.MethodName) prog_22_method_1_code (1 : Nat) (Option.none : Option Jvm.ClassFile.FieldType), Jvm.Cond.code ({ cls := "java/lang/Object", name := "<init>", desc := "()V" } : Jvm.MethodName) object_method_1_code (1 : Nat) (Option.none : Option Jvm.ClassFile.FieldType), Jvm.Cond.code ({ cls := "com/example/detra/detra/SetWords", name := "<init>", desc := "(I)V" } : Jvm.MethodName) prog_21_method_1_code (3 : Nat) (Option.none : Option Jvm.ClassFile.FieldType), Jvm.Cond.code ({ cls := "com/example/detra/detra/SetWords", name := "assign", desc := "([JII)V" } : Jvm.MethodName) prog_21_method_5_code (4 : Nat) (Option.none : Option Jvm.ClassFile.FieldType), Jvm.Cond.code ({ cls := "java/util/Arrays", name := "fill", desc := "([JIIJ)V" } : Jvm.MethodName) jdk_65_method_102_code (6 : Nat) (Option.none : Option Jvm.ClassFile.FieldType), Jvm.Cond.code ({ cls := "java/util/Arrays", name := "rangeCheck", desc := "(III)V" } : Jvm.MethodName) jdk_65_method_30_code (3 : Nat) (Option.none : Option Jvm.ClassFile.FieldType), Jvm.Cond.code ({ cls := "com/example/detra/detra/StateSets", name := "number", desc := "(Lcom/example/detra/detra/SetWords;)I" } : Jvm.MethodName) prog_22_method_2_code (6 : Nat) (Option.some Jvm.ClassFile.FieldType.int), Jvm.Cond.code ({ cls := "com/example/detra/detra/SetWords", name := "listHeld", desc := "()V" } : Jvm.MethodName) prog_21_method_7_code (2 : Nat) (Option.none : Option Jvm.ClassFile.FieldType), Jvm.Cond.code ({ cls := "com/example/detra/detra/StateSets", name := "hash", desc := "(Lcom/example/detra/detra/SetWords;)I" } : Jvm.MethodName) prog_22_method_11_code (5 : Nat) (Option.some Jvm.ClassFile.FieldType.int), Jvm.Cond.code ({ cls := "com/example/detra/detra/SetWords", name := "heldCount", desc := "()I" } : Jvm.MethodName) prog_21_method_9_code (1 : Nat) (Option.some Jvm.ClassFile.FieldType.int), Jvm.Cond.code ({ cls := "com/example/detra/detra/SetWords", name := "heldIndex", desc := "(I)I" } : Jvm.MethodName) prog_21_method_10_code (2 : Nat) (Option.some Jvm.ClassFile.FieldType.int), Jvm.Cond.code ({ cls := "com/example/detra/detra/SetWords", name := "word", desc := "(I)J" } : Jvm.MethodName) prog_21_method_11_code (2 : Nat) (Option.some Jvm.ClassFile.FieldType.long), Jvm.Cond.code ({ cls := "com/example/detra/detra/StateSets", name := "add", desc := "(Lcom/example/detra/detra/SetWords;I)I" } : Jvm.MethodName) prog_22_method_8_code (7 : Nat) (Option.some Jvm.ClassFile.FieldType.int), Jvm.Cond.code ({ cls := "java/lang/Long", name := "bitCount", desc := "(J)I" } : Jvm.MethodName) jdk_35_method_50_code (2 : Nat) (Option.some Jvm.ClassFile.FieldType.int), Jvm.Cond.code ({ cls := "com/example/detra/detra/StateSets", name := "holds", desc := "(II)Z" } : Jvm.MethodName) prog_22_method_6_code (7 : Nat) (Option.some Jvm.ClassFile.FieldType.boolean), Jvm.Cond.code ({ cls := "com/example/detra/detra/StateSets", name := "equal", desc := "(IILcom/example/detra/detra/SetWords;)Z" } : Jvm.MethodName) prog_22_method_10_code (8 : Nat) (Option.some Jvm.ClassFile.FieldType.boolean)]
set_option maxRecDepth 65536 in
theorem codes_eq : words1.filter isCode = codes1 := rfl
theorem w_codes : ∀ c ∈ words1.filter isCode, c.before args0 about1 = true := by
  rw [codes_eq]
  intro c hc
  simp only [codes1, List.mem_cons, List.not_mem_nil, or_false] at hc
  rcases hc with rfl | rfl | rfl | rfl | rfl | rfl | rfl | rfl | rfl | rfl | rfl | rfl | rfl | rfl | rfl | rfl | rfl
  · exact w_c0
  · exact w_c1
  · exact w_c2
  · exact w_c3
  · exact w_c4
  · exact w_c5
  · exact w_c6
  · exact w_c7
  · exact w_c8
  · exact w_c9
  · exact w_c10
  · exact w_c11
  · exact w_c12
  · exact w_c13
  · exact w_c14
  · exact w_c15
  · exact w_c16
set_option maxRecDepth 65536 in
theorem w_t1 : (words1.take 24).all (fun c => isCode c || c.before args0 about1) = true := by decide +kernel
set_option maxRecDepth 65536 in
theorem w_t2 : ((words1.drop 24).take 24).all (fun c => isCode c || c.before args0 about1) = true := by decide +kernel
set_option maxRecDepth 65536 in
theorem w_t3 : (((words1.drop 24).drop 24).take 24).all (fun c => isCode c || c.before args0 about1) = true := by decide +kernel
set_option maxRecDepth 65536 in
theorem w_t4 : ((((words1.drop 24).drop 24).drop 24).take 24).all (fun c => isCode c || c.before args0 about1) = true := by decide +kernel
set_option maxRecDepth 65536 in
theorem w_t5 : ((((words1.drop 24).drop 24).drop 24).drop 24).all (fun c => isCode c || c.before args0 about1) = true := by decide +kernel
theorem w_tables : (allAtoms (Jvm.Cond.code x code maxLocals ret :: tables_1)).before args0 about1 = true := by
  rw [allAtoms_all]
  show words1.all (fun c => c.before args0 about1) = true
  refine all_split ?_ w_codes
  rw [← List.take_append_drop 24 words1, List.all_append, w_t1, ← List.take_append_drop 24 (words1.drop 24), List.all_append, w_t2, ← List.take_append_drop 24 ((words1.drop 24).drop 24), List.all_append, w_t3, ← List.take_append_drop 24 (((words1.drop 24).drop 24).drop 24), List.all_append, w_t4, w_t5]
  rfl
set_option maxRecDepth 65536 in
theorem w_case : (Jvm.Cond.and given_1 narrow_1).before args0 about1 = true := by decide +kernel
theorem w_applies : (headSpec (Jvm.Cond.code x code maxLocals ret :: tables_1) room_1).applies x e0.platform about1 = true :=
  (Spec.applies_iff w_frames).mpr ⟨w_running, w_runnable, w_alone, w_named, w_hears, w_ripe, w_room, w_tables⟩
theorem atStart : AtStart classFile x code maxLocals ret World_1 tables_1 room_1 Calls_1 rest_1 Pre_1 launch0 p0 e0 about1 theMethod args0 below0 :=
  ⟨lists_1, trivial, launch0.admits_env _ _ _, launch0.least_env, fairChoices_fair.cas, fairChoices_fair.clock, w_frames, w_args, w_heap, w_applies, trivial, trivial, w_case⟩
end start1
theorem witness_1 : WitnessClaimed_1 := ⟨start1.p0, start1.e0, start1.about1, start1.theMethod, start1.args0, start1.below0, start1.atStart⟩
end Jvm.Pilot.@@N@@
