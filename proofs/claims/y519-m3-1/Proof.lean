import JvmDerived
import JvmDerived.Pilot.@@N@@Statement
import JvmDerived.Pilot.@@N@@Code
set_option linter.unusedVariables false
set_option linter.unusedSimpArgs false
namespace Jvm.RoadKit
open Sem ClassFile Op Lib Jvm.Stand Jvm.Free Jvm.LawKit
section Own
variable {p : Program} {l : Launch} {e : Env} {R : Room} {s : State} {m : MethodId} {args : Array Value} {below : List Frame} {meth : Method} {c : Code} {T : State} {Z : State} {a0 : Array Value} {h : Heap} {cells slots n0 rc rs : Nat} {bytes : ByteArray} {own : String} {ret : Option FieldType} {maxL : Nat} {P : Option Value → Heap → Prop} {Ls : Array Slot} {pc pc' : Nat} {st : List Value} {Ed : Outcome → State → List Loc → Nat → Nat → Prop} {EL : List (String × Nat)}
def Cx (p : Program) (s : State) (m : MethodId) (meth : Method) (c : Code) (Z : State) (bytes : ByteArray) (own : String) (ret : Option FieldType) (maxL : Nat) : Prop :=
  p.tables.exec = Jvm.exec ∧ Z.Warmed39 s.vm ∧ c.code = bytes ∧ s.vm.findClass own = some m.cls ∧ c.maxLocals = maxL ∧ meth.locks = false ∧ meth.sig.returnType = ret
def On (p : Program) (l : Launch) (e : Env) (R : Room) (s : State) (m : MethodId) (args : Array Value) (below : List Frame) (meth : Method) (c : Code) (n0 : Nat) (T : State) (h : Heap) (cells slots : Nat) : Prop :=
  ∃ locs, Stand p l e R s m args below meth c T locs cells slots ∧ T.heap = h ∧ Fr n0 locs ∧ n0 ≤ h.size
def Go (p : Program) (e : Env) (below : List Frame) (E : Outcome → State → List Loc → Nat → Nat → Prop) (n0 rc rs : Nat) (P : Option Value → Heap → Prop) (T : State) (g : JFrame) : Prop :=
  ∃ s₂ o, Steps p.tables e below (T.setTop g) s₂ ∧ s₂.status = .running ∧ Ended s₂ below o ∧ ∃ v L, o = .returned v ∧ (P v s₂.heap ∧ Fr n0 L) ∧ E o s₂ L rc rs
def Con (l : Launch) (Z : State) (y : MethodName) (bytes : ByteArray) (maxL : Nat) (ret : Option FieldType) (rm : Room) (as' : Array Value) (h0 : Heap) (n0 : Nat) (P : Option Value → Heap → Prop) : Prop :=
  ∀ ws, MetFree l y (head1 (Cond.code y bytes maxL ret :: ws) rm) (fun a U => a = as' ∧ Z.Warmed39 U.vm ∧ U.heap = h0) (fun _ _ _ _ _ => True) (fun _ U o U' => ∃ v L, o = .returned v ∧ (P v U'.heap ∧ Fr n0 L) ∧ FrameEnd U o U' L rm.cells rm.slots)
theorem Go.of {T' : State} {g g' : JFrame} (st : ∀ t, Steps p.tables e below (T'.setTop g') t → Steps p.tables e below (T.setTop g) t) (k : Go p e below Ed n0 rc rs P T' g') : Go p e below Ed n0 rc rs P T g := by
  obtain ⟨s₂, o, h1, h2⟩ := k
  exact ⟨s₂, o, st _ h1, h2⟩
theorem Go.tr {T' : State} {g g' : JFrame} (st : Steps p.tables e below (T.setTop g) (T'.setTop g')) (k : Go p e below Ed n0 rc rs P T' g') : Go p e below Ed n0 rc rs P T g :=
  Go.of (fun _ q => st.trans q) k
theorem Go.imp {P' : Option Value → Heap → Prop} {g : JFrame} (k : Go p e below Ed n0 rc rs P' T g) (hi : ∀ v h, P' v h → P v h) : Go p e below Ed n0 rc rs P T g := by
  obtain ⟨s₂, o, h1, h2, h3, v, L, h4, ⟨h5, h6⟩, h7⟩ := k
  exact ⟨s₂, o, h1, h2, h3, v, L, h4, ⟨hi _ _ h5, h6⟩, h7⟩
theorem Con.enter {y : MethodName} {rm : Room} {as' : Array Value} {h0 : Heap} (hpl : plainFor y = true) (hz : n0 ≤ h0.size)
    (body : ∀ p e s m below meth c T, Cx p s m meth c Z bytes y.cls ret maxL → meth.name = y.name → On p l e rm s m as' below meth c n0 T h0 0 0 → Go p e below (FrameEnd s) n0 rm.cells rm.slots P T (entryFrame m as' maxL)) :
    Con l Z y bytes maxL ret rm as' h0 n0 P := by
  intro ws
  refine MetFree.of_bodySF hpl hisR ?_
  intro p e s m args below meth c s₁ Bd hml0 hP hK
  obtain ⟨rfl, hZ, hh⟩ := hP
  have X0 := Stand.of_body Bd
  have e0 : s₁.heap = h0 := by rw [← hh, Bd.state]; rfl
  exact body p e s m below meth c s₁ ⟨Bd.exec, hZ, Bd.bytes, findClass_of_methodNamed Bd.named, hml0, BodyLoose.notSynchronized Bd, Bd.returns⟩ (name_of_methodNamed Bd.named Bd.method).1 ⟨[], X0, e0, Fr.nil n0, hz⟩
theorem On.sz (X : On p l e R s m args below meth c n0 T h cells slots) : n0 ≤ h.size := X.elim fun _ q => q.2.2.2
theorem Go.cast {g g' : JFrame} (q : g = g') (k : Go p e below Ed n0 rc rs P T g') : Go p e below Ed n0 rc rs P T g := q ▸ k
theorem Con.back {y : MethodName} {rm : Room} {as' : Array Value} {W : Nat} {P' : Option Value → Heap → Prop} {cb : ByteArray} {cm : Nat} {cr : Option FieldType} (K : Con l Z y cb cm cr rm as' h n0 P') (hZ : Z.Warmed39 s.vm) (wc : (Cond.code y cb cm cr).before a0 Z = true) (wz : (Cond.initialized y.cls).before a0 Z = true) (hf : rm.frames + 1 ≤ R.frames) (hl : W + (cm + 11) + rm.locals ≤ R.locals) :
    Back l R p e below s args y 3 W (fun A a => a = as' ∧ A.U.heap = h ∧ A.cells + rm.cells ≤ R.cells ∧ A.slots + rm.slots ≤ R.slots)
      (fun A _ v B => ∃ L, (P' v B.U.heap ∧ Fr n0 L) ∧ B.locs = A.locs ++ L ∧ B.cells = A.cells + rm.cells ∧ B.slots = A.slots + rm.slots) :=
  backOf (Q := fun v h L => P' v h ∧ Fr n0 L) (K []) hZ wc wz hf hl
theorem Go.iadd (C : Cx p s m meth c Z bytes own ret maxL) (X : On p l e R s m args below meth c n0 T h cells slots) {x y : Int32} (hd : decode bytes pc = .ok (.iadd, 1))  (hp : pc + 1 = pc') (k : Go p e below Ed n0 rc rs P T (mkF m pc' Ls (.int (x + y) :: st))) : Go p e below Ed n0 rc rs P T (mkF m pc Ls (.int y :: .int x :: st)) := by
  obtain ⟨locs, X, eT, N, hn⟩ := X; obtain ⟨hx, hZ, hby, hown, hml, hlk, hrt⟩ := C
  subst hp; exact Go.of (fun t q => XS.iadd X.here hx rfl (hb hby hd) rfl q) k
theorem Go.isub (C : Cx p s m meth c Z bytes own ret maxL) (X : On p l e R s m args below meth c n0 T h cells slots) {x y : Int32} (hd : decode bytes pc = .ok (.isub, 1))  (hp : pc + 1 = pc') (k : Go p e below Ed n0 rc rs P T (mkF m pc' Ls (.int (x - y) :: st))) : Go p e below Ed n0 rc rs P T (mkF m pc Ls (.int y :: .int x :: st)) := by
  obtain ⟨locs, X, eT, N, hn⟩ := X; obtain ⟨hx, hZ, hby, hown, hml, hlk, hrt⟩ := C
  subst hp; exact Go.of (fun t q => XS.isub X.here hx rfl (hb hby hd) rfl q) k
theorem Go.imul (C : Cx p s m meth c Z bytes own ret maxL) (X : On p l e R s m args below meth c n0 T h cells slots) {x y : Int32} (hd : decode bytes pc = .ok (.imul, 1))  (hp : pc + 1 = pc') (k : Go p e below Ed n0 rc rs P T (mkF m pc' Ls (.int (x * y) :: st))) : Go p e below Ed n0 rc rs P T (mkF m pc Ls (.int y :: .int x :: st)) := by
  obtain ⟨locs, X, eT, N, hn⟩ := X; obtain ⟨hx, hZ, hby, hown, hml, hlk, hrt⟩ := C
  subst hp; exact Go.of (fun t q => XS.imul X.here hx rfl (hb hby hd) rfl q) k
theorem Go.iand (C : Cx p s m meth c Z bytes own ret maxL) (X : On p l e R s m args below meth c n0 T h cells slots) {x y : Int32} (hd : decode bytes pc = .ok (.iand, 1))  (hp : pc + 1 = pc') (k : Go p e below Ed n0 rc rs P T (mkF m pc' Ls (.int (x &&& y) :: st))) : Go p e below Ed n0 rc rs P T (mkF m pc Ls (.int y :: .int x :: st)) := by
  obtain ⟨locs, X, eT, N, hn⟩ := X; obtain ⟨hx, hZ, hby, hown, hml, hlk, hrt⟩ := C
  subst hp; exact Go.of (fun t q => XS.iand X.here hx rfl (hb hby hd) rfl q) k
theorem Go.ior (C : Cx p s m meth c Z bytes own ret maxL) (X : On p l e R s m args below meth c n0 T h cells slots) {x y : Int32} (hd : decode bytes pc = .ok (.ior, 1))  (hp : pc + 1 = pc') (k : Go p e below Ed n0 rc rs P T (mkF m pc' Ls (.int (x ||| y) :: st))) : Go p e below Ed n0 rc rs P T (mkF m pc Ls (.int y :: .int x :: st)) := by
  obtain ⟨locs, X, eT, N, hn⟩ := X; obtain ⟨hx, hZ, hby, hown, hml, hlk, hrt⟩ := C
  subst hp; exact Go.of (fun t q => XS.ior X.here hx rfl (hb hby hd) rfl q) k
theorem Go.ixor (C : Cx p s m meth c Z bytes own ret maxL) (X : On p l e R s m args below meth c n0 T h cells slots) {x y : Int32} (hd : decode bytes pc = .ok (.ixor, 1))  (hp : pc + 1 = pc') (k : Go p e below Ed n0 rc rs P T (mkF m pc' Ls (.int (x ^^^ y) :: st))) : Go p e below Ed n0 rc rs P T (mkF m pc Ls (.int y :: .int x :: st)) := by
  obtain ⟨locs, X, eT, N, hn⟩ := X; obtain ⟨hx, hZ, hby, hown, hml, hlk, hrt⟩ := C
  subst hp; exact Go.of (fun t q => XS.ixor X.here hx rfl (hb hby hd) rfl q) k
theorem Go.ishl (C : Cx p s m meth c Z bytes own ret maxL) (X : On p l e R s m args below meth c n0 T h cells slots) {x y : Int32} (hd : decode bytes pc = .ok (.ishl, 1))  (hp : pc + 1 = pc') (k : Go p e below Ed n0 rc rs P T (mkF m pc' Ls (.int (x <<< (y &&& 31)) :: st))) : Go p e below Ed n0 rc rs P T (mkF m pc Ls (.int y :: .int x :: st)) := by
  obtain ⟨locs, X, eT, N, hn⟩ := X; obtain ⟨hx, hZ, hby, hown, hml, hlk, hrt⟩ := C
  subst hp; exact Go.of (fun t q => XS.ishl X.here hx rfl (hb hby hd) rfl q) k
theorem Go.ishr (C : Cx p s m meth c Z bytes own ret maxL) (X : On p l e R s m args below meth c n0 T h cells slots) {x y : Int32} (hd : decode bytes pc = .ok (.ishr, 1))  (hp : pc + 1 = pc') (k : Go p e below Ed n0 rc rs P T (mkF m pc' Ls (.int (x >>> (y &&& 31)) :: st))) : Go p e below Ed n0 rc rs P T (mkF m pc Ls (.int y :: .int x :: st)) := by
  obtain ⟨locs, X, eT, N, hn⟩ := X; obtain ⟨hx, hZ, hby, hown, hml, hlk, hrt⟩ := C
  subst hp; exact Go.of (fun t q => XS.ishr X.here hx rfl (hb hby hd) rfl q) k
theorem Go.iushr (C : Cx p s m meth c Z bytes own ret maxL) (X : On p l e R s m args below meth c n0 T h cells slots) {x y : Int32} (hd : decode bytes pc = .ok (.iushr, 1))  (hp : pc + 1 = pc') (k : Go p e below Ed n0 rc rs P T (mkF m pc' Ls (.int ((x.toUInt32 >>> (y &&& 31).toUInt32).toInt32) :: st))) : Go p e below Ed n0 rc rs P T (mkF m pc Ls (.int y :: .int x :: st)) := by
  obtain ⟨locs, X, eT, N, hn⟩ := X; obtain ⟨hx, hZ, hby, hown, hml, hlk, hrt⟩ := C
  subst hp; exact Go.of (fun t q => XS.iushr X.here hx rfl (hb hby hd) rfl q) k
theorem Go.ladd (C : Cx p s m meth c Z bytes own ret maxL) (X : On p l e R s m args below meth c n0 T h cells slots) {x y : Int64} (hd : decode bytes pc = .ok (.ladd, 1))  (hp : pc + 1 = pc') (k : Go p e below Ed n0 rc rs P T (mkF m pc' Ls (.long (x + y) :: st))) : Go p e below Ed n0 rc rs P T (mkF m pc Ls (.long y :: .long x :: st)) := by
  obtain ⟨locs, X, eT, N, hn⟩ := X; obtain ⟨hx, hZ, hby, hown, hml, hlk, hrt⟩ := C
  subst hp; exact Go.of (fun t q => XS.ladd X.here hx rfl (hb hby hd) rfl q) k
theorem Go.lsub (C : Cx p s m meth c Z bytes own ret maxL) (X : On p l e R s m args below meth c n0 T h cells slots) {x y : Int64} (hd : decode bytes pc = .ok (.lsub, 1))  (hp : pc + 1 = pc') (k : Go p e below Ed n0 rc rs P T (mkF m pc' Ls (.long (x - y) :: st))) : Go p e below Ed n0 rc rs P T (mkF m pc Ls (.long y :: .long x :: st)) := by
  obtain ⟨locs, X, eT, N, hn⟩ := X; obtain ⟨hx, hZ, hby, hown, hml, hlk, hrt⟩ := C
  subst hp; exact Go.of (fun t q => XS.lsub X.here hx rfl (hb hby hd) rfl q) k
theorem Go.lmul (C : Cx p s m meth c Z bytes own ret maxL) (X : On p l e R s m args below meth c n0 T h cells slots) {x y : Int64} (hd : decode bytes pc = .ok (.lmul, 1))  (hp : pc + 1 = pc') (k : Go p e below Ed n0 rc rs P T (mkF m pc' Ls (.long (x * y) :: st))) : Go p e below Ed n0 rc rs P T (mkF m pc Ls (.long y :: .long x :: st)) := by
  obtain ⟨locs, X, eT, N, hn⟩ := X; obtain ⟨hx, hZ, hby, hown, hml, hlk, hrt⟩ := C
  subst hp; exact Go.of (fun t q => XS.lmul X.here hx rfl (hb hby hd) rfl q) k
theorem Go.land (C : Cx p s m meth c Z bytes own ret maxL) (X : On p l e R s m args below meth c n0 T h cells slots) {x y : Int64} (hd : decode bytes pc = .ok (.land, 1))  (hp : pc + 1 = pc') (k : Go p e below Ed n0 rc rs P T (mkF m pc' Ls (.long (x &&& y) :: st))) : Go p e below Ed n0 rc rs P T (mkF m pc Ls (.long y :: .long x :: st)) := by
  obtain ⟨locs, X, eT, N, hn⟩ := X; obtain ⟨hx, hZ, hby, hown, hml, hlk, hrt⟩ := C
  subst hp; exact Go.of (fun t q => XS.land X.here hx rfl (hb hby hd) rfl q) k
theorem Go.lor (C : Cx p s m meth c Z bytes own ret maxL) (X : On p l e R s m args below meth c n0 T h cells slots) {x y : Int64} (hd : decode bytes pc = .ok (.lor, 1))  (hp : pc + 1 = pc') (k : Go p e below Ed n0 rc rs P T (mkF m pc' Ls (.long (x ||| y) :: st))) : Go p e below Ed n0 rc rs P T (mkF m pc Ls (.long y :: .long x :: st)) := by
  obtain ⟨locs, X, eT, N, hn⟩ := X; obtain ⟨hx, hZ, hby, hown, hml, hlk, hrt⟩ := C
  subst hp; exact Go.of (fun t q => XS.lor X.here hx rfl (hb hby hd) rfl q) k
theorem Go.lxor (C : Cx p s m meth c Z bytes own ret maxL) (X : On p l e R s m args below meth c n0 T h cells slots) {x y : Int64} (hd : decode bytes pc = .ok (.lxor, 1))  (hp : pc + 1 = pc') (k : Go p e below Ed n0 rc rs P T (mkF m pc' Ls (.long (x ^^^ y) :: st))) : Go p e below Ed n0 rc rs P T (mkF m pc Ls (.long y :: .long x :: st)) := by
  obtain ⟨locs, X, eT, N, hn⟩ := X; obtain ⟨hx, hZ, hby, hown, hml, hlk, hrt⟩ := C
  subst hp; exact Go.of (fun t q => XS.lxor X.here hx rfl (hb hby hd) rfl q) k
theorem Go.lshl (C : Cx p s m meth c Z bytes own ret maxL) (X : On p l e R s m args below meth c n0 T h cells slots) {x : Int64} {y : Int32} (hd : decode bytes pc = .ok (.lshl, 1))  (hp : pc + 1 = pc') (k : Go p e below Ed n0 rc rs P T (mkF m pc' Ls (.long (x <<< (y &&& 0x3f).toInt64) :: st))) : Go p e below Ed n0 rc rs P T (mkF m pc Ls (.int y :: .long x :: st)) := by
  obtain ⟨locs, X, eT, N, hn⟩ := X; obtain ⟨hx, hZ, hby, hown, hml, hlk, hrt⟩ := C
  subst hp; exact Go.of (fun t q => XS.lshl X.here hx rfl (hb hby hd) rfl q) k
theorem Go.lshr (C : Cx p s m meth c Z bytes own ret maxL) (X : On p l e R s m args below meth c n0 T h cells slots) {x : Int64} {y : Int32} (hd : decode bytes pc = .ok (.lshr, 1))  (hp : pc + 1 = pc') (k : Go p e below Ed n0 rc rs P T (mkF m pc' Ls (.long (x >>> (y &&& 0x3f).toInt64) :: st))) : Go p e below Ed n0 rc rs P T (mkF m pc Ls (.int y :: .long x :: st)) := by
  obtain ⟨locs, X, eT, N, hn⟩ := X; obtain ⟨hx, hZ, hby, hown, hml, hlk, hrt⟩ := C
  subst hp; exact Go.of (fun t q => XS.lshr X.here hx rfl (hb hby hd) rfl q) k
theorem Go.lushr (C : Cx p s m meth c Z bytes own ret maxL) (X : On p l e R s m args below meth c n0 T h cells slots) {x : Int64} {y : Int32} (hd : decode bytes pc = .ok (.lushr, 1))  (hp : pc + 1 = pc') (k : Go p e below Ed n0 rc rs P T (mkF m pc' Ls (.long ((x.toUInt64 >>> (y &&& 0x3f).toInt64.toUInt64).toInt64) :: st))) : Go p e below Ed n0 rc rs P T (mkF m pc Ls (.int y :: .long x :: st)) := by
  obtain ⟨locs, X, eT, N, hn⟩ := X; obtain ⟨hx, hZ, hby, hown, hml, hlk, hrt⟩ := C
  subst hp; exact Go.of (fun t q => XS.lushr X.here hx rfl (hb hby hd) rfl q) k
theorem Go.i2l (C : Cx p s m meth c Z bytes own ret maxL) (X : On p l e R s m args below meth c n0 T h cells slots) {x : Int32} (hd : decode bytes pc = .ok (.i2l, 1))  (hp : pc + 1 = pc') (k : Go p e below Ed n0 rc rs P T (mkF m pc' Ls (.long (x.toInt64) :: st))) : Go p e below Ed n0 rc rs P T (mkF m pc Ls (.int x :: st)) := by
  obtain ⟨locs, X, eT, N, hn⟩ := X; obtain ⟨hx, hZ, hby, hown, hml, hlk, hrt⟩ := C
  subst hp; exact Go.of (fun t q => XS.i2l X.here hx rfl (hb hby hd) rfl q) k
theorem Go.l2i (C : Cx p s m meth c Z bytes own ret maxL) (X : On p l e R s m args below meth c n0 T h cells slots) {x : Int64} (hd : decode bytes pc = .ok (.l2i, 1))  (hp : pc + 1 = pc') (k : Go p e below Ed n0 rc rs P T (mkF m pc' Ls (.int (x.toInt32) :: st))) : Go p e below Ed n0 rc rs P T (mkF m pc Ls (.long x :: st)) := by
  obtain ⟨locs, X, eT, N, hn⟩ := X; obtain ⟨hx, hZ, hby, hown, hml, hlk, hrt⟩ := C
  subst hp; exact Go.of (fun t q => XS.l2i X.here hx rfl (hb hby hd) rfl q) k
theorem Go.i2b (C : Cx p s m meth c Z bytes own ret maxL) (X : On p l e R s m args below meth c n0 T h cells slots) {x : Int32} (hd : decode bytes pc = .ok (.i2b, 1))  (hp : pc + 1 = pc') (k : Go p e below Ed n0 rc rs P T (mkF m pc' Ls (.int (x.toInt8.toInt32) :: st))) : Go p e below Ed n0 rc rs P T (mkF m pc Ls (.int x :: st)) := by
  obtain ⟨locs, X, eT, N, hn⟩ := X; obtain ⟨hx, hZ, hby, hown, hml, hlk, hrt⟩ := C
  subst hp; exact Go.of (fun t q => XS.i2b X.here hx rfl (hb hby hd) rfl q) k
theorem Go.i2s (C : Cx p s m meth c Z bytes own ret maxL) (X : On p l e R s m args below meth c n0 T h cells slots) {x : Int32} (hd : decode bytes pc = .ok (.i2s, 1))  (hp : pc + 1 = pc') (k : Go p e below Ed n0 rc rs P T (mkF m pc' Ls (.int (x.toInt16.toInt32) :: st))) : Go p e below Ed n0 rc rs P T (mkF m pc Ls (.int x :: st)) := by
  obtain ⟨locs, X, eT, N, hn⟩ := X; obtain ⟨hx, hZ, hby, hown, hml, hlk, hrt⟩ := C
  subst hp; exact Go.of (fun t q => XS.i2s X.here hx rfl (hb hby hd) rfl q) k
theorem Go.i2c (C : Cx p s m meth c Z bytes own ret maxL) (X : On p l e R s m args below meth c n0 T h cells slots) {x : Int32} (hd : decode bytes pc = .ok (.i2c, 1))  (hp : pc + 1 = pc') (k : Go p e below Ed n0 rc rs P T (mkF m pc' Ls (.int (x.toUInt32.toUInt16.toUInt32.toInt32) :: st))) : Go p e below Ed n0 rc rs P T (mkF m pc Ls (.int x :: st)) := by
  obtain ⟨locs, X, eT, N, hn⟩ := X; obtain ⟨hx, hZ, hby, hown, hml, hlk, hrt⟩ := C
  subst hp; exact Go.of (fun t q => XS.i2c X.here hx rfl (hb hby hd) rfl q) k
theorem Go.lneg (C : Cx p s m meth c Z bytes own ret maxL) (X : On p l e R s m args below meth c n0 T h cells slots) {x : Int64} (hd : decode bytes pc = .ok (.lneg, 1))  (hp : pc + 1 = pc') (k : Go p e below Ed n0 rc rs P T (mkF m pc' Ls (.long (-x) :: st))) : Go p e below Ed n0 rc rs P T (mkF m pc Ls (.long x :: st)) := by
  obtain ⟨locs, X, eT, N, hn⟩ := X; obtain ⟨hx, hZ, hby, hown, hml, hlk, hrt⟩ := C
  subst hp; exact Go.of (fun t q => XS.lneg X.here hx rfl (hb hby hd) rfl q) k
theorem Go.ineg (C : Cx p s m meth c Z bytes own ret maxL) (X : On p l e R s m args below meth c n0 T h cells slots) {x : Int32} (hd : decode bytes pc = .ok (.ineg, 1))  (hp : pc + 1 = pc') (k : Go p e below Ed n0 rc rs P T (mkF m pc' Ls (.int (-x) :: st))) : Go p e below Ed n0 rc rs P T (mkF m pc Ls (.int x :: st)) := by
  obtain ⟨locs, X, eT, N, hn⟩ := X; obtain ⟨hx, hZ, hby, hown, hml, hlk, hrt⟩ := C
  subst hp; exact Go.of (fun t q => XS.ineg X.here hx rfl (hb hby hd) rfl q) k
theorem Go.idiv (C : Cx p s m meth c Z bytes own ret maxL) (X : On p l e R s m args below meth c n0 T h cells slots) {x y : Int32} (hd : decode bytes pc = .ok (.idiv, 1)) (hy : y ≠ 0) (hp : pc + 1 = pc') (k : Go p e below Ed n0 rc rs P T (mkF m pc' Ls (.int (x / y) :: st))) : Go p e below Ed n0 rc rs P T (mkF m pc Ls (.int y :: .int x :: st)) := by
  obtain ⟨locs, X, eT, N, hn⟩ := X; obtain ⟨hx, hZ, hby, hown, hml, hlk, hrt⟩ := C
  subst hp; exact Go.of (fun t q => XS.idiv X.here hx rfl (hb hby hd) rfl hy q) k
theorem Go.ldiv (C : Cx p s m meth c Z bytes own ret maxL) (X : On p l e R s m args below meth c n0 T h cells slots) {x y : Int64} (hd : decode bytes pc = .ok (.ldiv, 1)) (hy : y ≠ 0) (hp : pc + 1 = pc') (k : Go p e below Ed n0 rc rs P T (mkF m pc' Ls (.long (x / y) :: st))) : Go p e below Ed n0 rc rs P T (mkF m pc Ls (.long y :: .long x :: st)) := by
  obtain ⟨locs, X, eT, N, hn⟩ := X; obtain ⟨hx, hZ, hby, hown, hml, hlk, hrt⟩ := C
  subst hp; exact Go.of (fun t q => XS.ldiv X.here hx rfl (hb hby hd) rfl hy q) k
theorem Go.irem (C : Cx p s m meth c Z bytes own ret maxL) (X : On p l e R s m args below meth c n0 T h cells slots) {x y : Int32} (hd : decode bytes pc = .ok (.irem, 1)) (hy : y ≠ 0) (hp : pc + 1 = pc') (k : Go p e below Ed n0 rc rs P T (mkF m pc' Ls (.int (x % y) :: st))) : Go p e below Ed n0 rc rs P T (mkF m pc Ls (.int y :: .int x :: st)) := by
  obtain ⟨locs, X, eT, N, hn⟩ := X; obtain ⟨hx, hZ, hby, hown, hml, hlk, hrt⟩ := C
  subst hp; exact Go.of (fun t q => iremM X hx rfl (hb hby hd) rfl hy q) k
theorem Go.lrem (C : Cx p s m meth c Z bytes own ret maxL) (X : On p l e R s m args below meth c n0 T h cells slots) {x y : Int64} (hd : decode bytes pc = .ok (.lrem, 1)) (hy : y ≠ 0) (hp : pc + 1 = pc') (k : Go p e below Ed n0 rc rs P T (mkF m pc' Ls (.long (x % y) :: st))) : Go p e below Ed n0 rc rs P T (mkF m pc Ls (.long y :: .long x :: st)) := by
  obtain ⟨locs, X, eT, N, hn⟩ := X; obtain ⟨hx, hZ, hby, hown, hml, hlk, hrt⟩ := C
  subst hp; rw [← lrem_mod] at k; exact Go.of (fun t q => XS.lrem X.here hx rfl (hb hby hd) rfl hy q) k
theorem Go.lcmp (C : Cx p s m meth c Z bytes own ret maxL) (X : On p l e R s m args below meth c n0 T h cells slots) {x y : Int64} (hd : decode bytes pc = .ok (.lcmp, 1))  (hp : pc + 1 = pc') (k : Go p e below Ed n0 rc rs P T (mkF m pc' Ls (.int (lcmpW x y) :: st))) : Go p e below Ed n0 rc rs P T (mkF m pc Ls (.long y :: .long x :: st)) := by
  obtain ⟨locs, X, eT, N, hn⟩ := X; obtain ⟨hx, hZ, hby, hown, hml, hlk, hrt⟩ := C
  subst hp; exact Go.of (fun t q => XS.lcmp X.here hx rfl (hb hby hd) rfl q) k
theorem Go.dup (C : Cx p s m meth c Z bytes own ret maxL) (X : On p l e R s m args below meth c n0 T h cells slots) {v : Value} (hd : decode bytes pc = .ok (.dup, 1)) (hc : v.category = 1) (hp : pc + 1 = pc') (k : Go p e below Ed n0 rc rs P T (mkF m pc' Ls (v :: v :: st))) : Go p e below Ed n0 rc rs P T (mkF m pc Ls (v :: st)) := by
  obtain ⟨locs, X, eT, N, hn⟩ := X; obtain ⟨hx, hZ, hby, hown, hml, hlk, hrt⟩ := C
  subst hp; exact Go.of (fun t q => XS.dup X.here hx rfl (hb hby hd) rfl hc q) k
theorem Go.pop (C : Cx p s m meth c Z bytes own ret maxL) (X : On p l e R s m args below meth c n0 T h cells slots) {v : Value} (hd : decode bytes pc = .ok (.pop, 1)) (hc : v.category = 1) (hp : pc + 1 = pc') (k : Go p e below Ed n0 rc rs P T (mkF m pc' Ls st)) : Go p e below Ed n0 rc rs P T (mkF m pc Ls (v :: st)) := by
  obtain ⟨locs, X, eT, N, hn⟩ := X; obtain ⟨hx, hZ, hby, hown, hml, hlk, hrt⟩ := C
  subst hp; exact Go.of (fun t q => XS.pop X.here hx rfl (hb hby hd) rfl hc q) k
theorem Go.dup_x1 (C : Cx p s m meth c Z bytes own ret maxL) (X : On p l e R s m args below meth c n0 T h cells slots) {v u : Value} (hd : decode bytes pc = .ok (.dup_x1, 1)) (hc : v.category = 1) (hc2 : u.category = 1) (hp : pc + 1 = pc') (k : Go p e below Ed n0 rc rs P T (mkF m pc' Ls (v :: u :: v :: st))) : Go p e below Ed n0 rc rs P T (mkF m pc Ls (v :: u :: st)) := by
  obtain ⟨locs, X, eT, N, hn⟩ := X; obtain ⟨hx, hZ, hby, hown, hml, hlk, hrt⟩ := C
  subst hp; exact Go.of (fun t q => XS.dupX1 X.here hx rfl (hb hby hd) rfl hc hc2 q) k
theorem Go.dup2 (C : Cx p s m meth c Z bytes own ret maxL) (X : On p l e R s m args below meth c n0 T h cells slots) {v u : Value} (hd : decode bytes pc = .ok (.dup2, 1)) (hc : v.category = 1) (hc2 : u.category = 1) (hp : pc + 1 = pc') (k : Go p e below Ed n0 rc rs P T (mkF m pc' Ls (v :: u :: v :: u :: st))) : Go p e below Ed n0 rc rs P T (mkF m pc Ls (v :: u :: st)) := by
  obtain ⟨locs, X, eT, N, hn⟩ := X; obtain ⟨hx, hZ, hby, hown, hml, hlk, hrt⟩ := C
  subst hp; exact Go.of (fun t q => Jvm.Free.XT.dup2 X.here hx rfl (hb hby hd) rfl hc hc2 q) k
theorem Go.dup2L (C : Cx p s m meth c Z bytes own ret maxL) (X : On p l e R s m args below meth c n0 T h cells slots) {x : Int64} (hd : decode bytes pc = .ok (.dup2, 1))  (hp : pc + 1 = pc') (k : Go p e below Ed n0 rc rs P T (mkF m pc' Ls (.long x :: .long x :: st))) : Go p e below Ed n0 rc rs P T (mkF m pc Ls (.long x :: st)) := by
  obtain ⟨locs, X, eT, N, hn⟩ := X; obtain ⟨hx, hZ, hby, hown, hml, hlk, hrt⟩ := C
  subst hp; exact Go.of (fun t q => Jvm.Free.XT.dup2L X.here hx rfl (hb hby hd) rfl q) k
theorem Go.iconst (C : Cx p s m meth c Z bytes own ret maxL) (X : On p l e R s m args below meth c n0 T h cells slots) {i : Int} {v : Int32} (hd : decode bytes pc = .ok (.iconst i, 1)) (hv : Int32.ofInt i = v) (hp : pc + 1 = pc') (k : Go p e below Ed n0 rc rs P T (mkF m pc' Ls (.int v :: st))) : Go p e below Ed n0 rc rs P T (mkF m pc Ls st) := by
  obtain ⟨locs, X, eT, N, hn⟩ := X; obtain ⟨hx, hZ, hby, hown, hml, hlk, hrt⟩ := C
  subst hp hv; exact Go.of (fun t q => XS.iconst X.here hx rfl (hb hby hd) q) k
theorem Go.bipush (C : Cx p s m meth c Z bytes own ret maxL) (X : On p l e R s m args below meth c n0 T h cells slots) {i : Int} {v : Int32} (hd : decode bytes pc = .ok (.bipush i, 2)) (hv : (Int8.ofInt i).toInt32 = v) (hp : pc + 2 = pc') (k : Go p e below Ed n0 rc rs P T (mkF m pc' Ls (.int v :: st))) : Go p e below Ed n0 rc rs P T (mkF m pc Ls st) := by
  obtain ⟨locs, X, eT, N, hn⟩ := X; obtain ⟨hx, hZ, hby, hown, hml, hlk, hrt⟩ := C
  subst hp hv; exact Go.of (fun t q => XS.bipush X.here hx rfl (hb hby hd) q) k
theorem Go.sipush (C : Cx p s m meth c Z bytes own ret maxL) (X : On p l e R s m args below meth c n0 T h cells slots) {i : Int} {v : Int32} (hd : decode bytes pc = .ok (.sipush i, 3)) (hv : (Int16.ofInt i).toInt32 = v) (hp : pc + 3 = pc') (k : Go p e below Ed n0 rc rs P T (mkF m pc' Ls (.int v :: st))) : Go p e below Ed n0 rc rs P T (mkF m pc Ls st) := by
  obtain ⟨locs, X, eT, N, hn⟩ := X; obtain ⟨hx, hZ, hby, hown, hml, hlk, hrt⟩ := C
  subst hp hv; exact Go.of (fun t q => XS.sipush X.here hx rfl (hb hby hd) q) k
theorem Go.lconst (C : Cx p s m meth c Z bytes own ret maxL) (X : On p l e R s m args below meth c n0 T h cells slots) {i : Fin 2} {v : Int64} (hd : decode bytes pc = .ok (.lconst i, 1)) (hv : Int64.ofNat i = v) (hp : pc + 1 = pc') (k : Go p e below Ed n0 rc rs P T (mkF m pc' Ls (.long v :: st))) : Go p e below Ed n0 rc rs P T (mkF m pc Ls st) := by
  obtain ⟨locs, X, eT, N, hn⟩ := X; obtain ⟨hx, hZ, hby, hown, hml, hlk, hrt⟩ := C
  subst hp hv; exact Go.of (fun t q => XS.lconst X.here hx rfl (hb hby hd) q) k
theorem Go.aconst_null (C : Cx p s m meth c Z bytes own ret maxL) (X : On p l e R s m args below meth c n0 T h cells slots)  (hd : decode bytes pc = .ok (.aconst_null, 1))  (hp : pc + 1 = pc') (k : Go p e below Ed n0 rc rs P T (mkF m pc' Ls (.null :: st))) : Go p e below Ed n0 rc rs P T (mkF m pc Ls st) := by
  obtain ⟨locs, X, eT, N, hn⟩ := X; obtain ⟨hx, hZ, hby, hown, hml, hlk, hrt⟩ := C
  subst hp; exact Go.of (fun t q => XS.aconstNull X.here hx rfl (hb hby hd)  q) k
theorem Go.ldc (C : Cx p s m meth c Z bytes own ret maxL) (X : On p l e R s m args below meth c n0 T h cells slots) {i : Nat} {v : Int32} (hc : (Cond.constant own i v).before a0 Z = true) (hd : decode bytes pc = .ok (.ldc i, 2)) (hp : pc + 2 = pc') (k : Go p e below Ed n0 rc rs P T (mkF m pc' Ls (.int v :: st))) : Go p e below Ed n0 rc rs P T (mkF m pc Ls st) := by
  obtain ⟨locs, X, eT, N, hn⟩ := X; obtain ⟨hx, hZ, hby, hown, hml, hlk, hrt⟩ := C
  subst hp; exact Go.of (X.ldcInt hx hown (mvT hZ hc) (g := mkF m pc Ls st) rfl (hb hby hd)) k
theorem Go.ldc2 (C : Cx p s m meth c Z bytes own ret maxL) (X : On p l e R s m args below meth c n0 T h cells slots) {i : Nat} {v : Int64} (hc : (Cond.constantLong own i v).before a0 Z = true) (hd : decode bytes pc = .ok (.ldc2_w i, 3)) (hp : pc + 3 = pc') (k : Go p e below Ed n0 rc rs P T (mkF m pc' Ls (.long v :: st))) : Go p e below Ed n0 rc rs P T (mkF m pc Ls st) := by
  obtain ⟨locs, X, eT, N, hn⟩ := X; obtain ⟨hx, hZ, hby, hown, hml, hlk, hrt⟩ := C
  subst hp; exact Go.of (X.ldc2Long hx hown (mvT hZ hc) (g := mkF m pc Ls st) rfl (hb hby hd)) k
theorem Go.iload (C : Cx p s m meth c Z bytes own ret maxL) (X : On p l e R s m args below meth c n0 T h cells slots) {i : Nat} {v : Int32} (hd : decode bytes pc = .ok (.iload i, 2)) (hl : Ls[i]? = some (.val (.int v))) (hp : pc + 2 = pc') (k : Go p e below Ed n0 rc rs P T (mkF m pc' Ls (.int v :: st))) : Go p e below Ed n0 rc rs P T (mkF m pc Ls st) := by
  obtain ⟨locs, X, eT, N, hn⟩ := X; obtain ⟨hx, hZ, hby, hown, hml, hlk, hrt⟩ := C
  subst hp; exact Go.of (fun t q => XS.iload X.here hx rfl (hb hby hd) hl q) k
theorem Go.iloadN (C : Cx p s m meth c Z bytes own ret maxL) (X : On p l e R s m args below meth c n0 T h cells slots) {i : Fin 4} {v : Int32} (hd : decode bytes pc = .ok (.iload_n i, 1)) (hl : Ls[i.val]? = some (.val (.int v))) (hp : pc + 1 = pc') (k : Go p e below Ed n0 rc rs P T (mkF m pc' Ls (.int v :: st))) : Go p e below Ed n0 rc rs P T (mkF m pc Ls st) := by
  obtain ⟨locs, X, eT, N, hn⟩ := X; obtain ⟨hx, hZ, hby, hown, hml, hlk, hrt⟩ := C
  subst hp; exact Go.of (fun t q => XS.iloadN X.here hx rfl (hb hby hd) hl q) k
theorem Go.istore (C : Cx p s m meth c Z bytes own ret maxL) (X : On p l e R s m args below meth c n0 T h cells slots) {i : Nat} {v : Int32} {Ls' : Array Slot} (hd : decode bytes pc = .ok (.istore i, 2)) (hl : storeLocals Ls i (.int v) = some Ls') (hp : pc + 2 = pc') (k : Go p e below Ed n0 rc rs P T (mkF m pc' Ls' st)) : Go p e below Ed n0 rc rs P T (mkF m pc Ls (.int v :: st)) := by
  obtain ⟨locs, X, eT, N, hn⟩ := X; obtain ⟨hx, hZ, hby, hown, hml, hlk, hrt⟩ := C
  subst hp; exact Go.of (fun t q => XS.istore X.here hx rfl (hb hby hd) rfl hl q) k
theorem Go.istoreN (C : Cx p s m meth c Z bytes own ret maxL) (X : On p l e R s m args below meth c n0 T h cells slots) {i : Fin 4} {v : Int32} {Ls' : Array Slot} (hd : decode bytes pc = .ok (.istore_n i, 1)) (hl : storeLocals Ls i.val (.int v) = some Ls') (hp : pc + 1 = pc') (k : Go p e below Ed n0 rc rs P T (mkF m pc' Ls' st)) : Go p e below Ed n0 rc rs P T (mkF m pc Ls (.int v :: st)) := by
  obtain ⟨locs, X, eT, N, hn⟩ := X; obtain ⟨hx, hZ, hby, hown, hml, hlk, hrt⟩ := C
  subst hp; exact Go.of (fun t q => XS.istoreN X.here hx rfl (hb hby hd) rfl hl q) k
theorem Go.lload (C : Cx p s m meth c Z bytes own ret maxL) (X : On p l e R s m args below meth c n0 T h cells slots) {i : Nat} {v : Int64} (hd : decode bytes pc = .ok (.lload i, 2)) (hl : Ls[i]? = some (.val (.long v))) (hp : pc + 2 = pc') (k : Go p e below Ed n0 rc rs P T (mkF m pc' Ls (.long v :: st))) : Go p e below Ed n0 rc rs P T (mkF m pc Ls st) := by
  obtain ⟨locs, X, eT, N, hn⟩ := X; obtain ⟨hx, hZ, hby, hown, hml, hlk, hrt⟩ := C
  subst hp; exact Go.of (fun t q => XS.lload X.here hx rfl (hb hby hd) hl q) k
theorem Go.lloadN (C : Cx p s m meth c Z bytes own ret maxL) (X : On p l e R s m args below meth c n0 T h cells slots) {i : Fin 4} {v : Int64} (hd : decode bytes pc = .ok (.lload_n i, 1)) (hl : Ls[i.val]? = some (.val (.long v))) (hp : pc + 1 = pc') (k : Go p e below Ed n0 rc rs P T (mkF m pc' Ls (.long v :: st))) : Go p e below Ed n0 rc rs P T (mkF m pc Ls st) := by
  obtain ⟨locs, X, eT, N, hn⟩ := X; obtain ⟨hx, hZ, hby, hown, hml, hlk, hrt⟩ := C
  subst hp; exact Go.of (fun t q => XS.lloadN X.here hx rfl (hb hby hd) hl q) k
theorem Go.lstore (C : Cx p s m meth c Z bytes own ret maxL) (X : On p l e R s m args below meth c n0 T h cells slots) {i : Nat} {v : Int64} {Ls' : Array Slot} (hd : decode bytes pc = .ok (.lstore i, 2)) (hl : storeLocals Ls i (.long v) = some Ls') (hp : pc + 2 = pc') (k : Go p e below Ed n0 rc rs P T (mkF m pc' Ls' st)) : Go p e below Ed n0 rc rs P T (mkF m pc Ls (.long v :: st)) := by
  obtain ⟨locs, X, eT, N, hn⟩ := X; obtain ⟨hx, hZ, hby, hown, hml, hlk, hrt⟩ := C
  subst hp; exact Go.of (fun t q => XS.lstore X.here hx rfl (hb hby hd) rfl hl q) k
theorem Go.lstoreN (C : Cx p s m meth c Z bytes own ret maxL) (X : On p l e R s m args below meth c n0 T h cells slots) {i : Fin 4} {v : Int64} {Ls' : Array Slot} (hd : decode bytes pc = .ok (.lstore_n i, 1)) (hl : storeLocals Ls i.val (.long v) = some Ls') (hp : pc + 1 = pc') (k : Go p e below Ed n0 rc rs P T (mkF m pc' Ls' st)) : Go p e below Ed n0 rc rs P T (mkF m pc Ls (.long v :: st)) := by
  obtain ⟨locs, X, eT, N, hn⟩ := X; obtain ⟨hx, hZ, hby, hown, hml, hlk, hrt⟩ := C
  subst hp; exact Go.of (fun t q => XS.lstoreN X.here hx rfl (hb hby hd) rfl hl q) k
theorem Go.aload (C : Cx p s m meth c Z bytes own ret maxL) (X : On p l e R s m args below meth c n0 T h cells slots) {i : Nat} {v : Value} (hd : decode bytes pc = .ok (.aload i, 2)) (hl : Ls[i]? = some (.val v)) (hv : v.isRef = true) (hp : pc + 2 = pc') (k : Go p e below Ed n0 rc rs P T (mkF m pc' Ls (v :: st))) : Go p e below Ed n0 rc rs P T (mkF m pc Ls st) := by
  obtain ⟨locs, X, eT, N, hn⟩ := X; obtain ⟨hx, hZ, hby, hown, hml, hlk, hrt⟩ := C
  subst hp; exact Go.of (fun t q => XS.aload X.here hx rfl (hb hby hd) hl hv q) k
theorem Go.aloadN (C : Cx p s m meth c Z bytes own ret maxL) (X : On p l e R s m args below meth c n0 T h cells slots) {i : Fin 4} {v : Value} (hd : decode bytes pc = .ok (.aload_n i, 1)) (hl : Ls[i.val]? = some (.val v)) (hv : v.isRef = true) (hp : pc + 1 = pc') (k : Go p e below Ed n0 rc rs P T (mkF m pc' Ls (v :: st))) : Go p e below Ed n0 rc rs P T (mkF m pc Ls st) := by
  obtain ⟨locs, X, eT, N, hn⟩ := X; obtain ⟨hx, hZ, hby, hown, hml, hlk, hrt⟩ := C
  subst hp; exact Go.of (fun t q => XS.aloadN X.here hx rfl (hb hby hd) hl hv q) k
theorem Go.astore (C : Cx p s m meth c Z bytes own ret maxL) (X : On p l e R s m args below meth c n0 T h cells slots) {i : Nat} {v : Value} {Ls' : Array Slot} (hd : decode bytes pc = .ok (.astore i, 2)) (hv : v.isRef = true) (hl : storeLocals Ls i v = some Ls') (hp : pc + 2 = pc') (k : Go p e below Ed n0 rc rs P T (mkF m pc' Ls' st)) : Go p e below Ed n0 rc rs P T (mkF m pc Ls (v :: st)) := by
  obtain ⟨locs, X, eT, N, hn⟩ := X; obtain ⟨hx, hZ, hby, hown, hml, hlk, hrt⟩ := C
  subst hp; exact Go.of (fun t q => XS.astore X.here hx rfl (hb hby hd) rfl hv hl q) k
theorem Go.astoreN (C : Cx p s m meth c Z bytes own ret maxL) (X : On p l e R s m args below meth c n0 T h cells slots) {i : Fin 4} {v : Value} {Ls' : Array Slot} (hd : decode bytes pc = .ok (.astore_n i, 1)) (hv : v.isRef = true) (hl : storeLocals Ls i.val v = some Ls') (hp : pc + 1 = pc') (k : Go p e below Ed n0 rc rs P T (mkF m pc' Ls' st)) : Go p e below Ed n0 rc rs P T (mkF m pc Ls (v :: st)) := by
  obtain ⟨locs, X, eT, N, hn⟩ := X; obtain ⟨hx, hZ, hby, hown, hml, hlk, hrt⟩ := C
  subst hp; exact Go.of (fun t q => XS.astoreN X.here hx rfl (hb hby hd) rfl hv hl q) k
theorem Go.iinc (C : Cx p s m meth c Z bytes own ret maxL) (X : On p l e R s m args below meth c n0 T h cells slots) {i : Nat} {d : Int} {v v' : Int32} {Ls' : Array Slot} (hd : decode bytes pc = .ok (.iinc i d, 3)) (hl : Ls[i]? = some (.val (.int v))) (hv : v + Int32.ofInt d = v') (hl' : storeLocals Ls i (.int v') = some Ls') (hp : pc + 3 = pc') (k : Go p e below Ed n0 rc rs P T (mkF m pc' Ls' st)) : Go p e below Ed n0 rc rs P T (mkF m pc Ls st) := by
  obtain ⟨locs, X, eT, N, hn⟩ := X; obtain ⟨hx, hZ, hby, hown, hml, hlk, hrt⟩ := C
  subst hp hv; exact Go.of (fun t q => XS.iinc X.here hx rfl (hb hby hd) hl hl' q) k
theorem Go.goto (C : Cx p s m meth c Z bytes own ret maxL) (X : On p l e R s m args below meth c n0 T h cells slots) {o : Int} (hd : decode bytes pc = .ok (.goto o, 3)) (ho : 0 ≤ (pc : Int) + o) (hp : ((pc : Int) + o).toNat = pc') (k : Go p e below Ed n0 rc rs P T (mkF m pc' Ls st)) : Go p e below Ed n0 rc rs P T (mkF m pc Ls st) := by
  obtain ⟨locs, X, eT, N, hn⟩ := X; obtain ⟨hx, hZ, hby, hown, hml, hlk, hrt⟩ := C
  exact Go.of (fun t q => XS.goto X.here hx rfl (pc0 := pc) rfl (hb hby hd) ho hp q) k
theorem Go.ifYes (C : Cx p s m meth c Z bytes own ret maxL) (X : On p l e R s m args below meth c n0 T h cells slots) {o : Int} {cd : ClassFile.Cond} {x : Int32} (hd : decode bytes pc = .ok (.ifCond cd o, 3)) (hc : ifCond.holds cd x = true) (ho : 0 ≤ (pc : Int) + o) (hp : ((pc : Int) + o).toNat = pc') (k : Go p e below Ed n0 rc rs P T (mkF m pc' Ls st)) : Go p e below Ed n0 rc rs P T (mkF m pc Ls (.int x :: st)) := by
  obtain ⟨locs, X, eT, N, hn⟩ := X; obtain ⟨hx, hZ, hby, hown, hml, hlk, hrt⟩ := C
  exact Go.of (fun t q => XS.ifYes X.here hx rfl (pc0 := pc) rfl (hb hby hd) rfl hc ho hp q) k
theorem Go.ifNo (C : Cx p s m meth c Z bytes own ret maxL) (X : On p l e R s m args below meth c n0 T h cells slots) {o : Int} {cd : ClassFile.Cond} {x : Int32} (hd : decode bytes pc = .ok (.ifCond cd o, 3)) (hc : ifCond.holds cd x = false) (hp : pc + 3 = pc') (k : Go p e below Ed n0 rc rs P T (mkF m pc' Ls st)) : Go p e below Ed n0 rc rs P T (mkF m pc Ls (.int x :: st)) := by
  obtain ⟨locs, X, eT, N, hn⟩ := X; obtain ⟨hx, hZ, hby, hown, hml, hlk, hrt⟩ := C
  subst hp; exact Go.of (fun t q => XS.ifNo X.here hx rfl (hb hby hd) rfl hc q) k
theorem Go.icmpYes (C : Cx p s m meth c Z bytes own ret maxL) (X : On p l e R s m args below meth c n0 T h cells slots) {o : Int} {cd : ClassFile.Cond} {x y : Int32} (hd : decode bytes pc = .ok (.if_icmp cd o, 3)) (hc : if_icmp.holds cd x y = true) (ho : 0 ≤ (pc : Int) + o) (hp : ((pc : Int) + o).toNat = pc') (k : Go p e below Ed n0 rc rs P T (mkF m pc' Ls st)) : Go p e below Ed n0 rc rs P T (mkF m pc Ls (.int y :: .int x :: st)) := by
  obtain ⟨locs, X, eT, N, hn⟩ := X; obtain ⟨hx, hZ, hby, hown, hml, hlk, hrt⟩ := C
  exact Go.of (fun t q => XS.icmpYes X.here hx rfl (pc0 := pc) rfl (hb hby hd) rfl hc ho hp q) k
theorem Go.icmpNo (C : Cx p s m meth c Z bytes own ret maxL) (X : On p l e R s m args below meth c n0 T h cells slots) {o : Int} {cd : ClassFile.Cond} {x y : Int32} (hd : decode bytes pc = .ok (.if_icmp cd o, 3)) (hc : if_icmp.holds cd x y = false) (hp : pc + 3 = pc') (k : Go p e below Ed n0 rc rs P T (mkF m pc' Ls st)) : Go p e below Ed n0 rc rs P T (mkF m pc Ls (.int y :: .int x :: st)) := by
  obtain ⟨locs, X, eT, N, hn⟩ := X; obtain ⟨hx, hZ, hby, hown, hml, hlk, hrt⟩ := C
  subst hp; exact Go.of (fun t q => XS.icmpNo X.here hx rfl (hb hby hd) rfl hc q) k
theorem Go.acmpYes (C : Cx p s m meth c Z bytes own ret maxL) (X : On p l e R s m args below meth c n0 T h cells slots) {o : Int} {cd : ClassFile.ACond} {a b : Addr} (hd : decode bytes pc = .ok (.if_acmp cd o, 3)) (hc : if_acmp.holds cd (some a) (some b) = true) (ho : 0 ≤ (pc : Int) + o) (hp : ((pc : Int) + o).toNat = pc') (k : Go p e below Ed n0 rc rs P T (mkF m pc' Ls st)) : Go p e below Ed n0 rc rs P T (mkF m pc Ls (.ref b :: .ref a :: st)) := by
  obtain ⟨locs, X, eT, N, hn⟩ := X; obtain ⟨hx, hZ, hby, hown, hml, hlk, hrt⟩ := C
  exact Go.of (fun t q => XS.acmpYes X.here hx rfl (pc0 := pc) rfl (hb hby hd) rfl hc ho hp q) k
theorem Go.acmpNo (C : Cx p s m meth c Z bytes own ret maxL) (X : On p l e R s m args below meth c n0 T h cells slots) {o : Int} {cd : ClassFile.ACond} {a b : Addr} (hd : decode bytes pc = .ok (.if_acmp cd o, 3)) (hc : if_acmp.holds cd (some a) (some b) = false) (hp : pc + 3 = pc') (k : Go p e below Ed n0 rc rs P T (mkF m pc' Ls st)) : Go p e below Ed n0 rc rs P T (mkF m pc Ls (.ref b :: .ref a :: st)) := by
  obtain ⟨locs, X, eT, N, hn⟩ := X; obtain ⟨hx, hZ, hby, hown, hml, hlk, hrt⟩ := C
  subst hp; exact Go.of (fun t q => XS.acmpNo X.here hx rfl (hb hby hd) rfl hc q) k
theorem Go.acmpV (C : Cx p s m meth c Z bytes own ret maxL) (X : On p l e R s m args below meth c n0 T h cells slots) {o : Int} {cd : ClassFile.ACond} {u v : Value} {same : Bool} (hd : decode bytes pc = .ok (.if_acmp cd o, 3)) (h1 : u.isRef = true) (h2 : v.isRef = true) (hq : decide (u = v) = same) (ho : 0 ≤ (pc : Int) + o) (hp : pc' = if acV cd same = true then ((pc : Int) + o).toNat else pc + 3) (k : Go p e below Ed n0 rc rs P T (mkF m pc' Ls st)) : Go p e below Ed n0 rc rs P T (mkF m pc Ls (v :: u :: st)) := by
  obtain ⟨locs, X, eT, N, hn⟩ := X; obtain ⟨hx, hZ, hby, hown, hml, hlk, hrt⟩ := C
  exact Go.of (fun t q => acmp X hx rfl h1 h2 (pc0 := pc) rfl (hb hby hd) rfl hq ho hp q) k
theorem Go.ifnullYes (C : Cx p s m meth c Z bytes own ret maxL) (X : On p l e R s m args below meth c n0 T h cells slots) {o : Int} (hd : decode bytes pc = .ok (.ifnull o, 3)) (ho : 0 ≤ (pc : Int) + o) (hp : ((pc : Int) + o).toNat = pc') (k : Go p e below Ed n0 rc rs P T (mkF m pc' Ls st)) : Go p e below Ed n0 rc rs P T (mkF m pc Ls (.null :: st)) := by
  obtain ⟨locs, X, eT, N, hn⟩ := X; obtain ⟨hx, hZ, hby, hown, hml, hlk, hrt⟩ := C
  exact Go.of (fun t q => XS.ifnullYes X.here hx rfl (pc0 := pc) rfl (hb hby hd) rfl ho hp q) k
theorem Go.ifnullNo (C : Cx p s m meth c Z bytes own ret maxL) (X : On p l e R s m args below meth c n0 T h cells slots) {o : Int} {a : Addr} (hd : decode bytes pc = .ok (.ifnull o, 3)) (hp : pc + 3 = pc') (k : Go p e below Ed n0 rc rs P T (mkF m pc' Ls st)) : Go p e below Ed n0 rc rs P T (mkF m pc Ls (.ref a :: st)) := by
  obtain ⟨locs, X, eT, N, hn⟩ := X; obtain ⟨hx, hZ, hby, hown, hml, hlk, hrt⟩ := C
  subst hp; exact Go.of (fun t q => XS.ifnullNo X.here hx rfl (hb hby hd) rfl q) k
theorem Go.ifnonnullYes (C : Cx p s m meth c Z bytes own ret maxL) (X : On p l e R s m args below meth c n0 T h cells slots) {o : Int} {a : Addr} (hd : decode bytes pc = .ok (.ifnonnull o, 3)) (ho : 0 ≤ (pc : Int) + o) (hp : ((pc : Int) + o).toNat = pc') (k : Go p e below Ed n0 rc rs P T (mkF m pc' Ls st)) : Go p e below Ed n0 rc rs P T (mkF m pc Ls (.ref a :: st)) := by
  obtain ⟨locs, X, eT, N, hn⟩ := X; obtain ⟨hx, hZ, hby, hown, hml, hlk, hrt⟩ := C
  exact Go.of (fun t q => XS.ifnonnullYes X.here hx rfl (pc0 := pc) rfl (hb hby hd) rfl ho hp q) k
theorem Go.ifnonnullNo (C : Cx p s m meth c Z bytes own ret maxL) (X : On p l e R s m args below meth c n0 T h cells slots) {o : Int} (hd : decode bytes pc = .ok (.ifnonnull o, 3)) (hp : pc + 3 = pc') (k : Go p e below Ed n0 rc rs P T (mkF m pc' Ls st)) : Go p e below Ed n0 rc rs P T (mkF m pc Ls (.null :: st)) := by
  obtain ⟨locs, X, eT, N, hn⟩ := X; obtain ⟨hx, hZ, hby, hown, hml, hlk, hrt⟩ := C
  subst hp; exact Go.of (fun t q => XS.ifnonnullNo X.here hx rfl (hb hby hd) rfl q) k
theorem Go.lswHit (C : Cx p s m meth c Z bytes own ret maxL) (X : On p l e R s m args below meth c n0 T h cells slots) {dflt : Int} {pairs : Array (Int × Int)} {len : Nat} {x : Int32} {a off : Int} (hd : decode bytes pc = .ok (.lookupswitch dflt pairs, len)) (hs : (pairs.toList.zip (pairs.toList.drop 1)).all (fun (a, next) => a.1 < next.1) = true) (hf : pairs.find? (·.1 == x.toInt) = some (a, off)) (ho : 0 ≤ (pc : Int) + off) (hp : ((pc : Int) + off).toNat = pc') (k : Go p e below Ed n0 rc rs P T (mkF m pc' Ls st)) : Go p e below Ed n0 rc rs P T (mkF m pc Ls (.int x :: st)) := by
  obtain ⟨locs, X, eT, N, hn⟩ := X; obtain ⟨hx, hZ, hby, hown, hml, hlk, hrt⟩ := C
  subst hp; exact Go.of (fun t q => X.lookupswitchHit hx (g := mkF m pc Ls (.int x :: st)) rfl rfl (hb hby hd) hs hf ho t q) k
theorem Go.lswMiss (C : Cx p s m meth c Z bytes own ret maxL) (X : On p l e R s m args below meth c n0 T h cells slots) {dflt : Int} {pairs : Array (Int × Int)} {len : Nat} {x : Int32} (hd : decode bytes pc = .ok (.lookupswitch dflt pairs, len)) (hs : (pairs.toList.zip (pairs.toList.drop 1)).all (fun (a, next) => a.1 < next.1) = true) (hf : pairs.find? (·.1 == x.toInt) = none) (ho : 0 ≤ (pc : Int) + dflt) (hp : ((pc : Int) + dflt).toNat = pc') (k : Go p e below Ed n0 rc rs P T (mkF m pc' Ls st)) : Go p e below Ed n0 rc rs P T (mkF m pc Ls (.int x :: st)) := by
  obtain ⟨locs, X, eT, N, hn⟩ := X; obtain ⟨hx, hZ, hby, hown, hml, hlk, hrt⟩ := C
  subst hp; exact Go.of (fun t q => X.lookupswitchMiss hx (g := mkF m pc Ls (.int x :: st)) rfl rfl (hb hby hd) hs hf ho t q) k
theorem Go.retV  (C : Cx p s m meth c Z bytes own none maxL) (X : On p l e R s m args below meth c n0 T h cells slots) (hd : decode bytes pc = .ok (.return_, 1)) (hq : P none h) (hc : cells ≤ rc) (hs : slots ≤ rs) : Go p e below (FrameEnd s) n0 rc rs P T (mkF m pc Ls []) := by
  obtain ⟨locs, X, eT, N, hn⟩ := X; obtain ⟨hx, hZ, hby, hown, hml, hlk, hrt⟩ := C
  obtain ⟨fs, hr, hrun, hended, hW, hsame⟩ := X.leave (v := none) (fun _ => rfl) hlk
  refine ⟨_, _, ?_, hrun, hended, _, _, rfl, ⟨?_, N⟩, ⟨_, rfl⟩, hW, hsame.mono hc hs⟩
  · exact X.returnOut hx hrt (hb hby hd) hr
  · show P _ T.heap; rw [eT]; exact hq
theorem own_retS {locs : List Loc} (X : Stand p l e R s m args below meth c T locs cells slots) (hx : p.tables.exec = Jvm.exec) {z z' : Int32} {t : FieldType} {rest : List Value} (hret : meth.sig.returnType = some t) (hn : narrow t (.int z) = .int z') (hd : decode c.code pc = .ok (.ireturn, 1)) {fs : List Frame}
    (hl : ∀ (f : JFrame) (acts : List Action), f.method = m → f.locked = none → f.entered = [] → (doReturn e (T.setTop f) acts (some (.int z'))).1 = T.setFrames fs) : Steps p.tables e below (T.setTop (mkF m pc Ls (.int z :: rest))) (T.setFrames fs) := by
  have hm' : T.vm.method? m = some meth := X.method'
  show Steps p.tables e below (T.setTop { method := m, pc := pc, locals := Ls, stack := _ :: rest, locked := none }) _
  jvm_step X.here [X.here.top, hx, hd, hm', hret, hn]
  first | (intro acts; rw [hl _ acts rfl rfl rfl]) | rw [hl _ _ rfl rfl rfl]
  exact Steps.refl _
theorem Go.retZ {t : FieldType} (C : Cx p s m meth c Z bytes own (some t) maxL) (X : On p l e R s m args below meth c n0 T h cells slots) {z z' : Int32} (hz : narrow t (.int z) = .int z') (hd : decode bytes pc = .ok (.ireturn, 1)) (hq : P (some (.int z')) h) (hc : cells ≤ rc) (hs : slots ≤ rs) : Go p e below (FrameEnd s) n0 rc rs P T (mkF m pc Ls (.int z :: st)) := by
  obtain ⟨locs, X, eT, N, hn⟩ := X; obtain ⟨hx, hZ, hby, hown, hml, hlk, hrt⟩ := C
  obtain ⟨fs, hr, hrun, hended, hW, hsame⟩ := X.leave (v := (some (.int z'))) (fun h => by rw [hrt] at h; cases h) hlk
  refine ⟨_, _, ?_, hrun, hended, _, _, rfl, ⟨?_, N⟩, ⟨_, rfl⟩, hW, hsame.mono hc hs⟩
  · exact own_retS X hx hrt hz (hb hby hd) hr
  · show P _ T.heap; rw [eT]; exact hq
theorem Go.retI  (C : Cx p s m meth c Z bytes own (some .int) maxL) (X : On p l e R s m args below meth c n0 T h cells slots) {z : Int32} (hd : decode bytes pc = .ok (.ireturn, 1)) (hq : P (some (.int z)) h) (hc : cells ≤ rc) (hs : slots ≤ rs) : Go p e below (FrameEnd s) n0 rc rs P T (mkF m pc Ls (.int z :: st)) := by
  obtain ⟨locs, X, eT, N, hn⟩ := X; obtain ⟨hx, hZ, hby, hown, hml, hlk, hrt⟩ := C
  obtain ⟨fs, hr, hrun, hended, hW, hsame⟩ := X.leave (v := (some (.int z))) (fun h => by rw [hrt] at h; cases h) hlk
  refine ⟨_, _, ?_, hrun, hended, _, _, rfl, ⟨?_, N⟩, ⟨_, rfl⟩, hW, hsame.mono hc hs⟩
  · exact own_retS X hx hrt rfl (hb hby hd) hr
  · show P _ T.heap; rw [eT]; exact hq
theorem Go.retL  (C : Cx p s m meth c Z bytes own (some .long) maxL) (X : On p l e R s m args below meth c n0 T h cells slots) {z : Int64} (hd : decode bytes pc = .ok (.lreturn, 1)) (hq : P (some (.long z)) h) (hc : cells ≤ rc) (hs : slots ≤ rs) : Go p e below (FrameEnd s) n0 rc rs P T (mkF m pc Ls (.long z :: st)) := by
  obtain ⟨locs, X, eT, N, hn⟩ := X; obtain ⟨hx, hZ, hby, hown, hml, hlk, hrt⟩ := C
  obtain ⟨fs, hr, hrun, hended, hW, hsame⟩ := X.leave (v := (some (.long z))) (fun h => by rw [hrt] at h; cases h) hlk
  refine ⟨_, _, ?_, hrun, hended, _, _, rfl, ⟨?_, N⟩, ⟨_, rfl⟩, hW, hsame.mono hc hs⟩
  · jvm_step X.here [X.here.top, hx, (hb hby hd), X.method', hrt, narrow]
    first | (intro acts; rw [hr _ acts rfl rfl rfl]) | rw [hr _ _ rfl rfl rfl]
    exact Steps.refl _
  · show P _ T.heap; rw [eT]; exact hq
theorem Go.retA {cn : String} (C : Cx p s m meth c Z bytes own (some (.object cn)) maxL) (X : On p l e R s m args below meth c n0 T h cells slots) {z : Value} (hz : z.isRef = true) (hd : decode bytes pc = .ok (.areturn, 1)) (hq : P (some z) h) (hc : cells ≤ rc) (hs : slots ≤ rs) : Go p e below (FrameEnd s) n0 rc rs P T (mkF m pc Ls (z :: st)) := by
  obtain ⟨locs, X, eT, N, hn⟩ := X; obtain ⟨hx, hZ, hby, hown, hml, hlk, hrt⟩ := C
  obtain ⟨fs, hr, hrun, hended, hW, hsame⟩ := X.leave (v := (some z)) (fun h => by rw [hrt] at h; cases h) hlk
  refine ⟨_, _, ?_, hrun, hended, _, _, rfl, ⟨?_, N⟩, ⟨_, rfl⟩, hW, hsame.mono hc hs⟩
  · rcases ref_cases hz with rfl | ⟨a, rfl⟩ <;>
    · jvm_step X.here [X.here.top, hx, (hb hby hd), X.method', hrt, Value.isRef, FieldType.isReference]
      first | (intro acts; rw [hr _ acts rfl rfl rfl]) | rw [hr _ _ rfl rfl rfl]
      exact Steps.refl _
  · show P _ T.heap; rw [eT]; exact hq
theorem Go.retAA {ct : FieldType} (C : Cx p s m meth c Z bytes own (some (.array ct)) maxL) (X : On p l e R s m args below meth c n0 T h cells slots) {z : Value} (hz : z.isRef = true) (hd : decode bytes pc = .ok (.areturn, 1)) (hq : P (some z) h) (hc : cells ≤ rc) (hs : slots ≤ rs) : Go p e below (FrameEnd s) n0 rc rs P T (mkF m pc Ls (z :: st)) := by
  obtain ⟨locs, X, eT, N, hn⟩ := X; obtain ⟨hx, hZ, hby, hown, hml, hlk, hrt⟩ := C
  obtain ⟨fs, hr, hrun, hended, hW, hsame⟩ := X.leave (v := (some z)) (fun h => by rw [hrt] at h; cases h) hlk
  refine ⟨_, _, ?_, hrun, hended, _, _, rfl, ⟨?_, N⟩, ⟨_, rfl⟩, hW, hsame.mono hc hs⟩
  · rcases ref_cases hz with rfl | ⟨a, rfl⟩ <;>
    · jvm_step X.here [X.here.top, hx, (hb hby hd), X.method', hrt, Value.isRef, FieldType.isReference]
      first | (intro acts; rw [hr _ acts rfl rfl rfl]) | rw [hr _ _ rfl rfl rfl]
      exact Steps.refl _
  · show P _ T.heap; rw [eT]; exact hq
theorem Go.getF (C : Cx p s m meth c Z bytes own ret maxL) (X : On p l e R s m args below meth c n0 T h cells slots) {R0 O n d host : String} {i : Nat} {a : Addr} {v : Value} (w : (Cond.fieldLink own i R0 n d).before a0 Z = true ∨ (Cond.fieldLinkNest own i R0 n d host).before a0 Z = true) (via : Via Z R0 O n d) (F : Fld Z h a O n d v) (hd : decode bytes pc = .ok (.getfield i, 3)) (hp : pc + 3 = pc')
    (k : ∀ T', On p l e R s m args below meth c n0 T' h cells slots → Go p e below Ed n0 rc rs P T' (mkF m pc' Ls (v :: st))) : Go p e below Ed n0 rc rs P T (mkF m pc Ls (.ref a :: st)) := by
  obtain ⟨locs, X, eT, N, hn⟩ := X; obtain ⟨hx, hZ, hby, hown, hml, hlk, hrt⟩ := C; subst hp
  obtain ⟨T', X', e', st'⟩ := RoadKit.getF X hx hZ hown w via eT F (g := mkF m pc Ls (.ref a :: st)) rfl rfl (hb hby hd)
  exact Go.of st' (k T' ⟨locs, X', e', N, hn⟩)
theorem Go.getS (C : Cx p s m meth c Z bytes own ret maxL) (X : On p l e R s m args below meth c n0 T h cells slots) {R0 O n d : String} {i : Nat} {v : Value} (w : (Cond.fieldLink own i R0 n d).before a0 Z = true) (via : Via Z R0 O n d) (F : Sta Z h O n d v) (hd : decode bytes pc = .ok (.getstatic i, 3)) (hp : pc + 3 = pc')
    (k : ∀ T', On p l e R s m args below meth c n0 T' h cells slots → Go p e below Ed n0 rc rs P T' (mkF m pc' Ls (v :: st))) : Go p e below Ed n0 rc rs P T (mkF m pc Ls st) := by
  obtain ⟨locs, X, eT, N, hn⟩ := X; obtain ⟨hx, hZ, hby, hown, hml, hlk, hrt⟩ := C; subst hp
  obtain ⟨T', X', e', st'⟩ := RoadKit.getS X hx hZ (host := "") hown w via eT F (g := mkF m pc Ls st) rfl (hb hby hd)
  exact Go.of st' (k T' ⟨locs, X', e', N, hn⟩)
theorem Go.putF (C : Cx p s m meth c Z bytes own ret maxL) (X : On p l e R s m args below meth c n0 T h cells slots) {R0 O n d host K : String} {i kk : Nat} {ty : FieldType} {a : Addr} {v old : Value} (w : (Cond.fieldLink own i R0 n d).before a0 Z = true ∨ (Cond.fieldLinkNest own i R0 n d host).before a0 Z = true) (via : Via Z R0 O n d) (F : Fld Z h a O n d old) (E : Exa Z h a K) (L : (Cond.lays K O n d).before a0 Z = true ∨ ((Cond.laysFinal K O n d).before a0 Z = true ∧ own = O ∧ meth.name = "<init>")) (wi : (Cond.instantiable K kk).before a0 Z = true) (ha : n0 ≤ a) (hty : parseFieldDescriptor d = some ty) (hn : narrow ty v = v) (hf : fits ty v = true) (hd : decode bytes pc = .ok (.putfield i, 3)) (hp : pc + 3 = pc')
    (k : ∀ T' h', On p l e R s m args below meth c n0 T' h' cells slots → Wr h h' a (slotOf Z O n d) v → Go p e below Ed n0 rc rs P T' (mkF m pc' Ls st)) : Go p e below Ed n0 rc rs P T (mkF m pc Ls (v :: .ref a :: st)) := by
  obtain ⟨locs, X, eT, N, hz⟩ := X; obtain ⟨hx, hZ, hby, hown, hml, hlk, hrt⟩ := C; subst hp
  obtain ⟨T', h', X', e', W, st'⟩ := RoadKit.putF X hx hZ hown w via eT F E L wi hty hn hf (g := mkF m pc Ls (v :: .ref a :: st)) rfl rfl (hb hby hd)
  exact Go.of st' (k T' h' ⟨_, X', e', Fr.snoc X' N ha, by rw [W.size]; exact hz⟩ W)
theorem Go.putFN (C : Cx p s m meth c Z bytes own ret maxL) (X : On p l e R s m args below meth c n0 T h cells slots) {R0 O n d K : String} {i kk : Nat} {ty : FieldType} {a : Addr} {v v' old : Value} (w : (Cond.fieldLink own i R0 n d).before a0 Z = true) (via : Via Z R0 O n d) (F : Fld Z h a O n d old) (E : Exa Z h a K) (L : (Cond.lays K O n d).before a0 Z = true ∨ ((Cond.laysFinal K O n d).before a0 Z = true ∧ own = O ∧ meth.name = "<init>")) (wi : (Cond.instantiable K kk).before a0 Z = true) (ha : n0 ≤ a) (hty : parseFieldDescriptor d = some ty) (hn : narrow ty v = v') (hf : fits ty v' = true) (hd : decode bytes pc = .ok (.putfield i, 3)) (hp : pc + 3 = pc')
    (k : ∀ T' h', On p l e R s m args below meth c n0 T' h' cells slots → Wr h h' a (slotOf Z O n d) v' → Go p e below Ed n0 rc rs P T' (mkF m pc' Ls st)) : Go p e below Ed n0 rc rs P T (mkF m pc Ls (v :: .ref a :: st)) := by
  obtain ⟨locs, X, eT, N, hz⟩ := X; obtain ⟨hx, hZ, hby, hown, hml, hlk, hrt⟩ := C; subst hp
  obtain ⟨T', h', X', e', W, st'⟩ := RoadKit.putFN X hx hZ hown w via eT F E L wi hty hn hf (g := mkF m pc Ls (v :: .ref a :: st)) rfl rfl (hb hby hd)
  exact Go.of st' (k T' h' ⟨_, X', e', Fr.snoc X' N ha, by rw [W.size]; exact hz⟩ W)
theorem Go.newO (C : Cx p s m meth c Z bytes own ret maxL) (X : On p l e R s m args below meth c n0 T h cells slots) {K : String} {i kk : Nat} (w : (Cond.classLink own i K).before a0 Z = true) (wi : (Cond.instantiable K kk).before a0 Z = true) (wz : (Cond.initialized K).before a0 Z = true) (hd : decode bytes pc = .ok (.new i, 3)) (hc : cells + 1 ≤ R.cells) (hl : slots + kk ≤ R.slots) (hp : pc + 3 = pc')
    (k : ∀ T' h' a, On p l e R s m args below meth c n0 T' h' (cells + 1) (slots + kk) → a = h.size → Ext h h' → Exa Z h' a K → (∀ {O nm d : String} {ty : FieldType}, Laid Z a0 K O nm d → parseFieldDescriptor d = some ty → Fld Z h' a O nm d (defaultValue ty)) → n0 ≤ a → Go p e below Ed n0 rc rs P T' (mkF m pc' Ls (.ref a :: st))) : Go p e below Ed n0 rc rs P T (mkF m pc Ls st) := by
  obtain ⟨locs, X, eT, N, hz⟩ := X; obtain ⟨hx, hZ, hby, hown, hml, hlk, hrt⟩ := C; subst hp
  obtain ⟨T', h', X', e', E, A, D, -, st'⟩ := RoadKit.newO X hx hZ hown w wi wz eT (g := mkF m pc Ls st) rfl (hb hby hd) hc hl
  exact Go.of st' (k T' h' h.size ⟨_, X', e', N, Nat.le_trans hz E.1⟩ rfl E A D hz)
theorem Go.initO (C : Cx p s m meth c Z bytes own ret maxL) (X : On p l e R s m args below meth c n0 T h cells slots) {a : Addr} (hI : ∀ locs, Stand p l e R s m args below meth c T locs cells slots → T.heap = h → ∃ T', Stand p l e R s m args below meth c T' locs cells slots ∧ T'.heap = h ∧ ∀ target, Steps p.tables e below (T'.setTop (mkF m (pc + 3) Ls st)) target → Steps p.tables e below (T.setTop (mkF m pc Ls (.ref a :: st))) target) (hp : pc + 3 = pc')
    (k : ∀ T', On p l e R s m args below meth c n0 T' h cells slots → Go p e below Ed n0 rc rs P T' (mkF m pc' Ls st)) : Go p e below Ed n0 rc rs P T (mkF m pc Ls (.ref a :: st)) := by
  obtain ⟨locs, X, eT, N, hz⟩ := X; subst hp
  obtain ⟨T', X', e', st'⟩ := hI locs X eT
  exact Go.of st' (k T' ⟨_, X', e', N, hz⟩)
theorem Go.castY (C : Cx p s m meth c Z bytes own ret maxL) (X : On p l e R s m args below meth c n0 T h cells slots) {K : String} {i : Nat} {a : Addr} (w : (Cond.classLink own i K).before a0 Z = true) (F : Ins Z h a K true) (hd : decode bytes pc = .ok (.checkcast i, 3)) (hp : pc + 3 = pc')
    (k : ∀ T', On p l e R s m args below meth c n0 T' h cells slots → Go p e below Ed n0 rc rs P T' (mkF m pc' Ls (.ref a :: st))) : Go p e below Ed n0 rc rs P T (mkF m pc Ls (.ref a :: st)) := by
  obtain ⟨locs, X, eT, N, hn⟩ := X; obtain ⟨hx, hZ, hby, hown, hml, hlk, hrt⟩ := C; subst hp
  obtain ⟨T', X', e', st'⟩ := RoadKit.castY X hx hZ hown w eT F (g := mkF m pc Ls (.ref a :: st)) rfl rfl (hb hby hd)
  exact Go.of st' (k T' ⟨locs, X', e', N, hn⟩)
theorem Go.instY (C : Cx p s m meth c Z bytes own ret maxL) (X : On p l e R s m args below meth c n0 T h cells slots) {K : String} {i : Nat} {a : Addr} (w : (Cond.classLink own i K).before a0 Z = true) (F : Ins Z h a K true) (hd : decode bytes pc = .ok (.instanceof i, 3)) (hp : pc + 3 = pc')
    (k : ∀ T', On p l e R s m args below meth c n0 T' h cells slots → Go p e below Ed n0 rc rs P T' (mkF m pc' Ls (.int 1 :: st))) : Go p e below Ed n0 rc rs P T (mkF m pc Ls (.ref a :: st)) := by
  obtain ⟨locs, X, eT, N, hn⟩ := X; obtain ⟨hx, hZ, hby, hown, hml, hlk, hrt⟩ := C; subst hp
  obtain ⟨T', X', e', st'⟩ := RoadKit.instY X hx hZ hown w eT F (g := mkF m pc Ls (.ref a :: st)) rfl rfl (hb hby hd)
  exact Go.of st' (k T' ⟨locs, X', e', N, hn⟩)
def AI (Z : State) (h : Heap) (a : Addr) (ty : FieldType) (n : Nat) (f : Nat → Int32) : Prop := ∃ cl : Cell, Arr Z h a cl ty ∧ cl.slots.size = n ∧ n < 2 ^ 31 ∧ ∀ i, i < n → cl.slots[i]? = some (.int (f i))
def AJ (Z : State) (h : Heap) (a : Addr) (n : Nat) (f : Nat → Int64) : Prop := ∃ cl : Cell, Arr Z h a cl .long ∧ cl.slots.size = n ∧ n < 2 ^ 31 ∧ ∀ i, i < n → cl.slots[i]? = some (.long (f i))
theorem clamp_of {j : Int32} {i : Nat} (hj : j.toInt = (i : Int)) : j.toNatClampNeg = i := by
  show j.toInt.toNat = i
  omega
theorem in_of {j : Int32} {i n : Nat} (hj : j.toInt = (i : Int)) (hi : i < n) {sz : Nat} (hs : sz = n) : ¬ (j < 0 ∨ sz ≤ j.toNatClampNeg) := by
  rw [clamp_of hj]
  intro q
  rcases q with q | q
  · rw [Int32.lt_iff_toInt_lt] at q
    have : (0 : Int32).toInt = 0 := rfl
    omega
  · omega
theorem len32 {z : Int32} {n : Nat} (hz : z.toInt = (n : Int)) : n.toInt32 = z := by
  apply Int32.toInt_inj.mp
  rw [hz]
  have h2 : z.toInt < 2147483648 := z.toInt_lt
  rw [hz] at h2
  exact Int32.toInt_ofNat_of_lt (by omega)
section AFacts
variable {h' : Heap} {a b : Addr} {ty : FieldType} {n sl : Nat} {f : Nat → Int32} {g : Nat → Int64} {v : Value} {ws : List Addr}
theorem AI.lt (F : AI Z h a ty n f) : a < h.size := by obtain ⟨c, A, -⟩ := F; exact A.lt
theorem AI.ext (F : AI Z h a ty n f) (E : Ext h h') : AI Z h' a ty n f := by obtain ⟨c, A, r⟩ := F; exact ⟨c, A.ext E, r⟩
theorem AI.other (F : AI Z h b ty n f) (W : Wr h h' a sl v) (q : b ≠ a) : AI Z h' b ty n f := by obtain ⟨c, A, r⟩ := F; exact ⟨c, A.other W q, r⟩
theorem AI.keep (F : AI Z h a ty n f) (K : Keep h h' ws) (q : a ∉ ws) : AI Z h' a ty n f := by obtain ⟨c, A, r⟩ := F; exact ⟨c, ⟨K.2.1 a c A.1 q, A.2⟩, r⟩
theorem AI.congr {f' : Nat → Int32} (F : AI Z h a ty n f) (q : ∀ i, i < n → f i = f' i) : AI Z h a ty n f' := by
  obtain ⟨c, A, r1, r2, r3⟩ := F; exact ⟨c, A, r1, r2, fun i hi => by rw [r3 i hi, q i hi]⟩
theorem AI.bound (F : AI Z h a ty n f) : n < 2 ^ 31 := by obtain ⟨c, A, r1, r2, r3⟩ := F; exact r2
theorem AI.set {i : Nat} {x : Int32} (F : AI Z h a ty n f) (W : Wr h h' a i (.int x)) : AI Z h' a ty n (fun k => if k = i then x else f k) := by
  obtain ⟨c, A, r1, r2, r3⟩ := F
  refine ⟨_, A.same W, by rw [sz_set]; exact r1, r2, fun k hk => ?_⟩
  by_cases q : k = i
  · subst q; simp [Cell.setSlot, r1, hk]
  · simp only [Cell.setSlot, if_neg q]
    rw [Array.getElem?_setIfInBounds_ne (fun e => q e.symm)]
    exact r3 k hk
theorem AI.new {k : ClassId} {z : Int32} {n : Nat} (hz : z.toInt = (n : Int)) (ht : defaultValue ty = .int 0) (A : Arr Z h a (newA k ty z) ty) : AI Z h a ty n (fun _ => 0) := by
  have h2 : z.toInt < 2147483648 := z.toInt_lt
  refine ⟨_, A, by rw [sz_new, clamp_of hz], by omega, fun i hi => ?_⟩
  simp [newA, clamp_of hz, hi, ht]
theorem AJ.lt (F : AJ Z h a n g) : a < h.size := by obtain ⟨c, A, -⟩ := F; exact A.lt
theorem AJ.ext (F : AJ Z h a n g) (E : Ext h h') : AJ Z h' a n g := by obtain ⟨c, A, r⟩ := F; exact ⟨c, A.ext E, r⟩
theorem AJ.other (F : AJ Z h b n g) (W : Wr h h' a sl v) (q : b ≠ a) : AJ Z h' b n g := by obtain ⟨c, A, r⟩ := F; exact ⟨c, A.other W q, r⟩
theorem AJ.keep (F : AJ Z h a n g) (K : Keep h h' ws) (q : a ∉ ws) : AJ Z h' a n g := by obtain ⟨c, A, r⟩ := F; exact ⟨c, ⟨K.2.1 a c A.1 q, A.2⟩, r⟩
theorem AJ.congr {g' : Nat → Int64} (F : AJ Z h a n g) (q : ∀ i, i < n → g i = g' i) : AJ Z h a n g' := by
  obtain ⟨c, A, r1, r2, r3⟩ := F; exact ⟨c, A, r1, r2, fun i hi => by rw [r3 i hi, q i hi]⟩
theorem AJ.set {i : Nat} {x : Int64} (F : AJ Z h a n g) (W : Wr h h' a i (.long x)) : AJ Z h' a n (fun k => if k = i then x else g k) := by
  obtain ⟨c, A, r1, r2, r3⟩ := F
  refine ⟨_, A.same W, by rw [sz_set]; exact r1, r2, fun k hk => ?_⟩
  by_cases q : k = i
  · subst q; simp [Cell.setSlot, r1, hk]
  · simp only [Cell.setSlot, if_neg q]
    rw [Array.getElem?_setIfInBounds_ne (fun e => q e.symm)]
    exact r3 k hk
theorem AJ.new {k : ClassId} {z : Int32} {n : Nat} (hz : z.toInt = (n : Int)) (A : Arr Z h a (newA k .long z) .long) : AJ Z h a n (fun _ => 0) := by
  have h2 : z.toInt < 2147483648 := z.toInt_lt
  refine ⟨_, A, by rw [sz_new, clamp_of hz], by omega, fun i hi => ?_⟩
  simp [newA, clamp_of hz, hi, defaultValue]
end AFacts
theorem Go.newP (C : Cx p s m meth c Z bytes own ret maxL) (X : On p l e R s m args below meth c n0 T h cells slots) {aty : ArrayType} {z : Int32} {nn cap : Nat} (w : (Cond.arrayClass (newarray.typeOf aty)).before a0 Z = true) (hd : decode bytes pc = .ok (.newarray aty, 2)) (hz : z.toInt = (nn : Int)) (hcap : nn ≤ cap) (hbig : cap * 8 ≤ 536870912) (hc : cells + 1 ≤ R.cells) (hl : slots + cap ≤ R.slots) (hp : pc + 2 = pc')
    (k : ∀ T' h' a cA, On p l e R s m args below meth c n0 T' h' (cells + 1) (slots + cap) → a = h.size → Ext h h' → Arr Z h' a (newA cA (newarray.typeOf aty) z) (newarray.typeOf aty) → n0 ≤ a → Go p e below Ed n0 rc rs P T' (mkF m pc' Ls (.ref a :: st))) : Go p e below Ed n0 rc rs P T (mkF m pc Ls (.int z :: st)) := by
  obtain ⟨locs, X, eT, N, hn⟩ := X; obtain ⟨hx, hZ, hby, hown, hml, hlk, hrt⟩ := C; subst hp
  obtain ⟨T', h', cA, X', e', E, A, st'⟩ := RoadKit.newP X hx hZ w eT (g := mkF m pc Ls (.int z :: st)) rfl (hb hby hd) rfl (by rw [Int32.lt_iff_toInt_lt]; have : (0 : Int32).toInt = 0 := rfl; omega) (cap := cap) (by rw [clamp_of hz]; exact hcap) hbig hc hl
  exact Go.of st' (k T' h' h.size cA ⟨_, X', e', N, Nat.le_trans hn E.1⟩ rfl E A hn)
theorem Go.alenI (C : Cx p s m meth c Z bytes own ret maxL) (X : On p l e R s m args below meth c n0 T h cells slots) {a : Addr} {ty : FieldType} {n : Nat} {f : Nat → Int32} {z : Int32} (A : AI Z h a ty n f) (hz : z.toInt = (n : Int)) (hd : decode bytes pc = .ok (.arraylength, 1)) (hp : pc + 1 = pc') (k : Go p e below Ed n0 rc rs P T (mkF m pc' Ls (.int z :: st))) : Go p e below Ed n0 rc rs P T (mkF m pc Ls (.ref a :: st)) := by
  obtain ⟨locs, X, eT, N, hn⟩ := X; obtain ⟨hx, hZ, hby, hown, hml, hlk, hrt⟩ := C; subst hp
  obtain ⟨cl, A, r1, r2, r3⟩ := A
  refine Go.of (fun t q => X.arraylength hx (by rw [eT]; exact A.1) (State.isArrayOf_alike hZ.alike A.2.1) (g := mkF m pc Ls (.ref a :: st)) rfl rfl (hb hby hd) t ?_) k
  rw [r1, len32 hz]; exact q
theorem Go.alenJ (C : Cx p s m meth c Z bytes own ret maxL) (X : On p l e R s m args below meth c n0 T h cells slots) {a : Addr} {n : Nat} {f : Nat → Int64} {z : Int32} (A : AJ Z h a n f) (hz : z.toInt = (n : Int)) (hd : decode bytes pc = .ok (.arraylength, 1)) (hp : pc + 1 = pc') (k : Go p e below Ed n0 rc rs P T (mkF m pc' Ls (.int z :: st))) : Go p e below Ed n0 rc rs P T (mkF m pc Ls (.ref a :: st)) := by
  obtain ⟨locs, X, eT, N, hn⟩ := X; obtain ⟨hx, hZ, hby, hown, hml, hlk, hrt⟩ := C; subst hp
  obtain ⟨cl, A, r1, r2, r3⟩ := A
  refine Go.of (fun t q => X.arraylength hx (by rw [eT]; exact A.1) (State.isArrayOf_alike hZ.alike A.2.1) (g := mkF m pc Ls (.ref a :: st)) rfl rfl (hb hby hd) t ?_) k
  rw [r1, len32 hz]; exact q
theorem Go.iaload (C : Cx p s m meth c Z bytes own ret maxL) (X : On p l e R s m args below meth c n0 T h cells slots) {a : Addr} {n : Nat} {f : Nat → Int32} {j : Int32} {i : Nat} {w : Int32} (A : AI Z h a .int n f) (hj : j.toInt = (i : Int)) (hi : i < n) (hw : f i = w) (hd : decode bytes pc = .ok (.iaload, 1)) (hp : pc + 1 = pc') (k : Go p e below Ed n0 rc rs P T (mkF m pc' Ls (.int w :: st))) : Go p e below Ed n0 rc rs P T (mkF m pc Ls (.int j :: .ref a :: st)) := by
  obtain ⟨locs, X, eT, N, hn⟩ := X; obtain ⟨hx, hZ, hby, hown, hml, hlk, hrt⟩ := C; subst hp hw
  obtain ⟨cl, A, r1, r2, r3⟩ := A
  exact Go.of (fun t q => X.iaload hx (j := j) (v := .int (f i)) (by rw [eT]; exact A.1) (State.isArrayOf_alike hZ.alike A.2.1) A.2.2 (in_of hj hi r1) (by rw [clamp_of hj]; exact r3 i hi) (g := mkF m pc Ls (.int j :: .ref a :: st)) rfl rfl (hb hby hd) t q) k
theorem Go.baload (C : Cx p s m meth c Z bytes own ret maxL) (X : On p l e R s m args below meth c n0 T h cells slots) {a : Addr} {n : Nat} {f : Nat → Int32} {j : Int32} {i : Nat} {w : Int32} (A : AI Z h a .byte n f) (hj : j.toInt = (i : Int)) (hi : i < n) (hw : f i = w) (hd : decode bytes pc = .ok (.baload, 1)) (hp : pc + 1 = pc') (k : Go p e below Ed n0 rc rs P T (mkF m pc' Ls (.int w :: st))) : Go p e below Ed n0 rc rs P T (mkF m pc Ls (.int j :: .ref a :: st)) := by
  obtain ⟨locs, X, eT, N, hn⟩ := X; obtain ⟨hx, hZ, hby, hown, hml, hlk, hrt⟩ := C; subst hp hw
  obtain ⟨cl, A, r1, r2, r3⟩ := A
  exact Go.of (fun t q => X.baloadBytes hx (j := j) (v := .int (f i)) (by rw [eT]; exact A.1) (State.isArrayOf_alike hZ.alike A.2.1) A.2.2 (in_of hj hi r1) (by rw [clamp_of hj]; exact r3 i hi) (g := mkF m pc Ls (.int j :: .ref a :: st)) rfl rfl (hb hby hd) t q) k
theorem Go.zaload (C : Cx p s m meth c Z bytes own ret maxL) (X : On p l e R s m args below meth c n0 T h cells slots) {a : Addr} {n : Nat} {f : Nat → Int32} {j : Int32} {i : Nat} {w : Int32} (A : AI Z h a .boolean n f) (hj : j.toInt = (i : Int)) (hi : i < n) (hw : f i = w) (hd : decode bytes pc = .ok (.baload, 1)) (hp : pc + 1 = pc') (k : Go p e below Ed n0 rc rs P T (mkF m pc' Ls (.int w :: st))) : Go p e below Ed n0 rc rs P T (mkF m pc Ls (.int j :: .ref a :: st)) := by
  obtain ⟨locs, X, eT, N, hn⟩ := X; obtain ⟨hx, hZ, hby, hown, hml, hlk, hrt⟩ := C; subst hp hw
  obtain ⟨cl, A, r1, r2, r3⟩ := A
  exact Go.of (fun t q => X.baloadBooleans hx (j := j) (v := .int (f i)) (by rw [eT]; exact A.1) (State.isArrayOf_alike hZ.alike A.2.1) A.2.2 (in_of hj hi r1) (by rw [clamp_of hj]; exact r3 i hi) (g := mkF m pc Ls (.int j :: .ref a :: st)) rfl rfl (hb hby hd) t q) k
theorem Go.caload (C : Cx p s m meth c Z bytes own ret maxL) (X : On p l e R s m args below meth c n0 T h cells slots) {a : Addr} {n : Nat} {f : Nat → Int32} {j : Int32} {i : Nat} {w : Int32} (A : AI Z h a .char n f) (hj : j.toInt = (i : Int)) (hi : i < n) (hw : f i = w) (hd : decode bytes pc = .ok (.caload, 1)) (hp : pc + 1 = pc') (k : Go p e below Ed n0 rc rs P T (mkF m pc' Ls (.int w :: st))) : Go p e below Ed n0 rc rs P T (mkF m pc Ls (.int j :: .ref a :: st)) := by
  obtain ⟨locs, X, eT, N, hn⟩ := X; obtain ⟨hx, hZ, hby, hown, hml, hlk, hrt⟩ := C; subst hp hw
  obtain ⟨cl, A, r1, r2, r3⟩ := A
  exact Go.of (fun t q => X.caload hx (j := j) (v := .int (f i)) (by rw [eT]; exact A.1) (State.isArrayOf_alike hZ.alike A.2.1) A.2.2 (in_of hj hi r1) (by rw [clamp_of hj]; exact r3 i hi) (g := mkF m pc Ls (.int j :: .ref a :: st)) rfl rfl (hb hby hd) t q) k
theorem Go.laload (C : Cx p s m meth c Z bytes own ret maxL) (X : On p l e R s m args below meth c n0 T h cells slots) {a : Addr} {n : Nat} {f : Nat → Int64} {j : Int32} {i : Nat} {w : Int64} (A : AJ Z h a n f) (hj : j.toInt = (i : Int)) (hi : i < n) (hw : f i = w) (hd : decode bytes pc = .ok (.laload, 1)) (hp : pc + 1 = pc') (k : Go p e below Ed n0 rc rs P T (mkF m pc' Ls (.long w :: st))) : Go p e below Ed n0 rc rs P T (mkF m pc Ls (.int j :: .ref a :: st)) := by
  obtain ⟨locs, X, eT, N, hn⟩ := X; obtain ⟨hx, hZ, hby, hown, hml, hlk, hrt⟩ := C; subst hp hw
  obtain ⟨cl, A, r1, r2, r3⟩ := A
  exact Go.of (fun t q => X.laload hx (j := j) (v := .long (f i)) (by rw [eT]; exact A.1) (State.isArrayOf_alike hZ.alike A.2.1) A.2.2 (in_of hj hi r1) (by rw [clamp_of hj]; exact r3 i hi) (g := mkF m pc Ls (.int j :: .ref a :: st)) rfl rfl (hb hby hd) t q) k
theorem Go.iastore (C : Cx p s m meth c Z bytes own ret maxL) (X : On p l e R s m args below meth c n0 T h cells slots) {a : Addr} {n : Nat} {f : Nat → Int32} {j x x' : Int32} {i : Nat} (A : AI Z h a .int n f) (hj : j.toInt = (i : Int)) (hi : i < n) (hv : x = x') (ha : n0 ≤ a) (hd : decode bytes pc = .ok (.iastore, 1)) (hp : pc + 1 = pc')
    (k : ∀ T' h', On p l e R s m args below meth c n0 T' h' cells slots → Wr h h' a i (.int x') → AI Z h' a .int n (fun q => if q = i then x' else f q) → Go p e below Ed n0 rc rs P T' (mkF m pc' Ls st)) : Go p e below Ed n0 rc rs P T (mkF m pc Ls (.int x :: .int j :: .ref a :: st)) := by
  obtain ⟨locs, X, eT, N, hn⟩ := X; obtain ⟨hx, hZ, hby, hown, hml, hlk, hrt⟩ := C; subst hp hv
  obtain ⟨cl, A', r1, r2, r3⟩ := id A
  obtain ⟨T', h', X', e', W, st'⟩ := RoadKit.stI X hx hZ eT A' (in_of hj hi r1) (g := mkF m pc Ls (.int x :: .int j :: .ref a :: st)) rfl rfl (hb hby hd)
  have N' := Fr.snoc X' N ha
  rw [clamp_of hj] at W
  exact Go.of st' (k T' h' ⟨_, X', e', N', by rw [W.size]; exact hn⟩ W (A.set W))
theorem Go.bastore (C : Cx p s m meth c Z bytes own ret maxL) (X : On p l e R s m args below meth c n0 T h cells slots) {a : Addr} {n : Nat} {f : Nat → Int32} {j x x' : Int32} {i : Nat} (A : AI Z h a .byte n f) (hj : j.toInt = (i : Int)) (hi : i < n) (hv : nar .byte x = x') (ha : n0 ≤ a) (hd : decode bytes pc = .ok (.bastore, 1)) (hp : pc + 1 = pc')
    (k : ∀ T' h', On p l e R s m args below meth c n0 T' h' cells slots → Wr h h' a i (.int x') → AI Z h' a .byte n (fun q => if q = i then x' else f q) → Go p e below Ed n0 rc rs P T' (mkF m pc' Ls st)) : Go p e below Ed n0 rc rs P T (mkF m pc Ls (.int x :: .int j :: .ref a :: st)) := by
  obtain ⟨locs, X, eT, N, hn⟩ := X; obtain ⟨hx, hZ, hby, hown, hml, hlk, hrt⟩ := C; subst hp hv
  obtain ⟨cl, A', r1, r2, r3⟩ := id A
  obtain ⟨T', h', X', e', W, st'⟩ := RoadKit.stB X hx hZ eT A' (in_of hj hi r1) (g := mkF m pc Ls (.int x :: .int j :: .ref a :: st)) rfl rfl (hb hby hd)
  have N' := Fr.snoc X' N ha
  rw [clamp_of hj] at W
  exact Go.of st' (k T' h' ⟨_, X', e', N', by rw [W.size]; exact hn⟩ W (A.set W))
theorem Go.castore (C : Cx p s m meth c Z bytes own ret maxL) (X : On p l e R s m args below meth c n0 T h cells slots) {a : Addr} {n : Nat} {f : Nat → Int32} {j x x' : Int32} {i : Nat} (A : AI Z h a .char n f) (hj : j.toInt = (i : Int)) (hi : i < n) (hv : nar .char x = x') (ha : n0 ≤ a) (hd : decode bytes pc = .ok (.castore, 1)) (hp : pc + 1 = pc')
    (k : ∀ T' h', On p l e R s m args below meth c n0 T' h' cells slots → Wr h h' a i (.int x') → AI Z h' a .char n (fun q => if q = i then x' else f q) → Go p e below Ed n0 rc rs P T' (mkF m pc' Ls st)) : Go p e below Ed n0 rc rs P T (mkF m pc Ls (.int x :: .int j :: .ref a :: st)) := by
  obtain ⟨locs, X, eT, N, hn⟩ := X; obtain ⟨hx, hZ, hby, hown, hml, hlk, hrt⟩ := C; subst hp hv
  obtain ⟨cl, A', r1, r2, r3⟩ := id A
  obtain ⟨T', h', X', e', W, st'⟩ := RoadKit.stC X hx hZ eT A' (in_of hj hi r1) (g := mkF m pc Ls (.int x :: .int j :: .ref a :: st)) rfl rfl (hb hby hd)
  have N' := Fr.snoc X' N ha
  rw [clamp_of hj] at W
  exact Go.of st' (k T' h' ⟨_, X', e', N', by rw [W.size]; exact hn⟩ W (A.set W))
theorem Go.zastore (C : Cx p s m meth c Z bytes own ret maxL) (X : On p l e R s m args below meth c n0 T h cells slots) {a : Addr} {n : Nat} {f : Nat → Int32} {j x x' : Int32} {i : Nat} (A : AI Z h a .boolean n f) (hj : j.toInt = (i : Int)) (hi : i < n) (hv : nar .boolean x = x') (ha : n0 ≤ a) (hd : decode bytes pc = .ok (.bastore, 1)) (hp : pc + 1 = pc')
    (k : ∀ T' h', On p l e R s m args below meth c n0 T' h' cells slots → Wr h h' a i (.int x') → AI Z h' a .boolean n (fun q => if q = i then x' else f q) → Go p e below Ed n0 rc rs P T' (mkF m pc' Ls st)) : Go p e below Ed n0 rc rs P T (mkF m pc Ls (.int x :: .int j :: .ref a :: st)) := by
  obtain ⟨locs, X, eT, N, hn⟩ := X; obtain ⟨hx, hZ, hby, hown, hml, hlk, hrt⟩ := C; subst hp hv
  obtain ⟨cl, A', r1, r2, r3⟩ := id A
  obtain ⟨T', h', X', e', W, st'⟩ := RoadKit.stZ X hx hZ eT A' (in_of hj hi r1) (g := mkF m pc Ls (.int x :: .int j :: .ref a :: st)) rfl rfl (hb hby hd)
  have N' := Fr.snoc X' N ha
  rw [clamp_of hj] at W
  exact Go.of st' (k T' h' ⟨_, X', e', N', by rw [W.size]; exact hn⟩ W (A.set W))
theorem Go.lastore (C : Cx p s m meth c Z bytes own ret maxL) (X : On p l e R s m args below meth c n0 T h cells slots) {a : Addr} {n : Nat} {f : Nat → Int64} {j : Int32} {x : Int64} {i : Nat} (A : AJ Z h a n f) (hj : j.toInt = (i : Int)) (hi : i < n) (ha : n0 ≤ a) (hd : decode bytes pc = .ok (.lastore, 1)) (hp : pc + 1 = pc')
    (k : ∀ T' h', On p l e R s m args below meth c n0 T' h' cells slots → Wr h h' a i (.long x) → AJ Z h' a n (fun q => if q = i then x else f q) → Go p e below Ed n0 rc rs P T' (mkF m pc' Ls st)) : Go p e below Ed n0 rc rs P T (mkF m pc Ls (.long x :: .int j :: .ref a :: st)) := by
  obtain ⟨locs, X, eT, N, hn⟩ := X; obtain ⟨hx, hZ, hby, hown, hml, hlk, hrt⟩ := C; subst hp
  obtain ⟨cl, A', r1, r2, r3⟩ := id A
  obtain ⟨T', h', X', e', W, st'⟩ := RoadKit.stJ X hx hZ eT A' (in_of hj hi r1) (g := mkF m pc Ls (.long x :: .int j :: .ref a :: st)) rfl rfl (hb hby hd)
  have N' := Fr.snoc X' N ha
  rw [clamp_of hj] at W
  exact Go.of st' (k T' h' ⟨_, X', e', N', by rw [W.size]; exact hn⟩ W (A.set W))
def AR (Z : State) (h : Heap) (a : Addr) (ty : FieldType) (n : Nat) (f : Nat → Value) : Prop := ∃ cl : Cell, Arr Z h a cl ty ∧ cl.slots.size = n ∧ n < 2 ^ 31 ∧ (∀ i, i < n → cl.slots[i]? = some (f i)) ∧ FitC Z cl
theorem AR.lt {a : Addr} {ty : FieldType} {n : Nat} {f : Nat → Value} (F : AR Z h a ty n f) : a < h.size := by obtain ⟨c, A, -⟩ := F; exact A.lt
theorem AR.ext {h' : Heap} {a : Addr} {ty : FieldType} {n : Nat} {f : Nat → Value} (F : AR Z h a ty n f) (E : Ext h h') : AR Z h' a ty n f := by obtain ⟨c, A, r⟩ := F; exact ⟨c, A.ext E, r⟩
theorem AR.other {h' : Heap} {a b : Addr} {sl : Nat} {v : Value} {ty : FieldType} {n : Nat} {f : Nat → Value} (F : AR Z h b ty n f) (W : Wr h h' a sl v) (q : b ≠ a) : AR Z h' b ty n f := by obtain ⟨c, A, r⟩ := F; exact ⟨c, A.other W q, r⟩
theorem AR.keep {h' : Heap} {a : Addr} {ws : List Addr} {ty : FieldType} {n : Nat} {f : Nat → Value} (F : AR Z h a ty n f) (K : Keep h h' ws) (q : a ∉ ws) : AR Z h' a ty n f := by obtain ⟨c, A, r⟩ := F; exact ⟨c, ⟨K.2.1 a c A.1 q, A.2⟩, r⟩
theorem Go.alenR (C : Cx p s m meth c Z bytes own ret maxL) (X : On p l e R s m args below meth c n0 T h cells slots) {a : Addr} {ty : FieldType} {n : Nat} {f : Nat → Value} {z : Int32} (A : AR Z h a ty n f) (hz : z.toInt = (n : Int)) (hd : decode bytes pc = .ok (.arraylength, 1)) (hp : pc + 1 = pc') (k : Go p e below Ed n0 rc rs P T (mkF m pc' Ls (.int z :: st))) : Go p e below Ed n0 rc rs P T (mkF m pc Ls (.ref a :: st)) := by
  obtain ⟨locs, X, eT, N, hn⟩ := X; obtain ⟨hx, hZ, hby, hown, hml, hlk, hrt⟩ := C; subst hp
  obtain ⟨cl, A, r1, r2, r3⟩ := A
  refine Go.of (fun t q => X.arraylength hx (by rw [eT]; exact A.1) (State.isArrayOf_alike hZ.alike A.2.1) (g := mkF m pc Ls (.ref a :: st)) rfl rfl (hb hby hd) t ?_) k
  rw [r1, len32 hz]; exact q
theorem Go.aaload (C : Cx p s m meth c Z bytes own ret maxL) (X : On p l e R s m args below meth c n0 T h cells slots) {a : Addr} {ty : FieldType} {n : Nat} {f : Nat → Value} {j : Int32} {i : Nat} {w : Value} (A : AR Z h a ty n f) (hty : ty.isReference = true) (hj : j.toInt = (i : Int)) (hi : i < n) (hw : f i = w) (hd : decode bytes pc = .ok (.aaload, 1)) (hp : pc + 1 = pc') (k : Go p e below Ed n0 rc rs P T (mkF m pc' Ls (w :: st))) : Go p e below Ed n0 rc rs P T (mkF m pc Ls (.int j :: .ref a :: st)) := by
  obtain ⟨locs, X, eT, N, hn⟩ := X; obtain ⟨hx, hZ, hby, hown, hml, hlk, hrt⟩ := C; subst hp hw
  obtain ⟨cl, A, r1, r2, r3, r4⟩ := A
  exact Go.of (fun t q => X.aaload hx (j := j) (v := f i) (by rw [eT]; exact A.1) (State.isArrayOf_alike hZ.alike A.2.1) hty A.2.2 (in_of hj hi r1) (by rw [clamp_of hj]; exact r3 i hi) (g := mkF m pc Ls (.int j :: .ref a :: st)) rfl rfl (hb hby hd) t q) k
theorem Go.cloneA (C : Cx p s m meth c Z bytes own ret maxL) (X : On p l e R s m args below meth c n0 T h cells slots) {ad : String} {i : Nat} {a : Addr} {ty : FieldType} {n W cap : Nat} {f : Nat → Value}
    (w1 : (Cond.methodLink own i ⟨ad, "clone", "()Ljava/lang/Object;"⟩).before a0 Z = true) (w2 : (Cond.sameMethod ad "java/lang/Object" "clone" "()Ljava/lang/Object;").before a0 Z = true) (w3 : (Cond.native ⟨"java/lang/Object", "clone", "()Ljava/lang/Object;"⟩).before a0 Z = true)
    (w4 : (Cond.instanceMethod ⟨"java/lang/Object", "clone", "()Ljava/lang/Object;"⟩).before a0 Z = true) (w5 : (Cond.selects ad ⟨ad, "clone", "()Ljava/lang/Object;"⟩ ⟨"java/lang/Object", "clone", "()Ljava/lang/Object;"⟩).before a0 Z = true) (w6 : (Cond.castable ad "java/lang/Cloneable").before a0 Z = true)
    (A : AR Z h a ty n f) (E : Exa Z h a ad) (hsz : Ls.size = maxL) (hd : decode bytes pc = .ok (.invokevirtual i, 3)) (hf : 1 ≤ R.frames) (hW : (st.map fun v => v.category).sum ≤ W) (hl : W + 14 ≤ R.locals) (hcap : n ≤ cap) (hc : cells + 1 ≤ R.cells) (hsl : slots + cap ≤ R.slots) (hp : pc + 3 = pc')
    (k : ∀ T' h' b, On p l e R s m args below meth c n0 T' h' (cells + 1) (slots + cap) → b = h.size → Ext h h' → AR Z h' b ty n f → Exa Z h' b ad → n0 ≤ b → Go p e below Ed n0 rc rs P T' (mkF m pc' Ls (.ref b :: st))) : Go p e below Ed n0 rc rs P T (mkF m pc Ls (.ref a :: st)) := by
  obtain ⟨locs, X, eT, N, hn⟩ := X; obtain ⟨hx, hZ, hby, hown, hml, hlk, hrt⟩ := C; subst hp
  obtain ⟨cl, A, r1, r2, r3, r4⟩ := A
  obtain ⟨T', h', X', e', ex, A', E', st'⟩ := RoadKit.cloneA X hx hZ hown w1 w2 w3 w4 w5 w6 eT A E r4 (g := mkF m pc Ls (.ref a :: st)) rfl (by rw [hml]; exact hsz) rfl (hb hby hd) hf (W := W) (cap := cap) (by simpa using hW) hl (by rw [r1]; exact hcap) hc hsl
  exact Go.of st' (k T' h' h.size ⟨_, X', e', N, Nat.le_trans hn ex.1⟩ rfl ex ⟨cloneOf cl, A', r1, r2, r3, r4⟩ E' hn)
theorem Go.callS (C : Cx p s m meth c Z bytes own ret maxL) (X : On p l e R s m args below meth c n0 T h cells slots) {y : MethodName} {cb : ByteArray} {cm : Nat} {cr : Option FieldType} {rm : Room} {as' : Array Value} {P' : Option Value → Heap → Prop} {i W : Nat} {argsL rest : List Value} (K : Con l Z y cb cm cr rm as' h n0 P') (w1 : (Cond.methodLink own i y).before a0 Z = true) (w2 : (Cond.static y).before a0 Z = true) (w3 : (Cond.initialized y.cls).before a0 Z = true) (w4 : (Cond.code y cb cm cr).before a0 Z = true) (hy : y.cls ≠ "java/lang/invoke/MethodHandle" ∧ y.cls ≠ "java/lang/invoke/VarHandle")
    (has : argsL.toArray = as') (hst : st = argsL.reverse ++ rest) (hlen : ∀ sig, parseMethodDescriptor y.desc = some sig → argsL.length = sig.parameters.length) (hsz : Ls.size = maxL) (hW : (rest.map fun v => v.category).sum ≤ W) (hf : rm.frames + 1 ≤ R.frames) (hlo : W + (cm + 11) + rm.locals ≤ R.locals) (hce : cells + rm.cells ≤ R.cells) (hsl : slots + rm.slots ≤ R.slots) (hd : decode bytes pc = .ok (.invokestatic i, 3)) (hp : pc + 3 = pc')
    (hgrow : ∀ v h', P' v h' → h.size ≤ h'.size)
    (k : ∀ T' h' v, On p l e R s m args below meth c n0 T' h' (cells + rm.cells) (slots + rm.slots) → P' v h' → Go p e below Ed n0 rc rs P T' (mkF m pc' Ls (v.toList ++ rest))) : Go p e below Ed n0 rc rs P T (mkF m pc Ls st) := by
  obtain ⟨locs, X, eT, N, hn⟩ := X; obtain ⟨hx, hZ, hby, hown, hml, hlk, hrt⟩ := C; subst hp has hst
  obtain ⟨v, _, ⟨T', L', k', n'⟩, -, X', ⟨Lc, hQ, l', y', z'⟩, st'⟩ := Jvm.LawKit.callS X hx (y := y) hown (mvT hZ w1) (mvT hZ w2) (mvT hZ w3) (mvT hZ w4) hy (K.back (W := W) hZ w4 w3 hf hlo) (g := mkF m pc Ls (argsL.reverse ++ rest)) rfl (by rw [hml]; exact hsz) (argsL := argsL) (rest := rest) hlen rfl (by simpa using hW) (hb hby hd) (fun _ _ => ⟨rfl, eT, hce, hsl⟩)
  dsimp only [Pt.U, Pt.locs, Pt.cells, Pt.slots] at X' l' y' z' st' hQ
  subst l' y' z'
  exact Go.of st' (k T' _ v ⟨_, X', rfl, Fr.app N hQ.2, Nat.le_trans hn (hgrow _ _ hQ.1)⟩ hQ.1)
theorem Go.callI (C : Cx p s m meth c Z bytes own ret maxL) (X : On p l e R s m args below meth c n0 T h cells slots) {y : MethodName} {cb : ByteArray} {cm : Nat} {cr : Option FieldType} {rm : Room} {as' : Array Value} {P' : Option Value → Heap → Prop} {i W : Nat} {argsL rest : List Value} (K : Con l Z y cb cm cr rm as' h n0 P') {a : Addr} (hy1 : y.name = "<init>") (hcr : cr = none) (w1 : (Cond.methodLink own i y).before a0 Z = true) (w2 : (Cond.instanceMethod y).before a0 Z = true) (w3 : (Cond.initialized y.cls).before a0 Z = true) (w4 : (Cond.code y cb cm cr).before a0 Z = true) (hy : y.cls ≠ "java/lang/invoke/MethodHandle" ∧ y.cls ≠ "java/lang/invoke/VarHandle")
    (has : (.ref a :: argsL).toArray = as') (hst : st = argsL.reverse ++ .ref a :: rest) (hlen : ∀ sig, parseMethodDescriptor y.desc = some sig → argsL.length = sig.parameters.length) (hsz : Ls.size = maxL) (hW : (rest.map fun v => v.category).sum ≤ W) (hf : rm.frames + 1 ≤ R.frames) (hlo : W + (cm + 11) + rm.locals ≤ R.locals) (hce : cells + rm.cells ≤ R.cells) (hsl : slots + rm.slots ≤ R.slots) (hd : decode bytes pc = .ok (.invokespecial i, 3)) (hp : pc + 3 = pc')
    (hgrow : ∀ v h', P' v h' → h.size ≤ h'.size)
    (k : ∀ T' h' v, On p l e R s m args below meth c n0 T' h' (cells + rm.cells) (slots + rm.slots) → P' v h' → Go p e below Ed n0 rc rs P T' (mkF m pc' Ls (v.toList ++ rest))) : Go p e below Ed n0 rc rs P T (mkF m pc Ls st) := by
  obtain ⟨locs, X, eT, N, hn⟩ := X; obtain ⟨hx, hZ, hby, hown, hml, hlk, hrt⟩ := C; subst hp has hst hcr
  obtain ⟨v, _, ⟨T', L', k', n'⟩, -, X', ⟨Lc, hQ, l', y', z'⟩, st'⟩ := X.specialBack hx (y := y) hy1 hown (mvT hZ w1) (mvT hZ w2) (mvT hZ w4) hy (K.back (W := W) hZ w4 w3 hf hlo) (g := mkF m pc Ls (argsL.reverse ++ .ref a :: rest)) rfl (by rw [hml]; exact hsz) (Steps.refl _) (a := a) (argsL := argsL) (rest := rest) hlen rfl (by simpa using hW) (hb hby hd) (fun _ _ => ⟨rfl, eT, hce, hsl⟩)
  dsimp only [Pt.U, Pt.locs, Pt.cells, Pt.slots] at X' l' y' z' st' hQ
  subst l' y' z'
  exact Go.tr st' (k T' _ v ⟨_, X', rfl, Fr.app N hQ.2, Nat.le_trans hn (hgrow _ _ hQ.1)⟩ hQ.1)
theorem Go.callV (C : Cx p s m meth c Z bytes own ret maxL) (X : On p l e R s m args below meth c n0 T h cells slots) {y : MethodName} {cb : ByteArray} {cm : Nat} {cr : Option FieldType} {rm : Room} {as' : Array Value} {P' : Option Value → Heap → Prop} {i W : Nat} {argsL rest : List Value} (K : Con l Z y cb cm cr rm as' h n0 P') {y0 : MethodName} {a : Addr} {Ck : String} (E : Exa Z h a Ck) (nf : NotFace s y0) (w1 : (Cond.methodLink own i y0).before a0 Z = true) (w2 : (Cond.declares y0).before a0 Z = true) (w5 : (Cond.selects Ck y0 y).before a0 Z = true) (w6 : (Cond.instanceMethod y).before a0 Z = true) (w3 : (Cond.initialized y.cls).before a0 Z = true) (w4 : (Cond.code y cb cm cr).before a0 Z = true) (hy : y0.cls ≠ "java/lang/invoke/MethodHandle" ∧ y0.cls ≠ "java/lang/invoke/VarHandle")
    (has : (.ref a :: argsL).toArray = as') (hst : st = argsL.reverse ++ .ref a :: rest) (hlen : ∀ sig, parseMethodDescriptor y0.desc = some sig → argsL.length = sig.parameters.length) (hsz : Ls.size = maxL) (hW : (rest.map fun v => v.category).sum ≤ W) (hf : rm.frames + 1 ≤ R.frames) (hlo : W + (cm + 11) + rm.locals ≤ R.locals) (hce : cells + rm.cells ≤ R.cells) (hsl : slots + rm.slots ≤ R.slots) (hd : decode bytes pc = .ok (.invokevirtual i, 3)) (hp : pc + 3 = pc')
    (hgrow : ∀ v h', P' v h' → h.size ≤ h'.size)
    (k : ∀ T' h' v, On p l e R s m args below meth c n0 T' h' (cells + rm.cells) (slots + rm.slots) → P' v h' → Go p e below Ed n0 rc rs P T' (mkF m pc' Ls (v.toList ++ rest))) : Go p e below Ed n0 rc rs P T (mkF m pc Ls st) := by
  obtain ⟨locs, X, eT, N, hn⟩ := X; obtain ⟨hx, hZ, hby, hown, hml, hlk, hrt⟩ := C; subst hp has hst
  obtain ⟨cq, kq, qa, qb, qc⟩ := isOf hZ eT E
  obtain ⟨v, _, ⟨T', L', k', n'⟩, -, X', ⟨Lc, hQ, l', y', z'⟩, st'⟩ := X.virtualBack hx (y := y0) (z := y) hown (mvT hZ w1) (mvT hZ w2) nf (mvT hZ w5) (mvT hZ w6) hy (K.back (W := W) hZ w4 w3 hf hlo) qa qc (g := mkF m pc Ls (argsL.reverse ++ .ref a :: rest)) rfl (by rw [hml]; exact hsz) (Steps.refl _) (argsL := argsL) (rest := rest) hlen rfl (by simpa using hW) (hb hby hd) (fun _ _ => ⟨rfl, eT, hce, hsl⟩)
  dsimp only [Pt.U, Pt.locs, Pt.cells, Pt.slots] at X' l' y' z' st' hQ
  subst l' y' z'
  exact Go.tr st' (k T' _ v ⟨_, X', rfl, Fr.app N hQ.2, Nat.le_trans hn (hgrow _ _ hQ.1)⟩ hQ.1)
theorem own_selp {y : MethodName} {kk : Nat} (hZ : Z.Warmed39 s.vm) (wi : (Cond.instantiable y.cls kk).before a0 Z = true) (w2 : (Cond.instanceMethod y).before a0 Z = true) (w6 : (Cond.privateMethod y).before a0 Z = true) (hy : y.cls ≠ "java/lang/invoke/MethodHandle" ∧ y.cls ≠ "java/lang/invoke/VarHandle") : (Cond.selects y.cls y y).before args s = true := by
  have wi' : (Cond.instantiable y.cls kk).before args s = true := mvT hZ wi
  obtain ⟨c2, k2, i1, i2, i3, i4, -⟩ := Cond.instantiable_spec wi'
  exact Jvm.Stand.selects_self_of_private i1 i2 (by simp only [Bool.or_eq_false_iff] at i4; exact i4.1) (Cond.privateMethod_at (mvP hZ w6 (args := #[]))) (mvT hZ w2) hy
theorem Go.callP (C : Cx p s m meth c Z bytes own ret maxL) (X : On p l e R s m args below meth c n0 T h cells slots) {y : MethodName} {cb : ByteArray} {cm : Nat} {cr : Option FieldType} {rm : Room} {as' : Array Value} {P' : Option Value → Heap → Prop} {i W : Nat} {argsL rest : List Value} (K : Con l Z y cb cm cr rm as' h n0 P') {a : Addr} {Ck : String} (E : Exa Z h a Ck) (w1 : (Cond.methodLink own i y).before a0 Z = true) (w2 : (Cond.instanceMethod y).before a0 Z = true) {kk : Nat} (w5 : (Cond.instantiable y.cls kk).before a0 Z = true) (w6 : (Cond.privateMethod y).before a0 Z = true) (w3 : (Cond.initialized y.cls).before a0 Z = true) (w4 : (Cond.code y cb cm cr).before a0 Z = true) (hy : y.cls ≠ "java/lang/invoke/MethodHandle" ∧ y.cls ≠ "java/lang/invoke/VarHandle")
    (has : (.ref a :: argsL).toArray = as') (hst : st = argsL.reverse ++ .ref a :: rest) (hlen : ∀ sig, parseMethodDescriptor y.desc = some sig → argsL.length = sig.parameters.length) (hsz : Ls.size = maxL) (hW : (rest.map fun v => v.category).sum ≤ W) (hf : rm.frames + 1 ≤ R.frames) (hlo : W + (cm + 11) + rm.locals ≤ R.locals) (hce : cells + rm.cells ≤ R.cells) (hsl : slots + rm.slots ≤ R.slots) (hd : decode bytes pc = .ok (.invokevirtual i, 3)) (hp : pc + 3 = pc')
    (hgrow : ∀ v h', P' v h' → h.size ≤ h'.size)
    (k : ∀ T' h' v, On p l e R s m args below meth c n0 T' h' (cells + rm.cells) (slots + rm.slots) → P' v h' → Go p e below Ed n0 rc rs P T' (mkF m pc' Ls (v.toList ++ rest))) : Go p e below Ed n0 rc rs P T (mkF m pc Ls st) := by
  obtain ⟨locs, X, eT, N, hn⟩ := X; obtain ⟨hx, hZ, hby, hown, hml, hlk, hrt⟩ := C; subst hp has hst
  obtain ⟨cq, qa, qb⟩ := E.cell
  obtain ⟨v, _, ⟨T', L', k', n'⟩, -, X', ⟨Lc, hQ, l', y', z'⟩, st'⟩ := X.privateBack hx (y := y) hown (mvT hZ w1) (mvT hZ w2) (own_selp hZ w5 w2 w6 hy) (Cond.privateMethod_at (mvP hZ w6 (args := #[]))) (mvT hZ w4) hy (K.back (W := W) hZ w4 w3 hf hlo) (g := mkF m pc Ls (argsL.reverse ++ .ref a :: rest)) rfl (by rw [hml]; exact hsz) (Steps.refl _) (a := a) (by rw [eT]; exact qa) qb (argsL := argsL) (rest := rest) hlen rfl (by simpa using hW) (hb hby hd) (fun _ _ => ⟨rfl, eT, hce, hsl⟩)
  dsimp only [Pt.U, Pt.locs, Pt.cells, Pt.slots] at X' l' y' z' st' hQ
  subst l' y' z'
  exact Go.tr st' (k T' _ v ⟨_, X', rfl, Fr.app N hQ.2, Nat.le_trans hn (hgrow _ _ hQ.1)⟩ hQ.1)
end Own
end Jvm.RoadKit
namespace Jvm.RoadKit
open Sem ClassFile Op Lib Jvm.Stand Jvm.Free Jvm.LawKit
section OwnW
variable {p : Program} {l : Launch} {e : Env} {R : Room} {s : State} {m : MethodId} {args : Array Value} {below : List Frame} {meth : Method} {c : Code} {T : State} {Z : State} {a0 : Array Value} {h : Heap} {cells slots n0 rc rs : Nat} {bytes : ByteArray} {own : String} {ret : Option FieldType} {maxL : Nat} {P : Option Value → Heap → Prop} {Ls : Array Slot} {pc pc' : Nat} {st : List Value} {EL : List (String × Nat)}
theorem Go.wide {g : JFrame} (k : Go p e below (FrameEnd s) n0 rc rs P T g) : Go p e below (ReturnedEndW s) n0 rc rs P T g := by
  obtain ⟨s₂, o, h1, h2, h3, v, L, h4, h5, h6, h7, h8⟩ := k
  exact ⟨s₂, o, h1, h2, h3, v, L, h4, h5, ReturnedEndW.of_narrow h6 h7 h8⟩
theorem Go.rebase {g : JFrame} {vm1 : Vm} {kk : Nat} (hS : s.Since vm1 kk) (k : Go p e below (ReturnedEndW (s.setVm vm1)) n0 rc rs (fun v hv => P v hv ∧ kk ≤ hv.size) T g) : Go p e below (ReturnedEndW s) n0 rc rs P T g := by
  obtain ⟨s₂, o, h1, h2, h3, v, L, h4, ⟨⟨h5, h5'⟩, h6⟩, r1, r2, r3, r4⟩ := k
  have q := hS.trans (vm₂ := s₂.vm) (n₂ := s₂.heap.size) ⟨r2, r3⟩ h5'
  exact ⟨s₂, o, h1, h2, h3, v, L, h4, ⟨h5, h6⟩, r1, q.1, q.2, r4.setVm s.vm⟩
def ConW (l : Launch) (Z : State) (y : MethodName) (bytes : ByteArray) (maxL : Nat) (ret : Option FieldType) (rm : Room) (as' : Array Value) (h0 : Heap) (n0 : Nat) (EL : List (String × Nat)) (P : Option Value → Heap → Prop) : Prop :=
  ∀ ws, MetFree l y (head1 (Cond.code y bytes maxL ret :: ws) rm) (fun a U => a = as' ∧ Z.Warmed39 U.vm ∧ U.heap = h0 ∧ CHv Z EL U.vm h0) (fun _ _ _ _ _ => True) (fun _ U o U' => ∃ v L, o = .returned v ∧ (P v U'.heap ∧ Fr n0 L) ∧ ReturnedEndW U o U' L rm.cells rm.slots)
theorem ConW.enter {y : MethodName} {rm : Room} {as' : Array Value} {h0 : Heap} (hpl : plainFor y = true) (hz : n0 ≤ h0.size)
    (body : ∀ p e s m below meth c T, Cx p s m meth c Z bytes y.cls ret maxL → meth.name = y.name → On p l e rm s m as' below meth c n0 T h0 0 0 → CHv Z EL s.vm h0 → Go p e below (ReturnedEndW s) n0 rm.cells rm.slots P T (entryFrame m as' maxL)) :
    ConW l Z y bytes maxL ret rm as' h0 n0 EL P := by
  intro ws
  refine MetFree.of_bodySF hpl hisR ?_
  intro p e s m args below meth c s₁ Bd hml0 hP hK
  obtain ⟨rfl, hZ, hh, hH⟩ := hP
  have X0 := Stand.of_body Bd
  have e0 : s₁.heap = h0 := by rw [← hh, Bd.state]; rfl
  exact body p e s m below meth c s₁ ⟨Bd.exec, hZ, Bd.bytes, findClass_of_methodNamed Bd.named, hml0, BodyLoose.notSynchronized Bd, Bd.returns⟩ (name_of_methodNamed Bd.named Bd.method).1 ⟨[], X0, e0, Fr.nil n0, hz⟩ hH
theorem ConW.back {y : MethodName} {rm : Room} {as' : Array Value} {W : Nat} {P' : Option Value → Heap → Prop} {cb : ByteArray} {cm : Nat} {cr : Option FieldType} (K : ConW l Z y cb cm cr rm as' h n0 EL P') (hZ : Z.Warmed39 s.vm) (wc : (Cond.code y cb cm cr).before a0 Z = true) (wz : (Cond.initialized y.cls).before a0 Z = true) (hf : rm.frames + 1 ≤ R.frames) (hl : W + (cm + 11) + rm.locals ≤ R.locals) (hEL : EW Z a0 EL) (H : CHv Z EL s.vm h) :
    BackS l R p e below s args y 3 W (fun A a => a = as' ∧ A.U.heap = h ∧ A.cells + rm.cells ≤ R.cells ∧ A.slots + rm.slots ≤ R.slots)
      (fun A _ v B => ∃ L, (P' v B.U.heap ∧ Fr n0 L) ∧ B.locs = A.locs ++ L ∧ B.cells = A.cells + rm.cells ∧ B.slots = A.slots + rm.slots) := by
  refine BackS.of_freeW (bytes := cb) (maxL := cm) (ret := cr) (E := fun _ _ o t L k n => k = rm.cells ∧ n = rm.slots ∧ ∃ v, o = .returned v ∧ (P' v t.heap ∧ Fr n0 L)) (K []) hf hl ?_ ?_ (fun _ _ _ _ _ _ _ _ _ => trivial) ?_ ?_
  · intro m meth c A a Y hp
    have hU : Z.Warmed39 A.U.vm := wtrans hZ Y.warmed
    exact ⟨by show (Cond.and _ .tt).before a A.U = true; rw [Cond.before_and, mv hU wc]; rfl, mv hU wc, mv hU wz, hp.2.2.1, hp.2.2.2⟩
  · intro m meth c A a g mk Y hp
    exact ⟨hp.1, wtrans hZ Y.warmed, hp.2.1, (CHv.at (s := s) (vm0 := s.vm) Y hZ hEL H).1⟩
  · rintro _ _ _ _ ⟨v, L, h1, h2, h3⟩
    exact ⟨L, _, _, h3, rfl, rfl, v, h1, h2⟩
  · rintro m meth c A a g mk v t L k n Y hp - - ⟨e1, e2, v', e3, e4⟩
    cases e3; subst e1 e2
    exact ⟨L, e4, rfl, rfl, rfl⟩
theorem Go.callSW (C : Cx p s m meth c Z bytes own ret maxL) (X : On p l e R s m args below meth c n0 T h cells slots) {y : MethodName} {cb : ByteArray} {cm : Nat} {cr : Option FieldType} {rm : Room} {as' : Array Value} {P' : Option Value → Heap → Prop} {i W : Nat} {argsL rest : List Value} (K : ConW l Z y cb cm cr rm as' h n0 EL P') (hEL : EW Z a0 EL) (H : CHv Z EL s.vm h) (w1 : (Cond.methodLink own i y).before a0 Z = true) (w2 : (Cond.static y).before a0 Z = true) (w3 : (Cond.initialized y.cls).before a0 Z = true) (w4 : (Cond.code y cb cm cr).before a0 Z = true) (hy : y.cls ≠ "java/lang/invoke/MethodHandle" ∧ y.cls ≠ "java/lang/invoke/VarHandle")
    (has : argsL.toArray = as') (hst : st = argsL.reverse ++ rest) (hlen : ∀ sig, parseMethodDescriptor y.desc = some sig → argsL.length = sig.parameters.length) (hsz : Ls.size = maxL) (hW : (rest.map fun v => v.category).sum ≤ W) (hf : rm.frames + 1 ≤ R.frames) (hlo : W + (cm + 11) + rm.locals ≤ R.locals) (hce : cells + rm.cells ≤ R.cells) (hsl : slots + rm.slots ≤ R.slots) (hd : decode bytes pc = .ok (.invokestatic i, 3)) (hp : pc + 3 = pc')
    (k : ∀ T' h' v, On p l e R (s.setVm T'.vm) m args below meth c n0 T' h' (cells + rm.cells) (slots + rm.slots) → Cx p (s.setVm T'.vm) m meth c Z bytes own ret maxL → P' v h' → Go p e below (ReturnedEndW (s.setVm T'.vm)) n0 rc rs (fun v hv => P v hv ∧ h'.size ≤ hv.size) T' (mkF m pc' Ls (v.toList ++ rest))) : Go p e below (ReturnedEndW s) n0 rc rs P T (mkF m pc Ls st) := by
  obtain ⟨locs, X, eT, N, hn⟩ := X; obtain ⟨hx, hZ, hby, hown, hml, hlk, hrt⟩ := C; subst hp has hst
  obtain ⟨v, _, ⟨T', L', k', n'⟩, -, X', hS', hg', ⟨Lc, hQ, l', y', z'⟩, st'⟩ := callSS X hx (y := y) hown (mvT hZ w1) (mvT hZ w2) (mvT hZ w3) (mvT hZ w4) hy (K.back (W := W) hZ w4 w3 hf hlo hEL H) (g := mkF m pc Ls (argsL.reverse ++ rest)) rfl (by rw [hml]; exact hsz) (argsL := argsL) (rest := rest) hlen rfl (by simpa using hW) (hb hby hd) (fun _ _ => ⟨rfl, eT, hce, hsl⟩)
  dsimp only [Pt.U, Pt.locs, Pt.cells, Pt.slots] at X' hS' l' y' z' st' hQ hg'
  subst l' y' z'
  exact Go.tr st' (Go.rebase hS' (k T' _ v ⟨_, X', rfl, Fr.app N hQ.2, Nat.le_trans hn (by rw [← eT]; exact hg')⟩ ⟨hx, State.Warmed39.trans hZ hS'.1, hby, (hS'.1.alike.findClass _ _).trans hown, hml, hlk, hrt⟩ hQ.1))
theorem Go.callIW (C : Cx p s m meth c Z bytes own ret maxL) (X : On p l e R s m args below meth c n0 T h cells slots) {y : MethodName} {cb : ByteArray} {cm : Nat} {cr : Option FieldType} {rm : Room} {as' : Array Value} {P' : Option Value → Heap → Prop} {i W : Nat} {argsL rest : List Value} (K : ConW l Z y cb cm cr rm as' h n0 EL P') {a : Addr} (hEL : EW Z a0 EL) (H : CHv Z EL s.vm h) (hy1 : y.name = "<init>") (hcr : cr = none) (w1 : (Cond.methodLink own i y).before a0 Z = true) (w2 : (Cond.instanceMethod y).before a0 Z = true) (w3 : (Cond.initialized y.cls).before a0 Z = true) (w4 : (Cond.code y cb cm cr).before a0 Z = true) (hy : y.cls ≠ "java/lang/invoke/MethodHandle" ∧ y.cls ≠ "java/lang/invoke/VarHandle")
    (has : (.ref a :: argsL).toArray = as') (hst : st = argsL.reverse ++ .ref a :: rest) (hlen : ∀ sig, parseMethodDescriptor y.desc = some sig → argsL.length = sig.parameters.length) (hsz : Ls.size = maxL) (hW : (rest.map fun v => v.category).sum ≤ W) (hf : rm.frames + 1 ≤ R.frames) (hlo : W + (cm + 11) + rm.locals ≤ R.locals) (hce : cells + rm.cells ≤ R.cells) (hsl : slots + rm.slots ≤ R.slots) (hd : decode bytes pc = .ok (.invokespecial i, 3)) (hp : pc + 3 = pc')
    (k : ∀ T' h' v, On p l e R (s.setVm T'.vm) m args below meth c n0 T' h' (cells + rm.cells) (slots + rm.slots) → Cx p (s.setVm T'.vm) m meth c Z bytes own ret maxL → P' v h' → Go p e below (ReturnedEndW (s.setVm T'.vm)) n0 rc rs (fun v hv => P v hv ∧ h'.size ≤ hv.size) T' (mkF m pc' Ls (v.toList ++ rest))) : Go p e below (ReturnedEndW s) n0 rc rs P T (mkF m pc Ls st) := by
  obtain ⟨locs, X, eT, N, hn⟩ := X; obtain ⟨hx, hZ, hby, hown, hml, hlk, hrt⟩ := C; subst hp has hst hcr
  obtain ⟨v, _, ⟨T', L', k', n'⟩, -, X', hS', hg', ⟨Lc, hQ, l', y', z'⟩, st'⟩ := X.specialBackS hx (y := y) hy1 hown (mvT hZ w1) (mvT hZ w2) (mvT hZ w4) hy (K.back (W := W) hZ w4 w3 hf hlo hEL H) (g := mkF m pc Ls (argsL.reverse ++ .ref a :: rest)) rfl (by rw [hml]; exact hsz) (Steps.refl _) (a := a) (argsL := argsL) (rest := rest) hlen rfl (by simpa using hW) (hb hby hd) (fun _ _ => ⟨rfl, eT, hce, hsl⟩)
  dsimp only [Pt.U, Pt.locs, Pt.cells, Pt.slots] at X' hS' l' y' z' st' hQ hg'
  subst l' y' z'
  exact Go.tr st' (Go.rebase hS' (k T' _ v ⟨_, X', rfl, Fr.app N hQ.2, Nat.le_trans hn (by rw [← eT]; exact hg')⟩ ⟨hx, State.Warmed39.trans hZ hS'.1, hby, (hS'.1.alike.findClass _ _).trans hown, hml, hlk, hrt⟩ hQ.1))
theorem Go.callVW (C : Cx p s m meth c Z bytes own ret maxL) (X : On p l e R s m args below meth c n0 T h cells slots) {y : MethodName} {cb : ByteArray} {cm : Nat} {cr : Option FieldType} {rm : Room} {as' : Array Value} {P' : Option Value → Heap → Prop} {i W : Nat} {argsL rest : List Value} (K : ConW l Z y cb cm cr rm as' h n0 EL P') {y0 : MethodName} {a : Addr} {Ck : String} (hEL : EW Z a0 EL) (H : CHv Z EL s.vm h) (E : Exa Z h a Ck) (nf : NotFace s y0) (w1 : (Cond.methodLink own i y0).before a0 Z = true) (w2 : (Cond.declares y0).before a0 Z = true) (w5 : (Cond.selects Ck y0 y).before a0 Z = true) (w6 : (Cond.instanceMethod y).before a0 Z = true) (w3 : (Cond.initialized y.cls).before a0 Z = true) (w4 : (Cond.code y cb cm cr).before a0 Z = true) (hy : y0.cls ≠ "java/lang/invoke/MethodHandle" ∧ y0.cls ≠ "java/lang/invoke/VarHandle")
    (has : (.ref a :: argsL).toArray = as') (hst : st = argsL.reverse ++ .ref a :: rest) (hlen : ∀ sig, parseMethodDescriptor y0.desc = some sig → argsL.length = sig.parameters.length) (hsz : Ls.size = maxL) (hW : (rest.map fun v => v.category).sum ≤ W) (hf : rm.frames + 1 ≤ R.frames) (hlo : W + (cm + 11) + rm.locals ≤ R.locals) (hce : cells + rm.cells ≤ R.cells) (hsl : slots + rm.slots ≤ R.slots) (hd : decode bytes pc = .ok (.invokevirtual i, 3)) (hp : pc + 3 = pc')
    (k : ∀ T' h' v, On p l e R (s.setVm T'.vm) m args below meth c n0 T' h' (cells + rm.cells) (slots + rm.slots) → Cx p (s.setVm T'.vm) m meth c Z bytes own ret maxL → P' v h' → Go p e below (ReturnedEndW (s.setVm T'.vm)) n0 rc rs (fun v hv => P v hv ∧ h'.size ≤ hv.size) T' (mkF m pc' Ls (v.toList ++ rest))) : Go p e below (ReturnedEndW s) n0 rc rs P T (mkF m pc Ls st) := by
  obtain ⟨locs, X, eT, N, hn⟩ := X; obtain ⟨hx, hZ, hby, hown, hml, hlk, hrt⟩ := C; subst hp has hst
  obtain ⟨cq, kq, qa, qb, qc⟩ := isOf hZ eT E
  obtain ⟨v, _, ⟨T', L', k', n'⟩, -, X', hS', hg', ⟨Lc, hQ, l', y', z'⟩, st'⟩ := X.virtualBackS hx (y := y0) (z := y) hown (mvT hZ w1) (mvT hZ w2) nf (mvT hZ w5) (mvT hZ w6) hy (K.back (W := W) hZ w4 w3 hf hlo hEL H) qa qc (g := mkF m pc Ls (argsL.reverse ++ .ref a :: rest)) rfl (by rw [hml]; exact hsz) (Steps.refl _) (argsL := argsL) (rest := rest) hlen rfl (by simpa using hW) (hb hby hd) (fun _ _ => ⟨rfl, eT, hce, hsl⟩)
  dsimp only [Pt.U, Pt.locs, Pt.cells, Pt.slots] at X' hS' l' y' z' st' hQ hg'
  subst l' y' z'
  exact Go.tr st' (Go.rebase hS' (k T' _ v ⟨_, X', rfl, Fr.app N hQ.2, Nat.le_trans hn (by rw [← eT]; exact hg')⟩ ⟨hx, State.Warmed39.trans hZ hS'.1, hby, (hS'.1.alike.findClass _ _).trans hown, hml, hlk, hrt⟩ hQ.1))
theorem AI.ofArv {b : Addr} {k : ClassId} {z : Int32} {vs : List Value} {d : Value} {f : Nat → Int32} (A : Arv Z h b k .byte z vs d) (hl : z.toNatClampNeg = vs.length) (hf : ∀ i, i < vs.length → vs[i]? = some (.int (f i))) : AI Z h b .byte vs.length f := by
  obtain ⟨cl, A1, -, A3, A4, A5, -⟩ := A
  have h2 : z.toInt < 2147483648 := z.toInt_lt
  have h3 : z.toNatClampNeg = z.toInt.toNat := rfl
  refine ⟨cl, A1, by rw [A3, hl], by omega, fun i hi => ?_⟩
  have q := A5 i (by rw [A3, hl]; exact hi)
  rw [q]
  simp [hf i hi]
theorem Go.ldcW (C : Cx p s m meth c Z bytes own ret maxL) (X : On p l e R s m args below meth c n0 T h cells slots) {text : String} {i n : Nat} {z : Int32} {vs : List Value} {f : Nat → Int32} (hEL : EW Z a0 EL) (H : CHv Z EL s.vm h) (hmem : (own, i) ∈ EL) (w : (Cond.stringLink own i text).before a0 Z = true) (wS : ∀ a ∈ Bundle.stringAtoms, a.before a0 Z = true)
    (ht : (∀ c ∈ text.toList, c.toNat < 256) ∧ text.toList.map (fun c => Value.int (Jvm.Lit.byteI c.toNat.toUInt16)) = vs) (hz : ¬ z < 0) (hl : z.toNatClampNeg = vs.length) (hf : ∀ i, i < vs.length → vs[i]? = some (.int (f i))) (hd : decode bytes pc = .ok (.ldc i, 2)) (hn4 : 4 * text.toList.length ≤ n) (hbig : n ≤ 536870912) (hc : cells + 2 ≤ R.cells) (hsl : slots + (n + 4) ≤ R.slots) (hp : pc + 2 = pc')
    (k : ∀ T' h' a b, On p l e R (s.setVm T'.vm) m args below meth c n0 T' h' (cells + 2) (slots + (n + 4)) → Cx p (s.setVm T'.vm) m meth c Z bytes own ret maxL → Ext h h' → Exa Z h' a "java/lang/String" → Fld Z h' a "java/lang/String" "coder" "B" (.int 0) → Fld Z h' a "java/lang/String" "value" "[B" (.ref b) → AI Z h' b .byte vs.length f → CHv Z EL T'.vm h' → Lit (s.setVm T'.vm) own i a → (∀ (x : Addr) (K : String) (kn : Nat), Exa Z h' x K → (Cond.instantiable K kn).before a0 Z = true → x ≠ b) → Go p e below (ReturnedEndW (s.setVm T'.vm)) n0 rc rs (fun v hv => P v hv ∧ h'.size ≤ hv.size) T' (mkF m pc' Ls (.ref a :: st))) : Go p e below (ReturnedEndW s) n0 rc rs P T (mkF m pc Ls st) := by
  obtain ⟨locs, X, eT, N, hn⟩ := X; obtain ⟨hx, hZ, hby, hown, hml, hlk, hrt⟩ := C; subst hp
  obtain ⟨a, T', h', k1, b, kk, X', e', E', hS', hk', hZ', hown', r1, r2, r3, r4, -, -, r5, r6, -, st'⟩ := ldcCH (s := s) (vm0 := s.vm) X hx hZ hown w wS eT (k0 := h.size) ((State.WarmedH.refl s).since _) (Nat.le_refl _) hEL hmem H ht hz hl (g := mkF m pc Ls st) rfl (hb hby hd) hn4 hbig hc hsl
  have q := k T' h' a b ⟨_, X', e', N, Nat.le_trans hn E'.1⟩ ⟨hx, hZ', hby, hown', hml, hlk, hrt⟩ E' r1 r2 r3 (AI.ofArv r4 hl hf) r5.1 r6 (fun x K kn Ex wi => Exa.neArv Ex r4 wi)
  exact Go.of st' (Go.rebase hS' (Go.imp q fun v hv q => ⟨q.1, Nat.le_trans hk' q.2⟩))
theorem Go.ldcA (C : Cx p s m meth c Z bytes own ret maxL) (X : On p l e R s m args below meth c n0 T h cells slots) {text : String} {i : Nat} {a : Addr} (w : (Cond.stringLink own i text).before a0 Z = true) (L : Lit s own i a) (hd : decode bytes pc = .ok (.ldc i, 2)) (hp : pc + 2 = pc') (k : Go p e below (ReturnedEndW s) n0 rc rs P T (mkF m pc' Ls (.ref a :: st))) : Go p e below (ReturnedEndW s) n0 rc rs P T (mkF m pc Ls st) := by
  obtain ⟨locs, X, eT, N, hn⟩ := X; obtain ⟨hx, hZ, hby, hown, hml, hlk, hrt⟩ := C; subst hp
  exact Go.of (ldcAgain (s := s) (vm0 := s.vm) X hx hZ hown w L (g := mkF m pc Ls st) rfl (hb hby hd)) k
theorem Con.back5 {y : MethodName} {rm : Room} {as' : Array Value} {W : Nat} {P' : Option Value → Heap → Prop} {cb : ByteArray} {cm : Nat} {cr : Option FieldType} (K : Con l Z y cb cm cr rm as' h n0 P') (hZ : Z.Warmed39 s.vm) (wc : (Cond.code y cb cm cr).before a0 Z = true) (wz : (Cond.initialized y.cls).before a0 Z = true) (hf : rm.frames + 1 ≤ R.frames) (hl : W + (cm + 11) + rm.locals ≤ R.locals) :
    Back l R p e below s args y 5 W (fun A a => a = as' ∧ A.U.heap = h ∧ A.cells + rm.cells ≤ R.cells ∧ A.slots + rm.slots ≤ R.slots)
      (fun A _ v B => ∃ L, (P' v B.U.heap ∧ Fr n0 L) ∧ B.locs = A.locs ++ L ∧ B.cells = A.cells + rm.cells ∧ B.slots = A.slots + rm.slots) :=
  backOf (Q := fun v h L => P' v h ∧ Fr n0 L) (K []) hZ wc wz hf hl
theorem Go.callF {Ed : Outcome → State → List Loc → Nat → Nat → Prop} (C : Cx p s m meth c Z bytes own ret maxL) (X : On p l e R s m args below meth c n0 T h cells slots) {y : MethodName} {cb : ByteArray} {cm : Nat} {cr : Option FieldType} {rm : Room} {as' : Array Value} {P' : Option Value → Heap → Prop} {i W : Nat} {argsL rest : List Value} (K : Con l Z y cb cm cr rm as' h n0 P') {y0 : MethodName} {a : Addr} {Ck : String} {cnt : Nat} (Ex : Exa Z h a Ck) (w1 : (Cond.methodLink own i y0).before a0 Z = true) (w2 : (Cond.declares y0).before a0 Z = true) (w7 : (Cond.interfaceMethod y0.cls y0.cls y0.name y0.desc).before a0 Z = true) (hfa : ((Cond.interfaceMethod y0.cls y0.cls y0.name y0.desc).onTables && (Cond.interfaceMethod y0.cls y0.cls y0.name y0.desc).keepsFace) = true) (w5 : (Cond.selects Ck y0 y).before a0 Z = true) (w6 : (Cond.instanceMethod y).before a0 Z = true) (w8 : (Cond.publicMethod y).before a0 Z = true) (w9 : (Cond.unhidden Ck y0.name y0.desc).before a0 Z = true) (w10 : (Cond.castable Ck y0.cls).before a0 Z = true) (w3 : (Cond.initialized y.cls).before a0 Z = true) (w4 : (Cond.code y cb cm cr).before a0 Z = true) (hy : y0.cls ≠ "java/lang/invoke/MethodHandle" ∧ y0.cls ≠ "java/lang/invoke/VarHandle")
    (has : (.ref a :: argsL).toArray = as') (hst : st = argsL.reverse ++ .ref a :: rest) (hlen : ∀ sig, parseMethodDescriptor y0.desc = some sig → argsL.length = sig.parameters.length) (hsz : Ls.size = maxL) (hW : (rest.map fun v => v.category).sum ≤ W) (hf : rm.frames + 1 ≤ R.frames) (hlo : W + (cm + 11) + rm.locals ≤ R.locals) (hce : cells + rm.cells ≤ R.cells) (hsl : slots + rm.slots ≤ R.slots) (hd : decode bytes pc = .ok (.invokeinterface i cnt, 5)) (hp : pc + 5 = pc')
    (hgrow : ∀ v h', P' v h' → h.size ≤ h'.size)
    (k : ∀ T' h' v, On p l e R s m args below meth c n0 T' h' (cells + rm.cells) (slots + rm.slots) → P' v h' → Go p e below Ed n0 rc rs P T' (mkF m pc' Ls (v.toList ++ rest))) : Go p e below Ed n0 rc rs P T (mkF m pc Ls st) := by
  obtain ⟨locs, X, eT, N, hn⟩ := X; obtain ⟨hx, hZ, hby, hown, hml, hlk, hrt⟩ := C; subst hp has hst
  obtain ⟨cq, kq, qa, qb, qc⟩ := isOf hZ eT Ex
  obtain ⟨v, _, ⟨T', L', k', n'⟩, -, X', ⟨Lc, hQ, l', y', z'⟩, st'⟩ := X.interfaceBack hx (xi := y0) (y := y) hown (mvT hZ w1) (mvT hZ w2) (mvT hZ w7 hfa) (mvT hZ w5) (mvT hZ w6) (mvT hZ w8) (mvT hZ w9) (mvT hZ w10) hy (K.back5 (W := W) hZ w4 w3 hf hlo) qa qb qc (g := mkF m pc Ls (argsL.reverse ++ .ref a :: rest)) rfl (by rw [hml]; exact hsz) (Steps.refl _) (argsL := argsL) (rest := rest) hlen rfl (by simpa using hW) (hb hby hd) (fun _ _ => ⟨rfl, eT, hce, hsl⟩)
  dsimp only [Pt.U, Pt.locs, Pt.cells, Pt.slots] at X' l' y' z' st' hQ
  subst l' y' z'
  exact Go.tr st' (k T' _ v ⟨_, X', rfl, Fr.app N hQ.2, Nat.le_trans hn (hgrow _ _ hQ.1)⟩ hQ.1)
end OwnW
end Jvm.RoadKit
namespace Jvm.RoadKit
theorem own_iadd {x y : Int32} (h1 : -2147483648 ≤ x.toInt + y.toInt) (h2 : x.toInt + y.toInt < 2147483648) : (x + y).toInt = x.toInt + y.toInt := by
  have h3 := c_iadd x y; have h4 := rng32 (x + y); omega
theorem own_isub {x y : Int32} (h1 : -2147483648 ≤ x.toInt - y.toInt) (h2 : x.toInt - y.toInt < 2147483648) : (x - y).toInt = x.toInt - y.toInt := by
  have h3 := c_isub x y; have h4 := rng32 (x - y); omega
theorem own_imul {x y : Int32} (h1 : -2147483648 ≤ x.toInt * y.toInt) (h2 : x.toInt * y.toInt < 2147483648) : (x * y).toInt = x.toInt * y.toInt := by
  have h3 := c_imul x y; have h4 := rng32 (x * y); omega
theorem own_ladd {x y : Int64} (h1 : -9223372036854775808 ≤ x.toInt + y.toInt) (h2 : x.toInt + y.toInt < 9223372036854775808) : (x + y).toInt = x.toInt + y.toInt := by
  have h3 := c_ladd x y; have h4 := rng64 (x + y); omega
theorem own_lsub {x y : Int64} (h1 : -9223372036854775808 ≤ x.toInt - y.toInt) (h2 : x.toInt - y.toInt < 9223372036854775808) : (x - y).toInt = x.toInt - y.toInt := by
  have h3 := c_lsub x y; have h4 := rng64 (x - y); omega
theorem own_lmul {x y : Int64} (h1 : -9223372036854775808 ≤ x.toInt * y.toInt) (h2 : x.toInt * y.toInt < 9223372036854775808) : (x * y).toInt = x.toInt * y.toInt := by
  have h3 := c_lmul x y; have h4 := rng64 (x * y); omega
theorem own_ilt {x y : Int32} : x < y ↔ x.toInt < y.toInt := Int32.lt_iff_toInt_lt
theorem own_jlt {x y : Int64} : x < y ↔ x.toInt < y.toInt := Int64.lt_iff_toInt_lt
theorem own_ieq {x y : Int32} : x = y ↔ x.toInt = y.toInt := Int32.toInt_inj.symm
theorem own_jeq {x y : Int64} : x = y ↔ x.toInt = y.toInt := Int64.toInt_inj.symm
theorem own_nilt {x y : Int32} (h : ¬ x < y) : ¬ x.toInt < y.toInt := fun q => h (own_ilt.mpr q)
theorem own_njlt {x y : Int64} (h : ¬ x < y) : ¬ x.toInt < y.toInt := fun q => h (own_jlt.mpr q)
theorem own_nieq {x y : Int32} (h : ¬ x = y) : ¬ x.toInt = y.toInt := fun q => h (own_ieq.mpr q)
theorem own_njeq {x y : Int64} (h : ¬ x = y) : ¬ x.toInt = y.toInt := fun q => h (own_jeq.mpr q)
theorem own_inc {x y : Int32} (h : x < y) : (x + (1 : Int32)).toInt = x.toInt + 1 := by
  rw [own_ilt] at h
  have h1 := rng32 x; have h2 := rng32 y
  have e : (1 : Int32).toInt = 1 := rfl
  rw [own_iadd (by omega) (by omega), e]
theorem own_dec {x y : Int32} (h : y < x) : (x + (-1 : Int32)).toInt = x.toInt - 1 := by
  rw [own_ilt] at h
  have h1 := rng32 x; have h2 := rng32 y
  have e : (-1 : Int32).toInt = -1 := rfl
  rw [own_iadd (by omega) (by omega), e]; omega
theorem own_nat32 {x : Int32} {n : Nat} (h : x.toInt = (n : Int)) : x = Int32.ofNat n := by
  apply Int32.toInt_inj.mp
  have := rng32 x
  rw [Int32.toInt_ofNat_of_lt (by omega), h]
theorem own_pos31 (x : Int32) : 0 ≤ (x &&& (2147483647 : Int32)).toInt := by
  have h := c_mask x 2147483647 31 (by decide) (by decide)
  rw [h]; exact Int.emod_nonneg _ (by decide)
theorem own_mod (x : Int32) (k : Int32) (d : Int) (hk : k.toInt = d) (hd : 0 < d) : ((x &&& (2147483647 : Int32)) % k).toInt = (x &&& (2147483647 : Int32)).toInt % d ∧ 0 ≤ ((x &&& (2147483647 : Int32)) % k).toInt ∧ ((x &&& (2147483647 : Int32)) % k).toInt < d := by
  have h := (c_irem (x &&& (2147483647 : Int32)) k d hk).1 (own_pos31 x)
  exact ⟨h, by rw [h]; exact Int.emod_nonneg _ (by omega), by rw [h]; exact Int.emod_lt_of_pos _ hd⟩
theorem own_upd {R : Int32 → Prop} {f : Nat → Int32} {x : Int32} {i : Nat} (h : ∀ q, R (f q)) (hx : R x) : ∀ q, R ((fun q => if q = i then x else f q) q) := fun q => by
  by_cases e : q = i
  · simp only [if_pos e]; exact hx
  · simp only [if_neg e]; exact h q
theorem own_i2b (x : Int32) : -128 ≤ (x.toInt8.toInt32).toInt ∧ (x.toInt8.toInt32).toInt ≤ 127 := by have := c_i2b x; omega
theorem own_b2 (x : Int32) : x.toInt8.toInt32.toInt8.toInt32 = x.toInt8.toInt32 := by rw [Int8.toInt8_toInt32]
theorem own_and3 (x : Int32) : x &&& (3 : Int32) = 0 ∨ x &&& (3 : Int32) = 1 ∨ x &&& (3 : Int32) = 2 ∨ x &&& (3 : Int32) = 3 := by
  have h := c_mask x 3 2 (by decide) (by decide)
  have z0 : (0 : Int32).toInt = 0 := rfl
  have z1 : (1 : Int32).toInt = 1 := rfl
  have z2 : (2 : Int32).toInt = 2 := rfl
  have z3 : (3 : Int32).toInt = 3 := rfl
  have h1 : ((2 ^ 2 : Nat) : Int) = 4 := rfl
  rw [h1] at h
  rw [own_ieq, own_ieq, own_ieq, own_ieq, z0, z1, z2, z3]
  omega
theorem own_and1 (x : Int32) : x &&& (1 : Int32) = 0 ∨ x &&& (1 : Int32) = 1 := by
  have h := c_mask x 1 1 (by decide) (by decide)
  have z0 : (0 : Int32).toInt = 0 := rfl
  have z1 : (1 : Int32).toInt = 1 := rfl
  have h1 : ((2 ^ 1 : Nat) : Int) = 2 := rfl
  rw [h1] at h
  rw [own_ieq, own_ieq, z0, z1]
  omega
end Jvm.RoadKit
namespace Jvm.Pilot.@@N@@
open Jvm Jvm.ClassFile Sem Op Lib Jvm.Free Jvm.Stand Jvm.LawKit Jvm.RoadKit Bundle Jvm.Pilot.@@N@@.Jvm.D
theorem own_ew {Z : State} {a0 : Array Value} (hw : ∀ d ∈ tables_1, d.before a0 Z = true) : EW Z a0 consts_1 := EW.cons (hw _ (List.mem_of_getElem? (i := 38) rfl)) (by decide) (EW.nil)
theorem own_sA {Z : State} {a0 : Array Value} (hw : ∀ d ∈ tables_1, d.before a0 Z = true) : ∀ a ∈ Bundle.stringAtoms, a.before a0 Z = true := fun c hc => hw c (by simpa using (List.all_eq_true.mp (by decide +kernel : (Bundle.stringAtoms.all fun c => tables_1.contains c) = true)) c hc)
theorem own_one {x : Int32} : ∀ i, i < [Value.int x].length → [Value.int x][i]? = some (.int ((fun _ => x) i)) := fun i hi => by
  obtain rfl : i = 0 := (by simpa using hi)
  rfl
abbrev own_B (u : Nat → Int32) (s k : Nat) : Prop := k ≤ s ∧ ∀ j, j < k → u (s - k + j) = u j
theorem own_B_refl (u : Nat → Int32) (s : Nat) : own_B u s s := ⟨Nat.le_refl _, fun j _ => by rw [Nat.sub_self, Nat.zero_add]⟩
theorem own_B_zero (u : Nat → Int32) (s : Nat) : own_B u s 0 := ⟨Nat.zero_le _, fun j h => absurd h (Nat.not_lt_zero _)⟩
theorem own_B_trans {u : Nat → Int32} {s b k : Nat} (h1 : own_B u s b) (h2 : own_B u b k) : own_B u s k := by
  refine ⟨Nat.le_trans h2.1 h1.1, fun j hj => ?_⟩
  have a := h1.1; have c := h2.1
  rw [show s - k + j = s - b + (b - k + j) by omega, h1.2 _ (by omega)]
  exact h2.2 j hj
theorem own_B_sub {u : Nat → Int32} {s b k : Nat} (h1 : own_B u s b) (h2 : own_B u s k) (h : k ≤ b) : own_B u b k := by
  refine ⟨h, fun j hj => ?_⟩
  have a := h1.1; have c := h2.1
  rw [← h1.2 _ (by omega : b - k + j < b), show s - b + (b - k + j) = s - k + j by omega]
  exact h2.2 j hj
def own_P (u : Nat → Int32) (s b : Nat) : Prop := own_B u s b ∧ b < s ∧ ∀ k, k < s → own_B u s k → k ≤ b
def own_F (u : Nat → Int32) (s : Nat) (x : Int32) (c : Nat) : Prop := own_B u s c ∧ (c = 0 ∨ u c = x) ∧ ∀ k, c < k → own_B u s k → ¬ u k = x
def own_fb (u : Nat → Int32) (b : Nat → Nat) (x : Int32) (s : Nat) : Nat := if h : 0 < s ∧ ¬ u s = x ∧ b s < s then own_fb u b x (b s) else s
termination_by s
decreasing_by exact h.2.2
theorem own_fb_step {u : Nat → Int32} {b : Nat → Nat} {x : Int32} {s : Nat} (h : 0 < s ∧ ¬ u s = x ∧ b s < s) : own_fb u b x s = own_fb u b x (b s) := by rw [own_fb, dif_pos h]
theorem own_fb_stop {u : Nat → Int32} {b : Nat → Nat} {x : Int32} {s : Nat} (h : ¬ (0 < s ∧ ¬ u s = x ∧ b s < s)) : own_fb u b x s = s := by rw [own_fb, dif_neg h]
theorem own_fb_le (u : Nat → Int32) (b : Nat → Nat) (x : Int32) (s : Nat) : own_fb u b x s ≤ s := by
  induction s using Nat.strongRecOn with
  | _ s ih =>
    by_cases h : 0 < s ∧ ¬ u s = x ∧ b s < s
    · rw [own_fb_step h]; exact Nat.le_trans (ih _ h.2.2) (Nat.le_of_lt h.2.2)
    · rw [own_fb_stop h]; exact Nat.le_refl _
theorem own_fb_F {u : Nat → Int32} {b : Nat → Nat} {x : Int32} {s : Nat} (c : Nat) (hb : ∀ k, 1 ≤ k → k ≤ c → own_P u k (b k)) (h1 : own_B u s c) (h2 : ∀ k, c < k → own_B u s k → ¬ u k = x) : own_F u s x (own_fb u b x c) := by
  induction c using Nat.strongRecOn with
  | _ c ih =>
    by_cases h : 0 < c ∧ ¬ u c = x ∧ b c < c
    · rw [own_fb_step h]
      have hP := hb c h.1 (Nat.le_refl _)
      refine ih (b c) h.2.2 (fun k a d => hb k a (by omega)) (own_B_trans h1 hP.1) (fun k a d => ?_)
      rcases Nat.lt_trichotomy k c with q | q | q
      · have := hP.2.2 k q (own_B_sub h1 d (by omega)); omega
      · rw [q]; exact h.2.1
      · exact h2 k q d
    · rw [own_fb_stop h]
      refine ⟨h1, ?_, h2⟩
      by_cases c0 : c = 0
      · exact Or.inl c0
      · refine Or.inr (Classical.byContradiction fun q => h ⟨by omega, q, (hb c (by omega) (Nat.le_refl _)).2.1⟩)
theorem own_fb_spec {u : Nat → Int32} {b : Nat → Nat} {x : Int32} {s : Nat} (hb : ∀ k, 1 ≤ k → k ≤ s → own_P u k (b k)) : own_F u s x (own_fb u b x s) :=
  own_fb_F s hb (own_B_refl u s) (fun k h d => absurd d.1 (by omega))
theorem own_P1 (u : Nat → Int32) : own_P u 1 0 := ⟨own_B_zero u 1, by decide, fun k h _ => by omega⟩
theorem own_back1 {u : Nat → Int32} {e k : Nat} (h : own_B u (e + 1) (k + 1)) : own_B u e k ∧ u e = u k := by
  have a := h.1
  refine ⟨⟨by omega, fun j hj => ?_⟩, ?_⟩
  · rw [← h.2 j (by omega)]; congr 1; omega
  · rw [← h.2 k (by omega)]; congr 1; omega
theorem own_nextY {u : Nat → Int32} {e bb c : Nat} (hP : own_P u e bb) (hF : own_F u bb (u e) c) (h : u c = u e) : own_P u (e + 1) (c + 1) := by
  have hB := own_B_trans hP.1 hF.1
  have a := hB.1; have a2 := hF.1.1; have a3 := hP.2.1
  refine ⟨⟨by omega, fun j hj => ?_⟩, by omega, fun k hk d => ?_⟩
  · by_cases q : j = c
    · subst q; rw [show e + 1 - (j + 1) + j = e by omega]; exact h.symm
    · rw [show e + 1 - (c + 1) + j = e - c + j by omega]; exact hB.2 j (by omega)
  · cases k with
    | zero => omega
    | succ k =>
      obtain ⟨d1, d2⟩ := own_back1 d
      have q := hP.2.2 k (by omega) d1
      have d3 := own_B_sub hP.1 d1 q
      refine Nat.succ_le_succ (Nat.le_of_not_lt fun z => hF.2.2 k z d3 d2.symm)
theorem own_nextN {u : Nat → Int32} {e bb c : Nat} (hP : own_P u e bb) (hF : own_F u bb (u e) c) (h : ¬ u c = u e) : own_P u (e + 1) c := by
  have c0 : c = 0 := hF.2.1.resolve_right h
  subst c0
  refine ⟨own_B_zero _ _, by omega, fun k hk d => ?_⟩
  cases k with
  | zero => omega
  | succ k =>
    obtain ⟨d1, d2⟩ := own_back1 d
    have q := hP.2.2 k (by omega) d1
    have d3 := own_B_sub hP.1 d1 q
    by_cases z : k = 0
    · subst z; exact absurd d2.symm h
    · exact absurd d2.symm (hF.2.2 k (by omega) d3)
def own_ofn (b : Nat → Nat) : Nat → Int32 := fun i => Int32.ofNat (b i)
def own_upn (b : Nat → Nat) (k x : Nat) : Nat → Nat := fun i => if i = k then x else b i
theorem own_upP {u : Nat → Int32} {b : Nat → Nat} {e x : Nat} (hb : ∀ k, 1 ≤ k → k ≤ e → own_P u k (b k)) (h : own_P u (e + 1) x) : ∀ k, 1 ≤ k → k ≤ e + 1 → own_P u k (own_upn b (e + 1) x k) := fun k a d => by
  unfold own_upn
  by_cases q : k = e + 1
  · subst q; rw [if_pos rfl]; exact h
  · rw [if_neg q]; exact hb k a (by omega)
theorem own_upP0 (u : Nat → Int32) : ∀ k, 1 ≤ k → k ≤ 1 → own_P u k 0 := fun k a d => by
  obtain rfl : k = 1 := (by omega)
  exact own_P1 u
theorem own_upo {b : Nat → Nat} {k x n : Nat} {v : Int32} (hv : v = Int32.ofNat x) : ∀ i, i < n → (if i = k then v else own_ofn b i) = own_ofn (own_upn b k x) i := fun i _ => by
  unfold own_ofn own_upn
  by_cases e : i = k
  · rw [if_pos e, if_pos e, hv]
  · rw [if_neg e, if_neg e]
theorem own_n32 {n : Nat} (h : n < 1000) : (Int32.ofNat n).toInt = (n : Int) := by
  rw [Int32.toInt_ofNat_of_lt (by omega)]
theorem own_o1 : (1 : Int32).toInt = 1 := rfl
theorem own_o0 : (0 : Int32).toInt = 0 := rfl
theorem own_add1 {n : Nat} (h : n < 900) : Int32.ofNat n + (1 : Int32) = Int32.ofNat (n + 1) := by
  apply Int32.toInt_inj.mp
  rw [own_iadd (by rw [own_n32 (by omega), own_o1]; omega) (by rw [own_n32 (by omega), own_o1]; omega), own_n32 (by omega), own_n32 (by omega), own_o1]; omega
theorem own_pn0 : plainName "com/example/needlewright/needlewright/Automaton" = true := by first | (simp [plainName, overriddenIn]; done) | decide +kernel
theorem own_ef_rm_len (m : MethodId) (x0 : Addr) : entryFrame m #[(.ref x0)] 1 = mkF m 0 #[.val (.ref x0)] [] := by first | (simp [entryFrame, mkF, argsToLocals, Value.category]; done) | rfl
theorem d19_0 : decode prog_3_method_2_code 0 = .ok (.aload_n 0, 1) := by decide +kernel
theorem d19_1 : decode prog_3_method_2_code 1 = .ok (.getfield 19, 3) := by decide +kernel
theorem d19_4 : decode prog_3_method_2_code 4 = .ok (.arraylength, 1) := by decide +kernel
theorem d19_5 : decode prog_3_method_2_code 5 = .ok (.iconst 1, 1) := by decide +kernel
theorem d19_6 : decode prog_3_method_2_code 6 = .ok (.isub, 1) := by decide +kernel
theorem d19_7 : decode prog_3_method_2_code 7 = .ok (.ireturn, 1) := by decide +kernel
set_option maxRecDepth 65536 in
set_option maxHeartbeats 40000000 in
theorem rm_len (l : Launch) (Z : State) (a0 : Array Value) (hw : ∀ d ∈ tables_1, d.before a0 Z = true) (a : Addr) (t : Addr) (m1 : Nat) (u : Nat → Int32) (z : Int32) (h0 : Heap) (n0 : Nat) (Z0 : n0 ≤ h0.size) (f0 : Fld Z h0 a "com/example/needlewright/needlewright/Automaton" "units" "[I" (.ref t)) (f1 : AI Z h0 t .int m1 u) (hz : z.toInt = (m1 : Int)) :
    Con l Z (⟨"com/example/needlewright/needlewright/Automaton", "length", "()I"⟩ : MethodName) prog_3_method_2_code 1 (some .int) ({ frames := 0, cells := 0, slots := 0, locals := 0 } : Room) #[(.ref a)] h0 n0 (fun rv hv => rv = some (.int (z - (1 : Int32))) ∧ h0 = hv) := by
  refine Con.enter (plainFor_of_name own_pn0) Z0 ?_
  intro p e s m below meth c T0 C hnm X0
  refine Go.cast (own_ef_rm_len m a) ?_
  refine Go.aloadN C X0 (pc' := 1) d19_0 rfl rfl rfl ?_
  refine Go.getF C X0 (pc' := 4) (host := "") (Or.inl (hw _ (List.mem_of_getElem? (i := 89) rfl))) Via.refl f0 d19_1 rfl (fun T1 X1 => ?_)
  refine Go.alenI C X1 (pc' := 5) (z := z) f1 hz d19_4 rfl ?_
  refine Go.iconst C X1 (pc' := 6) (v := (1 : Int32)) d19_5 rfl rfl ?_
  refine Go.isub C X1 (pc' := 7) d19_6 rfl ?_
  exact Go.retI C X1 d19_7 ⟨rfl, rfl⟩ (by decide) (by decide)
theorem own_ef_rm_fb (m : MethodId) (x0 : Addr) (x1 : Int32) (x2 : Int32) : entryFrame m #[(.ref x0), (.int x1), (.int x2)] 3 = mkF m 0 #[.val (.ref x0), .val (.int x1), .val (.int x2)] [] := by first | (simp [entryFrame, mkF, argsToLocals, Value.category]; done) | rfl
theorem d25_0 : decode prog_3_method_3_code 0 = .ok (.iload_n 1, 1) := by decide +kernel
theorem d25_1 : decode prog_3_method_3_code 1 = .ok (.ifCond .le 23, 3) := by decide +kernel
theorem d25_4 : decode prog_3_method_3_code 4 = .ok (.aload_n 0, 1) := by decide +kernel
theorem d25_5 : decode prog_3_method_3_code 5 = .ok (.getfield 19, 3) := by decide +kernel
theorem d25_8 : decode prog_3_method_3_code 8 = .ok (.iload_n 1, 1) := by decide +kernel
theorem d25_9 : decode prog_3_method_3_code 9 = .ok (.iaload, 1) := by decide +kernel
theorem d25_10 : decode prog_3_method_3_code 10 = .ok (.iload_n 2, 1) := by decide +kernel
theorem d25_11 : decode prog_3_method_3_code 11 = .ok (.if_icmp .eq 13, 3) := by decide +kernel
theorem d25_24 : decode prog_3_method_3_code 24 = .ok (.iload_n 1, 1) := by decide +kernel
theorem d25_25 : decode prog_3_method_3_code 25 = .ok (.ireturn, 1) := by decide +kernel
theorem d25_14 : decode prog_3_method_3_code 14 = .ok (.aload_n 0, 1) := by decide +kernel
theorem d25_15 : decode prog_3_method_3_code 15 = .ok (.getfield 23, 3) := by decide +kernel
theorem d25_18 : decode prog_3_method_3_code 18 = .ok (.iload_n 1, 1) := by decide +kernel
theorem d25_19 : decode prog_3_method_3_code 19 = .ok (.iaload, 1) := by decide +kernel
theorem d25_20 : decode prog_3_method_3_code 20 = .ok (.istore_n 1, 1) := by decide +kernel
theorem d25_21 : decode prog_3_method_3_code 21 = .ok (.goto (-21), 3) := by decide +kernel
set_option maxRecDepth 65536 in
set_option maxHeartbeats 40000000 in
theorem rm_fb (l : Launch) (Z : State) (a0 : Array Value) (hw : ∀ d ∈ tables_1, d.before a0 Z = true) (a : Addr) (s0 : Int32) (x : Int32) (t : Addr) (t2 : Addr) (m1 : Nat) (u : Nat → Int32) (b : Nat → Nat) (ss : Nat) (h0 : Heap) (n0 : Nat) (Z0 : n0 ≤ h0.size) (f0 : Fld Z h0 a "com/example/needlewright/needlewright/Automaton" "units" "[I" (.ref t)) (f1 : Fld Z h0 a "com/example/needlewright/needlewright/Automaton" "borders" "[I" (.ref t2)) (f2 : AI Z h0 t .int m1 u) (f3 : AI Z h0 t2 .int m1 (own_ofn b)) (hm1 : m1 ≤ 100) (hs : s0.toInt = (ss : Int)) (hss : ss < m1) (hb0 : ∀ k, 1 ≤ k → k ≤ ss → own_P u k (b k)) :
    Con l Z (⟨"com/example/needlewright/needlewright/Automaton", "fallBack", "(II)I"⟩ : MethodName) prog_3_method_3_code 3 (some .int) ({ frames := 0, cells := 0, slots := 0, locals := 0 } : Room) #[(.ref a), (.int s0), (.int x)] h0 n0 (fun rv hv => rv = some (.int (Int32.ofNat (own_fb u b x ss))) ∧ h0 = hv) := by
  refine Con.enter (plainFor_of_name own_pn0) Z0 ?_
  intro p e s m below meth c T0 C hnm X0
  refine Go.cast (own_ef_rm_fb m a s0 x) ?_
  have Cut0 : ∀ (fuel : Nat) (T_0 : State) (mm : Nat) (u1 : Int32), mm < fuel → (u1.toInt = (mm : Int)) → (mm < m1) → (mm ≤ ss) → (own_fb u b x mm = own_fb u b x ss) → On p l e ({ frames := 0, cells := 0, slots := 0, locals := 0 } : Room) s m #[(.ref a), (.int s0), (.int x)] below meth c n0 T_0 h0 0 0 → Go p e below (FrameEnd s) n0 (({ frames := 0, cells := 0, slots := 0, locals := 0 } : Room)).cells (({ frames := 0, cells := 0, slots := 0, locals := 0 } : Room)).slots (fun rv hv => rv = some (.int (Int32.ofNat (own_fb u b x ss))) ∧ h0 = hv) T_0 (mkF m 0 #[.val (.ref a), .val (.int u1), .val (.int x)] []) := by
    intro fuel
    induction fuel with
    | zero => intro T_0 mm u1 hM_0 h1 hm hms hf X_0; exact absurd hM_0 (Nat.not_lt_zero _)
    | succ fuel ih_0 =>
      intro T_0 mm u1 hM_0 h1 hm hms hf X_0
      refine Go.iloadN C X_0 (pc' := 1) d25_0 rfl rfl ?_
      by_cases c2 : (0 : Int32) < u1
      · refine Go.ifNo C X_0 (pc' := 4) d25_1 ((if0 _ _).trans (tlt c2).2.2.2) rfl ?_
        refine Go.aloadN C X_0 (pc' := 5) d25_4 rfl rfl rfl ?_
        refine Go.getF C X_0 (pc' := 8) (host := "") (Or.inl (hw _ (List.mem_of_getElem? (i := 89) rfl))) Via.refl f0 d25_5 rfl (fun T3 X3 => ?_)
        refine Go.iloadN C X3 (pc' := 9) d25_8 rfl rfl ?_
        refine Go.iaload C X3 (pc' := 10) (i := mm) (w := (u mm)) f2 h1 hm rfl d25_9 rfl ?_
        refine Go.iloadN C X3 (pc' := 11) d25_10 rfl rfl ?_
        by_cases c4 : (u mm) = x
        · refine Go.icmpYes C X3 (pc' := 24) d25_11 (teq c4).1 (by decide) (by decide) ?_
          refine Go.iloadN C X3 (pc' := 25) d25_24 rfl rfl ?_
          exact Go.retI C X3 d25_25 ⟨(by rw [own_nat32 h1, ← hf, own_fb_stop (fun q => q.2.1 c4)]), rfl⟩ (by decide) (by decide)
        · refine Go.icmpNo C X3 (pc' := 14) d25_11 (feq c4).1 rfl ?_
          refine Go.aloadN C X3 (pc' := 15) d25_14 rfl rfl rfl ?_
          refine Go.getF C X3 (pc' := 18) (host := "") (Or.inl (hw _ (List.mem_of_getElem? (i := 91) rfl))) Via.refl f1 d25_15 rfl (fun T5 X5 => ?_)
          refine Go.iloadN C X5 (pc' := 19) d25_18 rfl rfl ?_
          refine Go.iaload C X5 (pc' := 20) (i := mm) (w := (own_ofn b mm)) f3 h1 hm rfl d25_19 rfl ?_
          refine Go.istoreN C X5 (pc' := 21) (Ls' := #[.val (.ref a), .val (.int (own_ofn b mm)), .val (.int x)]) d25_20 rfl rfl ?_
          refine Go.goto C X5 (pc' := 0) d25_21 (by decide) (by decide) ?_
          exact ih_0 T5 (b mm) (own_ofn b mm) (by have := (hb0 mm (by have := own_ilt.mp c2; rw [h1, own_o0] at this; omega) hms).2.1; omega) (own_n32 (by have := (hb0 mm (by have := own_ilt.mp c2; rw [h1, own_o0] at this; omega) hms).2.1; omega)) (by have := (hb0 mm (by have := own_ilt.mp c2; rw [h1, own_o0] at this; omega) hms).2.1; omega) (by have := (hb0 mm (by have := own_ilt.mp c2; rw [h1, own_o0] at this; omega) hms).2.1; omega) (by rw [← hf]; exact (own_fb_step ⟨(by have := own_ilt.mp c2; rw [h1, own_o0] at this; omega), c4, (hb0 mm (by have := own_ilt.mp c2; rw [h1, own_o0] at this; omega) hms).2.1⟩).symm) X5
      · refine Go.ifYes C X_0 (pc' := 24) d25_1 ((if0 _ _).trans (flt c2).2.2.2) (by decide) (by decide) ?_
        refine Go.iloadN C X_0 (pc' := 25) d25_24 rfl rfl ?_
        exact Go.retI C X_0 d25_25 ⟨(by rw [own_nat32 h1, ← hf, own_fb_stop (fun q => c2 (own_ilt.mpr (by rw [h1, own_o0]; omega)))]), rfl⟩ (by decide) (by decide)
  exact Cut0 (_) T0 ss s0 (Nat.lt_succ_self _) hs hss (Nat.le_refl _) rfl X0
theorem own_ef_rm_fl (m : MethodId) (x0 : Addr) : entryFrame m #[(.ref x0)] 3 = mkF m 0 #[.val (.ref x0), .unset, .unset] [] := by first | (simp [entryFrame, mkF, argsToLocals, Value.category]; done) | rfl
theorem d18_0 : decode prog_3_method_4_code 0 = .ok (.iconst 0, 1) := by decide +kernel
theorem d18_1 : decode prog_3_method_4_code 1 = .ok (.istore_n 1, 1) := by decide +kernel
theorem d18_2 : decode prog_3_method_4_code 2 = .ok (.iconst 1, 1) := by decide +kernel
theorem d18_3 : decode prog_3_method_4_code 3 = .ok (.istore_n 2, 1) := by decide +kernel
theorem d18_4 : decode prog_3_method_4_code 4 = .ok (.iload_n 2, 1) := by decide +kernel
theorem d18_5 : decode prog_3_method_4_code 5 = .ok (.aload_n 0, 1) := by decide +kernel
theorem d18_6 : decode prog_3_method_4_code 6 = .ok (.invokevirtual 29, 3) := by decide +kernel
theorem own_pd0 : parseMethodDescriptor "()I" = some ⟨[], some .int⟩ := by decide +kernel
theorem d18_9 : decode prog_3_method_4_code 9 = .ok (.if_icmp .ge 48, 3) := by decide +kernel
theorem d18_12 : decode prog_3_method_4_code 12 = .ok (.aload_n 0, 1) := by decide +kernel
theorem d18_13 : decode prog_3_method_4_code 13 = .ok (.iload_n 1, 1) := by decide +kernel
theorem d18_14 : decode prog_3_method_4_code 14 = .ok (.aload_n 0, 1) := by decide +kernel
theorem d18_15 : decode prog_3_method_4_code 15 = .ok (.getfield 19, 3) := by decide +kernel
theorem d18_18 : decode prog_3_method_4_code 18 = .ok (.iload_n 2, 1) := by decide +kernel
theorem d18_19 : decode prog_3_method_4_code 19 = .ok (.iaload, 1) := by decide +kernel
theorem d18_20 : decode prog_3_method_4_code 20 = .ok (.invokevirtual 33, 3) := by decide +kernel
theorem own_pd1 : parseMethodDescriptor "(II)I" = some ⟨[.int, .int], some .int⟩ := by decide +kernel
theorem d18_23 : decode prog_3_method_4_code 23 = .ok (.istore_n 1, 1) := by decide +kernel
theorem d18_24 : decode prog_3_method_4_code 24 = .ok (.aload_n 0, 1) := by decide +kernel
theorem d18_25 : decode prog_3_method_4_code 25 = .ok (.getfield 19, 3) := by decide +kernel
theorem d18_28 : decode prog_3_method_4_code 28 = .ok (.iload_n 1, 1) := by decide +kernel
theorem d18_29 : decode prog_3_method_4_code 29 = .ok (.iaload, 1) := by decide +kernel
theorem d18_30 : decode prog_3_method_4_code 30 = .ok (.aload_n 0, 1) := by decide +kernel
theorem d18_31 : decode prog_3_method_4_code 31 = .ok (.getfield 19, 3) := by decide +kernel
theorem d18_34 : decode prog_3_method_4_code 34 = .ok (.iload_n 2, 1) := by decide +kernel
theorem d18_35 : decode prog_3_method_4_code 35 = .ok (.iaload, 1) := by decide +kernel
theorem d18_36 : decode prog_3_method_4_code 36 = .ok (.if_icmp .ne 6, 3) := by decide +kernel
theorem d18_39 : decode prog_3_method_4_code 39 = .ok (.iinc 1 1, 3) := by decide +kernel
theorem d18_42 : decode prog_3_method_4_code 42 = .ok (.aload_n 0, 1) := by decide +kernel
theorem d18_43 : decode prog_3_method_4_code 43 = .ok (.getfield 23, 3) := by decide +kernel
theorem d18_46 : decode prog_3_method_4_code 46 = .ok (.iload_n 2, 1) := by decide +kernel
theorem d18_47 : decode prog_3_method_4_code 47 = .ok (.iconst 1, 1) := by decide +kernel
theorem d18_48 : decode prog_3_method_4_code 48 = .ok (.iadd, 1) := by decide +kernel
theorem d18_49 : decode prog_3_method_4_code 49 = .ok (.iload_n 1, 1) := by decide +kernel
theorem d18_50 : decode prog_3_method_4_code 50 = .ok (.iastore, 1) := by decide +kernel
theorem d18_51 : decode prog_3_method_4_code 51 = .ok (.iinc 2 1, 3) := by decide +kernel
theorem d18_54 : decode prog_3_method_4_code 54 = .ok (.goto (-50), 3) := by decide +kernel
theorem d18_57 : decode prog_3_method_4_code 57 = .ok (.return_, 1) := by decide +kernel
set_option maxRecDepth 65536 in
set_option maxHeartbeats 40000000 in
theorem rm_fl (l : Launch) (Z : State) (a0 : Array Value) (hw : ∀ d ∈ tables_1, d.before a0 Z = true) (a : Addr) (t : Addr) (t2 : Addr) (m1 : Nat) (u : Nat → Int32) (z : Int32) (h0 : Heap) (n0 : Nat) (Z0 : n0 ≤ h0.size) (f0 : Exa Z h0 a "com/example/needlewright/needlewright/Automaton") (f1 : Fld Z h0 a "com/example/needlewright/needlewright/Automaton" "units" "[I" (.ref t)) (f2 : Fld Z h0 a "com/example/needlewright/needlewright/Automaton" "borders" "[I" (.ref t2)) (f3 : AI Z h0 t .int m1 u) (f4 : AI Z h0 t2 .int m1 (own_ofn (fun _ => 0))) (f5 : n0 ≤ t2) (f6 : a ≠ t2) (f7 : t ≠ t2) (hz : z.toInt = (m1 : Int)) (hm2 : 2 ≤ m1) (hm1 : m1 ≤ 100) :
    Con l Z (⟨"com/example/needlewright/needlewright/Automaton", "fillBorders", "()V"⟩ : MethodName) prog_3_method_4_code 3 none ({ frames := 1, cells := 0, slots := 0, locals := 14 } : Room) #[(.ref a)] h0 n0 (fun rv hv => ∃ b1 : Nat → Nat, rv = none ∧ Keep h0 hv [t2] ∧ AI Z hv t2 .int m1 (own_ofn b1) ∧ (∀ k, 1 ≤ k → k < m1 → own_P u k (b1 k))) := by
  refine Con.enter (plainFor_of_name own_pn0) Z0 ?_
  intro p e s m below meth c T0 C hnm X0
  refine Go.cast (own_ef_rm_fl m a) ?_
  refine Go.iconst C X0 (pc' := 1) (v := (0 : Int32)) d18_0 rfl rfl ?_
  refine Go.istoreN C X0 (pc' := 2) (Ls' := #[.val (.ref a), .val (.int (0 : Int32)), .unset]) d18_1 rfl rfl ?_
  refine Go.iconst C X0 (pc' := 3) (v := (1 : Int32)) d18_2 rfl rfl ?_
  refine Go.istoreN C X0 (pc' := 4) (Ls' := #[.val (.ref a), .val (.int (0 : Int32)), .val (.int (1 : Int32))]) d18_3 rfl rfl ?_
  have Cut4 : ∀ (fuel : Nat) (T_4 : State) (h_4 : Heap) (bb : Nat) (ee : Nat) (b : Nat → Nat) (u1 : Int32) (u2 : Int32), (m1 - ee) < fuel → (u1.toInt = (bb : Int)) → (u2.toInt = (ee : Int)) → (1 ≤ ee) → (ee < m1) → (own_P u ee bb) → (∀ k, 1 ≤ k → k ≤ ee → own_P u k (b k)) → On p l e ({ frames := 1, cells := 0, slots := 0, locals := 14 } : Room) s m #[(.ref a)] below meth c n0 T_4 h_4 0 0 → Keep h0 h_4 [t2] → Exa Z h_4 a "com/example/needlewright/needlewright/Automaton" → Fld Z h_4 a "com/example/needlewright/needlewright/Automaton" "units" "[I" (.ref t) → Fld Z h_4 a "com/example/needlewright/needlewright/Automaton" "borders" "[I" (.ref t2) → AI Z h_4 t .int m1 u → AI Z h_4 t2 .int m1 (own_ofn b) → Go p e below (FrameEnd s) n0 (({ frames := 1, cells := 0, slots := 0, locals := 14 } : Room)).cells (({ frames := 1, cells := 0, slots := 0, locals := 14 } : Room)).slots (fun rv hv => ∃ b1 : Nat → Nat, rv = none ∧ Keep h0 hv [t2] ∧ AI Z hv t2 .int m1 (own_ofn b1) ∧ (∀ k, 1 ≤ k → k < m1 → own_P u k (b1 k))) T_4 (mkF m 4 #[.val (.ref a), .val (.int u1), .val (.int u2)] []) := by
    intro fuel
    induction fuel with
    | zero => intro T_4 h_4 bb ee b u1 u2 hM_4 h1 h2 he1 he2 hP hb X_4 K_4 G4_0 G4_1 G4_2 G4_3 G4_4; exact absurd hM_4 (Nat.not_lt_zero _)
    | succ fuel ih_4 =>
      intro T_4 h_4 bb ee b u1 u2 hM_4 h1 h2 he1 he2 hP hb X_4 K_4 G4_0 G4_1 G4_2 G4_3 G4_4
      refine Go.iloadN C X_4 (pc' := 5) d18_4 rfl rfl ?_
      refine Go.aloadN C X_4 (pc' := 6) d18_5 rfl rfl rfl ?_
      refine Go.callV C X_4 (pc' := 9) (W := 1) (argsL := []) (rest := [(.int u2)]) (a := a) (rm_len l Z a0 hw a t m1 u z h_4 n0 X_4.sz G4_1 G4_3 hz) G4_0 (notFace_of_selects (args := #[]) (mvT C.2.1 (hw _ (List.mem_of_getElem? (i := 100) rfl)))) (hw _ (List.mem_of_getElem? (i := 97) rfl)) (hw _ (List.mem_of_getElem? (i := 98) rfl)) (hw _ (List.mem_of_getElem? (i := 100) rfl)) (hw _ (List.mem_of_getElem? (i := 99) rfl)) (hw _ (List.mem_of_getElem? (i := 83) rfl)) (hw _ (List.mem_of_getElem? (i := 101) rfl)) (by decide) rfl rfl (lenOf own_pd0 rfl) rfl (Nat.le_of_eq rfl) (by decide) (by decide) (by decide) (by decide) d18_6 rfl (fun _ _ q => Nat.le_of_eq (congrArg Array.size q.2)) (fun T6 h6 v6 X6 P6 => ?_)
      obtain ⟨rfl, rfl⟩ := P6
      show Go p e below _ n0 _ _ _ T6 (mkF m 9 #[.val (.ref a), .val (.int u1), .val (.int u2)] [(.int (z - (1 : Int32))), (.int u2)])
      by_cases c7 : u2 < (z - (1 : Int32))
      · refine Go.icmpNo C X6 (pc' := 12) d18_9 (tlt c7).2.1 rfl ?_
        refine Go.aloadN C X6 (pc' := 13) d18_12 rfl rfl rfl ?_
        refine Go.iloadN C X6 (pc' := 14) d18_13 rfl rfl ?_
        refine Go.aloadN C X6 (pc' := 15) d18_14 rfl rfl rfl ?_
        refine Go.getF C X6 (pc' := 18) (host := "") (Or.inl (hw _ (List.mem_of_getElem? (i := 89) rfl))) Via.refl G4_1 d18_15 rfl (fun T8 X8 => ?_)
        refine Go.iloadN C X8 (pc' := 19) d18_18 rfl rfl ?_
        refine Go.iaload C X8 (pc' := 20) (i := ee) (w := (u ee)) G4_3 h2 he2 rfl d18_19 rfl ?_
        refine Go.callV C X8 (pc' := 23) (W := 0) (argsL := [(.int u1), (.int (u ee))]) (rest := []) (a := a) (rm_fb l Z a0 hw a u1 (u ee) t t2 m1 u b bb h_4 n0 X8.sz G4_1 G4_2 G4_3 G4_4 hm1 h1 (by have := hP.2.1; omega) (fun k a d => hb k a (by have := hP.2.1; omega))) G4_0 (notFace_of_selects (args := #[]) (mvT C.2.1 (hw _ (List.mem_of_getElem? (i := 138) rfl)))) (hw _ (List.mem_of_getElem? (i := 135) rfl)) (hw _ (List.mem_of_getElem? (i := 136) rfl)) (hw _ (List.mem_of_getElem? (i := 138) rfl)) (hw _ (List.mem_of_getElem? (i := 137) rfl)) (hw _ (List.mem_of_getElem? (i := 83) rfl)) (hw _ (List.mem_of_getElem? (i := 139) rfl)) (by decide) rfl rfl (lenOf own_pd1 rfl) rfl (Nat.le_of_eq rfl) (by decide) (by decide) (by decide) (by decide) d18_20 rfl (fun _ _ q => Nat.le_of_eq (congrArg Array.size q.2)) (fun T9 h9 v9 X9 P9 => ?_)
        obtain ⟨rfl, rfl⟩ := P9
        show Go p e below _ n0 _ _ _ T9 (mkF m 23 #[.val (.ref a), .val (.int u1), .val (.int u2)] [(.int (Int32.ofNat (own_fb u b (u ee) bb)))])
        refine Go.istoreN C X9 (pc' := 24) (Ls' := #[.val (.ref a), .val (.int (Int32.ofNat (own_fb u b (u ee) bb))), .val (.int u2)]) d18_23 rfl rfl ?_
        refine Go.aloadN C X9 (pc' := 25) d18_24 rfl rfl rfl ?_
        refine Go.getF C X9 (pc' := 28) (host := "") (Or.inl (hw _ (List.mem_of_getElem? (i := 89) rfl))) Via.refl G4_1 d18_25 rfl (fun T10 X10 => ?_)
        refine Go.iloadN C X10 (pc' := 29) d18_28 rfl rfl ?_
        refine Go.iaload C X10 (pc' := 30) (i := (own_fb u b (u ee) bb)) (w := (u (own_fb u b (u ee) bb))) G4_3 (own_n32 (by have := own_fb_le u b (u ee) bb; have := hP.2.1; omega)) (by have := own_fb_le u b (u ee) bb; have := hP.2.1; omega) rfl d18_29 rfl ?_
        refine Go.aloadN C X10 (pc' := 31) d18_30 rfl rfl rfl ?_
        refine Go.getF C X10 (pc' := 34) (host := "") (Or.inl (hw _ (List.mem_of_getElem? (i := 89) rfl))) Via.refl G4_1 d18_31 rfl (fun T11 X11 => ?_)
        refine Go.iloadN C X11 (pc' := 35) d18_34 rfl rfl ?_
        refine Go.iaload C X11 (pc' := 36) (i := ee) (w := (u ee)) G4_3 h2 he2 rfl d18_35 rfl ?_
        by_cases c12 : (u (own_fb u b (u ee) bb)) = (u ee)
        · refine Go.icmpNo C X11 (pc' := 39) d18_36 (teq c12).2 rfl ?_
          refine Go.iinc C X11 (pc' := 42) (Ls' := #[.val (.ref a), .val (.int ((Int32.ofNat (own_fb u b (u ee) bb)) + (1 : Int32))), .val (.int u2)]) (v' := ((Int32.ofNat (own_fb u b (u ee) bb)) + (1 : Int32))) d18_39 rfl rfl rfl rfl ?_
          refine Go.aloadN C X11 (pc' := 43) d18_42 rfl rfl rfl ?_
          refine Go.getF C X11 (pc' := 46) (host := "") (Or.inl (hw _ (List.mem_of_getElem? (i := 91) rfl))) Via.refl G4_2 d18_43 rfl (fun T13 X13 => ?_)
          refine Go.iloadN C X13 (pc' := 47) d18_46 rfl rfl ?_
          refine Go.iconst C X13 (pc' := 48) (v := (1 : Int32)) d18_47 rfl rfl ?_
          refine Go.iadd C X13 (pc' := 49) d18_48 rfl ?_
          refine Go.iloadN C X13 (pc' := 50) d18_49 rfl rfl ?_
          refine Go.iastore C X13 (pc' := 51) (i := (ee + 1)) (x' := ((Int32.ofNat (own_fb u b (u ee) bb)) + (1 : Int32))) G4_4 (by rw [own_iadd (by rw [h2, own_o1]; omega) (by rw [h2, own_o1]; omega), h2, own_o1]; omega) (by have := own_ilt.mp c7; rw [own_isub (by rw [hz, own_o1]; omega) (by rw [hz, own_o1]; omega), hz, own_o1, h2] at this; omega) rfl f5 d18_50 rfl (fun T14 h14 X14 W14 A14 => ?_)
          have K15 : Keep h0 h14 [t2] := K_4.wr W14 (Or.inl (List.mem_of_getElem? (i := 0) rfl))
          have E16 := G4_0.wr W14
          have F17 := G4_1.other W14 (Or.inl f6)
          have F18 := G4_2.other W14 (Or.inl f6)
          have A19 := G4_3.other W14 f7
          refine Go.iinc C X14 (pc' := 54) (Ls' := #[.val (.ref a), .val (.int ((Int32.ofNat (own_fb u b (u ee) bb)) + (1 : Int32))), .val (.int (u2 + (1 : Int32)))]) (v' := (u2 + (1 : Int32))) d18_51 rfl rfl rfl rfl ?_
          refine Go.goto C X14 (pc' := 4) d18_54 (by decide) (by decide) ?_
          exact ih_4 T14 h14 ((own_fb u b (u ee) bb) + 1) (ee + 1) (own_upn b (ee + 1) ((own_fb u b (u ee) bb) + 1)) ((Int32.ofNat (own_fb u b (u ee) bb)) + (1 : Int32)) (u2 + (1 : Int32)) (by omega) (by rw [own_add1 (by have := own_fb_le u b (u ee) bb; have := hP.2.1; omega)]; exact own_n32 (by have := own_fb_le u b (u ee) bb; have := hP.2.1; omega)) (by rw [own_iadd (by rw [h2, own_o1]; omega) (by rw [h2, own_o1]; omega), h2, own_o1]; omega) (by omega) (by have := own_ilt.mp c7; rw [own_isub (by rw [hz, own_o1]; omega) (by rw [hz, own_o1]; omega), hz, own_o1, h2] at this; omega) (own_nextY hP (own_fb_spec (fun k a d => hb k a (by have := hP.2.1; omega))) c12) (own_upP hb (own_nextY hP (own_fb_spec (fun k a d => hb k a (by have := hP.2.1; omega))) c12)) X14 K15 E16 F17 F18 A19 (AI.congr A14 (own_upo (own_add1 (by have := own_fb_le u b (u ee) bb; have := hP.2.1; omega))))
        · refine Go.icmpYes C X11 (pc' := 42) d18_36 (feq c12).2 (by decide) (by decide) ?_
          refine Go.aloadN C X11 (pc' := 43) d18_42 rfl rfl rfl ?_
          refine Go.getF C X11 (pc' := 46) (host := "") (Or.inl (hw _ (List.mem_of_getElem? (i := 91) rfl))) Via.refl G4_2 d18_43 rfl (fun T20 X20 => ?_)
          refine Go.iloadN C X20 (pc' := 47) d18_46 rfl rfl ?_
          refine Go.iconst C X20 (pc' := 48) (v := (1 : Int32)) d18_47 rfl rfl ?_
          refine Go.iadd C X20 (pc' := 49) d18_48 rfl ?_
          refine Go.iloadN C X20 (pc' := 50) d18_49 rfl rfl ?_
          refine Go.iastore C X20 (pc' := 51) (i := (ee + 1)) (x' := (Int32.ofNat (own_fb u b (u ee) bb))) G4_4 (by rw [own_iadd (by rw [h2, own_o1]; omega) (by rw [h2, own_o1]; omega), h2, own_o1]; omega) (by have := own_ilt.mp c7; rw [own_isub (by rw [hz, own_o1]; omega) (by rw [hz, own_o1]; omega), hz, own_o1, h2] at this; omega) rfl f5 d18_50 rfl (fun T21 h21 X21 W21 A21 => ?_)
          have K22 : Keep h0 h21 [t2] := K_4.wr W21 (Or.inl (List.mem_of_getElem? (i := 0) rfl))
          have E23 := G4_0.wr W21
          have F24 := G4_1.other W21 (Or.inl f6)
          have F25 := G4_2.other W21 (Or.inl f6)
          have A26 := G4_3.other W21 f7
          refine Go.iinc C X21 (pc' := 54) (Ls' := #[.val (.ref a), .val (.int (Int32.ofNat (own_fb u b (u ee) bb))), .val (.int (u2 + (1 : Int32)))]) (v' := (u2 + (1 : Int32))) d18_51 rfl rfl rfl rfl ?_
          refine Go.goto C X21 (pc' := 4) d18_54 (by decide) (by decide) ?_
          exact ih_4 T21 h21 (own_fb u b (u ee) bb) (ee + 1) (own_upn b (ee + 1) (own_fb u b (u ee) bb)) (Int32.ofNat (own_fb u b (u ee) bb)) (u2 + (1 : Int32)) (by omega) (own_n32 (by have := own_fb_le u b (u ee) bb; have := hP.2.1; omega)) (by rw [own_iadd (by rw [h2, own_o1]; omega) (by rw [h2, own_o1]; omega), h2, own_o1]; omega) (by omega) (by have := own_ilt.mp c7; rw [own_isub (by rw [hz, own_o1]; omega) (by rw [hz, own_o1]; omega), hz, own_o1, h2] at this; omega) (own_nextN hP (own_fb_spec (fun k a d => hb k a (by have := hP.2.1; omega))) c12) (own_upP hb (own_nextN hP (own_fb_spec (fun k a d => hb k a (by have := hP.2.1; omega))) c12)) X21 K22 E23 F24 F25 A26 (AI.congr A21 (own_upo rfl))
      · refine Go.icmpYes C X6 (pc' := 57) d18_9 (flt c7).2.1 (by decide) (by decide) ?_
        exact Go.retV C X6 d18_57 ⟨b, rfl, K_4, G4_4, (fun k a d => hb k a (by have := own_nilt c7; rw [own_isub (by rw [hz, own_o1]; omega) (by rw [hz, own_o1]; omega), hz, own_o1, h2] at this; omega))⟩ (by decide) (by decide)
  exact Cut4 (_) T0 h0 0 1 (fun _ => 0) (0 : Int32) (1 : Int32) (Nat.lt_succ_self _) rfl rfl (by decide) (by omega) (own_P1 u) (own_upP0 u) X0 (Keep.refl h0 [t2]) f0 f1 f2 f3 f4
theorem own_ef_rm_au (m : MethodId) (x0 : Addr) (x1 : Addr) : entryFrame m #[(.ref x0), (.ref x1)] 2 = mkF m 0 #[.val (.ref x0), .val (.ref x1)] [] := by first | (simp [entryFrame, mkF, argsToLocals, Value.category]; done) | rfl
theorem d17_0 : decode prog_3_method_1_code 0 = .ok (.aload_n 0, 1) := by decide +kernel
theorem d17_1 : decode prog_3_method_1_code 1 = .ok (.invokespecial 3, 3) := by decide +kernel
theorem d17_4 : decode prog_3_method_1_code 4 = .ok (.aload_n 1, 1) := by decide +kernel
theorem d17_5 : decode prog_3_method_1_code 5 = .ok (.arraylength, 1) := by decide +kernel
theorem d17_6 : decode prog_3_method_1_code 6 = .ok (.iconst 1, 1) := by decide +kernel
theorem d17_7 : decode prog_3_method_1_code 7 = .ok (.if_icmp .gt 13, 3) := by decide +kernel
theorem d17_20 : decode prog_3_method_1_code 20 = .ok (.aload_n 1, 1) := by decide +kernel
theorem d17_21 : decode prog_3_method_1_code 21 = .ok (.aload_n 1, 1) := by decide +kernel
theorem d17_22 : decode prog_3_method_1_code 22 = .ok (.arraylength, 1) := by decide +kernel
theorem d17_23 : decode prog_3_method_1_code 23 = .ok (.iconst 1, 1) := by decide +kernel
theorem d17_24 : decode prog_3_method_1_code 24 = .ok (.isub, 1) := by decide +kernel
theorem d17_25 : decode prog_3_method_1_code 25 = .ok (.ldc 18, 2) := by decide +kernel
theorem d17_27 : decode prog_3_method_1_code 27 = .ok (.iastore, 1) := by decide +kernel
theorem d17_28 : decode prog_3_method_1_code 28 = .ok (.aload_n 0, 1) := by decide +kernel
theorem d17_29 : decode prog_3_method_1_code 29 = .ok (.aload_n 1, 1) := by decide +kernel
theorem d17_30 : decode prog_3_method_1_code 30 = .ok (.putfield 19, 3) := by decide +kernel
theorem d17_33 : decode prog_3_method_1_code 33 = .ok (.aload_n 0, 1) := by decide +kernel
theorem d17_34 : decode prog_3_method_1_code 34 = .ok (.aload_n 1, 1) := by decide +kernel
theorem d17_35 : decode prog_3_method_1_code 35 = .ok (.arraylength, 1) := by decide +kernel
theorem d17_36 : decode prog_3_method_1_code 36 = .ok (.newarray .int, 2) := by decide +kernel
theorem d17_38 : decode prog_3_method_1_code 38 = .ok (.putfield 23, 3) := by decide +kernel
theorem d17_41 : decode prog_3_method_1_code 41 = .ok (.aload_n 0, 1) := by decide +kernel
theorem d17_42 : decode prog_3_method_1_code 42 = .ok (.invokevirtual 26, 3) := by decide +kernel
theorem own_pd2 : parseMethodDescriptor "()V" = some ⟨[], none⟩ := by decide +kernel
theorem d17_45 : decode prog_3_method_1_code 45 = .ok (.return_, 1) := by decide +kernel
set_option maxRecDepth 65536 in
set_option maxHeartbeats 40000000 in
theorem rm_au (l : Launch) (Z : State) (a0 : Array Value) (hw : ∀ d ∈ tables_1, d.before a0 Z = true) (a : Addr) (t : Addr) (m1 : Nat) (f : Nat → Int32) (z : Int32) (h0 : Heap) (n0 : Nat) (Z0 : n0 ≤ h0.size) (f0 : Exa Z h0 a "com/example/needlewright/needlewright/Automaton") (f1 : Fld Z h0 a "com/example/needlewright/needlewright/Automaton" "units" "[I" .null) (f2 : Fld Z h0 a "com/example/needlewright/needlewright/Automaton" "borders" "[I" .null) (f3 : n0 ≤ a) (f4 : n0 ≤ t) (f5 : AI Z h0 t .int m1 f) (f6 : a ≠ t) (hz : z.toInt = (m1 : Int)) (hm2 : 2 ≤ m1) (hm1 : m1 ≤ 5) :
    Con l Z (⟨"com/example/needlewright/needlewright/Automaton", "<init>", "([I)V"⟩ : MethodName) prog_3_method_1_code 2 none ({ frames := 2, cells := 1, slots := 5, locals := 28 } : Room) #[(.ref a), (.ref t)] h0 n0 (fun rv hv => ∃ t2 : Addr, ∃ b1 : Nat → Nat, rv = none ∧ h0.size ≤ t2 ∧ Keep h0 hv [a, t] ∧ Exa Z hv a "com/example/needlewright/needlewright/Automaton" ∧ Fld Z hv a "com/example/needlewright/needlewright/Automaton" "units" "[I" (.ref t) ∧ Fld Z hv a "com/example/needlewright/needlewright/Automaton" "borders" "[I" (.ref t2) ∧ AI Z hv t .int m1 (fun q => if q = (m1 - 1) then (-2147483648 : Int32) else f q) ∧ AI Z hv t2 .int m1 (own_ofn b1) ∧ t ≠ t2 ∧ a ≠ t2 ∧ (∀ k, 1 ≤ k → k < m1 → own_P (fun q => if q = (m1 - 1) then (-2147483648 : Int32) else f q) k (b1 k))) := by
  refine Con.enter (plainFor_of_name own_pn0) Z0 ?_
  intro p e s m below meth c T0 C hnm X0
  refine Go.cast (own_ef_rm_au m a t) ?_
  refine Go.aloadN C X0 (pc' := 1) d17_0 rfl rfl rfl ?_
  refine Go.initO C X0 (pc' := 4) (fun locs X eT => RoadKit.initO X C.1 C.2.1 C.2.2.2.1 (hw _ (List.mem_of_getElem? (i := 87) rfl)) (hw _ (List.mem_of_getElem? (i := 20) rfl)) (hw _ (List.mem_of_getElem? (i := 21) rfl)) eT (g := (mkF m 1 #[.val (.ref a), .val (.ref t)] [(.ref a)])) rfl (by rw [C.2.2.2.2.1]; rfl) rfl (hb C.2.2.1 d17_1) (by decide) (W := 0) (by show 2 * 0 + _ ≤ _; exact Nat.le_of_eq rfl) (by decide)) rfl (fun T27 X27 => ?_)
  refine Go.aloadN C X27 (pc' := 5) d17_4 rfl rfl rfl ?_
  refine Go.alenI C X27 (pc' := 6) (z := z) f5 hz d17_5 rfl ?_
  refine Go.iconst C X27 (pc' := 7) (v := (1 : Int32)) d17_6 rfl rfl ?_
  refine Go.icmpYes C X27 (pc' := 20) d17_7 (tlt (own_ilt.mpr (by rw [hz, own_o1]; omega))).2.2.1 (by decide) (by decide) ?_
  refine Go.aloadN C X27 (pc' := 21) d17_20 rfl rfl rfl ?_
  refine Go.aloadN C X27 (pc' := 22) d17_21 rfl rfl rfl ?_
  refine Go.alenI C X27 (pc' := 23) (z := z) f5 hz d17_22 rfl ?_
  refine Go.iconst C X27 (pc' := 24) (v := (1 : Int32)) d17_23 rfl rfl ?_
  refine Go.isub C X27 (pc' := 25) d17_24 rfl ?_
  refine Go.ldc C X27 (pc' := 27) (hw _ (List.mem_of_getElem? (i := 88) rfl)) d17_25 rfl ?_
  refine Go.iastore C X27 (pc' := 28) (i := (m1 - 1)) (x' := (-2147483648 : Int32)) f5 (by rw [own_isub (by rw [hz, own_o1]; omega) (by rw [hz, own_o1]; omega), hz, own_o1]; omega) (by omega) rfl f4 d17_27 rfl (fun T28 h28 X28 W28 A28 => ?_)
  have K29 : Keep h0 h28 [a, t] := (Keep.refl h0 [a, t]).wr W28 (Or.inl (List.mem_of_getElem? (i := 1) rfl))
  have E30 := f0.wr W28
  have F31 := f1.other W28 (Or.inl f6)
  have F32 := f2.other W28 (Or.inl f6)
  refine Go.aloadN C X28 (pc' := 29) d17_28 rfl rfl rfl ?_
  refine Go.aloadN C X28 (pc' := 30) d17_29 rfl rfl rfl ?_
  refine Go.putF C X28 (pc' := 33) (host := "") (Or.inl (hw _ (List.mem_of_getElem? (i := 89) rfl))) Via.refl F31 E30 (Or.inr ⟨(hw _ (List.mem_of_getElem? (i := 90) rfl)), rfl, hnm⟩) (hw _ (List.mem_of_getElem? (i := 82) rfl)) f3 (ty := (.array .int)) (by decide) rfl rfl d17_30 rfl (fun T33 h33 X33 W33 => ?_)
  have Fw33 := F31.same W33
  have K34 : Keep h0 h33 [a, t] := K29.wr W33 (Or.inl (List.mem_of_getElem? (i := 0) rfl))
  have E35 := E30.wr W33
  have F36 := F32.other W33 (Or.inr (slot_ne (Or.inr (hw _ (List.mem_of_getElem? (i := 92) rfl))) (Or.inr (hw _ (List.mem_of_getElem? (i := 90) rfl))) (by decide) (t := (.array .int)) (t' := (.array .int)) (by decide) (by decide)))
  have A37 := A28.other W33 (Ne.symm f6)
  refine Go.aloadN C X33 (pc' := 34) d17_33 rfl rfl rfl ?_
  refine Go.aloadN C X33 (pc' := 35) d17_34 rfl rfl rfl ?_
  refine Go.alenI C X33 (pc' := 36) (z := z) A37 hz d17_35 rfl ?_
  refine Go.newP C X33 (pc' := 38) (nn := m1) (cap := 5) (hw _ (List.mem_of_getElem? (i := 58) rfl)) d17_36 hz hm1 (by decide) (by decide) (by decide) rfl (fun T38 h38 b38 k38 X38 g38 E38 Ar38 N38 => ?_)
  have ne_a_b38 : a ≠ b38 := Nat.ne_of_lt (Nat.lt_of_lt_of_eq E35.lt g38.symm)
  have ne_t_b38 : t ≠ b38 := Nat.ne_of_lt (Nat.lt_of_lt_of_eq A37.lt g38.symm)
  have Q38 : h0.size ≤ b38 := Nat.le_trans K34.1 (Nat.le_of_eq g38.symm)
  have K39 : Keep h0 h38 [a, t] := K34.ext E38
  have E40 := E35.ext E38
  have F41 := F36.ext E38
  have A42 := A37.ext E38
  have F43 := Fw33.ext E38
  have A38 : AI Z h38 b38 .int m1 (fun _ => 0) := AI.new hz rfl Ar38
  refine Go.putF C X38 (pc' := 41) (host := "") (Or.inl (hw _ (List.mem_of_getElem? (i := 91) rfl))) Via.refl F41 E40 (Or.inr ⟨(hw _ (List.mem_of_getElem? (i := 92) rfl)), rfl, hnm⟩) (hw _ (List.mem_of_getElem? (i := 82) rfl)) f3 (ty := (.array .int)) (by decide) rfl rfl d17_38 rfl (fun T44 h44 X44 W44 => ?_)
  have Fw44 := F41.same W44
  have K45 : Keep h0 h44 [a, t] := K39.wr W44 (Or.inl (List.mem_of_getElem? (i := 0) rfl))
  have E46 := E40.wr W44
  have A47 := A42.other W44 (Ne.symm f6)
  have F48 := F43.other W44 (Or.inr (slot_ne (Or.inr (hw _ (List.mem_of_getElem? (i := 90) rfl))) (Or.inr (hw _ (List.mem_of_getElem? (i := 92) rfl))) (by decide) (t := (.array .int)) (t' := (.array .int)) (by decide) (by decide)))
  have A49 := A38.other W44 (Ne.symm ne_a_b38)
  have A50 : AI Z h44 b38 .int m1 (own_ofn (fun _ => 0)) := AI.congr A49 (fun i _ => rfl)
  refine Go.aloadN C X44 (pc' := 42) d17_41 rfl rfl rfl ?_
  refine Go.callP C X44 (pc' := 45) (W := 0) (argsL := []) (rest := []) (a := a) (rm_fl l Z a0 hw a t b38 m1 (fun q => if q = (m1 - 1) then (-2147483648 : Int32) else f q) z h44 n0 X44.sz E46 F48 Fw44 A47 A50 N38 ne_a_b38 ne_t_b38 hz hm2 (by omega)) E46 (hw _ (List.mem_of_getElem? (i := 93) rfl)) (hw _ (List.mem_of_getElem? (i := 94) rfl)) (hw _ (List.mem_of_getElem? (i := 82) rfl)) (hw _ (List.mem_of_getElem? (i := 95) rfl)) (hw _ (List.mem_of_getElem? (i := 83) rfl)) (hw _ (List.mem_of_getElem? (i := 96) rfl)) (by decide) rfl rfl (lenOf own_pd2 rfl) rfl (Nat.le_of_eq rfl) (by decide) (by decide) (by decide) (by decide) d17_42 rfl (fun _ _ q => by obtain ⟨_, _, K, _⟩ := q; exact K.1) (fun T51 h51 v51 X51 P51 => ?_)
  obtain ⟨b151, rfl, K51, O51_0, Y51_0⟩ := P51
  have K52 : Keep h0 h51 [a, t] := K45.trans K51 (allS (Or.inr Q38) all0)
  have E53 := E46.keep K51
  have A54 := A47.keep K51 (ninS ne_t_b38 nin0)
  have F55 := F48.keep K51 (ninS ne_a_b38 nin0)
  have F56 := Fw44.keep K51 (ninS ne_a_b38 nin0)
  show Go p e below _ n0 _ _ _ T51 (mkF m 45 #[.val (.ref a), .val (.ref t)] [])
  exact Go.retV C X51 d17_45 ⟨b38, b151, rfl, Q38, K52, E53, F55, F56, A54, O51_0, ne_t_b38, ne_a_b38, Y51_0⟩ (by decide) (by decide)
def own_nx (u : Nat → Int32) (b : Nat → Nat) (x : Int32) (mm : Nat) : Nat := if u (own_fb u b x mm) = x then own_fb u b x mm + 1 else own_fb u b x mm
theorem own_nxY {u : Nat → Int32} {b : Nat → Nat} {x : Int32} {mm : Nat} (h : u (own_fb u b x mm) = x) : own_nx u b x mm = own_fb u b x mm + 1 := if_pos h
theorem own_nxN {u : Nat → Int32} {b : Nat → Nat} {x : Int32} {mm : Nat} (h : ¬ u (own_fb u b x mm) = x) : own_nx u b x mm = own_fb u b x mm := if_neg h
theorem own_nx_le (u : Nat → Int32) (b : Nat → Nat) (x : Int32) (mm : Nat) : own_nx u b x mm ≤ mm + 1 := by
  have := own_fb_le u b x mm
  unfold own_nx; split <;> omega
theorem own_zm {z : Int32} {m1 n : Nat} (hz : z.toInt = (m1 : Int)) (h2 : 2 ≤ m1) (h100 : m1 ≤ 100) (hn : n < 900) : Int32.ofNat n = (z - (1 : Int32)) ↔ n = m1 - 1 := by
  rw [own_ieq, own_n32 (by omega), own_isub (by rw [hz, own_o1]; omega) (by rw [hz, own_o1]; omega), hz, own_o1]; omega
abbrev own_S (u tf : Nat → Int32) (k q : Nat) : Prop := q ≤ k ∧ ∀ j, j < q → tf (k - q + j) = u j
def own_M (u tf : Nat → Int32) (len k m : Nat) : Prop := m ≤ len ∧ own_S u tf k m ∧ ∀ q, q ≤ len → own_S u tf k q → q ≤ m
theorem own_S_zero (u tf : Nat → Int32) (k : Nat) : own_S u tf k 0 := ⟨Nat.zero_le _, fun j h => absurd h (Nat.not_lt_zero _)⟩
theorem own_S_of {u tf : Nat → Int32} {k m q : Nat} (h : own_S u tf k m) (hB : own_B u m q) : own_S u tf k q := by
  have a := h.1; have c := hB.1
  refine ⟨by omega, fun j hj => ?_⟩
  rw [show k - q + j = k - m + (m - q + j) by omega, h.2 _ (by omega)]; exact hB.2 j hj
theorem own_S_to {u tf : Nat → Int32} {k m q : Nat} (h : own_S u tf k m) (h2 : own_S u tf k q) (hq : q ≤ m) : own_B u m q := by
  have a := h.1; have c := h2.1
  refine ⟨hq, fun j hj => ?_⟩
  rw [← h.2 _ (by omega : m - q + j < m), show k - m + (m - q + j) = k - q + j by omega]; exact h2.2 j hj
theorem own_S_succ {u tf : Nat → Int32} {k q : Nat} (h : own_S u tf k q) (e : u q = tf k) : own_S u tf (k + 1) (q + 1) := by
  have a := h.1
  refine ⟨by omega, fun j hj => ?_⟩
  by_cases z : j = q
  · subst z; rw [show k + 1 - (j + 1) + j = k by omega]; exact e.symm
  · rw [show k + 1 - (q + 1) + j = k - q + j by omega]; exact h.2 j (by omega)
theorem own_S_pred {u tf : Nat → Int32} {k q : Nat} (h : own_S u tf (k + 1) (q + 1)) : own_S u tf k q ∧ u q = tf k := by
  have a := h.1
  refine ⟨⟨by omega, fun j hj => ?_⟩, ?_⟩
  · rw [← h.2 j (by omega)]; congr 1; omega
  · rw [← h.2 q (by omega)]; congr 1; omega
theorem own_M0 (u tf : Nat → Int32) (len : Nat) : own_M u tf len 0 0 := ⟨Nat.zero_le _, own_S_zero _ _ _, fun q _ h => h.1⟩
theorem own_Mstep {u tf : Nat → Int32} {b : Nat → Nat} {len k m : Nat} (hb : ∀ q, 1 ≤ q → q ≤ len → own_P u q (b q)) (hM : own_M u tf len k m) (hx : ¬ u len = tf k) : own_M u tf len (k + 1) (own_nx u b (tf k) m) := by
  have hF : own_F u m (tf k) (own_fb u b (tf k) m) := own_fb_spec (fun q a d => hb q a (by have := hM.1; omega))
  have hc := hF.1.1
  have hm := hM.1
  have low : ∀ q, q + 1 ≤ len → own_S u tf (k + 1) (q + 1) → q ≤ own_fb u b (tf k) m ∧ u q = tf k := fun q hq d => by
    obtain ⟨d1, d2⟩ := own_S_pred d
    have d3 := hM.2.2 q (by omega) d1
    exact ⟨Nat.le_of_not_lt fun z => hF.2.2 q z (own_S_to hM.2.1 d1 d3) d2, d2⟩
  by_cases h : u (own_fb u b (tf k) m) = tf k
  · rw [own_nxY h]
    have hne : own_fb u b (tf k) m ≠ len := fun e => hx (e ▸ h)
    refine ⟨by omega, own_S_succ (own_S_of hM.2.1 hF.1) h, fun q hq d => ?_⟩
    cases q with
    | zero => omega
    | succ q => exact Nat.succ_le_succ (low q hq d).1
  · rw [own_nxN h]
    have c0 := hF.2.1.resolve_right h
    rw [c0] at h low ⊢
    refine ⟨Nat.zero_le _, own_S_zero _ _ _, fun q hq d => ?_⟩
    cases q with
    | zero => omega
    | succ q =>
      obtain ⟨d1, d2⟩ := low q hq d
      obtain rfl : q = 0 := by omega
      exact absurd d2 h
theorem own_Mlen {u tf : Nat → Int32} {len k m : Nat} (hM : own_M u tf len k m) : m = len ↔ own_S u tf k len :=
  ⟨fun e => e ▸ hM.2.1, fun h => Nat.le_antisymm hM.1 (hM.2.2 len (Nat.le_refl _) h)⟩
theorem own_Sc {u v tf : Nat → Int32} {k q : Nat} (h : ∀ j, j < q → u j = v j) : own_S u tf k q ↔ own_S v tf k q :=
  ⟨fun d => ⟨d.1, fun j hj => (d.2 j hj).trans (h j hj)⟩, fun d => ⟨d.1, fun j hj => (d.2 j hj).trans (h j hj).symm⟩⟩
def own_c8 (x : Int32) : Int32 := x &&& (255 : Int32)
theorem own_c8e (x : Int32) : (x &&& (255 : Int32)).toUInt32.toUInt16.toUInt32.toInt32 = own_c8 x := i2c_mask x
theorem own_c8n (x : Int32) : (own_c8 x).toUInt32.toUInt16.toUInt32.toInt32 = own_c8 x := i2c_mask x
theorem own_c8v (x : Int32) : (own_c8 x).toInt = x.toInt % 256 := c_mask x 255 8 (by decide) (by decide)
theorem own_c8r (x : Int32) : 0 ≤ (own_c8 x).toInt ∧ (own_c8 x).toInt ≤ 255 := by rw [own_c8v]; omega
theorem own_c8b {x y : Int32} (hx : -128 ≤ x.toInt ∧ x.toInt ≤ 127) : x = (own_c8 y).toInt8.toInt32 ↔ own_c8 x = own_c8 y := by
  have h := c_i2b (own_c8 y); have h2 := own_c8v y
  rw [own_ieq, own_ieq, own_c8v x, own_c8v y]; omega
theorem own_shr0 (z : Int32) : z >>> ((0 : Int32) &&& 31) = z := by
  rw [show ((0 : Int32) &&& 31) = 0 by decide]; exact Int32.shiftRight_zero
abbrev own_occ (f u : Nat → Int32) (n m p : Nat) : Prop := p + n ≤ m ∧ ∀ j, j < n → own_c8 (f (p + j)) = u j
def own_res (f u : Nat → Int32) (n m ss : Nat) (r : Int32) : Prop := (∃ p : Nat, r.toInt = (p : Int) ∧ ss ≤ p ∧ own_occ f u n m p ∧ ∀ q, ss ≤ q → q < p → ¬ own_occ f u n m q) ∨ (r.toInt = -1 ∧ ∀ q, ss ≤ q → ¬ own_occ f u n m q)
theorem own_res_uniq {f u : Nat → Int32} {n m ss : Nat} {r r' : Int32} (h : own_res f u n m ss r) (h' : own_res f u n m ss r') : r = r' := by
  rw [own_ieq]
  rcases h with ⟨p, e, a, o, l⟩ | ⟨e, l⟩ <;> rcases h' with ⟨p', e', a', o', l'⟩ | ⟨e', l'⟩
  · rcases Nat.lt_trichotomy p p' with q | q | q
    · exact absurd o (l' p a q)
    · rw [e, e', q]
    · exact absurd o' (l p' a' q)
  · exact absurd o (l' p a)
  · exact absurd o' (l p' a')
  · rw [e, e']
theorem own_occ_congr {f u v : Nat → Int32} {n m p : Nat} (h : ∀ j, j < n → u j = v j) : own_occ f u n m p ↔ own_occ f v n m p :=
  ⟨fun d => ⟨d.1, fun j hj => (d.2 j hj).trans (h j hj)⟩, fun d => ⟨d.1, fun j hj => (d.2 j hj).trans (h j hj).symm⟩⟩
theorem own_res_congr {f u v : Nat → Int32} {n m ss : Nat} {r : Int32} (h : ∀ j, j < n → u j = v j) (d : own_res f u n m ss r) : own_res f v n m ss r := by
  rcases d with ⟨p, e, a, o, l⟩ | ⟨e, l⟩
  · exact Or.inl ⟨p, e, a, (own_occ_congr h).mp o, fun q x y z => l q x y ((own_occ_congr h).mpr z)⟩
  · exact Or.inr ⟨e, fun q x z => l q x ((own_occ_congr h).mpr z)⟩
def own_ts (f : Nat → Int32) (ss : Nat) : Nat → Int32 := fun j => own_c8 (f (ss + j))
theorem own_tse {f : Nat → Int32} {ss i : Nat} (h : ss ≤ i) : own_ts f ss (i - ss) = own_c8 (f i) := by
  unfold own_ts; rw [show ss + (i - ss) = i by omega]
theorem own_Socc {f u : Nat → Int32} {n ss q : Nat} (hq : ss ≤ q) : own_S u (own_ts f ss) (q + n - ss) n ↔ ∀ j, j < n → own_c8 (f (q + j)) = u j := by
  have key : ∀ j, own_ts f ss (q + n - ss - n + j) = own_c8 (f (q + j)) := fun j => by
    unfold own_ts; rw [show ss + (q + n - ss - n + j) = q + j by omega]
  exact ⟨fun d j hj => by rw [← key]; exact d.2 j hj, fun d => ⟨by omega, fun j hj => by rw [key]; exact d j hj⟩⟩
def own_I (f u : Nat → Int32) (n m ss ii kk : Nat) : Prop := ss ≤ ii ∧ kk < n ∧ own_M u (own_ts f ss) n (ii - ss) kk ∧ ∀ q, ss ≤ q → q + n ≤ ii → ¬ own_occ f u n m q
def own_en (f u : Nat → Int32) (n m ss e : Nat) : Prop := ss + n ≤ e ∧ own_occ f u n m (e - n) ∧ ∀ q, ss ≤ q → q < e - n → ¬ own_occ f u n m q
theorem own_I0 {f u : Nat → Int32} {n m ss : Nat} (hn : 1 ≤ n) : own_I f u n m ss ss 0 :=
  ⟨Nat.le_refl _, hn, by rw [Nat.sub_self]; exact own_M0 _ _ _, fun q a b => by omega⟩
theorem own_adv {f u : Nat → Int32} {n m ss ii k' : Nat} (hss : ss ≤ ii) (him : ii < m) (hno : ∀ q, ss ≤ q → q + n ≤ ii → ¬ own_occ f u n m q) (hM : own_M u (own_ts f ss) n (ii + 1 - ss) k') : (k' = n → own_en f u n m ss (ii + 1)) ∧ (¬ k' = n → own_I f u n m ss (ii + 1) k') := by
  constructor
  · intro e
    have hS := (own_Mlen hM).mp e
    have h1 := hS.1
    have e2 : ii + 1 - n + n - ss = ii + 1 - ss := by omega
    refine ⟨by omega, ⟨by omega, (own_Socc (ss := ss) (by omega)).mp (by rw [e2]; exact hS)⟩, fun q a b => hno q a (by omega)⟩
  · intro e
    have h1 := hM.1
    refine ⟨by omega, by omega, hM, fun q a b => ?_⟩
    by_cases z : q + n ≤ ii
    · exact hno q a z
    · intro o
      have hS := (own_Socc (u := u) (n := n) a).mpr o.2
      rw [show q + n - ss = ii + 1 - ss by omega] at hS
      exact e ((own_Mlen hM).mpr hS)
theorem own_stA {f u : Nat → Int32} {b : Nat → Nat} {n m ss ii kk : Nat} (hb : ∀ q, 1 ≤ q → q ≤ n → own_P u q (b q)) (hs : ∀ y : Int32, ¬ u n = own_c8 y) (hI : own_I f u n m ss ii kk) (him : ii < m) (h : u (own_fb u b (own_c8 (f ii)) kk) = own_c8 (f ii)) : (own_fb u b (own_c8 (f ii)) kk + 1 = n → own_en f u n m ss (ii + 1)) ∧ (¬ own_fb u b (own_c8 (f ii)) kk + 1 = n → own_I f u n m ss (ii + 1) (own_fb u b (own_c8 (f ii)) kk + 1)) := by
  obtain ⟨h1, h2, h3, h4⟩ := hI
  have e := own_tse (f := f) h1
  have q := own_Mstep hb h3 (by rw [e]; exact hs _)
  rw [e, own_nxY h, show ii - ss + 1 = ii + 1 - ss by omega] at q
  exact own_adv h1 him h4 q
theorem own_stB {f u : Nat → Int32} {b : Nat → Nat} {n m ss ii kk : Nat} (hb : ∀ q, 1 ≤ q → q ≤ n → own_P u q (b q)) (hs : ∀ y : Int32, ¬ u n = own_c8 y) (hI : own_I f u n m ss ii kk) (h : ¬ u (own_fb u b (own_c8 (f ii)) kk) = own_c8 (f ii)) : own_fb u b (own_c8 (f ii)) kk = 0 ∧ own_M u (own_ts f ss) n (ii + 1 - ss) 0 := by
  obtain ⟨h1, h2, h3, h4⟩ := hI
  have e := own_tse (f := f) h1
  have q := own_Mstep hb h3 (by rw [e]; exact hs _)
  have hF : own_F u kk (own_c8 (f ii)) (own_fb u b (own_c8 (f ii)) kk) := own_fb_spec (fun q a d => hb q a (by omega))
  have z := hF.2.1.resolve_right h
  rw [e, own_nxN h, z, show ii - ss + 1 = ii + 1 - ss by omega] at q
  exact ⟨z, q⟩
theorem own_nx0 {u : Nat → Int32} {b : Nat → Nat} {x : Int32} : own_fb u b x 0 = 0 := own_fb_stop (fun q => absurd q.1 (Nat.lt_irrefl _))
theorem own_skip {u tf : Nat → Int32} {b : Nat → Nat} {n k : Nat} (d : Nat) (hb : ∀ q, 1 ≤ q → q ≤ n → own_P u q (b q)) (hs : ∀ j, ¬ u n = tf j) (hM : own_M u tf n k 0) (hno : ∀ j, k ≤ j → j < k + d → ¬ u 0 = tf j) : own_M u tf n (k + d) 0 := by
  induction d with
  | zero => exact hM
  | succ d ih =>
    have q := own_Mstep hb (ih fun j a c => hno j a (by omega)) (hs _)
    rw [own_nxN (by rw [own_nx0]; exact hno _ (by omega) (by omega)), own_nx0] at q
    exact q
theorem own_skipS {f u : Nat → Int32} {b : Nat → Nat} {n ss ii e : Nat} (hn : 1 ≤ n) (hb : ∀ q, 1 ≤ q → q ≤ n → own_P u q (b q)) (hs : ∀ y : Int32, ¬ u n = own_c8 y) (hss : ss ≤ ii) (hM : own_M u (own_ts f ss) n (ii + 1 - ss) 0) (he : ii + 1 ≤ e) (hno : ∀ q, ii + 1 ≤ q → q < e → ¬ own_c8 (f q) = u 0) : own_M u (own_ts f ss) n (e - ss) 0 := by
  have q := own_skip (e - (ii + 1)) hb (fun j => hs _) hM (fun j a c z => hno (ss + j) (by omega) (by omega) z.symm)
  rw [show ii + 1 - ss + (e - (ii + 1)) = e - ss by omega] at q
  exact q
theorem own_later {f u : Nat → Int32} {b : Nat → Nat} {n m ss ii kk e : Nat} (hn : 1 ≤ n) (hb : ∀ q, 1 ≤ q → q ≤ n → own_P u q (b q)) (hs : ∀ y : Int32, ¬ u n = own_c8 y) (hI : own_I f u n m ss ii kk) (hM : own_M u (own_ts f ss) n (ii + 1 - ss) 0) (hno : ∀ q, ii + 1 ≤ q → q < e → ¬ own_c8 (f q) = u 0) : ∀ q, ss ≤ q → q + n ≤ e → ¬ own_occ f u n m q := fun q a c o => by
  by_cases z : q + n ≤ ii
  · exact hI.2.2.2 q a z o
  · have hS := (own_Socc (u := u) (n := n) a).mpr o.2
    have hM' := own_skipS hn hb hs hI.1 hM (e := q + n) (by omega) (fun x y w => hno x y (by omega))
    have := (own_Mlen hM').mpr hS
    omega
theorem own_jump {f u : Nat → Int32} {b : Nat → Nat} {n m ss ii kk p : Nat} (hn : 1 ≤ n) (hb : ∀ q, 1 ≤ q → q ≤ n → own_P u q (b q)) (hs : ∀ y : Int32, ¬ u n = own_c8 y) (hI : own_I f u n m ss ii kk) (hM : own_M u (own_ts f ss) n (ii + 1 - ss) 0) (hp : ii + 1 ≤ p) (hpm : p < m) (hc : own_c8 (f p) = u 0) (hno : ∀ q, ii + 1 ≤ q → q < p → ¬ own_c8 (f q) = u 0) : (1 = n → own_en f u n m ss (p + 1)) ∧ (¬ 1 = n → own_I f u n m ss (p + 1) 1) := by
  have h1 := hI.1
  have hM' := own_skipS hn hb hs hI.1 hM hp hno
  have e := own_tse (f := f) (show ss ≤ p by omega)
  have q := own_Mstep hb hM' (by rw [e]; exact hs _)
  rw [e, own_nxY (by rw [own_nx0]; exact hc.symm), own_nx0, show p - ss + 1 = p + 1 - ss by omega] at q
  exact own_adv (by omega) hpm (own_later hn hb hs hI hM hno) q
theorem own_out {f u : Nat → Int32} {n m ss ii kk : Nat} (hI : own_I f u n m ss ii kk) (h : m ≤ ii) : ∀ q, ss ≤ q → ¬ own_occ f u n m q := fun q a o => hI.2.2.2 q a (Nat.le_trans o.1 h) o
def own_io (f : Nat → Int32) (x : Int32) (fr n : Nat) (r : Int32) : Prop := (∃ p : Nat, r.toInt = (p : Int) ∧ fr ≤ p ∧ p < n ∧ f p = x ∧ ∀ q, fr ≤ q → q < p → ¬ f q = x) ∨ (r.toInt = -1 ∧ ∀ q, fr ≤ q → q < n → ¬ f q = x)
def own_ne (f u : Nat → Int32) (n m ss : Nat) (r : Int32) : Prop := (∃ e : Nat, r.toInt = (e : Int) ∧ own_en f u n m ss e) ∨ (r.toInt = -1 ∧ ∀ q, ss ≤ q → ¬ own_occ f u n m q)
theorem own_fin1 {f u : Nat → Int32} {n m ss : Nat} {r z : Int32} (hz : z.toInt = (n : Int)) (hm : m ≤ 8) (h : own_ne f u n m ss r) (hr : ¬ r = (-1 : Int32)) : own_res f u n m ss (r - z) := by
  rcases h with ⟨e, e1, e2, e3, e4⟩ | ⟨e1, -⟩
  · have h1 := e3.1
    refine Or.inl ⟨e - n, by rw [own_isub (by omega) (by omega), e1, hz]; omega, by omega, e3, e4⟩
  · exact absurd (own_ieq.mpr e1) hr
theorem own_fin2 {f u : Nat → Int32} {n m ss : Nat} {r : Int32} (h : own_ne f u n m ss r) (hr : r = (-1 : Int32)) : own_res f u n m ss (-1 : Int32) := by
  rcases h with ⟨e, e1, -⟩ | ⟨-, h⟩
  · rw [hr] at e1
    have e2 : (-1 : Int32).toInt = -1 := rfl
    omega
  · exact Or.inr ⟨rfl, h⟩
theorem own_if0 {P : Prop} [Decidable P] : (if P then (1 : Int32) else 0) = (0 : Int32) ↔ ¬ P := by
  by_cases h : P <;> simp [h]
theorem own_nc {x : Int32} (h : 0 ≤ x.toInt ∧ x.toInt ≤ 255) : x.toUInt32.toUInt16.toUInt32.toInt32 = x := by
  have e : x = own_c8 x := by rw [own_ieq, own_c8v]; omega
  rw [e]; exact own_c8n x
def own_bt (x : Int32) : Prop := -128 ≤ x.toInt ∧ x.toInt ≤ 127
theorem own_bt0 : ∀ q : Nat, own_bt ((fun _ => (0 : Int32)) q) := fun _ => (show -128 ≤ (0 : Int32).toInt ∧ (0 : Int32).toInt ≤ 127 from ⟨by decide, by decide⟩)
theorem own_c8d (x : Int32) : ((x &&& (255 : Int32)).toUInt32.toUInt16.toUInt32.toInt32).toUInt32.toUInt16.toUInt32.toInt32 = own_c8 x := by
  rw [i2c_mask, i2c_mask]; rfl
theorem own_self0 (z : Int32) : (((z - z).toUInt32 >>> ((31 : Int32) &&& 31).toUInt32).toInt32).toInt8.toInt32 = 0 := by
  rw [Int32.sub_self]; decide
theorem own_pn1 : plainName "java/lang/String" = true := by first | (simp [plainName, overriddenIn]; done) | decide +kernel
theorem own_ef_rm_il (m : MethodId) (x0 : Addr) : entryFrame m #[(.ref x0)] 1 = mkF m 0 #[.val (.ref x0)] [] := by first | (simp [entryFrame, mkF, argsToLocals, Value.category]; done) | rfl
theorem d13_0 : decode jdk_42_method_154_code 0 = .ok (.getstatic 38, 3) := by decide +kernel
theorem d13_3 : decode jdk_42_method_154_code 3 = .ok (.ifCond .eq 14, 3) := by decide +kernel
theorem d13_6 : decode jdk_42_method_154_code 6 = .ok (.aload_n 0, 1) := by decide +kernel
theorem d13_7 : decode jdk_42_method_154_code 7 = .ok (.getfield 15, 3) := by decide +kernel
theorem d13_10 : decode jdk_42_method_154_code 10 = .ok (.ifCond .ne 7, 3) := by decide +kernel
theorem d13_13 : decode jdk_42_method_154_code 13 = .ok (.iconst 1, 1) := by decide +kernel
theorem d13_14 : decode jdk_42_method_154_code 14 = .ok (.goto 4, 3) := by decide +kernel
theorem d13_18 : decode jdk_42_method_154_code 18 = .ok (.ireturn, 1) := by decide +kernel
set_option maxRecDepth 65536 in
set_option maxHeartbeats 40000000 in
theorem rm_il (l : Launch) (Z : State) (a0 : Array Value) (hw : ∀ d ∈ tables_1, d.before a0 Z = true) (a : Addr) (cs : Int32) (h0 : Heap) (n0 : Nat) (Z0 : n0 ≤ h0.size) (f0 : Old Z n0 h0) (f1 : Sta Z Z.heap "java/lang/String" "COMPACT_STRINGS" "Z" (.int cs)) (f2 : Fld Z h0 a "java/lang/String" "coder" "B" (.int (0 : Int32))) (hcs : ¬ cs = (0 : Int32)) :
    Con l Z (⟨"java/lang/String", "isLatin1", "()Z"⟩ : MethodName) jdk_42_method_154_code 1 (some .boolean) ({ frames := 0, cells := 0, slots := 0, locals := 0 } : Room) #[(.ref a)] h0 n0 (fun rv hv => rv = some (.int (1 : Int32)) ∧ h0 = hv) := by
  refine Con.enter (plainFor_of_name own_pn1) Z0 ?_
  intro p e s m below meth c T0 C hnm X0
  refine Go.cast (own_ef_rm_il m a) ?_
  refine Go.getS C X0 (pc' := 3) (hw _ (List.mem_of_getElem? (i := 22) rfl)) Via.refl (f1.ext f0.2) d13_0 rfl (fun T57 X57 => ?_)
  refine Go.ifNo C X57 (pc' := 6) d13_3 ((if0 _ _).trans (feq hcs).1) rfl ?_
  refine Go.aloadN C X57 (pc' := 7) d13_6 rfl rfl rfl ?_
  refine Go.getF C X57 (pc' := 10) (host := "") (Or.inl (hw _ (List.mem_of_getElem? (i := 34) rfl))) Via.refl f2 d13_7 rfl (fun T58 X58 => ?_)
  refine Go.ifNo C X58 (pc' := 13) d13_10 ((if0 _ _).trans (teq (by decide)).2) rfl ?_
  refine Go.iconst C X58 (pc' := 14) (v := (1 : Int32)) d13_13 rfl rfl ?_
  refine Go.goto C X58 (pc' := 18) d13_14 (by decide) (by decide) ?_
  exact Go.retZ (t := .boolean) C X58 (z' := (1 : Int32)) (by decide) d13_18 ⟨rfl, rfl⟩ (by decide) (by decide)
theorem own_ef_rm_cd (m : MethodId) (x0 : Addr) : entryFrame m #[(.ref x0)] 1 = mkF m 0 #[.val (.ref x0)] [] := by first | (simp [entryFrame, mkF, argsToLocals, Value.category]; done) | rfl
theorem d11_0 : decode jdk_42_method_152_code 0 = .ok (.getstatic 38, 3) := by decide +kernel
theorem d11_3 : decode jdk_42_method_152_code 3 = .ok (.ifCond .eq 10, 3) := by decide +kernel
theorem d11_6 : decode jdk_42_method_152_code 6 = .ok (.aload_n 0, 1) := by decide +kernel
theorem d11_7 : decode jdk_42_method_152_code 7 = .ok (.getfield 15, 3) := by decide +kernel
theorem d11_10 : decode jdk_42_method_152_code 10 = .ok (.goto 4, 3) := by decide +kernel
theorem d11_14 : decode jdk_42_method_152_code 14 = .ok (.ireturn, 1) := by decide +kernel
set_option maxRecDepth 65536 in
set_option maxHeartbeats 40000000 in
theorem rm_cd (l : Launch) (Z : State) (a0 : Array Value) (hw : ∀ d ∈ tables_1, d.before a0 Z = true) (a : Addr) (cs : Int32) (h0 : Heap) (n0 : Nat) (Z0 : n0 ≤ h0.size) (f0 : Old Z n0 h0) (f1 : Sta Z Z.heap "java/lang/String" "COMPACT_STRINGS" "Z" (.int cs)) (f2 : Fld Z h0 a "java/lang/String" "coder" "B" (.int (0 : Int32))) (hcs : ¬ cs = (0 : Int32)) :
    Con l Z (⟨"java/lang/String", "coder", "()B"⟩ : MethodName) jdk_42_method_152_code 1 (some .byte) ({ frames := 0, cells := 0, slots := 0, locals := 0 } : Room) #[(.ref a)] h0 n0 (fun rv hv => rv = some (.int (0 : Int32)) ∧ h0 = hv) := by
  refine Con.enter (plainFor_of_name own_pn1) Z0 ?_
  intro p e s m below meth c T0 C hnm X0
  refine Go.cast (own_ef_rm_cd m a) ?_
  refine Go.getS C X0 (pc' := 3) (hw _ (List.mem_of_getElem? (i := 22) rfl)) Via.refl (f1.ext f0.2) d11_0 rfl (fun T59 X59 => ?_)
  refine Go.ifNo C X59 (pc' := 6) d11_3 ((if0 _ _).trans (feq hcs).1) rfl ?_
  refine Go.aloadN C X59 (pc' := 7) d11_6 rfl rfl rfl ?_
  refine Go.getF C X59 (pc' := 10) (host := "") (Or.inl (hw _ (List.mem_of_getElem? (i := 34) rfl))) Via.refl f2 d11_7 rfl (fun T60 X60 => ?_)
  refine Go.goto C X60 (pc' := 14) d11_10 (by decide) (by decide) ?_
  exact Go.retZ (t := .byte) C X60 (z' := (0 : Int32)) (by decide) d11_14 ⟨rfl, rfl⟩ (by decide) (by decide)
theorem own_ef_rm_ln (m : MethodId) (x0 : Addr) : entryFrame m #[(.ref x0)] 1 = mkF m 0 #[.val (.ref x0)] [] := by first | (simp [entryFrame, mkF, argsToLocals, Value.category]; done) | rfl
theorem d10_0 : decode jdk_42_method_54_code 0 = .ok (.aload_n 0, 1) := by decide +kernel
theorem d10_1 : decode jdk_42_method_54_code 1 = .ok (.getfield 9, 3) := by decide +kernel
theorem d10_4 : decode jdk_42_method_54_code 4 = .ok (.arraylength, 1) := by decide +kernel
theorem d10_5 : decode jdk_42_method_54_code 5 = .ok (.aload_n 0, 1) := by decide +kernel
theorem d10_6 : decode jdk_42_method_54_code 6 = .ok (.invokevirtual 335, 3) := by decide +kernel
theorem own_pd3 : parseMethodDescriptor "()B" = some ⟨[], some .byte⟩ := by decide +kernel
theorem d10_9 : decode jdk_42_method_54_code 9 = .ok (.ishr, 1) := by decide +kernel
theorem d10_10 : decode jdk_42_method_54_code 10 = .ok (.ireturn, 1) := by decide +kernel
set_option maxRecDepth 65536 in
set_option maxHeartbeats 40000000 in
theorem rm_ln (l : Launch) (Z : State) (a0 : Array Value) (hw : ∀ d ∈ tables_1, d.before a0 Z = true) (a : Addr) (b : Addr) (n : Nat) (f : Nat → Int32) (z : Int32) (cs : Int32) (h0 : Heap) (n0 : Nat) (Z0 : n0 ≤ h0.size) (f0 : Old Z n0 h0) (f1 : Sta Z Z.heap "java/lang/String" "COMPACT_STRINGS" "Z" (.int cs)) (f2 : Exa Z h0 a "java/lang/String") (f3 : Fld Z h0 a "java/lang/String" "value" "[B" (.ref b)) (f4 : Fld Z h0 a "java/lang/String" "coder" "B" (.int (0 : Int32))) (f5 : AI Z h0 b .byte n f) (hcs : ¬ cs = (0 : Int32)) (hz : z.toInt = (n : Int)) :
    Con l Z (⟨"java/lang/String", "length", "()I"⟩ : MethodName) jdk_42_method_54_code 1 (some .int) ({ frames := 1, cells := 0, slots := 0, locals := 13 } : Room) #[(.ref a)] h0 n0 (fun rv hv => rv = some (.int z) ∧ h0 = hv) := by
  refine Con.enter (plainFor_of_name own_pn1) Z0 ?_
  intro p e s m below meth c T0 C hnm X0
  refine Go.cast (own_ef_rm_ln m a) ?_
  refine Go.aloadN C X0 (pc' := 1) d10_0 rfl rfl rfl ?_
  refine Go.getF C X0 (pc' := 4) (host := "") (Or.inl (hw _ (List.mem_of_getElem? (i := 36) rfl))) Via.refl f3 d10_1 rfl (fun T61 X61 => ?_)
  refine Go.alenI C X61 (pc' := 5) (z := z) f5 hz d10_4 rfl ?_
  refine Go.aloadN C X61 (pc' := 6) d10_5 rfl rfl rfl ?_
  refine Go.callV C X61 (pc' := 9) (W := 1) (argsL := []) (rest := [(.int z)]) (a := a) (rm_cd l Z a0 hw a cs h0 n0 X61.sz f0 f1 f4 hcs) f2 (notFace_of_selects (args := #[]) (mvT C.2.1 (hw _ (List.mem_of_getElem? (i := 56) rfl)))) (hw _ (List.mem_of_getElem? (i := 53) rfl)) (hw _ (List.mem_of_getElem? (i := 54) rfl)) (hw _ (List.mem_of_getElem? (i := 56) rfl)) (hw _ (List.mem_of_getElem? (i := 55) rfl)) (hw _ (List.mem_of_getElem? (i := 10) rfl)) (hw _ (List.mem_of_getElem? (i := 57) rfl)) (by decide) rfl rfl (lenOf own_pd3 rfl) rfl (Nat.le_of_eq rfl) (by decide) (by decide) (by decide) (by decide) d10_6 rfl (fun _ _ q => Nat.le_of_eq (congrArg Array.size q.2)) (fun T62 h62 v62 X62 P62 => ?_)
  obtain ⟨rfl, rfl⟩ := P62
  show Go p e below _ n0 _ _ _ T62 (mkF m 9 #[.val (.ref a)] [(.int (0 : Int32)), (.int z)])
  refine Go.ishr C X62 (pc' := 10) d10_9 rfl ?_
  exact Go.retI C X62 d10_10 ⟨(by rw [own_shr0]), rfl⟩ (by decide) (by decide)
theorem own_pn2 : plainName "jdk/internal/util/Preconditions" = true := by first | (simp [plainName, overriddenIn]; done) | decide +kernel
theorem own_ef_rm_pc (m : MethodId) (x0 : Int32) (x1 : Int32) (x2 : Value) (hrx2 : x2.isRef = true) : entryFrame m #[(.int x0), (.int x1), x2] 3 = mkF m 0 #[.val (.int x0), .val (.int x1), .val x2] [] := by rcases ref_cases hrx2 with rfl | ⟨ax2, rfl⟩ <;> rfl
theorem d16_0 : decode jdk_41_method_11_code 0 = .ok (.iload_n 0, 1) := by decide +kernel
theorem d16_1 : decode jdk_41_method_11_code 1 = .ok (.ifCond .lt 8, 3) := by decide +kernel
theorem d16_4 : decode jdk_41_method_11_code 4 = .ok (.iload_n 0, 1) := by decide +kernel
theorem d16_5 : decode jdk_41_method_11_code 5 = .ok (.iload_n 1, 1) := by decide +kernel
theorem d16_6 : decode jdk_41_method_11_code 6 = .ok (.if_icmp .lt 10, 3) := by decide +kernel
theorem d16_16 : decode jdk_41_method_11_code 16 = .ok (.iload_n 0, 1) := by decide +kernel
theorem d16_17 : decode jdk_41_method_11_code 17 = .ok (.ireturn, 1) := by decide +kernel
set_option maxRecDepth 65536 in
set_option maxHeartbeats 40000000 in
theorem rm_pc (l : Launch) (Z : State) (a0 : Array Value) (hw : ∀ d ∈ tables_1, d.before a0 Z = true) (y0 : Int32) (y1 : Int32) (sf : Value)  (h0 : Heap) (n0 : Nat) (Z0 : n0 ≤ h0.size) (hsf : sf.isRef = true) (hlo : ¬ y0 < (0 : Int32)) (hhi : y0 < y1) :
    Con l Z (⟨"jdk/internal/util/Preconditions", "checkIndex", "(IILjava/util/function/BiFunction;)I"⟩ : MethodName) jdk_41_method_11_code 3 (some .int) ({ frames := 0, cells := 0, slots := 0, locals := 0 } : Room) #[(.int y0), (.int y1), sf] h0 n0 (fun rv hv => rv = some (.int y0) ∧ h0 = hv) := by
  refine Con.enter (plainFor_of_name own_pn2) Z0 ?_
  intro p e s m below meth c T0 C hnm X0
  refine Go.cast (own_ef_rm_pc m y0 y1 sf hsf) ?_
  refine Go.iloadN C X0 (pc' := 1) d16_0 rfl rfl ?_
  refine Go.ifNo C X0 (pc' := 4) d16_1 ((if0 _ _).trans (flt hlo).1) rfl ?_
  refine Go.iloadN C X0 (pc' := 5) d16_4 rfl rfl ?_
  refine Go.iloadN C X0 (pc' := 6) d16_5 rfl rfl ?_
  refine Go.icmpYes C X0 (pc' := 16) d16_6 (tlt hhi).1 (by decide) (by decide) ?_
  refine Go.iloadN C X0 (pc' := 17) d16_16 rfl rfl ?_
  exact Go.retI C X0 d16_17 ⟨rfl, rfl⟩ (by decide) (by decide)
theorem own_ef_rm_ci (m : MethodId) (x0 : Int32) (x1 : Int32) : entryFrame m #[(.int x0), (.int x1)] 2 = mkF m 0 #[.val (.int x0), .val (.int x1)] [] := by first | (simp [entryFrame, mkF, argsToLocals, Value.category]; done) | rfl
theorem d15_0 : decode jdk_42_method_155_code 0 = .ok (.iload_n 0, 1) := by decide +kernel
theorem d15_1 : decode jdk_42_method_155_code 1 = .ok (.iload_n 1, 1) := by decide +kernel
theorem d15_2 : decode jdk_42_method_155_code 2 = .ok (.getstatic 1053, 3) := by decide +kernel
theorem d15_5 : decode jdk_42_method_155_code 5 = .ok (.invokestatic 1059, 3) := by decide +kernel
theorem own_pd4 : parseMethodDescriptor "(IILjava/util/function/BiFunction;)I" = some ⟨[.int, .int, (.object "java/util/function/BiFunction")], some .int⟩ := by decide +kernel
theorem d15_8 : decode jdk_42_method_155_code 8 = .ok (.pop, 1) := by decide +kernel
theorem d15_9 : decode jdk_42_method_155_code 9 = .ok (.return_, 1) := by decide +kernel
set_option maxRecDepth 65536 in
set_option maxHeartbeats 40000000 in
theorem rm_ci (l : Launch) (Z : State) (a0 : Array Value) (hw : ∀ d ∈ tables_1, d.before a0 Z = true) (y0 : Int32) (y1 : Int32) (sf : Value) (h0 : Heap) (n0 : Nat) (Z0 : n0 ≤ h0.size) (f0 : Old Z n0 h0) (f1 : Sta Z Z.heap "jdk/internal/util/Preconditions" "SIOOBE_FORMATTER" "Ljava/util/function/BiFunction;" sf) (hsf : sf.isRef = true) (hlo : ¬ y0 < (0 : Int32)) (hhi : y0 < y1) :
    Con l Z (⟨"java/lang/String", "checkIndex", "(II)V"⟩ : MethodName) jdk_42_method_155_code 2 none ({ frames := 1, cells := 0, slots := 0, locals := 14 } : Room) #[(.int y0), (.int y1)] h0 n0 (fun rv hv => rv = none ∧ h0 = hv) := by
  refine Con.enter (plainFor_of_name own_pn1) Z0 ?_
  intro p e s m below meth c T0 C hnm X0
  refine Go.cast (own_ef_rm_ci m y0 y1) ?_
  refine Go.iloadN C X0 (pc' := 1) d15_0 rfl rfl ?_
  refine Go.iloadN C X0 (pc' := 2) d15_1 rfl rfl ?_
  refine Go.getS C X0 (pc' := 5) (hw _ (List.mem_of_getElem? (i := 76) rfl)) Via.refl (f1.ext f0.2) d15_2 rfl (fun T63 X63 => ?_)
  refine Go.callS C X63 (pc' := 8) (W := 0) (argsL := [(.int y0), (.int y1), sf]) (rest := []) (rm_pc l Z a0 hw y0 y1 sf  h0 n0 X63.sz hsf hlo hhi) (hw _ (List.mem_of_getElem? (i := 78) rfl)) (hw _ (List.mem_of_getElem? (i := 79) rfl)) (hw _ (List.mem_of_getElem? (i := 77) rfl)) (hw _ (List.mem_of_getElem? (i := 80) rfl)) (by decide) rfl rfl (lenOf own_pd4 rfl) rfl (Nat.le_of_eq rfl) (by decide) (by decide) (by decide) (by decide) d15_5 rfl (fun _ _ q => Nat.le_of_eq (congrArg Array.size q.2)) (fun T64 h64 v64 X64 P64 => ?_)
  obtain ⟨rfl, rfl⟩ := P64
  show Go p e below _ n0 _ _ _ T64 (mkF m 8 #[.val (.int y0), .val (.int y1)] [(.int y0)])
  refine Go.pop C X64 (pc' := 9) d15_8 rfl rfl ?_
  exact Go.retV C X64 d15_9 ⟨rfl, rfl⟩ (by decide) (by decide)
theorem own_pn3 : plainName "java/lang/StringLatin1" = true := by first | (simp [plainName, overriddenIn]; done) | decide +kernel
theorem own_ef_rm_lc (m : MethodId) (x0 : Addr) (x1 : Int32) : entryFrame m #[(.ref x0), (.int x1)] 2 = mkF m 0 #[.val (.ref x0), .val (.int x1)] [] := by first | (simp [entryFrame, mkF, argsToLocals, Value.category]; done) | rfl
theorem d14_0 : decode jdk_43_method_2_code 0 = .ok (.iload_n 1, 1) := by decide +kernel
theorem d14_1 : decode jdk_43_method_2_code 1 = .ok (.aload_n 0, 1) := by decide +kernel
theorem d14_2 : decode jdk_43_method_2_code 2 = .ok (.arraylength, 1) := by decide +kernel
theorem d14_3 : decode jdk_43_method_2_code 3 = .ok (.invokestatic 9, 3) := by decide +kernel
theorem own_pd5 : parseMethodDescriptor "(II)V" = some ⟨[.int, .int], none⟩ := by decide +kernel
theorem d14_6 : decode jdk_43_method_2_code 6 = .ok (.aload_n 0, 1) := by decide +kernel
theorem d14_7 : decode jdk_43_method_2_code 7 = .ok (.iload_n 1, 1) := by decide +kernel
theorem d14_8 : decode jdk_43_method_2_code 8 = .ok (.baload, 1) := by decide +kernel
theorem d14_9 : decode jdk_43_method_2_code 9 = .ok (.sipush 255, 3) := by decide +kernel
theorem d14_12 : decode jdk_43_method_2_code 12 = .ok (.iand, 1) := by decide +kernel
theorem d14_13 : decode jdk_43_method_2_code 13 = .ok (.i2c, 1) := by decide +kernel
theorem d14_14 : decode jdk_43_method_2_code 14 = .ok (.ireturn, 1) := by decide +kernel
set_option maxRecDepth 65536 in
set_option maxHeartbeats 40000000 in
theorem rm_lc (l : Launch) (Z : State) (a0 : Array Value) (hw : ∀ d ∈ tables_1, d.before a0 Z = true) (b : Addr) (j : Int32) (n : Nat) (f : Nat → Int32) (z : Int32) (i : Nat) (sf : Value) (h0 : Heap) (n0 : Nat) (Z0 : n0 ≤ h0.size) (f0 : Old Z n0 h0) (f1 : Sta Z Z.heap "jdk/internal/util/Preconditions" "SIOOBE_FORMATTER" "Ljava/util/function/BiFunction;" sf) (f2 : AI Z h0 b .byte n f) (hsf : sf.isRef = true) (hz : z.toInt = (n : Int)) (hj : j.toInt = (i : Int)) (hi : i < n) :
    Con l Z (⟨"java/lang/StringLatin1", "charAt", "([BI)C"⟩ : MethodName) jdk_43_method_2_code 2 (some .char) ({ frames := 2, cells := 0, slots := 0, locals := 27 } : Room) #[(.ref b), (.int j)] h0 n0 (fun rv hv => rv = some (.int (own_c8 (f i))) ∧ h0 = hv) := by
  refine Con.enter (plainFor_of_name own_pn3) Z0 ?_
  intro p e s m below meth c T0 C hnm X0
  refine Go.cast (own_ef_rm_lc m b j) ?_
  refine Go.iloadN C X0 (pc' := 1) d14_0 rfl rfl ?_
  refine Go.aloadN C X0 (pc' := 2) d14_1 rfl rfl rfl ?_
  refine Go.alenI C X0 (pc' := 3) (z := z) f2 hz d14_2 rfl ?_
  refine Go.callS C X0 (pc' := 6) (W := 0) (argsL := [(.int j), (.int z)]) (rest := []) (rm_ci l Z a0 hw j z sf h0 n0 X0.sz f0 f1 hsf (fun q => by have := own_ilt.mp q; have e : (0 : Int32).toInt = 0 := rfl; omega) (own_ilt.mpr (by omega))) (hw _ (List.mem_of_getElem? (i := 73) rfl)) (hw _ (List.mem_of_getElem? (i := 74) rfl)) (hw _ (List.mem_of_getElem? (i := 10) rfl)) (hw _ (List.mem_of_getElem? (i := 75) rfl)) (by decide) rfl rfl (lenOf own_pd5 rfl) rfl (Nat.le_of_eq rfl) (by decide) (by decide) (by decide) (by decide) d14_3 rfl (fun _ _ q => Nat.le_of_eq (congrArg Array.size q.2)) (fun T65 h65 v65 X65 P65 => ?_)
  obtain ⟨rfl, rfl⟩ := P65
  show Go p e below _ n0 _ _ _ T65 (mkF m 6 #[.val (.ref b), .val (.int j)] [])
  refine Go.aloadN C X65 (pc' := 7) d14_6 rfl rfl rfl ?_
  refine Go.iloadN C X65 (pc' := 8) d14_7 rfl rfl ?_
  refine Go.baload C X65 (pc' := 9) (i := i) (w := (f i)) f2 hj hi rfl d14_8 rfl ?_
  refine Go.sipush C X65 (pc' := 12) (v := (255 : Int32)) d14_9 rfl rfl ?_
  refine Go.iand C X65 (pc' := 13) d14_12 rfl ?_
  refine Go.i2c C X65 (pc' := 14) d14_13 rfl ?_
  exact Go.retZ (t := .char) C X65 (z' := (own_c8 (f i))) (congrArg Value.int (own_c8d (f i))) d14_14 ⟨rfl, rfl⟩ (by decide) (by decide)
theorem own_ef_rm_ca (m : MethodId) (x0 : Addr) (x1 : Int32) : entryFrame m #[(.ref x0), (.int x1)] 2 = mkF m 0 #[.val (.ref x0), .val (.int x1)] [] := by first | (simp [entryFrame, mkF, argsToLocals, Value.category]; done) | rfl
theorem d12_0 : decode jdk_42_method_56_code 0 = .ok (.aload_n 0, 1) := by decide +kernel
theorem d12_1 : decode jdk_42_method_56_code 1 = .ok (.invokevirtual 492, 3) := by decide +kernel
theorem own_pd6 : parseMethodDescriptor "()Z" = some ⟨[], some .boolean⟩ := by decide +kernel
theorem d12_4 : decode jdk_42_method_56_code 4 = .ok (.ifCond .eq 12, 3) := by decide +kernel
theorem d12_7 : decode jdk_42_method_56_code 7 = .ok (.aload_n 0, 1) := by decide +kernel
theorem d12_8 : decode jdk_42_method_56_code 8 = .ok (.getfield 9, 3) := by decide +kernel
theorem d12_11 : decode jdk_42_method_56_code 11 = .ok (.iload_n 1, 1) := by decide +kernel
theorem d12_12 : decode jdk_42_method_56_code 12 = .ok (.invokestatic 495, 3) := by decide +kernel
theorem own_pd7 : parseMethodDescriptor "([BI)C" = some ⟨[(.array .byte), .int], some .char⟩ := by decide +kernel
theorem d12_15 : decode jdk_42_method_56_code 15 = .ok (.ireturn, 1) := by decide +kernel
set_option maxRecDepth 65536 in
set_option maxHeartbeats 40000000 in
theorem rm_ca (l : Launch) (Z : State) (a0 : Array Value) (hw : ∀ d ∈ tables_1, d.before a0 Z = true) (a : Addr) (j : Int32) (b : Addr) (n : Nat) (f : Nat → Int32) (z : Int32) (i : Nat) (cs : Int32) (sf : Value) (h0 : Heap) (n0 : Nat) (Z0 : n0 ≤ h0.size) (f0 : Old Z n0 h0) (f1 : Sta Z Z.heap "java/lang/String" "COMPACT_STRINGS" "Z" (.int cs)) (f2 : Sta Z Z.heap "jdk/internal/util/Preconditions" "SIOOBE_FORMATTER" "Ljava/util/function/BiFunction;" sf) (f3 : Exa Z h0 a "java/lang/String") (f4 : Fld Z h0 a "java/lang/String" "value" "[B" (.ref b)) (f5 : Fld Z h0 a "java/lang/String" "coder" "B" (.int (0 : Int32))) (f6 : AI Z h0 b .byte n f) (hcs : ¬ cs = (0 : Int32)) (hsf : sf.isRef = true) (hz : z.toInt = (n : Int)) (hj : j.toInt = (i : Int)) (hi : i < n) :
    Con l Z (⟨"java/lang/String", "charAt", "(I)C"⟩ : MethodName) jdk_42_method_56_code 2 (some .char) ({ frames := 3, cells := 0, slots := 0, locals := 40 } : Room) #[(.ref a), (.int j)] h0 n0 (fun rv hv => rv = some (.int (own_c8 (f i))) ∧ h0 = hv) := by
  refine Con.enter (plainFor_of_name own_pn1) Z0 ?_
  intro p e s m below meth c T0 C hnm X0
  refine Go.cast (own_ef_rm_ca m a j) ?_
  refine Go.aloadN C X0 (pc' := 1) d12_0 rfl rfl rfl ?_
  refine Go.callV C X0 (pc' := 4) (W := 0) (argsL := []) (rest := []) (a := a) (rm_il l Z a0 hw a cs h0 n0 X0.sz f0 f1 f5 hcs) f3 (notFace_of_selects (args := #[]) (mvT C.2.1 (hw _ (List.mem_of_getElem? (i := 67) rfl)))) (hw _ (List.mem_of_getElem? (i := 64) rfl)) (hw _ (List.mem_of_getElem? (i := 65) rfl)) (hw _ (List.mem_of_getElem? (i := 67) rfl)) (hw _ (List.mem_of_getElem? (i := 66) rfl)) (hw _ (List.mem_of_getElem? (i := 10) rfl)) (hw _ (List.mem_of_getElem? (i := 68) rfl)) (by decide) rfl rfl (lenOf own_pd6 rfl) rfl (Nat.le_of_eq rfl) (by decide) (by decide) (by decide) (by decide) d12_1 rfl (fun _ _ q => Nat.le_of_eq (congrArg Array.size q.2)) (fun T66 h66 v66 X66 P66 => ?_)
  obtain ⟨rfl, rfl⟩ := P66
  show Go p e below _ n0 _ _ _ T66 (mkF m 4 #[.val (.ref a), .val (.int j)] [(.int (1 : Int32))])
  refine Go.ifNo C X66 (pc' := 7) d12_4 ((if0 _ _).trans (feq (by decide)).1) rfl ?_
  refine Go.aloadN C X66 (pc' := 8) d12_7 rfl rfl rfl ?_
  refine Go.getF C X66 (pc' := 11) (host := "") (Or.inl (hw _ (List.mem_of_getElem? (i := 36) rfl))) Via.refl f4 d12_8 rfl (fun T67 X67 => ?_)
  refine Go.iloadN C X67 (pc' := 12) d12_11 rfl rfl ?_
  refine Go.callS C X67 (pc' := 15) (W := 0) (argsL := [(.ref b), (.int j)]) (rest := []) (rm_lc l Z a0 hw b j n f z i sf h0 n0 X67.sz f0 f2 f6 hsf hz hj hi) (hw _ (List.mem_of_getElem? (i := 69) rfl)) (hw _ (List.mem_of_getElem? (i := 70) rfl)) (hw _ (List.mem_of_getElem? (i := 71) rfl)) (hw _ (List.mem_of_getElem? (i := 72) rfl)) (by decide) rfl rfl (lenOf own_pd7 rfl) rfl (Nat.le_of_eq rfl) (by decide) (by decide) (by decide) (by decide) d12_12 rfl (fun _ _ q => Nat.le_of_eq (congrArg Array.size q.2)) (fun T68 h68 v68 X68 P68 => ?_)
  obtain ⟨rfl, rfl⟩ := P68
  show Go p e below _ n0 _ _ _ T68 (mkF m 15 #[.val (.ref a), .val (.int j)] [(.int (own_c8 (f i)))])
  exact Go.retZ (t := .char) C X68 (z' := (own_c8 (f i))) (congrArg Value.int (own_c8n (f i))) d12_15 ⟨rfl, rfl⟩ (by decide) (by decide)
theorem own_up1 {x : Int32} {i : Nat} (h : x.toInt = (i : Int)) (hi : i < 100) : (x + (1 : Int32)).toInt = ((i + 1 : Nat) : Int) := by
  have e : (1 : Int32).toInt = 1 := rfl
  rw [own_iadd (by omega) (by omega), h, e]; omega
theorem own_pn4 : plainName "java/lang/StringUTF16" = true := by first | (simp [plainName, overriddenIn]; done) | decide +kernel
theorem own_ef_rm_cl (m : MethodId) (x0 : Addr) (x1 : Int32) (x2 : Addr) (x3 : Int32) (x4 : Int32) : entryFrame m #[(.ref x0), (.int x1), (.ref x2), (.int x3), (.int x4)] 7 = mkF m 0 #[.val (.ref x0), .val (.int x1), .val (.ref x2), .val (.int x3), .val (.int x4), .unset, .unset] [] := by first | (simp [entryFrame, mkF, argsToLocals, Value.category]; done) | rfl
theorem d7_0 : decode jdk_52_method_21_code 0 = .ok (.iconst 0, 1) := by decide +kernel
theorem d7_1 : decode jdk_52_method_21_code 1 = .ok (.istore 5, 2) := by decide +kernel
theorem d7_3 : decode jdk_52_method_21_code 3 = .ok (.iload 5, 2) := by decide +kernel
theorem d7_5 : decode jdk_52_method_21_code 5 = .ok (.iload 4, 2) := by decide +kernel
theorem d7_7 : decode jdk_52_method_21_code 7 = .ok (.if_icmp .ge 37, 3) := by decide +kernel
theorem d7_10 : decode jdk_52_method_21_code 10 = .ok (.aload_n 0, 1) := by decide +kernel
theorem d7_11 : decode jdk_52_method_21_code 11 = .ok (.iload_n 1, 1) := by decide +kernel
theorem d7_12 : decode jdk_52_method_21_code 12 = .ok (.caload, 1) := by decide +kernel
theorem d7_13 : decode jdk_52_method_21_code 13 = .ok (.istore 6, 2) := by decide +kernel
theorem d7_15 : decode jdk_52_method_21_code 15 = .ok (.iload 6, 2) := by decide +kernel
theorem d7_17 : decode jdk_52_method_21_code 17 = .ok (.sipush 255, 3) := by decide +kernel
theorem d7_20 : decode jdk_52_method_21_code 20 = .ok (.if_icmp .le 6, 3) := by decide +kernel
theorem d7_26 : decode jdk_52_method_21_code 26 = .ok (.aload_n 2, 1) := by decide +kernel
theorem d7_27 : decode jdk_52_method_21_code 27 = .ok (.iload_n 3, 1) := by decide +kernel
theorem d7_28 : decode jdk_52_method_21_code 28 = .ok (.iload 6, 2) := by decide +kernel
theorem d7_30 : decode jdk_52_method_21_code 30 = .ok (.i2b, 1) := by decide +kernel
theorem d7_31 : decode jdk_52_method_21_code 31 = .ok (.bastore, 1) := by decide +kernel
theorem d7_32 : decode jdk_52_method_21_code 32 = .ok (.iinc 1 1, 3) := by decide +kernel
theorem d7_35 : decode jdk_52_method_21_code 35 = .ok (.iinc 3 1, 3) := by decide +kernel
theorem d7_38 : decode jdk_52_method_21_code 38 = .ok (.iinc 5 1, 3) := by decide +kernel
theorem d7_41 : decode jdk_52_method_21_code 41 = .ok (.goto (-38), 3) := by decide +kernel
theorem d7_44 : decode jdk_52_method_21_code 44 = .ok (.iload 4, 2) := by decide +kernel
theorem d7_46 : decode jdk_52_method_21_code 46 = .ok (.ireturn, 1) := by decide +kernel
set_option maxRecDepth 65536 in
set_option maxHeartbeats 40000000 in
theorem rm_cl (l : Launch) (Z : State) (a0 : Array Value) (hw : ∀ d ∈ tables_1, d.before a0 Z = true) (sa : Addr) (o1 : Int32) (da : Addr) (o3 : Int32) (ln : Int32) (n : Nat) (cf : Nat → Int32) (h0 : Heap) (n0 : Nat) (Z0 : n0 ≤ h0.size) (f0 : AI Z h0 sa .char n cf) (f1 : AI Z h0 da .byte n (fun _ => 0)) (f2 : n0 ≤ da) (f3 : sa ≠ da) (ho1 : o1.toInt = ((0 : Nat) : Int)) (ho3 : o3.toInt = ((0 : Nat) : Int)) (hl : ln.toInt = (n : Int)) (hn : n ≤ 8) (hcf : ∀ q, ¬ (255 : Int32) < cf q) :
    Con l Z (⟨"java/lang/StringUTF16", "compress", "([CI[BII)I"⟩ : MethodName) jdk_52_method_21_code 7 (some .int) ({ frames := 0, cells := 0, slots := 0, locals := 0 } : Room) #[(.ref sa), (.int o1), (.ref da), (.int o3), (.int ln)] h0 n0 (fun rv hv => ∃ f1 : Nat → Int32, rv = some (.int ln) ∧ Keep h0 hv [da] ∧ AI Z hv da .byte n f1 ∧ (∀ q, own_bt (f1 q))) := by
  refine Con.enter (plainFor_of_name own_pn4) Z0 ?_
  intro p e s m below meth c T0 C hnm X0
  refine Go.cast (own_ef_rm_cl m sa o1 da o3 ln) ?_
  refine Go.iconst C X0 (pc' := 1) (v := (0 : Int32)) d7_0 rfl rfl ?_
  refine Go.istore C X0 (pc' := 3) (Ls' := #[.val (.ref sa), .val (.int o1), .val (.ref da), .val (.int o3), .val (.int ln), .val (.int (0 : Int32)), .unset]) d7_1 rfl rfl ?_
  have Cut3 : ∀ (fuel : Nat) (T_3 : State) (h_3 : Heap) (ii : Nat) (g : Nat → Int32) (u1 : Int32) (u3 : Int32) (u5 : Int32) (s6 : Slot), (n - ii) < fuel → (u1.toInt = (ii : Int)) → (u3.toInt = (ii : Int)) → (u5.toInt = (ii : Int)) → (ii ≤ n) → (∀ q, own_bt (g q)) → (s6 = .unset ∨ ∃ w : Int32, s6 = .val (.int w)) → On p l e ({ frames := 0, cells := 0, slots := 0, locals := 0 } : Room) s m #[(.ref sa), (.int o1), (.ref da), (.int o3), (.int ln)] below meth c n0 T_3 h_3 0 0 → Keep h0 h_3 [da] → AI Z h_3 sa .char n cf → AI Z h_3 da .byte n g → Go p e below (FrameEnd s) n0 (({ frames := 0, cells := 0, slots := 0, locals := 0 } : Room)).cells (({ frames := 0, cells := 0, slots := 0, locals := 0 } : Room)).slots (fun rv hv => ∃ f1 : Nat → Int32, rv = some (.int ln) ∧ Keep h0 hv [da] ∧ AI Z hv da .byte n f1 ∧ (∀ q, own_bt (f1 q))) T_3 (mkF m 3 #[.val (.ref sa), .val (.int u1), .val (.ref da), .val (.int u3), .val (.int ln), .val (.int u5), s6] []) := by
    intro fuel
    induction fuel with
    | zero => intro T_3 h_3 ii g u1 u3 u5 s6 hM_3 h1 h3 h5 hle hg hs6 X_3 K_3 G3_0 G3_1; exact absurd hM_3 (Nat.not_lt_zero _)
    | succ fuel ih_3 =>
      intro T_3 h_3 ii g u1 u3 u5 s6 hM_3 h1 h3 h5 hle hg hs6 X_3 K_3 G3_0 G3_1
      refine Go.iload C X_3 (pc' := 5) d7_3 rfl rfl ?_
      refine Go.iload C X_3 (pc' := 7) d7_5 rfl rfl ?_
      by_cases c69 : u5 < ln
      · refine Go.icmpNo C X_3 (pc' := 10) d7_7 (tlt c69).2.1 rfl ?_
        refine Go.aloadN C X_3 (pc' := 11) d7_10 rfl rfl rfl ?_
        refine Go.iloadN C X_3 (pc' := 12) d7_11 rfl rfl ?_
        refine Go.caload C X_3 (pc' := 13) (i := ii) (w := (cf ii)) G3_0 h1 (show ii < n by have := own_ilt.mp c69; omega) rfl d7_12 rfl ?_
        refine Go.istore C X_3 (pc' := 15) (Ls' := #[.val (.ref sa), .val (.int u1), .val (.ref da), .val (.int u3), .val (.int ln), .val (.int u5), .val (.int (cf ii))]) d7_13 (by rcases hs6 with rfl | ⟨w, rfl⟩ <;> rfl) rfl ?_
        refine Go.iload C X_3 (pc' := 17) d7_15 rfl rfl ?_
        refine Go.sipush C X_3 (pc' := 20) (v := (255 : Int32)) d7_17 rfl rfl ?_
        refine Go.icmpYes C X_3 (pc' := 26) d7_20 (flt (hcf ii)).2.2.2 (by decide) (by decide) ?_
        refine Go.aloadN C X_3 (pc' := 27) d7_26 rfl rfl rfl ?_
        refine Go.iloadN C X_3 (pc' := 28) d7_27 rfl rfl ?_
        refine Go.iload C X_3 (pc' := 30) d7_28 rfl rfl ?_
        refine Go.i2b C X_3 (pc' := 31) d7_30 rfl ?_
        refine Go.bastore C X_3 (pc' := 32) (i := ii) (x' := ((cf ii).toInt8.toInt32)) G3_1 h3 (show ii < n by have := own_ilt.mp c69; omega) (own_b2 _) f2 d7_31 rfl (fun T70 h70 X70 W70 A70 => ?_)
        have K71 : Keep h0 h70 [da] := K_3.wr W70 (Or.inl (List.mem_of_getElem? (i := 0) rfl))
        have A72 := G3_0.other W70 f3
        refine Go.iinc C X70 (pc' := 35) (Ls' := #[.val (.ref sa), .val (.int (u1 + (1 : Int32))), .val (.ref da), .val (.int u3), .val (.int ln), .val (.int u5), .val (.int (cf ii))]) (v' := (u1 + (1 : Int32))) d7_32 rfl rfl rfl rfl ?_
        refine Go.iinc C X70 (pc' := 38) (Ls' := #[.val (.ref sa), .val (.int (u1 + (1 : Int32))), .val (.ref da), .val (.int (u3 + (1 : Int32))), .val (.int ln), .val (.int u5), .val (.int (cf ii))]) (v' := (u3 + (1 : Int32))) d7_35 rfl rfl rfl rfl ?_
        refine Go.iinc C X70 (pc' := 41) (Ls' := #[.val (.ref sa), .val (.int (u1 + (1 : Int32))), .val (.ref da), .val (.int (u3 + (1 : Int32))), .val (.int ln), .val (.int (u5 + (1 : Int32))), .val (.int (cf ii))]) (v' := (u5 + (1 : Int32))) d7_38 rfl rfl rfl rfl ?_
        refine Go.goto C X70 (pc' := 3) d7_41 (by decide) (by decide) ?_
        exact ih_3 T70 h70 (ii + 1) (fun q => if q = ii then ((cf ii).toInt8.toInt32) else g q) (u1 + (1 : Int32)) (u3 + (1 : Int32)) (u5 + (1 : Int32)) (.val (.int (cf ii))) (by have := (show ii < n by have := own_ilt.mp c69; omega); omega) (own_up1 h1 (by omega)) (own_up1 h3 (by omega)) (own_up1 h5 (by omega)) (by have := (show ii < n by have := own_ilt.mp c69; omega); omega) (own_upd (R := own_bt) hg (own_i2b _)) (Or.inr ⟨_, rfl⟩) X70 K71 A72 A70
      · refine Go.icmpYes C X_3 (pc' := 44) d7_7 (flt c69).2.1 (by decide) (by decide) ?_
        refine Go.iload C X_3 (pc' := 46) d7_44 rfl rfl ?_
        exact Go.retI C X_3 d7_46 ⟨g, rfl, K_3, G3_1, hg⟩ (by decide) (by decide)
  exact Cut3 (_) T0 h0 0 (fun _ => 0) o1 o3 (0 : Int32) (.unset) (Nat.lt_succ_self _) ho1 ho3 rfl (Nat.zero_le _) (fun _ => by unfold own_bt; decide) (Or.inl rfl) X0 (Keep.refl h0 [da]) f0 f1
theorem own_ef_rm_cm (m : MethodId) (x0 : Addr) (x1 : Int32) (x2 : Int32) : entryFrame m #[(.ref x0), (.int x1), (.int x2)] 6 = mkF m 0 #[.val (.ref x0), .val (.int x1), .val (.int x2), .unset, .unset, .unset] [] := by first | (simp [entryFrame, mkF, argsToLocals, Value.category]; done) | rfl
theorem d6_0 : decode jdk_52_method_16_code 0 = .ok (.iload_n 2, 1) := by decide +kernel
theorem d6_1 : decode jdk_52_method_16_code 1 = .ok (.newarray .byte, 2) := by decide +kernel
theorem d6_3 : decode jdk_52_method_16_code 3 = .ok (.astore_n 3, 1) := by decide +kernel
theorem d6_4 : decode jdk_52_method_16_code 4 = .ok (.aload_n 0, 1) := by decide +kernel
theorem d6_5 : decode jdk_52_method_16_code 5 = .ok (.iload_n 1, 1) := by decide +kernel
theorem d6_6 : decode jdk_52_method_16_code 6 = .ok (.aload_n 3, 1) := by decide +kernel
theorem d6_7 : decode jdk_52_method_16_code 7 = .ok (.iconst 0, 1) := by decide +kernel
theorem d6_8 : decode jdk_52_method_16_code 8 = .ok (.iload_n 2, 1) := by decide +kernel
theorem d6_9 : decode jdk_52_method_16_code 9 = .ok (.invokestatic 115, 3) := by decide +kernel
theorem own_pd8 : parseMethodDescriptor "([CI[BII)I" = some ⟨[(.array .char), .int, (.array .byte), .int, .int], some .int⟩ := by decide +kernel
theorem d6_12 : decode jdk_52_method_16_code 12 = .ok (.istore 4, 2) := by decide +kernel
theorem d6_14 : decode jdk_52_method_16_code 14 = .ok (.iload 4, 2) := by decide +kernel
theorem d6_16 : decode jdk_52_method_16_code 16 = .ok (.iload_n 2, 1) := by decide +kernel
theorem d6_17 : decode jdk_52_method_16_code 17 = .ok (.if_icmp .eq 40, 3) := by decide +kernel
theorem d6_57 : decode jdk_52_method_16_code 57 = .ok (.aload_n 3, 1) := by decide +kernel
theorem d6_58 : decode jdk_52_method_16_code 58 = .ok (.areturn, 1) := by decide +kernel
set_option maxRecDepth 65536 in
set_option maxHeartbeats 40000000 in
theorem rm_cm (l : Launch) (Z : State) (a0 : Array Value) (hw : ∀ d ∈ tables_1, d.before a0 Z = true) (sa : Addr) (o1 : Int32) (ln : Int32) (n : Nat) (cf : Nat → Int32) (h0 : Heap) (n0 : Nat) (Z0 : n0 ≤ h0.size) (f0 : AI Z h0 sa .char n cf) (ho1 : o1.toInt = ((0 : Nat) : Int)) (hl : ln.toInt = (n : Int)) (hn : n ≤ 8) (hcf : ∀ q, ¬ (255 : Int32) < cf q) :
    Con l Z (⟨"java/lang/StringUTF16", "compress", "([CII)[B"⟩ : MethodName) jdk_52_method_16_code 6 (some (.array .byte)) ({ frames := 1, cells := 1, slots := 8, locals := 18 } : Room) #[(.ref sa), (.int o1), (.int ln)] h0 n0 (fun rv hv => ∃ t : Addr, ∃ f1 : Nat → Int32, rv = some (.ref t) ∧ h0.size ≤ t ∧ Keep h0 hv [] ∧ AI Z hv t .byte n f1 ∧ (∀ q, own_bt (f1 q))) := by
  refine Con.enter (plainFor_of_name own_pn4) Z0 ?_
  intro p e s m below meth c T0 C hnm X0
  refine Go.cast (own_ef_rm_cm m sa o1 ln) ?_
  refine Go.iloadN C X0 (pc' := 1) d6_0 rfl rfl ?_
  refine Go.newP C X0 (pc' := 3) (nn := n) (cap := 8) (hw _ (List.mem_of_getElem? (i := 27) rfl)) d6_1 hl hn (by decide) (by decide) (by decide) rfl (fun T73 h73 b73 k73 X73 g73 E73 Ar73 N73 => ?_)
  have ne_sa_b73 : sa ≠ b73 := Nat.ne_of_lt (Nat.lt_of_lt_of_eq f0.lt g73.symm)
  have Q73 : h0.size ≤ b73 := Nat.le_trans (Keep.refl h0 []).1 (Nat.le_of_eq g73.symm)
  have K74 : Keep h0 h73 [] := (Keep.refl h0 []).ext E73
  have A75 := f0.ext E73
  have A73 : AI Z h73 b73 .byte n (fun _ => 0) := AI.new hl rfl Ar73
  refine Go.astoreN C X73 (pc' := 4) (Ls' := #[.val (.ref sa), .val (.int o1), .val (.int ln), .val (.ref b73), .unset, .unset]) d6_3 rfl rfl rfl ?_
  refine Go.aloadN C X73 (pc' := 5) d6_4 rfl rfl rfl ?_
  refine Go.iloadN C X73 (pc' := 6) d6_5 rfl rfl ?_
  refine Go.aloadN C X73 (pc' := 7) d6_6 rfl rfl rfl ?_
  refine Go.iconst C X73 (pc' := 8) (v := (0 : Int32)) d6_7 rfl rfl ?_
  refine Go.iloadN C X73 (pc' := 9) d6_8 rfl rfl ?_
  refine Go.callS C X73 (pc' := 12) (W := 0) (argsL := [(.ref sa), (.int o1), (.ref b73), (.int (0 : Int32)), (.int ln)]) (rest := []) (rm_cl l Z a0 hw sa o1 b73 (0 : Int32) ln n cf h73 n0 X73.sz A75 A73 N73 ne_sa_b73 ho1 rfl hl hn hcf) (hw _ (List.mem_of_getElem? (i := 28) rfl)) (hw _ (List.mem_of_getElem? (i := 29) rfl)) (hw _ (List.mem_of_getElem? (i := 25) rfl)) (hw _ (List.mem_of_getElem? (i := 30) rfl)) (by decide) rfl rfl (lenOf own_pd8 rfl) rfl (Nat.le_of_eq rfl) (by decide) (by decide) (by decide) (by decide) d6_9 rfl (fun _ _ q => by obtain ⟨_, _, K, _⟩ := q; exact K.1) (fun T76 h76 v76 X76 P76 => ?_)
  obtain ⟨f176, rfl, K76, O76_0, Y76_0⟩ := P76
  have K77 : Keep h0 h76 [] := K74.trans K76 (allS (Or.inr Q73) all0)
  have A78 := A75.keep K76 (ninS ne_sa_b73 nin0)
  show Go p e below _ n0 _ _ _ T76 (mkF m 12 #[.val (.ref sa), .val (.int o1), .val (.int ln), .val (.ref b73), .unset, .unset] [(.int ln)])
  refine Go.istore C X76 (pc' := 14) (Ls' := #[.val (.ref sa), .val (.int o1), .val (.int ln), .val (.ref b73), .val (.int ln), .unset]) d6_12 rfl rfl ?_
  refine Go.iload C X76 (pc' := 16) d6_14 rfl rfl ?_
  refine Go.iloadN C X76 (pc' := 17) d6_16 rfl rfl ?_
  refine Go.icmpYes C X76 (pc' := 57) d6_17 (teq rfl).1 (by decide) (by decide) ?_
  refine Go.aloadN C X76 (pc' := 58) d6_57 rfl rfl rfl ?_
  exact Go.retAA C X76 rfl d6_58 ⟨b73, f176, rfl, Q73, K77, O76_0, Y76_0⟩ (by decide) (by decide)
theorem own_ef_rm_cf (m : MethodId) (x0 : Addr) (x1 : Int32) : entryFrame m #[(.ref x0), (.int x1)] 2 = mkF m 0 #[.val (.ref x0), .val (.int x1)] [] := by first | (simp [entryFrame, mkF, argsToLocals, Value.category]; done) | rfl
theorem d8_0 : decode jdk_52_method_15_code 0 = .ok (.iload_n 1, 1) := by decide +kernel
theorem d8_1 : decode jdk_52_method_15_code 1 = .ok (.aload_n 0, 1) := by decide +kernel
theorem d8_2 : decode jdk_52_method_15_code 2 = .ok (.arraylength, 1) := by decide +kernel
theorem d8_3 : decode jdk_52_method_15_code 3 = .ok (.isub, 1) := by decide +kernel
theorem d8_4 : decode jdk_52_method_15_code 4 = .ok (.bipush 31, 2) := by decide +kernel
theorem d8_6 : decode jdk_52_method_15_code 6 = .ok (.iushr, 1) := by decide +kernel
theorem d8_7 : decode jdk_52_method_15_code 7 = .ok (.i2b, 1) := by decide +kernel
theorem d8_8 : decode jdk_52_method_15_code 8 = .ok (.ireturn, 1) := by decide +kernel
set_option maxRecDepth 65536 in
set_option maxHeartbeats 40000000 in
theorem rm_cf (l : Launch) (Z : State) (a0 : Array Value) (hw : ∀ d ∈ tables_1, d.before a0 Z = true) (b : Addr) (z : Int32) (n : Nat) (f : Nat → Int32) (h0 : Heap) (n0 : Nat) (Z0 : n0 ≤ h0.size) (f0 : AI Z h0 b .byte n f) (hz : z.toInt = (n : Int)) :
    Con l Z (⟨"java/lang/StringUTF16", "coderFromArrayLen", "([BI)B"⟩ : MethodName) jdk_52_method_15_code 2 (some .byte) ({ frames := 0, cells := 0, slots := 0, locals := 0 } : Room) #[(.ref b), (.int z)] h0 n0 (fun rv hv => rv = some (.int (0 : Int32)) ∧ h0 = hv) := by
  refine Con.enter (plainFor_of_name own_pn4) Z0 ?_
  intro p e s m below meth c T0 C hnm X0
  refine Go.cast (own_ef_rm_cf m b z) ?_
  refine Go.iloadN C X0 (pc' := 1) d8_0 rfl rfl ?_
  refine Go.aloadN C X0 (pc' := 2) d8_1 rfl rfl rfl ?_
  refine Go.alenI C X0 (pc' := 3) (z := z) f0 hz d8_2 rfl ?_
  refine Go.isub C X0 (pc' := 4) d8_3 rfl ?_
  refine Go.bipush C X0 (pc' := 6) (v := (31 : Int32)) d8_4 rfl rfl ?_
  refine Go.iushr C X0 (pc' := 7) d8_6 rfl ?_
  refine Go.i2b C X0 (pc' := 8) d8_7 rfl ?_
  exact Go.retZ (t := .byte) C X0 (z' := (0 : Int32)) (by rw [own_self0]; rfl) d8_8 ⟨rfl, rfl⟩ (by decide) (by decide)
theorem own_ef_rm_sv (m : MethodId) (x0 : Addr) (x1 : Addr) (x2 : Int32) (x3 : Int32) (x4 : Value) (hrx4 : x4.isRef = true) : entryFrame m #[(.ref x0), (.ref x1), (.int x2), (.int x3), x4] 6 = mkF m 0 #[.val (.ref x0), .val (.ref x1), .val (.int x2), .val (.int x3), .val x4, .unset] [] := by rcases ref_cases hrx4 with rfl | ⟨ax4, rfl⟩ <;> rfl
theorem d4_0 : decode jdk_42_method_149_code 0 = .ok (.aload_n 0, 1) := by decide +kernel
theorem d4_1 : decode jdk_42_method_149_code 1 = .ok (.invokespecial 1, 3) := by decide +kernel
theorem d4_4 : decode jdk_42_method_149_code 4 = .ok (.iload_n 3, 1) := by decide +kernel
theorem d4_5 : decode jdk_42_method_149_code 5 = .ok (.ifCond .ne 22, 3) := by decide +kernel
theorem d4_27 : decode jdk_42_method_149_code 27 = .ok (.getstatic 38, 3) := by decide +kernel
theorem d4_30 : decode jdk_42_method_149_code 30 = .ok (.ifCond .eq 28, 3) := by decide +kernel
theorem d4_33 : decode jdk_42_method_149_code 33 = .ok (.aload_n 1, 1) := by decide +kernel
theorem d4_34 : decode jdk_42_method_149_code 34 = .ok (.iload_n 2, 1) := by decide +kernel
theorem d4_35 : decode jdk_42_method_149_code 35 = .ok (.iload_n 3, 1) := by decide +kernel
theorem d4_36 : decode jdk_42_method_149_code 36 = .ok (.invokestatic 177, 3) := by decide +kernel
theorem own_pd9 : parseMethodDescriptor "([CII)[B" = some ⟨[(.array .char), .int, .int], some (.array .byte)⟩ := by decide +kernel
theorem d4_39 : decode jdk_42_method_149_code 39 = .ok (.astore 5, 2) := by decide +kernel
theorem d4_41 : decode jdk_42_method_149_code 41 = .ok (.aload_n 0, 1) := by decide +kernel
theorem d4_42 : decode jdk_42_method_149_code 42 = .ok (.aload 5, 2) := by decide +kernel
theorem d4_44 : decode jdk_42_method_149_code 44 = .ok (.iload_n 3, 1) := by decide +kernel
theorem d4_45 : decode jdk_42_method_149_code 45 = .ok (.invokestatic 47, 3) := by decide +kernel
theorem own_pd10 : parseMethodDescriptor "([BI)B" = some ⟨[(.array .byte), .int], some .byte⟩ := by decide +kernel
theorem d4_48 : decode jdk_42_method_149_code 48 = .ok (.putfield 15, 3) := by decide +kernel
theorem d4_51 : decode jdk_42_method_149_code 51 = .ok (.aload_n 0, 1) := by decide +kernel
theorem d4_52 : decode jdk_42_method_149_code 52 = .ok (.aload 5, 2) := by decide +kernel
theorem d4_54 : decode jdk_42_method_149_code 54 = .ok (.putfield 9, 3) := by decide +kernel
theorem d4_57 : decode jdk_42_method_149_code 57 = .ok (.return_, 1) := by decide +kernel
set_option maxRecDepth 65536 in
set_option maxHeartbeats 40000000 in
theorem rm_sv (l : Launch) (Z : State) (a0 : Array Value) (hw : ∀ d ∈ tables_1, d.before a0 Z = true) (a : Addr) (sa : Addr) (o1 : Int32) (ln : Int32) (vd : Value) (n : Nat) (cf : Nat → Int32) (cs : Int32) (h0 : Heap) (n0 : Nat) (Z0 : n0 ≤ h0.size) (f0 : Old Z n0 h0) (f1 : Sta Z Z.heap "java/lang/String" "COMPACT_STRINGS" "Z" (.int cs)) (f2 : Exa Z h0 a "java/lang/String") (f3 : Fld Z h0 a "java/lang/String" "value" "[B" .null) (f4 : Fld Z h0 a "java/lang/String" "coder" "B" (.int (0 : Int32))) (f5 : n0 ≤ a) (f6 : AI Z h0 sa .char n cf) (f7 : a ≠ sa) (hcs : ¬ cs = (0 : Int32)) (hvd : vd.isRef = true) (ho1 : o1.toInt = ((0 : Nat) : Int)) (hl : ln.toInt = (n : Int)) (h1 : 1 ≤ n) (hn : n ≤ 8) (hcf : ∀ q, ¬ (255 : Int32) < cf q) :
    Con l Z (⟨"java/lang/String", "<init>", "([CIILjava/lang/Void;)V"⟩ : MethodName) jdk_42_method_149_code 6 none ({ frames := 2, cells := 1, slots := 8, locals := 35 } : Room) #[(.ref a), (.ref sa), (.int o1), (.int ln), vd] h0 n0 (fun rv hv => ∃ t : Addr, ∃ f1 : Nat → Int32, rv = none ∧ h0.size ≤ t ∧ Keep h0 hv [a] ∧ Exa Z hv a "java/lang/String" ∧ Fld Z hv a "java/lang/String" "value" "[B" (.ref t) ∧ Fld Z hv a "java/lang/String" "coder" "B" (.int (0 : Int32)) ∧ AI Z hv t .byte n f1 ∧ a ≠ t ∧ (∀ q, own_bt (f1 q))) := by
  refine Con.enter (plainFor_of_name own_pn1) Z0 ?_
  intro p e s m below meth c T0 C hnm X0
  refine Go.cast (own_ef_rm_sv m a sa o1 ln vd hvd) ?_
  refine Go.aloadN C X0 (pc' := 1) d4_0 rfl rfl rfl ?_
  refine Go.initO C X0 (pc' := 4) (fun locs X eT => RoadKit.initO X C.1 C.2.1 C.2.2.2.1 (hw _ (List.mem_of_getElem? (i := 19) rfl)) (hw _ (List.mem_of_getElem? (i := 20) rfl)) (hw _ (List.mem_of_getElem? (i := 21) rfl)) eT (g := (mkF m 1 #[.val (.ref a), .val (.ref sa), .val (.int o1), .val (.int ln), .val vd, .unset] [(.ref a)])) rfl (by rw [C.2.2.2.2.1]; rfl) rfl (hb C.2.2.1 d4_1) (by decide) (W := 0) (by show 2 * 0 + _ ≤ _; exact Nat.le_of_eq rfl) (by decide)) rfl (fun T79 X79 => ?_)
  refine Go.iloadN C X79 (pc' := 5) d4_4 rfl rfl ?_
  refine Go.ifYes C X79 (pc' := 27) d4_5 ((if0 _ _).trans (feq (fun q => by have := own_ieq.mp q; have e : (0 : Int32).toInt = 0 := rfl; omega)).2) (by decide) (by decide) ?_
  refine Go.getS C X79 (pc' := 30) (hw _ (List.mem_of_getElem? (i := 22) rfl)) Via.refl (f1.ext f0.2) d4_27 rfl (fun T80 X80 => ?_)
  refine Go.ifNo C X80 (pc' := 33) d4_30 ((if0 _ _).trans (feq hcs).1) rfl ?_
  refine Go.aloadN C X80 (pc' := 34) d4_33 rfl rfl rfl ?_
  refine Go.iloadN C X80 (pc' := 35) d4_34 rfl rfl ?_
  refine Go.iloadN C X80 (pc' := 36) d4_35 rfl rfl ?_
  refine Go.callS C X80 (pc' := 39) (W := 0) (argsL := [(.ref sa), (.int o1), (.int ln)]) (rest := []) (rm_cm l Z a0 hw sa o1 ln n cf h0 n0 X80.sz f6 ho1 hl hn hcf) (hw _ (List.mem_of_getElem? (i := 23) rfl)) (hw _ (List.mem_of_getElem? (i := 24) rfl)) (hw _ (List.mem_of_getElem? (i := 25) rfl)) (hw _ (List.mem_of_getElem? (i := 26) rfl)) (by decide) rfl rfl (lenOf own_pd9 rfl) rfl (Nat.le_of_eq rfl) (by decide) (by decide) (by decide) (by decide) d4_36 rfl (fun _ _ q => by obtain ⟨_, _, _, _, K, _⟩ := q; exact K.1) (fun T81 h81 v81 X81 P81 => ?_)
  obtain ⟨t81, f181, rfl, D81_t, K81, O81_0, Y81_0⟩ := P81
  have ne_a_t81 : a ≠ t81 := Nat.ne_of_lt (Nat.lt_of_lt_of_le f2.lt D81_t)
  have ne_sa_t81 : sa ≠ t81 := Nat.ne_of_lt (Nat.lt_of_lt_of_le f6.lt D81_t)
  have N_t81 : n0 ≤ t81 := Nat.le_trans X80.sz D81_t
  have Q_t81 : h0.size ≤ t81 := Nat.le_trans (Keep.refl h0 [a]).1 D81_t
  have K82 : Keep h0 h81 [a] := (Keep.refl h0 [a]).trans K81 all0
  have O83 : Old Z n0 h81 := f0.keep K81 all0
  have E84 := f2.keep K81
  have F85 := f3.keep K81 nin0
  have F86 := f4.keep K81 nin0
  have A87 := f6.keep K81 nin0
  show Go p e below _ n0 _ _ _ T81 (mkF m 39 #[.val (.ref a), .val (.ref sa), .val (.int o1), .val (.int ln), .val vd, .unset] [(.ref t81)])
  refine Go.astore C X81 (pc' := 41) (Ls' := #[.val (.ref a), .val (.ref sa), .val (.int o1), .val (.int ln), .val vd, .val (.ref t81)]) d4_39 rfl rfl rfl ?_
  refine Go.aloadN C X81 (pc' := 42) d4_41 rfl rfl rfl ?_
  refine Go.aload C X81 (pc' := 44) d4_42 rfl rfl rfl ?_
  refine Go.iloadN C X81 (pc' := 45) d4_44 rfl rfl ?_
  refine Go.callS C X81 (pc' := 48) (W := 1) (argsL := [(.ref t81), (.int ln)]) (rest := [(.ref a)]) (rm_cf l Z a0 hw t81 ln n f181 h81 n0 X81.sz O81_0 hl) (hw _ (List.mem_of_getElem? (i := 31) rfl)) (hw _ (List.mem_of_getElem? (i := 32) rfl)) (hw _ (List.mem_of_getElem? (i := 25) rfl)) (hw _ (List.mem_of_getElem? (i := 33) rfl)) (by decide) rfl rfl (lenOf own_pd10 rfl) rfl (Nat.le_of_eq rfl) (by decide) (by decide) (by decide) (by decide) d4_45 rfl (fun _ _ q => Nat.le_of_eq (congrArg Array.size q.2)) (fun T88 h88 v88 X88 P88 => ?_)
  obtain ⟨rfl, rfl⟩ := P88
  show Go p e below _ n0 _ _ _ T88 (mkF m 48 #[.val (.ref a), .val (.ref sa), .val (.int o1), .val (.int ln), .val vd, .val (.ref t81)] [(.int (0 : Int32)), (.ref a)])
  refine Go.putFN C X88 (pc' := 51) (hw _ (List.mem_of_getElem? (i := 34) rfl)) Via.refl F86 E84 (Or.inr ⟨(hw _ (List.mem_of_getElem? (i := 35) rfl)), rfl, hnm⟩) (hw _ (List.mem_of_getElem? (i := 9) rfl)) f5 (ty := .byte) (v' := (.int (0 : Int32))) (by decide) (by decide) (by decide) d4_48 rfl (fun T89 h89 X89 W89 => ?_)
  have Fw89 := F86.same W89
  have K90 : Keep h0 h89 [a] := K82.wr W89 (Or.inl (List.mem_of_getElem? (i := 0) rfl))
  have O91 : Old Z n0 h89 := O83.wr W89 f5
  have E92 := E84.wr W89
  have F93 := F85.other W89 (Or.inr (slot_ne (Or.inr (hw _ (List.mem_of_getElem? (i := 37) rfl))) (Or.inr (hw _ (List.mem_of_getElem? (i := 35) rfl))) (by decide) (t := (.array .byte)) (t' := .byte) (by decide) (by decide)))
  have A94 := A87.other W89 (Ne.symm f7)
  have A95 := O81_0.other W89 (Ne.symm ne_a_t81)
  refine Go.aloadN C X89 (pc' := 52) d4_51 rfl rfl rfl ?_
  refine Go.aload C X89 (pc' := 54) d4_52 rfl rfl rfl ?_
  refine Go.putF C X89 (pc' := 57) (host := "") (Or.inl (hw _ (List.mem_of_getElem? (i := 36) rfl))) Via.refl F93 E92 (Or.inr ⟨(hw _ (List.mem_of_getElem? (i := 37) rfl)), rfl, hnm⟩) (hw _ (List.mem_of_getElem? (i := 9) rfl)) f5 (ty := (.array .byte)) (by decide) rfl rfl d4_54 rfl (fun T96 h96 X96 W96 => ?_)
  have Fw96 := F93.same W96
  have K97 : Keep h0 h96 [a] := K90.wr W96 (Or.inl (List.mem_of_getElem? (i := 0) rfl))
  have O98 : Old Z n0 h96 := O91.wr W96 f5
  have E99 := E92.wr W96
  have A100 := A94.other W96 (Ne.symm f7)
  have A101 := A95.other W96 (Ne.symm ne_a_t81)
  have F102 := Fw89.other W96 (Or.inr (slot_ne (Or.inr (hw _ (List.mem_of_getElem? (i := 35) rfl))) (Or.inr (hw _ (List.mem_of_getElem? (i := 37) rfl))) (by decide) (t := .byte) (t' := (.array .byte)) (by decide) (by decide)))
  exact Go.retV C X96 d4_57 ⟨t81, f181, rfl, Q_t81, K97, E99, Fw96, F102, A101, ne_a_t81, Y81_0⟩ (by decide) (by decide)
theorem own_ef_rm_sc (m : MethodId) (x0 : Addr) (x1 : Addr) : entryFrame m #[(.ref x0), (.ref x1)] 2 = mkF m 0 #[.val (.ref x0), .val (.ref x1)] [] := by first | (simp [entryFrame, mkF, argsToLocals, Value.category]; done) | rfl
theorem d3_0 : decode jdk_42_method_3_code 0 = .ok (.aload_n 0, 1) := by decide +kernel
theorem d3_1 : decode jdk_42_method_3_code 1 = .ok (.aload_n 1, 1) := by decide +kernel
theorem d3_2 : decode jdk_42_method_3_code 2 = .ok (.iconst 0, 1) := by decide +kernel
theorem d3_3 : decode jdk_42_method_3_code 3 = .ok (.aload_n 1, 1) := by decide +kernel
theorem d3_4 : decode jdk_42_method_3_code 4 = .ok (.arraylength, 1) := by decide +kernel
theorem d3_5 : decode jdk_42_method_3_code 5 = .ok (.aconst_null, 1) := by decide +kernel
theorem d3_6 : decode jdk_42_method_3_code 6 = .ok (.invokespecial 27, 3) := by decide +kernel
theorem own_pd11 : parseMethodDescriptor "([CIILjava/lang/Void;)V" = some ⟨[(.array .char), .int, .int, (.object "java/lang/Void")], none⟩ := by decide +kernel
theorem d3_9 : decode jdk_42_method_3_code 9 = .ok (.return_, 1) := by decide +kernel
set_option maxRecDepth 65536 in
set_option maxHeartbeats 40000000 in
theorem rm_sc (l : Launch) (Z : State) (a0 : Array Value) (hw : ∀ d ∈ tables_1, d.before a0 Z = true) (a : Addr) (sa : Addr) (n : Nat) (cf : Nat → Int32) (z : Int32) (cs : Int32) (h0 : Heap) (n0 : Nat) (Z0 : n0 ≤ h0.size) (f0 : Old Z n0 h0) (f1 : Sta Z Z.heap "java/lang/String" "COMPACT_STRINGS" "Z" (.int cs)) (f2 : Exa Z h0 a "java/lang/String") (f3 : Fld Z h0 a "java/lang/String" "value" "[B" .null) (f4 : Fld Z h0 a "java/lang/String" "coder" "B" (.int (0 : Int32))) (f5 : n0 ≤ a) (f6 : AI Z h0 sa .char n cf) (f7 : a ≠ sa) (hcs : ¬ cs = (0 : Int32)) (hz : z.toInt = (n : Int)) (h1 : 1 ≤ n) (hn : n ≤ 8) (hcf : ∀ q, ¬ (255 : Int32) < cf q) :
    Con l Z (⟨"java/lang/String", "<init>", "([C)V"⟩ : MethodName) jdk_42_method_3_code 2 none ({ frames := 3, cells := 1, slots := 8, locals := 52 } : Room) #[(.ref a), (.ref sa)] h0 n0 (fun rv hv => ∃ t : Addr, ∃ f1 : Nat → Int32, rv = none ∧ h0.size ≤ t ∧ Keep h0 hv [a] ∧ Exa Z hv a "java/lang/String" ∧ Fld Z hv a "java/lang/String" "value" "[B" (.ref t) ∧ Fld Z hv a "java/lang/String" "coder" "B" (.int (0 : Int32)) ∧ AI Z hv t .byte n f1 ∧ a ≠ t ∧ (∀ q, own_bt (f1 q))) := by
  refine Con.enter (plainFor_of_name own_pn1) Z0 ?_
  intro p e s m below meth c T0 C hnm X0
  refine Go.cast (own_ef_rm_sc m a sa) ?_
  refine Go.aloadN C X0 (pc' := 1) d3_0 rfl rfl rfl ?_
  refine Go.aloadN C X0 (pc' := 2) d3_1 rfl rfl rfl ?_
  refine Go.iconst C X0 (pc' := 3) (v := (0 : Int32)) d3_2 rfl rfl ?_
  refine Go.aloadN C X0 (pc' := 4) d3_3 rfl rfl rfl ?_
  refine Go.alenI C X0 (pc' := 5) (z := z) f6 hz d3_4 rfl ?_
  refine Go.aconst_null C X0 (pc' := 6) d3_5 rfl ?_
  refine Go.callI C X0 (pc' := 9) (W := 0) (argsL := [(.ref sa), (.int (0 : Int32)), (.int z), .null]) (rest := []) (a := a) (rm_sv l Z a0 hw a sa (0 : Int32) z (.null) n cf cs h0 n0 X0.sz f0 f1 f2 f3 f4 f5 f6 f7 hcs rfl rfl hz h1 hn hcf) rfl rfl (hw _ (List.mem_of_getElem? (i := 15) rfl)) (hw _ (List.mem_of_getElem? (i := 16) rfl)) (hw _ (List.mem_of_getElem? (i := 10) rfl)) (hw _ (List.mem_of_getElem? (i := 18) rfl)) (by decide) rfl rfl (lenOf own_pd11 rfl) rfl (Nat.le_of_eq rfl) (by decide) (by decide) (by decide) (by decide) d3_6 rfl (fun _ _ q => by obtain ⟨_, _, _, _, K, _⟩ := q; exact K.1) (fun T103 h103 v103 X103 P103 => ?_)
  obtain ⟨t103, f1103, rfl, D103_t, K103, O103_0, O103_1, O103_2, O103_3, O103_4, Y103_0⟩ := P103
  have ne_a_t103 : a ≠ t103 := Nat.ne_of_lt (Nat.lt_of_lt_of_le f2.lt D103_t)
  have ne_sa_t103 : sa ≠ t103 := Nat.ne_of_lt (Nat.lt_of_lt_of_le f6.lt D103_t)
  have N_t103 : n0 ≤ t103 := Nat.le_trans X0.sz D103_t
  have Q_t103 : h0.size ≤ t103 := Nat.le_trans (Keep.refl h0 [a]).1 D103_t
  have K104 : Keep h0 h103 [a] := (Keep.refl h0 [a]).trans K103 (allS (Or.inl (List.mem_of_getElem? (i := 0) rfl)) all0)
  have O105 : Old Z n0 h103 := f0.keep K103 (allS f5 all0)
  have E106 := f2.keep K103
  have A107 := f6.keep K103 (ninS (Ne.symm f7) nin0)
  show Go p e below _ n0 _ _ _ T103 (mkF m 9 #[.val (.ref a), .val (.ref sa)] [])
  exact Go.retV C X103 d3_9 ⟨t103, f1103, rfl, Q_t103, K104, O103_0, O103_1, O103_2, O103_3, O103_4, Y103_0⟩ (by decide) (by decide)
theorem own_ef_rm_sv0 (m : MethodId) (x0 : Addr) (x1 : Addr) (x2 : Int32) (x3 : Int32) (x4 : Value) (hrx4 : x4.isRef = true) : entryFrame m #[(.ref x0), (.ref x1), (.int x2), (.int x3), x4] 6 = mkF m 0 #[.val (.ref x0), .val (.ref x1), .val (.int x2), .val (.int x3), .val x4, .unset] [] := by rcases ref_cases hrx4 with rfl | ⟨ax4, rfl⟩ <;> rfl
theorem d4_8 : decode jdk_42_method_149_code 8 = .ok (.aload_n 0, 1) := by decide +kernel
theorem d4_9 : decode jdk_42_method_149_code 9 = .ok (.ldc 7, 2) := by decide +kernel
theorem d4_11 : decode jdk_42_method_149_code 11 = .ok (.getfield 9, 3) := by decide +kernel
theorem d4_14 : decode jdk_42_method_149_code 14 = .ok (.putfield 9, 3) := by decide +kernel
theorem d4_17 : decode jdk_42_method_149_code 17 = .ok (.aload_n 0, 1) := by decide +kernel
theorem d4_18 : decode jdk_42_method_149_code 18 = .ok (.ldc 7, 2) := by decide +kernel
theorem d4_20 : decode jdk_42_method_149_code 20 = .ok (.getfield 15, 3) := by decide +kernel
theorem d4_23 : decode jdk_42_method_149_code 23 = .ok (.putfield 15, 3) := by decide +kernel
theorem d4_26 : decode jdk_42_method_149_code 26 = .ok (.return_, 1) := by decide +kernel
set_option maxRecDepth 65536 in
set_option maxHeartbeats 40000000 in
theorem rm_sv0 (l : Launch) (Z : State) (a0 : Array Value) (hw : ∀ d ∈ tables_1, d.before a0 Z = true) (a : Addr) (sa : Addr) (o1 : Int32) (ln : Int32) (vd : Value)  (h0 : Heap) (n0 : Nat) (Z0 : n0 ≤ h0.size) (f0 : Exa Z h0 a "java/lang/String") (f1 : Fld Z h0 a "java/lang/String" "value" "[B" .null) (f2 : Fld Z h0 a "java/lang/String" "coder" "B" (.int (0 : Int32))) (f3 : n0 ≤ a) (hvd : vd.isRef = true) (hl0 : ln = (0 : Int32)) :
    ConW l Z (⟨"java/lang/String", "<init>", "([CIILjava/lang/Void;)V"⟩ : MethodName) jdk_42_method_149_code 6 none ({ frames := 1, cells := 2, slots := 4, locals := 12 } : Room) #[(.ref a), (.ref sa), (.int o1), (.int ln), vd] h0 n0 consts_1 (fun rv hv => ∃ b1 : Addr, ∃ f1 : Nat → Int32, rv = none ∧ Keep h0 hv [a] ∧ Exa Z hv a "java/lang/String" ∧ Fld Z hv a "java/lang/String" "value" "[B" (.ref b1) ∧ Fld Z hv a "java/lang/String" "coder" "B" (.int (0 : Int32)) ∧ AI Z hv b1 .byte 0 f1 ∧ a ≠ b1 ∧ (∀ q, own_bt (f1 q))) := by
  refine ConW.enter (plainFor_of_name own_pn1) Z0 ?_
  intro p e s m below meth c T0 C hnm X0 HC0
  refine Go.cast (own_ef_rm_sv0 m a sa o1 ln vd hvd) ?_
  subst hl0
  refine Go.aloadN C X0 (pc' := 1) d4_0 rfl rfl rfl ?_
  refine Go.initO C X0 (pc' := 4) (fun locs X eT => RoadKit.initO X C.1 C.2.1 C.2.2.2.1 (hw _ (List.mem_of_getElem? (i := 19) rfl)) (hw _ (List.mem_of_getElem? (i := 20) rfl)) (hw _ (List.mem_of_getElem? (i := 21) rfl)) eT (g := (mkF m 1 #[.val (.ref a), .val (.ref sa), .val (.int o1), .val (.int (0 : Int32)), .val vd, .unset] [(.ref a)])) rfl (by rw [C.2.2.2.2.1]; rfl) rfl (hb C.2.2.1 d4_1) (by decide) (W := 0) (by show 2 * 0 + _ ≤ _; exact Nat.le_of_eq rfl) (by decide)) rfl (fun T108 X108 => ?_)
  refine Go.iloadN C X108 (pc' := 5) d4_4 rfl rfl ?_
  refine Go.ifNo C X108 (pc' := 8) d4_5 ((if0 _ _).trans (teq (by decide)).2) rfl ?_
  refine Go.aloadN C X108 (pc' := 9) d4_8 rfl rfl rfl ?_
  refine Go.ldcW C X108 (pc' := 11) (text := "") (n := 0) (z := 0) (vs := []) (f := (fun _ => 0)) (own_ew hw) HC0 (List.mem_of_getElem? (i := 0) rfl) (hw _ (List.mem_of_getElem? (i := 38) rfl)) (own_sA hw) (by first | decide | (constructor <;> first | rfl | decide | simp)) (by decide) (by first | rfl | decide) (fun i hi => absurd hi (Nat.not_lt_zero _)) d4_9 (by decide) (by decide) (by decide) (by decide) rfl (fun T109 h109 a109 b109 X109 C E109 Ex109 Fc109 Fv109 Ab109 HC109 Li109 Ne109 => ?_)
  have K110 : Keep h0 h109 [a] := (Keep.refl h0 [a]).ext E109
  have E111 := f0.ext E109
  have F112 := f1.ext E109
  have F113 := f2.ext E109
  have A109 : AI Z h109 b109 .byte 0 (fun _ => 0) := Ab109
  have ne_a_b109 : a ≠ b109 := Ne109 _ _ _ E111 (hw _ (List.mem_of_getElem? (i := 9) rfl))
  have ne_a_a109 : a ≠ a109 := Fld.ne F112 Fv109 (fun q => nomatch q)
  have M109_ : h109.size ≤ h109.size := Nat.le_refl _
  show Go p e below _ n0 _ _ _ T109 (mkF m 11 #[.val (.ref a), .val (.ref sa), .val (.int o1), .val (.int (0 : Int32)), .val vd, .unset] [(.ref a109), (.ref a)])
  refine Go.getF C X109 (pc' := 14) (host := "") (Or.inl (hw _ (List.mem_of_getElem? (i := 36) rfl))) Via.refl Fv109 d4_11 rfl (fun T114 X114 => ?_)
  refine Go.putF C X114 (pc' := 17) (host := "") (Or.inl (hw _ (List.mem_of_getElem? (i := 36) rfl))) Via.refl F112 E111 (Or.inr ⟨(hw _ (List.mem_of_getElem? (i := 37) rfl)), rfl, hnm⟩) (hw _ (List.mem_of_getElem? (i := 9) rfl)) f3 (ty := (.array .byte)) (by decide) rfl rfl d4_14 rfl (fun T115 h115 X115 W115 => ?_)
  have Fw115 := F112.same W115
  have K116 : Keep h0 h115 [a] := K110.wr W115 (Or.inl (List.mem_of_getElem? (i := 0) rfl))
  have E117 := E111.wr W115
  have F118 := F113.other W115 (Or.inr (slot_ne (Or.inr (hw _ (List.mem_of_getElem? (i := 35) rfl))) (Or.inr (hw _ (List.mem_of_getElem? (i := 37) rfl))) (by decide) (t := .byte) (t' := (.array .byte)) (by decide) (by decide)))
  have E119 := Ex109.wr W115
  have F120 := Fc109.other W115 (Or.inl (Ne.symm ne_a_a109))
  have F121 := Fv109.other W115 (Or.inl (Ne.symm ne_a_a109))
  have A122 := A109.other W115 (Ne.symm ne_a_b109)
  have M123 : h109.size ≤ h115.size := (by rw [W115.size]; exact M109_)
  refine Go.aloadN C X115 (pc' := 18) d4_17 rfl rfl rfl ?_
  refine Go.ldcA C X115 (pc' := 20) (hw _ (List.mem_of_getElem? (i := 38) rfl)) Li109 d4_18 rfl ?_
  refine Go.getF C X115 (pc' := 23) (host := "") (Or.inl (hw _ (List.mem_of_getElem? (i := 34) rfl))) Via.refl F120 d4_20 rfl (fun T124 X124 => ?_)
  refine Go.putFN C X124 (pc' := 26) (hw _ (List.mem_of_getElem? (i := 34) rfl)) Via.refl F118 E117 (Or.inr ⟨(hw _ (List.mem_of_getElem? (i := 35) rfl)), rfl, hnm⟩) (hw _ (List.mem_of_getElem? (i := 9) rfl)) f3 (ty := .byte) (v' := (.int (0 : Int32))) (by decide) (by decide) (by decide) d4_23 rfl (fun T125 h125 X125 W125 => ?_)
  have Fw125 := F118.same W125
  have K126 : Keep h0 h125 [a] := K116.wr W125 (Or.inl (List.mem_of_getElem? (i := 0) rfl))
  have E127 := E117.wr W125
  have E128 := E119.wr W125
  have F129 := F120.other W125 (Or.inl (Ne.symm ne_a_a109))
  have F130 := F121.other W125 (Or.inl (Ne.symm ne_a_a109))
  have A131 := A122.other W125 (Ne.symm ne_a_b109)
  have M132 : h109.size ≤ h125.size := (by rw [W125.size]; exact M123)
  have F133 := Fw115.other W125 (Or.inr (slot_ne (Or.inr (hw _ (List.mem_of_getElem? (i := 37) rfl))) (Or.inr (hw _ (List.mem_of_getElem? (i := 35) rfl))) (by decide) (t := (.array .byte)) (t' := .byte) (by decide) (by decide)))
  refine Go.wide ?_
  exact Go.retV C X125 d4_26 ⟨⟨b109, (fun _ => 0), rfl, K126, E127, F133, Fw125, A131, ne_a_b109, own_bt0⟩, M132⟩ (by decide) (by decide)
theorem own_ef_rm_sc0 (m : MethodId) (x0 : Addr) (x1 : Addr) : entryFrame m #[(.ref x0), (.ref x1)] 2 = mkF m 0 #[.val (.ref x0), .val (.ref x1)] [] := by first | (simp [entryFrame, mkF, argsToLocals, Value.category]; done) | rfl
set_option maxRecDepth 65536 in
set_option maxHeartbeats 40000000 in
theorem rm_sc0 (l : Launch) (Z : State) (a0 : Array Value) (hw : ∀ d ∈ tables_1, d.before a0 Z = true) (a : Addr) (sa : Addr) (cf : Nat → Int32) (h0 : Heap) (n0 : Nat) (Z0 : n0 ≤ h0.size) (f0 : Exa Z h0 a "java/lang/String") (f1 : Fld Z h0 a "java/lang/String" "value" "[B" .null) (f2 : Fld Z h0 a "java/lang/String" "coder" "B" (.int (0 : Int32))) (f3 : n0 ≤ a) (f4 : AI Z h0 sa .char 0 cf) (f5 : a ≠ sa) :
    ConW l Z (⟨"java/lang/String", "<init>", "([C)V"⟩ : MethodName) jdk_42_method_3_code 2 none ({ frames := 2, cells := 2, slots := 4, locals := 29 } : Room) #[(.ref a), (.ref sa)] h0 n0 consts_1 (fun rv hv => ∃ b1 : Addr, ∃ f1 : Nat → Int32, rv = none ∧ Keep h0 hv [a] ∧ Exa Z hv a "java/lang/String" ∧ Fld Z hv a "java/lang/String" "value" "[B" (.ref b1) ∧ Fld Z hv a "java/lang/String" "coder" "B" (.int (0 : Int32)) ∧ AI Z hv b1 .byte 0 f1 ∧ a ≠ b1 ∧ (∀ q, own_bt (f1 q))) := by
  refine ConW.enter (plainFor_of_name own_pn1) Z0 ?_
  intro p e s m below meth c T0 C hnm X0 HC0
  refine Go.cast (own_ef_rm_sc0 m a sa) ?_
  refine Go.aloadN C X0 (pc' := 1) d3_0 rfl rfl rfl ?_
  refine Go.aloadN C X0 (pc' := 2) d3_1 rfl rfl rfl ?_
  refine Go.iconst C X0 (pc' := 3) (v := (0 : Int32)) d3_2 rfl rfl ?_
  refine Go.aloadN C X0 (pc' := 4) d3_3 rfl rfl rfl ?_
  refine Go.alenI C X0 (pc' := 5) (z := (0 : Int32)) f4 rfl d3_4 rfl ?_
  refine Go.aconst_null C X0 (pc' := 6) d3_5 rfl ?_
  refine Go.callIW C X0 (pc' := 9) (W := 0) (argsL := [(.ref sa), (.int (0 : Int32)), (.int (0 : Int32)), .null]) (rest := []) (a := a) (rm_sv0 l Z a0 hw a sa (0 : Int32) (0 : Int32) (.null)  h0 n0 X0.sz f0 f1 f2 f3 rfl rfl) (own_ew hw) HC0 rfl rfl (hw _ (List.mem_of_getElem? (i := 15) rfl)) (hw _ (List.mem_of_getElem? (i := 16) rfl)) (hw _ (List.mem_of_getElem? (i := 10) rfl)) (hw _ (List.mem_of_getElem? (i := 18) rfl)) (by decide) rfl rfl (lenOf own_pd11 rfl) rfl (Nat.le_of_eq rfl) (by decide) (by decide) (by decide) (by decide) d3_6 rfl (fun T134 h134 v134 X134 C P134 => ?_)
  obtain ⟨b1134, f1134, rfl, K134, O134_0, O134_1, O134_2, O134_3, O134_4, Y134_0⟩ := P134
  have K135 : Keep h0 h134 [a] := (Keep.refl h0 [a]).trans K134 (allS (Or.inl (List.mem_of_getElem? (i := 0) rfl)) all0)
  have E136 := f0.keep K134
  have A137 := f4.keep K134 (ninS (Ne.symm f5) nin0)
  have M134_ : h134.size ≤ h134.size := Nat.le_refl _
  show Go p e below _ n0 _ _ _ T134 (mkF m 9 #[.val (.ref a), .val (.ref sa)] [])
  refine Go.wide ?_
  exact Go.retV C X134 d3_9 ⟨⟨b1134, f1134, rfl, K135, O134_0, O134_1, O134_2, O134_3, O134_4, Y134_0⟩, M134_⟩ (by decide) (by decide)
theorem own_n255 {x : Int32} (h : 0 ≤ x.toInt ∧ x.toInt ≤ 255) : ¬ (255 : Int32) < x := fun q => by
  have := own_ilt.mp q
  have e : (255 : Int32).toInt = 255 := rfl
  omega
theorem own_pn5 : plainName "com/example/needlewright/needlewright/CharNeedleIndexInPinLaw" = true := by first | (simp [plainName, overriddenIn]; done) | decide +kernel
theorem own_ef_rm_mk (m : MethodId) (x0 : Int32) (x1 : Int32) (x2 : Int32) (x3 : Int32) (x4 : Int32) (x5 : Int32) (x6 : Int32) (x7 : Int32) (x8 : Int32) : entryFrame m #[(.int x0), (.int x1), (.int x2), (.int x3), (.int x4), (.int x5), (.int x6), (.int x7), (.int x8)] 9 = mkF m 0 #[.val (.int x0), .val (.int x1), .val (.int x2), .val (.int x3), .val (.int x4), .val (.int x5), .val (.int x6), .val (.int x7), .val (.int x8)] [] := by first | (simp [entryFrame, mkF, argsToLocals, Value.category]; done) | rfl
theorem d2_0 : decode method_4_code 0 = .ok (.iload 8, 2) := by decide +kernel
theorem d2_2 : decode method_4_code 2 = .ok (.ifCond .ne 14, 3) := by decide +kernel
theorem d2_16 : decode method_4_code 16 = .ok (.iload 8, 2) := by decide +kernel
theorem d2_18 : decode method_4_code 18 = .ok (.iconst 1, 1) := by decide +kernel
theorem d2_19 : decode method_4_code 19 = .ok (.if_icmp .ne 18, 3) := by decide +kernel
theorem d2_22 : decode method_4_code 22 = .ok (.new 32, 3) := by decide +kernel
theorem d2_25 : decode method_4_code 25 = .ok (.dup, 1) := by decide +kernel
theorem d2_26 : decode method_4_code 26 = .ok (.iconst 1, 1) := by decide +kernel
theorem d2_27 : decode method_4_code 27 = .ok (.newarray .char, 2) := by decide +kernel
theorem d2_29 : decode method_4_code 29 = .ok (.dup, 1) := by decide +kernel
theorem d2_30 : decode method_4_code 30 = .ok (.iconst 0, 1) := by decide +kernel
theorem d2_31 : decode method_4_code 31 = .ok (.iload_n 0, 1) := by decide +kernel
theorem d2_32 : decode method_4_code 32 = .ok (.castore, 1) := by decide +kernel
theorem d2_33 : decode method_4_code 33 = .ok (.invokespecial 34, 3) := by decide +kernel
theorem own_pd12 : parseMethodDescriptor "([C)V" = some ⟨[(.array .char)], none⟩ := by decide +kernel
theorem d2_36 : decode method_4_code 36 = .ok (.areturn, 1) := by decide +kernel
theorem d2_37 : decode method_4_code 37 = .ok (.iload 8, 2) := by decide +kernel
theorem d2_39 : decode method_4_code 39 = .ok (.iconst 2, 1) := by decide +kernel
theorem d2_40 : decode method_4_code 40 = .ok (.if_icmp .ne 22, 3) := by decide +kernel
theorem d2_43 : decode method_4_code 43 = .ok (.new 32, 3) := by decide +kernel
theorem d2_46 : decode method_4_code 46 = .ok (.dup, 1) := by decide +kernel
theorem d2_47 : decode method_4_code 47 = .ok (.iconst 2, 1) := by decide +kernel
theorem d2_48 : decode method_4_code 48 = .ok (.newarray .char, 2) := by decide +kernel
theorem d2_50 : decode method_4_code 50 = .ok (.dup, 1) := by decide +kernel
theorem d2_51 : decode method_4_code 51 = .ok (.iconst 0, 1) := by decide +kernel
theorem d2_52 : decode method_4_code 52 = .ok (.iload_n 0, 1) := by decide +kernel
theorem d2_53 : decode method_4_code 53 = .ok (.castore, 1) := by decide +kernel
theorem d2_54 : decode method_4_code 54 = .ok (.dup, 1) := by decide +kernel
theorem d2_55 : decode method_4_code 55 = .ok (.iconst 1, 1) := by decide +kernel
theorem d2_56 : decode method_4_code 56 = .ok (.iload_n 1, 1) := by decide +kernel
theorem d2_57 : decode method_4_code 57 = .ok (.castore, 1) := by decide +kernel
theorem d2_58 : decode method_4_code 58 = .ok (.invokespecial 34, 3) := by decide +kernel
theorem d2_61 : decode method_4_code 61 = .ok (.areturn, 1) := by decide +kernel
theorem d2_62 : decode method_4_code 62 = .ok (.iload 8, 2) := by decide +kernel
theorem d2_64 : decode method_4_code 64 = .ok (.iconst 3, 1) := by decide +kernel
theorem d2_65 : decode method_4_code 65 = .ok (.if_icmp .ne 26, 3) := by decide +kernel
theorem d2_68 : decode method_4_code 68 = .ok (.new 32, 3) := by decide +kernel
theorem d2_71 : decode method_4_code 71 = .ok (.dup, 1) := by decide +kernel
theorem d2_72 : decode method_4_code 72 = .ok (.iconst 3, 1) := by decide +kernel
theorem d2_73 : decode method_4_code 73 = .ok (.newarray .char, 2) := by decide +kernel
theorem d2_75 : decode method_4_code 75 = .ok (.dup, 1) := by decide +kernel
theorem d2_76 : decode method_4_code 76 = .ok (.iconst 0, 1) := by decide +kernel
theorem d2_77 : decode method_4_code 77 = .ok (.iload_n 0, 1) := by decide +kernel
theorem d2_78 : decode method_4_code 78 = .ok (.castore, 1) := by decide +kernel
theorem d2_79 : decode method_4_code 79 = .ok (.dup, 1) := by decide +kernel
theorem d2_80 : decode method_4_code 80 = .ok (.iconst 1, 1) := by decide +kernel
theorem d2_81 : decode method_4_code 81 = .ok (.iload_n 1, 1) := by decide +kernel
theorem d2_82 : decode method_4_code 82 = .ok (.castore, 1) := by decide +kernel
theorem d2_83 : decode method_4_code 83 = .ok (.dup, 1) := by decide +kernel
theorem d2_84 : decode method_4_code 84 = .ok (.iconst 2, 1) := by decide +kernel
theorem d2_85 : decode method_4_code 85 = .ok (.iload_n 2, 1) := by decide +kernel
theorem d2_86 : decode method_4_code 86 = .ok (.castore, 1) := by decide +kernel
theorem d2_87 : decode method_4_code 87 = .ok (.invokespecial 34, 3) := by decide +kernel
theorem d2_90 : decode method_4_code 90 = .ok (.areturn, 1) := by decide +kernel
theorem d2_91 : decode method_4_code 91 = .ok (.iload 8, 2) := by decide +kernel
theorem d2_93 : decode method_4_code 93 = .ok (.iconst 4, 1) := by decide +kernel
theorem d2_94 : decode method_4_code 94 = .ok (.if_icmp .ne 30, 3) := by decide +kernel
theorem d2_97 : decode method_4_code 97 = .ok (.new 32, 3) := by decide +kernel
theorem d2_100 : decode method_4_code 100 = .ok (.dup, 1) := by decide +kernel
theorem d2_101 : decode method_4_code 101 = .ok (.iconst 4, 1) := by decide +kernel
theorem d2_102 : decode method_4_code 102 = .ok (.newarray .char, 2) := by decide +kernel
theorem d2_104 : decode method_4_code 104 = .ok (.dup, 1) := by decide +kernel
theorem d2_105 : decode method_4_code 105 = .ok (.iconst 0, 1) := by decide +kernel
theorem d2_106 : decode method_4_code 106 = .ok (.iload_n 0, 1) := by decide +kernel
theorem d2_107 : decode method_4_code 107 = .ok (.castore, 1) := by decide +kernel
theorem d2_108 : decode method_4_code 108 = .ok (.dup, 1) := by decide +kernel
theorem d2_109 : decode method_4_code 109 = .ok (.iconst 1, 1) := by decide +kernel
theorem d2_110 : decode method_4_code 110 = .ok (.iload_n 1, 1) := by decide +kernel
theorem d2_111 : decode method_4_code 111 = .ok (.castore, 1) := by decide +kernel
theorem d2_112 : decode method_4_code 112 = .ok (.dup, 1) := by decide +kernel
theorem d2_113 : decode method_4_code 113 = .ok (.iconst 2, 1) := by decide +kernel
theorem d2_114 : decode method_4_code 114 = .ok (.iload_n 2, 1) := by decide +kernel
theorem d2_115 : decode method_4_code 115 = .ok (.castore, 1) := by decide +kernel
theorem d2_116 : decode method_4_code 116 = .ok (.dup, 1) := by decide +kernel
theorem d2_117 : decode method_4_code 117 = .ok (.iconst 3, 1) := by decide +kernel
theorem d2_118 : decode method_4_code 118 = .ok (.iload_n 3, 1) := by decide +kernel
theorem d2_119 : decode method_4_code 119 = .ok (.castore, 1) := by decide +kernel
theorem d2_120 : decode method_4_code 120 = .ok (.invokespecial 34, 3) := by decide +kernel
theorem d2_123 : decode method_4_code 123 = .ok (.areturn, 1) := by decide +kernel
theorem d2_124 : decode method_4_code 124 = .ok (.iload 8, 2) := by decide +kernel
theorem d2_126 : decode method_4_code 126 = .ok (.iconst 5, 1) := by decide +kernel
theorem d2_127 : decode method_4_code 127 = .ok (.if_icmp .ne 35, 3) := by decide +kernel
theorem d2_130 : decode method_4_code 130 = .ok (.new 32, 3) := by decide +kernel
theorem d2_133 : decode method_4_code 133 = .ok (.dup, 1) := by decide +kernel
theorem d2_134 : decode method_4_code 134 = .ok (.iconst 5, 1) := by decide +kernel
theorem d2_135 : decode method_4_code 135 = .ok (.newarray .char, 2) := by decide +kernel
theorem d2_137 : decode method_4_code 137 = .ok (.dup, 1) := by decide +kernel
theorem d2_138 : decode method_4_code 138 = .ok (.iconst 0, 1) := by decide +kernel
theorem d2_139 : decode method_4_code 139 = .ok (.iload_n 0, 1) := by decide +kernel
theorem d2_140 : decode method_4_code 140 = .ok (.castore, 1) := by decide +kernel
theorem d2_141 : decode method_4_code 141 = .ok (.dup, 1) := by decide +kernel
theorem d2_142 : decode method_4_code 142 = .ok (.iconst 1, 1) := by decide +kernel
theorem d2_143 : decode method_4_code 143 = .ok (.iload_n 1, 1) := by decide +kernel
theorem d2_144 : decode method_4_code 144 = .ok (.castore, 1) := by decide +kernel
theorem d2_145 : decode method_4_code 145 = .ok (.dup, 1) := by decide +kernel
theorem d2_146 : decode method_4_code 146 = .ok (.iconst 2, 1) := by decide +kernel
theorem d2_147 : decode method_4_code 147 = .ok (.iload_n 2, 1) := by decide +kernel
theorem d2_148 : decode method_4_code 148 = .ok (.castore, 1) := by decide +kernel
theorem d2_149 : decode method_4_code 149 = .ok (.dup, 1) := by decide +kernel
theorem d2_150 : decode method_4_code 150 = .ok (.iconst 3, 1) := by decide +kernel
theorem d2_151 : decode method_4_code 151 = .ok (.iload_n 3, 1) := by decide +kernel
theorem d2_152 : decode method_4_code 152 = .ok (.castore, 1) := by decide +kernel
theorem d2_153 : decode method_4_code 153 = .ok (.dup, 1) := by decide +kernel
theorem d2_154 : decode method_4_code 154 = .ok (.iconst 4, 1) := by decide +kernel
theorem d2_155 : decode method_4_code 155 = .ok (.iload 4, 2) := by decide +kernel
theorem d2_157 : decode method_4_code 157 = .ok (.castore, 1) := by decide +kernel
theorem d2_158 : decode method_4_code 158 = .ok (.invokespecial 34, 3) := by decide +kernel
theorem d2_161 : decode method_4_code 161 = .ok (.areturn, 1) := by decide +kernel
theorem d2_162 : decode method_4_code 162 = .ok (.iload 8, 2) := by decide +kernel
theorem d2_164 : decode method_4_code 164 = .ok (.bipush 6, 2) := by decide +kernel
theorem d2_166 : decode method_4_code 166 = .ok (.if_icmp .ne 41, 3) := by decide +kernel
theorem d2_169 : decode method_4_code 169 = .ok (.new 32, 3) := by decide +kernel
theorem d2_172 : decode method_4_code 172 = .ok (.dup, 1) := by decide +kernel
theorem d2_173 : decode method_4_code 173 = .ok (.bipush 6, 2) := by decide +kernel
theorem d2_175 : decode method_4_code 175 = .ok (.newarray .char, 2) := by decide +kernel
theorem d2_177 : decode method_4_code 177 = .ok (.dup, 1) := by decide +kernel
theorem d2_178 : decode method_4_code 178 = .ok (.iconst 0, 1) := by decide +kernel
theorem d2_179 : decode method_4_code 179 = .ok (.iload_n 0, 1) := by decide +kernel
theorem d2_180 : decode method_4_code 180 = .ok (.castore, 1) := by decide +kernel
theorem d2_181 : decode method_4_code 181 = .ok (.dup, 1) := by decide +kernel
theorem d2_182 : decode method_4_code 182 = .ok (.iconst 1, 1) := by decide +kernel
theorem d2_183 : decode method_4_code 183 = .ok (.iload_n 1, 1) := by decide +kernel
theorem d2_184 : decode method_4_code 184 = .ok (.castore, 1) := by decide +kernel
theorem d2_185 : decode method_4_code 185 = .ok (.dup, 1) := by decide +kernel
theorem d2_186 : decode method_4_code 186 = .ok (.iconst 2, 1) := by decide +kernel
theorem d2_187 : decode method_4_code 187 = .ok (.iload_n 2, 1) := by decide +kernel
theorem d2_188 : decode method_4_code 188 = .ok (.castore, 1) := by decide +kernel
theorem d2_189 : decode method_4_code 189 = .ok (.dup, 1) := by decide +kernel
theorem d2_190 : decode method_4_code 190 = .ok (.iconst 3, 1) := by decide +kernel
theorem d2_191 : decode method_4_code 191 = .ok (.iload_n 3, 1) := by decide +kernel
theorem d2_192 : decode method_4_code 192 = .ok (.castore, 1) := by decide +kernel
theorem d2_193 : decode method_4_code 193 = .ok (.dup, 1) := by decide +kernel
theorem d2_194 : decode method_4_code 194 = .ok (.iconst 4, 1) := by decide +kernel
theorem d2_195 : decode method_4_code 195 = .ok (.iload 4, 2) := by decide +kernel
theorem d2_197 : decode method_4_code 197 = .ok (.castore, 1) := by decide +kernel
theorem d2_198 : decode method_4_code 198 = .ok (.dup, 1) := by decide +kernel
theorem d2_199 : decode method_4_code 199 = .ok (.iconst 5, 1) := by decide +kernel
theorem d2_200 : decode method_4_code 200 = .ok (.iload 5, 2) := by decide +kernel
theorem d2_202 : decode method_4_code 202 = .ok (.castore, 1) := by decide +kernel
theorem d2_203 : decode method_4_code 203 = .ok (.invokespecial 34, 3) := by decide +kernel
theorem d2_206 : decode method_4_code 206 = .ok (.areturn, 1) := by decide +kernel
theorem d2_207 : decode method_4_code 207 = .ok (.iload 8, 2) := by decide +kernel
theorem d2_209 : decode method_4_code 209 = .ok (.bipush 7, 2) := by decide +kernel
theorem d2_211 : decode method_4_code 211 = .ok (.if_icmp .ne 47, 3) := by decide +kernel
theorem d2_214 : decode method_4_code 214 = .ok (.new 32, 3) := by decide +kernel
theorem d2_217 : decode method_4_code 217 = .ok (.dup, 1) := by decide +kernel
theorem d2_218 : decode method_4_code 218 = .ok (.bipush 7, 2) := by decide +kernel
theorem d2_220 : decode method_4_code 220 = .ok (.newarray .char, 2) := by decide +kernel
theorem d2_222 : decode method_4_code 222 = .ok (.dup, 1) := by decide +kernel
theorem d2_223 : decode method_4_code 223 = .ok (.iconst 0, 1) := by decide +kernel
theorem d2_224 : decode method_4_code 224 = .ok (.iload_n 0, 1) := by decide +kernel
theorem d2_225 : decode method_4_code 225 = .ok (.castore, 1) := by decide +kernel
theorem d2_226 : decode method_4_code 226 = .ok (.dup, 1) := by decide +kernel
theorem d2_227 : decode method_4_code 227 = .ok (.iconst 1, 1) := by decide +kernel
theorem d2_228 : decode method_4_code 228 = .ok (.iload_n 1, 1) := by decide +kernel
theorem d2_229 : decode method_4_code 229 = .ok (.castore, 1) := by decide +kernel
theorem d2_230 : decode method_4_code 230 = .ok (.dup, 1) := by decide +kernel
theorem d2_231 : decode method_4_code 231 = .ok (.iconst 2, 1) := by decide +kernel
theorem d2_232 : decode method_4_code 232 = .ok (.iload_n 2, 1) := by decide +kernel
theorem d2_233 : decode method_4_code 233 = .ok (.castore, 1) := by decide +kernel
theorem d2_234 : decode method_4_code 234 = .ok (.dup, 1) := by decide +kernel
theorem d2_235 : decode method_4_code 235 = .ok (.iconst 3, 1) := by decide +kernel
theorem d2_236 : decode method_4_code 236 = .ok (.iload_n 3, 1) := by decide +kernel
theorem d2_237 : decode method_4_code 237 = .ok (.castore, 1) := by decide +kernel
theorem d2_238 : decode method_4_code 238 = .ok (.dup, 1) := by decide +kernel
theorem d2_239 : decode method_4_code 239 = .ok (.iconst 4, 1) := by decide +kernel
theorem d2_240 : decode method_4_code 240 = .ok (.iload 4, 2) := by decide +kernel
theorem d2_242 : decode method_4_code 242 = .ok (.castore, 1) := by decide +kernel
theorem d2_243 : decode method_4_code 243 = .ok (.dup, 1) := by decide +kernel
theorem d2_244 : decode method_4_code 244 = .ok (.iconst 5, 1) := by decide +kernel
theorem d2_245 : decode method_4_code 245 = .ok (.iload 5, 2) := by decide +kernel
theorem d2_247 : decode method_4_code 247 = .ok (.castore, 1) := by decide +kernel
theorem d2_248 : decode method_4_code 248 = .ok (.dup, 1) := by decide +kernel
theorem d2_249 : decode method_4_code 249 = .ok (.bipush 6, 2) := by decide +kernel
theorem d2_251 : decode method_4_code 251 = .ok (.iload 6, 2) := by decide +kernel
theorem d2_253 : decode method_4_code 253 = .ok (.castore, 1) := by decide +kernel
theorem d2_254 : decode method_4_code 254 = .ok (.invokespecial 34, 3) := by decide +kernel
theorem d2_257 : decode method_4_code 257 = .ok (.areturn, 1) := by decide +kernel
theorem d2_258 : decode method_4_code 258 = .ok (.new 32, 3) := by decide +kernel
theorem d2_261 : decode method_4_code 261 = .ok (.dup, 1) := by decide +kernel
theorem d2_262 : decode method_4_code 262 = .ok (.bipush 8, 2) := by decide +kernel
theorem d2_264 : decode method_4_code 264 = .ok (.newarray .char, 2) := by decide +kernel
theorem d2_266 : decode method_4_code 266 = .ok (.dup, 1) := by decide +kernel
theorem d2_267 : decode method_4_code 267 = .ok (.iconst 0, 1) := by decide +kernel
theorem d2_268 : decode method_4_code 268 = .ok (.iload_n 0, 1) := by decide +kernel
theorem d2_269 : decode method_4_code 269 = .ok (.castore, 1) := by decide +kernel
theorem d2_270 : decode method_4_code 270 = .ok (.dup, 1) := by decide +kernel
theorem d2_271 : decode method_4_code 271 = .ok (.iconst 1, 1) := by decide +kernel
theorem d2_272 : decode method_4_code 272 = .ok (.iload_n 1, 1) := by decide +kernel
theorem d2_273 : decode method_4_code 273 = .ok (.castore, 1) := by decide +kernel
theorem d2_274 : decode method_4_code 274 = .ok (.dup, 1) := by decide +kernel
theorem d2_275 : decode method_4_code 275 = .ok (.iconst 2, 1) := by decide +kernel
theorem d2_276 : decode method_4_code 276 = .ok (.iload_n 2, 1) := by decide +kernel
theorem d2_277 : decode method_4_code 277 = .ok (.castore, 1) := by decide +kernel
theorem d2_278 : decode method_4_code 278 = .ok (.dup, 1) := by decide +kernel
theorem d2_279 : decode method_4_code 279 = .ok (.iconst 3, 1) := by decide +kernel
theorem d2_280 : decode method_4_code 280 = .ok (.iload_n 3, 1) := by decide +kernel
theorem d2_281 : decode method_4_code 281 = .ok (.castore, 1) := by decide +kernel
theorem d2_282 : decode method_4_code 282 = .ok (.dup, 1) := by decide +kernel
theorem d2_283 : decode method_4_code 283 = .ok (.iconst 4, 1) := by decide +kernel
theorem d2_284 : decode method_4_code 284 = .ok (.iload 4, 2) := by decide +kernel
theorem d2_286 : decode method_4_code 286 = .ok (.castore, 1) := by decide +kernel
theorem d2_287 : decode method_4_code 287 = .ok (.dup, 1) := by decide +kernel
theorem d2_288 : decode method_4_code 288 = .ok (.iconst 5, 1) := by decide +kernel
theorem d2_289 : decode method_4_code 289 = .ok (.iload 5, 2) := by decide +kernel
theorem d2_291 : decode method_4_code 291 = .ok (.castore, 1) := by decide +kernel
theorem d2_292 : decode method_4_code 292 = .ok (.dup, 1) := by decide +kernel
theorem d2_293 : decode method_4_code 293 = .ok (.bipush 6, 2) := by decide +kernel
theorem d2_295 : decode method_4_code 295 = .ok (.iload 6, 2) := by decide +kernel
theorem d2_297 : decode method_4_code 297 = .ok (.castore, 1) := by decide +kernel
theorem d2_298 : decode method_4_code 298 = .ok (.dup, 1) := by decide +kernel
theorem d2_299 : decode method_4_code 299 = .ok (.bipush 7, 2) := by decide +kernel
theorem d2_301 : decode method_4_code 301 = .ok (.iload 7, 2) := by decide +kernel
theorem d2_303 : decode method_4_code 303 = .ok (.castore, 1) := by decide +kernel
theorem d2_304 : decode method_4_code 304 = .ok (.invokespecial 34, 3) := by decide +kernel
theorem d2_307 : decode method_4_code 307 = .ok (.areturn, 1) := by decide +kernel
set_option maxRecDepth 65536 in
set_option maxHeartbeats 40000000 in
theorem rm_mk (l : Launch) (Z : State) (a0 : Array Value) (hw : ∀ d ∈ tables_1, d.before a0 Z = true) (y0 : Int32) (y1 : Int32) (y2 : Int32) (y3 : Int32) (y4 : Int32) (y5 : Int32) (y6 : Int32) (y7 : Int32) (l8 : Int32) (nn : Nat) (cs : Int32) (h0 : Heap) (n0 : Nat) (Z0 : n0 ≤ h0.size) (f0 : Old Z n0 h0) (f1 : Sta Z Z.heap "java/lang/String" "COMPACT_STRINGS" "Z" (.int cs)) (hcs : ¬ cs = (0 : Int32)) (k0 : 0 ≤ y0.toInt ∧ y0.toInt ≤ 255) (k1 : 0 ≤ y1.toInt ∧ y1.toInt ≤ 255) (k2 : 0 ≤ y2.toInt ∧ y2.toInt ≤ 255) (k3 : 0 ≤ y3.toInt ∧ y3.toInt ≤ 255) (k4 : 0 ≤ y4.toInt ∧ y4.toInt ≤ 255) (k5 : 0 ≤ y5.toInt ∧ y5.toInt ≤ 255) (k6 : 0 ≤ y6.toInt ∧ y6.toInt ≤ 255) (k7 : 0 ≤ y7.toInt ∧ y7.toInt ≤ 255) (hl : l8.toInt = (nn : Int)) (hn1 : 1 ≤ nn) (hn8 : nn ≤ 8) :
    Con l Z (⟨"com/example/needlewright/needlewright/CharNeedleIndexInPinLaw", "make", "(CCCCCCCCI)Ljava/lang/String;"⟩ : MethodName) method_4_code 9 (some (.object "java/lang/String")) ({ frames := 4, cells := 3, slots := 20, locals := 66 } : Room) #[(.int y0), (.int y1), (.int y2), (.int y3), (.int y4), (.int y5), (.int y6), (.int y7), (.int l8)] h0 n0 (fun rv hv => ∃ t : Addr, ∃ b1 : Addr, ∃ f1 : Nat → Int32, rv = some (.ref t) ∧ h0.size ≤ t ∧ Keep h0 hv [] ∧ Exa Z hv t "java/lang/String" ∧ Fld Z hv t "java/lang/String" "value" "[B" (.ref b1) ∧ Fld Z hv t "java/lang/String" "coder" "B" (.int (0 : Int32)) ∧ AI Z hv b1 .byte nn f1 ∧ t ≠ b1 ∧ (∀ q, own_bt (f1 q))) := by
  refine Con.enter (plainFor_of_name own_pn5) Z0 ?_
  intro p e s m below meth c T0 C hnm X0
  refine Go.cast (own_ef_rm_mk m y0 y1 y2 y3 y4 y5 y6 y7 l8) ?_
  rcases (by omega : nn = 1 ∨ nn = 2 ∨ nn = 3 ∨ nn = 4 ∨ nn = 5 ∨ nn = 6 ∨ nn = 7 ∨ nn = 8) with q | q | q | q | q | q | q | q
  · subst q
    obtain rfl : l8 = (1 : Int32) := own_ieq.mpr (hl.trans rfl)
    refine Go.iload C X0 (pc' := 2) d2_0 rfl rfl ?_
    refine Go.ifYes C X0 (pc' := 16) d2_2 ((if0 _ _).trans (feq (by decide)).2) (by decide) (by decide) ?_
    refine Go.iload C X0 (pc' := 18) d2_16 rfl rfl ?_
    refine Go.iconst C X0 (pc' := 19) (v := (1 : Int32)) d2_18 rfl rfl ?_
    refine Go.icmpNo C X0 (pc' := 22) d2_19 (teq (by decide)).2 rfl ?_
    refine Go.newO C X0 (pc' := 25) (hw _ (List.mem_of_getElem? (i := 8) rfl)) (hw _ (List.mem_of_getElem? (i := 9) rfl)) (hw _ (List.mem_of_getElem? (i := 10) rfl)) d2_22 (by decide) (by decide) rfl (fun T138 h138 b138 X138 g138 E138 Ex138 D138 N138 => ?_)
    have Q138 : h0.size ≤ b138 := Nat.le_trans (Keep.refl h0 []).1 (Nat.le_of_eq g138.symm)
    have K139 : Keep h0 h138 [] := (Keep.refl h0 []).ext E138
    have O140 : Old Z n0 h138 := f0.ext E138
    have F141 : Fld Z h138 b138 "java/lang/String" "coder" "B" (.int (0 : Int32)) := D138 (Or.inr (hw _ (List.mem_of_getElem? (i := 35) rfl))) (ty := .byte) (by decide)
    have F142 : Fld Z h138 b138 "java/lang/String" "value" "[B" .null := D138 (Or.inr (hw _ (List.mem_of_getElem? (i := 37) rfl))) (ty := (.array .byte)) (by decide)
    refine Go.dup C X138 (pc' := 26) d2_25 rfl rfl ?_
    refine Go.iconst C X138 (pc' := 27) (v := (1 : Int32)) d2_26 rfl rfl ?_
    refine Go.newP C X138 (pc' := 29) (nn := 1) (cap := 1) (hw _ (List.mem_of_getElem? (i := 11) rfl)) d2_27 rfl (by decide) (by decide) (by decide) (by decide) rfl (fun T143 h143 b143 k143 X143 g143 E143 Ar143 N143 => ?_)
    have ne_b138_b143 : b138 ≠ b143 := Nat.ne_of_lt (Nat.lt_of_lt_of_eq Ex138.lt g143.symm)
    have Q143 : h0.size ≤ b143 := Nat.le_trans K139.1 (Nat.le_of_eq g143.symm)
    have K144 : Keep h0 h143 [] := K139.ext E143
    have O145 : Old Z n0 h143 := O140.ext E143
    have E146 := Ex138.ext E143
    have F147 := F141.ext E143
    have F148 := F142.ext E143
    have A143 : AI Z h143 b143 .char 1 (fun _ => 0) := AI.new rfl rfl Ar143
    refine Go.dup C X143 (pc' := 30) d2_29 rfl rfl ?_
    refine Go.iconst C X143 (pc' := 31) (v := (0 : Int32)) d2_30 rfl rfl ?_
    refine Go.iloadN C X143 (pc' := 32) d2_31 rfl rfl ?_
    refine Go.castore C X143 (pc' := 33) (i := 0) (x' := y0) A143 rfl (by decide) (own_nc k0) N143 d2_32 rfl (fun T149 h149 X149 W149 A149 => ?_)
    have K150 : Keep h0 h149 [] := K144.wr W149 (Or.inr Q143)
    have O151 : Old Z n0 h149 := O145.wr W149 N143
    have E152 := E146.wr W149
    have F153 := F147.other W149 (Or.inl ne_b138_b143)
    have F154 := F148.other W149 (Or.inl ne_b138_b143)
    refine Go.callI C X149 (pc' := 36) (W := 1) (argsL := [(.ref b143)]) (rest := [(.ref b138)]) (a := b138) (rm_sc l Z a0 hw b138 b143 1 (fun q => if q = 0 then y0 else (fun _ => 0) q) (1 : Int32) cs h149 n0 X149.sz O151 f1 E152 F154 F153 N138 A149 ne_b138_b143 hcs rfl (by decide) (by decide) (own_upd (R := fun z => ¬ (255 : Int32) < z) (fun _ => by decide) (own_n255 k0))) rfl rfl (hw _ (List.mem_of_getElem? (i := 12) rfl)) (hw _ (List.mem_of_getElem? (i := 13) rfl)) (hw _ (List.mem_of_getElem? (i := 10) rfl)) (hw _ (List.mem_of_getElem? (i := 14) rfl)) (by decide) rfl rfl (lenOf own_pd12 rfl) rfl (Nat.le_of_eq rfl) (by decide) (by decide) (by decide) (by decide) d2_33 rfl (fun _ _ q => by obtain ⟨_, _, _, _, K, _⟩ := q; exact K.1) (fun T155 h155 v155 X155 P155 => ?_)
    obtain ⟨t155, f1155, rfl, D155_t, K155, O155_0, O155_1, O155_2, O155_3, O155_4, Y155_0⟩ := P155
    have ne_b138_t155 : b138 ≠ t155 := Nat.ne_of_lt (Nat.lt_of_lt_of_le E152.lt D155_t)
    have ne_b143_t155 : b143 ≠ t155 := Nat.ne_of_lt (Nat.lt_of_lt_of_le A149.lt D155_t)
    have N_t155 : n0 ≤ t155 := Nat.le_trans X149.sz D155_t
    have Q_t155 : h0.size ≤ t155 := Nat.le_trans K150.1 D155_t
    have K156 : Keep h0 h155 [] := K150.trans K155 (allS (Or.inr Q138) all0)
    have O157 : Old Z n0 h155 := O151.keep K155 (allS N138 all0)
    have E158 := E152.keep K155
    have A159 := A149.keep K155 (ninS (Ne.symm ne_b138_b143) nin0)
    show Go p e below _ n0 _ _ _ T155 (mkF m 36 #[.val (.int y0), .val (.int y1), .val (.int y2), .val (.int y3), .val (.int y4), .val (.int y5), .val (.int y6), .val (.int y7), .val (.int (1 : Int32))] [(.ref b138)])
    exact Go.retA C X155 rfl d2_36 ⟨b138, t155, f1155, rfl, Q138, K156, O155_0, O155_1, O155_2, O155_3, O155_4, Y155_0⟩ (by decide) (by decide)
  · subst q
    obtain rfl : l8 = (2 : Int32) := own_ieq.mpr (hl.trans rfl)
    refine Go.iload C X0 (pc' := 2) d2_0 rfl rfl ?_
    refine Go.ifYes C X0 (pc' := 16) d2_2 ((if0 _ _).trans (feq (by decide)).2) (by decide) (by decide) ?_
    refine Go.iload C X0 (pc' := 18) d2_16 rfl rfl ?_
    refine Go.iconst C X0 (pc' := 19) (v := (1 : Int32)) d2_18 rfl rfl ?_
    refine Go.icmpYes C X0 (pc' := 37) d2_19 (feq (by decide)).2 (by decide) (by decide) ?_
    refine Go.iload C X0 (pc' := 39) d2_37 rfl rfl ?_
    refine Go.iconst C X0 (pc' := 40) (v := (2 : Int32)) d2_39 rfl rfl ?_
    refine Go.icmpNo C X0 (pc' := 43) d2_40 (teq (by decide)).2 rfl ?_
    refine Go.newO C X0 (pc' := 46) (hw _ (List.mem_of_getElem? (i := 8) rfl)) (hw _ (List.mem_of_getElem? (i := 9) rfl)) (hw _ (List.mem_of_getElem? (i := 10) rfl)) d2_43 (by decide) (by decide) rfl (fun T160 h160 b160 X160 g160 E160 Ex160 D160 N160 => ?_)
    have Q160 : h0.size ≤ b160 := Nat.le_trans (Keep.refl h0 []).1 (Nat.le_of_eq g160.symm)
    have K161 : Keep h0 h160 [] := (Keep.refl h0 []).ext E160
    have O162 : Old Z n0 h160 := f0.ext E160
    have F163 : Fld Z h160 b160 "java/lang/String" "coder" "B" (.int (0 : Int32)) := D160 (Or.inr (hw _ (List.mem_of_getElem? (i := 35) rfl))) (ty := .byte) (by decide)
    have F164 : Fld Z h160 b160 "java/lang/String" "value" "[B" .null := D160 (Or.inr (hw _ (List.mem_of_getElem? (i := 37) rfl))) (ty := (.array .byte)) (by decide)
    refine Go.dup C X160 (pc' := 47) d2_46 rfl rfl ?_
    refine Go.iconst C X160 (pc' := 48) (v := (2 : Int32)) d2_47 rfl rfl ?_
    refine Go.newP C X160 (pc' := 50) (nn := 2) (cap := 2) (hw _ (List.mem_of_getElem? (i := 11) rfl)) d2_48 rfl (by decide) (by decide) (by decide) (by decide) rfl (fun T165 h165 b165 k165 X165 g165 E165 Ar165 N165 => ?_)
    have ne_b160_b165 : b160 ≠ b165 := Nat.ne_of_lt (Nat.lt_of_lt_of_eq Ex160.lt g165.symm)
    have Q165 : h0.size ≤ b165 := Nat.le_trans K161.1 (Nat.le_of_eq g165.symm)
    have K166 : Keep h0 h165 [] := K161.ext E165
    have O167 : Old Z n0 h165 := O162.ext E165
    have E168 := Ex160.ext E165
    have F169 := F163.ext E165
    have F170 := F164.ext E165
    have A165 : AI Z h165 b165 .char 2 (fun _ => 0) := AI.new rfl rfl Ar165
    refine Go.dup C X165 (pc' := 51) d2_50 rfl rfl ?_
    refine Go.iconst C X165 (pc' := 52) (v := (0 : Int32)) d2_51 rfl rfl ?_
    refine Go.iloadN C X165 (pc' := 53) d2_52 rfl rfl ?_
    refine Go.castore C X165 (pc' := 54) (i := 0) (x' := y0) A165 rfl (by decide) (own_nc k0) N165 d2_53 rfl (fun T171 h171 X171 W171 A171 => ?_)
    have K172 : Keep h0 h171 [] := K166.wr W171 (Or.inr Q165)
    have O173 : Old Z n0 h171 := O167.wr W171 N165
    have E174 := E168.wr W171
    have F175 := F169.other W171 (Or.inl ne_b160_b165)
    have F176 := F170.other W171 (Or.inl ne_b160_b165)
    refine Go.dup C X171 (pc' := 55) d2_54 rfl rfl ?_
    refine Go.iconst C X171 (pc' := 56) (v := (1 : Int32)) d2_55 rfl rfl ?_
    refine Go.iloadN C X171 (pc' := 57) d2_56 rfl rfl ?_
    refine Go.castore C X171 (pc' := 58) (i := 1) (x' := y1) A171 rfl (by decide) (own_nc k1) N165 d2_57 rfl (fun T177 h177 X177 W177 A177 => ?_)
    have K178 : Keep h0 h177 [] := K172.wr W177 (Or.inr Q165)
    have O179 : Old Z n0 h177 := O173.wr W177 N165
    have E180 := E174.wr W177
    have F181 := F175.other W177 (Or.inl ne_b160_b165)
    have F182 := F176.other W177 (Or.inl ne_b160_b165)
    refine Go.callI C X177 (pc' := 61) (W := 1) (argsL := [(.ref b165)]) (rest := [(.ref b160)]) (a := b160) (rm_sc l Z a0 hw b160 b165 2 (fun q => if q = 1 then y1 else (fun q => if q = 0 then y0 else (fun _ => 0) q) q) (2 : Int32) cs h177 n0 X177.sz O179 f1 E180 F182 F181 N160 A177 ne_b160_b165 hcs rfl (by decide) (by decide) (own_upd (R := fun z => ¬ (255 : Int32) < z) (own_upd (R := fun z => ¬ (255 : Int32) < z) (fun _ => by decide) (own_n255 k0)) (own_n255 k1))) rfl rfl (hw _ (List.mem_of_getElem? (i := 12) rfl)) (hw _ (List.mem_of_getElem? (i := 13) rfl)) (hw _ (List.mem_of_getElem? (i := 10) rfl)) (hw _ (List.mem_of_getElem? (i := 14) rfl)) (by decide) rfl rfl (lenOf own_pd12 rfl) rfl (Nat.le_of_eq rfl) (by decide) (by decide) (by decide) (by decide) d2_58 rfl (fun _ _ q => by obtain ⟨_, _, _, _, K, _⟩ := q; exact K.1) (fun T183 h183 v183 X183 P183 => ?_)
    obtain ⟨t183, f1183, rfl, D183_t, K183, O183_0, O183_1, O183_2, O183_3, O183_4, Y183_0⟩ := P183
    have ne_b160_t183 : b160 ≠ t183 := Nat.ne_of_lt (Nat.lt_of_lt_of_le E180.lt D183_t)
    have ne_b165_t183 : b165 ≠ t183 := Nat.ne_of_lt (Nat.lt_of_lt_of_le A177.lt D183_t)
    have N_t183 : n0 ≤ t183 := Nat.le_trans X177.sz D183_t
    have Q_t183 : h0.size ≤ t183 := Nat.le_trans K178.1 D183_t
    have K184 : Keep h0 h183 [] := K178.trans K183 (allS (Or.inr Q160) all0)
    have O185 : Old Z n0 h183 := O179.keep K183 (allS N160 all0)
    have E186 := E180.keep K183
    have A187 := A177.keep K183 (ninS (Ne.symm ne_b160_b165) nin0)
    show Go p e below _ n0 _ _ _ T183 (mkF m 61 #[.val (.int y0), .val (.int y1), .val (.int y2), .val (.int y3), .val (.int y4), .val (.int y5), .val (.int y6), .val (.int y7), .val (.int (2 : Int32))] [(.ref b160)])
    exact Go.retA C X183 rfl d2_61 ⟨b160, t183, f1183, rfl, Q160, K184, O183_0, O183_1, O183_2, O183_3, O183_4, Y183_0⟩ (by decide) (by decide)
  · subst q
    obtain rfl : l8 = (3 : Int32) := own_ieq.mpr (hl.trans rfl)
    refine Go.iload C X0 (pc' := 2) d2_0 rfl rfl ?_
    refine Go.ifYes C X0 (pc' := 16) d2_2 ((if0 _ _).trans (feq (by decide)).2) (by decide) (by decide) ?_
    refine Go.iload C X0 (pc' := 18) d2_16 rfl rfl ?_
    refine Go.iconst C X0 (pc' := 19) (v := (1 : Int32)) d2_18 rfl rfl ?_
    refine Go.icmpYes C X0 (pc' := 37) d2_19 (feq (by decide)).2 (by decide) (by decide) ?_
    refine Go.iload C X0 (pc' := 39) d2_37 rfl rfl ?_
    refine Go.iconst C X0 (pc' := 40) (v := (2 : Int32)) d2_39 rfl rfl ?_
    refine Go.icmpYes C X0 (pc' := 62) d2_40 (feq (by decide)).2 (by decide) (by decide) ?_
    refine Go.iload C X0 (pc' := 64) d2_62 rfl rfl ?_
    refine Go.iconst C X0 (pc' := 65) (v := (3 : Int32)) d2_64 rfl rfl ?_
    refine Go.icmpNo C X0 (pc' := 68) d2_65 (teq (by decide)).2 rfl ?_
    refine Go.newO C X0 (pc' := 71) (hw _ (List.mem_of_getElem? (i := 8) rfl)) (hw _ (List.mem_of_getElem? (i := 9) rfl)) (hw _ (List.mem_of_getElem? (i := 10) rfl)) d2_68 (by decide) (by decide) rfl (fun T188 h188 b188 X188 g188 E188 Ex188 D188 N188 => ?_)
    have Q188 : h0.size ≤ b188 := Nat.le_trans (Keep.refl h0 []).1 (Nat.le_of_eq g188.symm)
    have K189 : Keep h0 h188 [] := (Keep.refl h0 []).ext E188
    have O190 : Old Z n0 h188 := f0.ext E188
    have F191 : Fld Z h188 b188 "java/lang/String" "coder" "B" (.int (0 : Int32)) := D188 (Or.inr (hw _ (List.mem_of_getElem? (i := 35) rfl))) (ty := .byte) (by decide)
    have F192 : Fld Z h188 b188 "java/lang/String" "value" "[B" .null := D188 (Or.inr (hw _ (List.mem_of_getElem? (i := 37) rfl))) (ty := (.array .byte)) (by decide)
    refine Go.dup C X188 (pc' := 72) d2_71 rfl rfl ?_
    refine Go.iconst C X188 (pc' := 73) (v := (3 : Int32)) d2_72 rfl rfl ?_
    refine Go.newP C X188 (pc' := 75) (nn := 3) (cap := 3) (hw _ (List.mem_of_getElem? (i := 11) rfl)) d2_73 rfl (by decide) (by decide) (by decide) (by decide) rfl (fun T193 h193 b193 k193 X193 g193 E193 Ar193 N193 => ?_)
    have ne_b188_b193 : b188 ≠ b193 := Nat.ne_of_lt (Nat.lt_of_lt_of_eq Ex188.lt g193.symm)
    have Q193 : h0.size ≤ b193 := Nat.le_trans K189.1 (Nat.le_of_eq g193.symm)
    have K194 : Keep h0 h193 [] := K189.ext E193
    have O195 : Old Z n0 h193 := O190.ext E193
    have E196 := Ex188.ext E193
    have F197 := F191.ext E193
    have F198 := F192.ext E193
    have A193 : AI Z h193 b193 .char 3 (fun _ => 0) := AI.new rfl rfl Ar193
    refine Go.dup C X193 (pc' := 76) d2_75 rfl rfl ?_
    refine Go.iconst C X193 (pc' := 77) (v := (0 : Int32)) d2_76 rfl rfl ?_
    refine Go.iloadN C X193 (pc' := 78) d2_77 rfl rfl ?_
    refine Go.castore C X193 (pc' := 79) (i := 0) (x' := y0) A193 rfl (by decide) (own_nc k0) N193 d2_78 rfl (fun T199 h199 X199 W199 A199 => ?_)
    have K200 : Keep h0 h199 [] := K194.wr W199 (Or.inr Q193)
    have O201 : Old Z n0 h199 := O195.wr W199 N193
    have E202 := E196.wr W199
    have F203 := F197.other W199 (Or.inl ne_b188_b193)
    have F204 := F198.other W199 (Or.inl ne_b188_b193)
    refine Go.dup C X199 (pc' := 80) d2_79 rfl rfl ?_
    refine Go.iconst C X199 (pc' := 81) (v := (1 : Int32)) d2_80 rfl rfl ?_
    refine Go.iloadN C X199 (pc' := 82) d2_81 rfl rfl ?_
    refine Go.castore C X199 (pc' := 83) (i := 1) (x' := y1) A199 rfl (by decide) (own_nc k1) N193 d2_82 rfl (fun T205 h205 X205 W205 A205 => ?_)
    have K206 : Keep h0 h205 [] := K200.wr W205 (Or.inr Q193)
    have O207 : Old Z n0 h205 := O201.wr W205 N193
    have E208 := E202.wr W205
    have F209 := F203.other W205 (Or.inl ne_b188_b193)
    have F210 := F204.other W205 (Or.inl ne_b188_b193)
    refine Go.dup C X205 (pc' := 84) d2_83 rfl rfl ?_
    refine Go.iconst C X205 (pc' := 85) (v := (2 : Int32)) d2_84 rfl rfl ?_
    refine Go.iloadN C X205 (pc' := 86) d2_85 rfl rfl ?_
    refine Go.castore C X205 (pc' := 87) (i := 2) (x' := y2) A205 rfl (by decide) (own_nc k2) N193 d2_86 rfl (fun T211 h211 X211 W211 A211 => ?_)
    have K212 : Keep h0 h211 [] := K206.wr W211 (Or.inr Q193)
    have O213 : Old Z n0 h211 := O207.wr W211 N193
    have E214 := E208.wr W211
    have F215 := F209.other W211 (Or.inl ne_b188_b193)
    have F216 := F210.other W211 (Or.inl ne_b188_b193)
    refine Go.callI C X211 (pc' := 90) (W := 1) (argsL := [(.ref b193)]) (rest := [(.ref b188)]) (a := b188) (rm_sc l Z a0 hw b188 b193 3 (fun q => if q = 2 then y2 else (fun q => if q = 1 then y1 else (fun q => if q = 0 then y0 else (fun _ => 0) q) q) q) (3 : Int32) cs h211 n0 X211.sz O213 f1 E214 F216 F215 N188 A211 ne_b188_b193 hcs rfl (by decide) (by decide) (own_upd (R := fun z => ¬ (255 : Int32) < z) (own_upd (R := fun z => ¬ (255 : Int32) < z) (own_upd (R := fun z => ¬ (255 : Int32) < z) (fun _ => by decide) (own_n255 k0)) (own_n255 k1)) (own_n255 k2))) rfl rfl (hw _ (List.mem_of_getElem? (i := 12) rfl)) (hw _ (List.mem_of_getElem? (i := 13) rfl)) (hw _ (List.mem_of_getElem? (i := 10) rfl)) (hw _ (List.mem_of_getElem? (i := 14) rfl)) (by decide) rfl rfl (lenOf own_pd12 rfl) rfl (Nat.le_of_eq rfl) (by decide) (by decide) (by decide) (by decide) d2_87 rfl (fun _ _ q => by obtain ⟨_, _, _, _, K, _⟩ := q; exact K.1) (fun T217 h217 v217 X217 P217 => ?_)
    obtain ⟨t217, f1217, rfl, D217_t, K217, O217_0, O217_1, O217_2, O217_3, O217_4, Y217_0⟩ := P217
    have ne_b188_t217 : b188 ≠ t217 := Nat.ne_of_lt (Nat.lt_of_lt_of_le E214.lt D217_t)
    have ne_b193_t217 : b193 ≠ t217 := Nat.ne_of_lt (Nat.lt_of_lt_of_le A211.lt D217_t)
    have N_t217 : n0 ≤ t217 := Nat.le_trans X211.sz D217_t
    have Q_t217 : h0.size ≤ t217 := Nat.le_trans K212.1 D217_t
    have K218 : Keep h0 h217 [] := K212.trans K217 (allS (Or.inr Q188) all0)
    have O219 : Old Z n0 h217 := O213.keep K217 (allS N188 all0)
    have E220 := E214.keep K217
    have A221 := A211.keep K217 (ninS (Ne.symm ne_b188_b193) nin0)
    show Go p e below _ n0 _ _ _ T217 (mkF m 90 #[.val (.int y0), .val (.int y1), .val (.int y2), .val (.int y3), .val (.int y4), .val (.int y5), .val (.int y6), .val (.int y7), .val (.int (3 : Int32))] [(.ref b188)])
    exact Go.retA C X217 rfl d2_90 ⟨b188, t217, f1217, rfl, Q188, K218, O217_0, O217_1, O217_2, O217_3, O217_4, Y217_0⟩ (by decide) (by decide)
  · subst q
    obtain rfl : l8 = (4 : Int32) := own_ieq.mpr (hl.trans rfl)
    refine Go.iload C X0 (pc' := 2) d2_0 rfl rfl ?_
    refine Go.ifYes C X0 (pc' := 16) d2_2 ((if0 _ _).trans (feq (by decide)).2) (by decide) (by decide) ?_
    refine Go.iload C X0 (pc' := 18) d2_16 rfl rfl ?_
    refine Go.iconst C X0 (pc' := 19) (v := (1 : Int32)) d2_18 rfl rfl ?_
    refine Go.icmpYes C X0 (pc' := 37) d2_19 (feq (by decide)).2 (by decide) (by decide) ?_
    refine Go.iload C X0 (pc' := 39) d2_37 rfl rfl ?_
    refine Go.iconst C X0 (pc' := 40) (v := (2 : Int32)) d2_39 rfl rfl ?_
    refine Go.icmpYes C X0 (pc' := 62) d2_40 (feq (by decide)).2 (by decide) (by decide) ?_
    refine Go.iload C X0 (pc' := 64) d2_62 rfl rfl ?_
    refine Go.iconst C X0 (pc' := 65) (v := (3 : Int32)) d2_64 rfl rfl ?_
    refine Go.icmpYes C X0 (pc' := 91) d2_65 (feq (by decide)).2 (by decide) (by decide) ?_
    refine Go.iload C X0 (pc' := 93) d2_91 rfl rfl ?_
    refine Go.iconst C X0 (pc' := 94) (v := (4 : Int32)) d2_93 rfl rfl ?_
    refine Go.icmpNo C X0 (pc' := 97) d2_94 (teq (by decide)).2 rfl ?_
    refine Go.newO C X0 (pc' := 100) (hw _ (List.mem_of_getElem? (i := 8) rfl)) (hw _ (List.mem_of_getElem? (i := 9) rfl)) (hw _ (List.mem_of_getElem? (i := 10) rfl)) d2_97 (by decide) (by decide) rfl (fun T222 h222 b222 X222 g222 E222 Ex222 D222 N222 => ?_)
    have Q222 : h0.size ≤ b222 := Nat.le_trans (Keep.refl h0 []).1 (Nat.le_of_eq g222.symm)
    have K223 : Keep h0 h222 [] := (Keep.refl h0 []).ext E222
    have O224 : Old Z n0 h222 := f0.ext E222
    have F225 : Fld Z h222 b222 "java/lang/String" "coder" "B" (.int (0 : Int32)) := D222 (Or.inr (hw _ (List.mem_of_getElem? (i := 35) rfl))) (ty := .byte) (by decide)
    have F226 : Fld Z h222 b222 "java/lang/String" "value" "[B" .null := D222 (Or.inr (hw _ (List.mem_of_getElem? (i := 37) rfl))) (ty := (.array .byte)) (by decide)
    refine Go.dup C X222 (pc' := 101) d2_100 rfl rfl ?_
    refine Go.iconst C X222 (pc' := 102) (v := (4 : Int32)) d2_101 rfl rfl ?_
    refine Go.newP C X222 (pc' := 104) (nn := 4) (cap := 4) (hw _ (List.mem_of_getElem? (i := 11) rfl)) d2_102 rfl (by decide) (by decide) (by decide) (by decide) rfl (fun T227 h227 b227 k227 X227 g227 E227 Ar227 N227 => ?_)
    have ne_b222_b227 : b222 ≠ b227 := Nat.ne_of_lt (Nat.lt_of_lt_of_eq Ex222.lt g227.symm)
    have Q227 : h0.size ≤ b227 := Nat.le_trans K223.1 (Nat.le_of_eq g227.symm)
    have K228 : Keep h0 h227 [] := K223.ext E227
    have O229 : Old Z n0 h227 := O224.ext E227
    have E230 := Ex222.ext E227
    have F231 := F225.ext E227
    have F232 := F226.ext E227
    have A227 : AI Z h227 b227 .char 4 (fun _ => 0) := AI.new rfl rfl Ar227
    refine Go.dup C X227 (pc' := 105) d2_104 rfl rfl ?_
    refine Go.iconst C X227 (pc' := 106) (v := (0 : Int32)) d2_105 rfl rfl ?_
    refine Go.iloadN C X227 (pc' := 107) d2_106 rfl rfl ?_
    refine Go.castore C X227 (pc' := 108) (i := 0) (x' := y0) A227 rfl (by decide) (own_nc k0) N227 d2_107 rfl (fun T233 h233 X233 W233 A233 => ?_)
    have K234 : Keep h0 h233 [] := K228.wr W233 (Or.inr Q227)
    have O235 : Old Z n0 h233 := O229.wr W233 N227
    have E236 := E230.wr W233
    have F237 := F231.other W233 (Or.inl ne_b222_b227)
    have F238 := F232.other W233 (Or.inl ne_b222_b227)
    refine Go.dup C X233 (pc' := 109) d2_108 rfl rfl ?_
    refine Go.iconst C X233 (pc' := 110) (v := (1 : Int32)) d2_109 rfl rfl ?_
    refine Go.iloadN C X233 (pc' := 111) d2_110 rfl rfl ?_
    refine Go.castore C X233 (pc' := 112) (i := 1) (x' := y1) A233 rfl (by decide) (own_nc k1) N227 d2_111 rfl (fun T239 h239 X239 W239 A239 => ?_)
    have K240 : Keep h0 h239 [] := K234.wr W239 (Or.inr Q227)
    have O241 : Old Z n0 h239 := O235.wr W239 N227
    have E242 := E236.wr W239
    have F243 := F237.other W239 (Or.inl ne_b222_b227)
    have F244 := F238.other W239 (Or.inl ne_b222_b227)
    refine Go.dup C X239 (pc' := 113) d2_112 rfl rfl ?_
    refine Go.iconst C X239 (pc' := 114) (v := (2 : Int32)) d2_113 rfl rfl ?_
    refine Go.iloadN C X239 (pc' := 115) d2_114 rfl rfl ?_
    refine Go.castore C X239 (pc' := 116) (i := 2) (x' := y2) A239 rfl (by decide) (own_nc k2) N227 d2_115 rfl (fun T245 h245 X245 W245 A245 => ?_)
    have K246 : Keep h0 h245 [] := K240.wr W245 (Or.inr Q227)
    have O247 : Old Z n0 h245 := O241.wr W245 N227
    have E248 := E242.wr W245
    have F249 := F243.other W245 (Or.inl ne_b222_b227)
    have F250 := F244.other W245 (Or.inl ne_b222_b227)
    refine Go.dup C X245 (pc' := 117) d2_116 rfl rfl ?_
    refine Go.iconst C X245 (pc' := 118) (v := (3 : Int32)) d2_117 rfl rfl ?_
    refine Go.iloadN C X245 (pc' := 119) d2_118 rfl rfl ?_
    refine Go.castore C X245 (pc' := 120) (i := 3) (x' := y3) A245 rfl (by decide) (own_nc k3) N227 d2_119 rfl (fun T251 h251 X251 W251 A251 => ?_)
    have K252 : Keep h0 h251 [] := K246.wr W251 (Or.inr Q227)
    have O253 : Old Z n0 h251 := O247.wr W251 N227
    have E254 := E248.wr W251
    have F255 := F249.other W251 (Or.inl ne_b222_b227)
    have F256 := F250.other W251 (Or.inl ne_b222_b227)
    refine Go.callI C X251 (pc' := 123) (W := 1) (argsL := [(.ref b227)]) (rest := [(.ref b222)]) (a := b222) (rm_sc l Z a0 hw b222 b227 4 (fun q => if q = 3 then y3 else (fun q => if q = 2 then y2 else (fun q => if q = 1 then y1 else (fun q => if q = 0 then y0 else (fun _ => 0) q) q) q) q) (4 : Int32) cs h251 n0 X251.sz O253 f1 E254 F256 F255 N222 A251 ne_b222_b227 hcs rfl (by decide) (by decide) (own_upd (R := fun z => ¬ (255 : Int32) < z) (own_upd (R := fun z => ¬ (255 : Int32) < z) (own_upd (R := fun z => ¬ (255 : Int32) < z) (own_upd (R := fun z => ¬ (255 : Int32) < z) (fun _ => by decide) (own_n255 k0)) (own_n255 k1)) (own_n255 k2)) (own_n255 k3))) rfl rfl (hw _ (List.mem_of_getElem? (i := 12) rfl)) (hw _ (List.mem_of_getElem? (i := 13) rfl)) (hw _ (List.mem_of_getElem? (i := 10) rfl)) (hw _ (List.mem_of_getElem? (i := 14) rfl)) (by decide) rfl rfl (lenOf own_pd12 rfl) rfl (Nat.le_of_eq rfl) (by decide) (by decide) (by decide) (by decide) d2_120 rfl (fun _ _ q => by obtain ⟨_, _, _, _, K, _⟩ := q; exact K.1) (fun T257 h257 v257 X257 P257 => ?_)
    obtain ⟨t257, f1257, rfl, D257_t, K257, O257_0, O257_1, O257_2, O257_3, O257_4, Y257_0⟩ := P257
    have ne_b222_t257 : b222 ≠ t257 := Nat.ne_of_lt (Nat.lt_of_lt_of_le E254.lt D257_t)
    have ne_b227_t257 : b227 ≠ t257 := Nat.ne_of_lt (Nat.lt_of_lt_of_le A251.lt D257_t)
    have N_t257 : n0 ≤ t257 := Nat.le_trans X251.sz D257_t
    have Q_t257 : h0.size ≤ t257 := Nat.le_trans K252.1 D257_t
    have K258 : Keep h0 h257 [] := K252.trans K257 (allS (Or.inr Q222) all0)
    have O259 : Old Z n0 h257 := O253.keep K257 (allS N222 all0)
    have E260 := E254.keep K257
    have A261 := A251.keep K257 (ninS (Ne.symm ne_b222_b227) nin0)
    show Go p e below _ n0 _ _ _ T257 (mkF m 123 #[.val (.int y0), .val (.int y1), .val (.int y2), .val (.int y3), .val (.int y4), .val (.int y5), .val (.int y6), .val (.int y7), .val (.int (4 : Int32))] [(.ref b222)])
    exact Go.retA C X257 rfl d2_123 ⟨b222, t257, f1257, rfl, Q222, K258, O257_0, O257_1, O257_2, O257_3, O257_4, Y257_0⟩ (by decide) (by decide)
  · subst q
    obtain rfl : l8 = (5 : Int32) := own_ieq.mpr (hl.trans rfl)
    refine Go.iload C X0 (pc' := 2) d2_0 rfl rfl ?_
    refine Go.ifYes C X0 (pc' := 16) d2_2 ((if0 _ _).trans (feq (by decide)).2) (by decide) (by decide) ?_
    refine Go.iload C X0 (pc' := 18) d2_16 rfl rfl ?_
    refine Go.iconst C X0 (pc' := 19) (v := (1 : Int32)) d2_18 rfl rfl ?_
    refine Go.icmpYes C X0 (pc' := 37) d2_19 (feq (by decide)).2 (by decide) (by decide) ?_
    refine Go.iload C X0 (pc' := 39) d2_37 rfl rfl ?_
    refine Go.iconst C X0 (pc' := 40) (v := (2 : Int32)) d2_39 rfl rfl ?_
    refine Go.icmpYes C X0 (pc' := 62) d2_40 (feq (by decide)).2 (by decide) (by decide) ?_
    refine Go.iload C X0 (pc' := 64) d2_62 rfl rfl ?_
    refine Go.iconst C X0 (pc' := 65) (v := (3 : Int32)) d2_64 rfl rfl ?_
    refine Go.icmpYes C X0 (pc' := 91) d2_65 (feq (by decide)).2 (by decide) (by decide) ?_
    refine Go.iload C X0 (pc' := 93) d2_91 rfl rfl ?_
    refine Go.iconst C X0 (pc' := 94) (v := (4 : Int32)) d2_93 rfl rfl ?_
    refine Go.icmpYes C X0 (pc' := 124) d2_94 (feq (by decide)).2 (by decide) (by decide) ?_
    refine Go.iload C X0 (pc' := 126) d2_124 rfl rfl ?_
    refine Go.iconst C X0 (pc' := 127) (v := (5 : Int32)) d2_126 rfl rfl ?_
    refine Go.icmpNo C X0 (pc' := 130) d2_127 (teq (by decide)).2 rfl ?_
    refine Go.newO C X0 (pc' := 133) (hw _ (List.mem_of_getElem? (i := 8) rfl)) (hw _ (List.mem_of_getElem? (i := 9) rfl)) (hw _ (List.mem_of_getElem? (i := 10) rfl)) d2_130 (by decide) (by decide) rfl (fun T262 h262 b262 X262 g262 E262 Ex262 D262 N262 => ?_)
    have Q262 : h0.size ≤ b262 := Nat.le_trans (Keep.refl h0 []).1 (Nat.le_of_eq g262.symm)
    have K263 : Keep h0 h262 [] := (Keep.refl h0 []).ext E262
    have O264 : Old Z n0 h262 := f0.ext E262
    have F265 : Fld Z h262 b262 "java/lang/String" "coder" "B" (.int (0 : Int32)) := D262 (Or.inr (hw _ (List.mem_of_getElem? (i := 35) rfl))) (ty := .byte) (by decide)
    have F266 : Fld Z h262 b262 "java/lang/String" "value" "[B" .null := D262 (Or.inr (hw _ (List.mem_of_getElem? (i := 37) rfl))) (ty := (.array .byte)) (by decide)
    refine Go.dup C X262 (pc' := 134) d2_133 rfl rfl ?_
    refine Go.iconst C X262 (pc' := 135) (v := (5 : Int32)) d2_134 rfl rfl ?_
    refine Go.newP C X262 (pc' := 137) (nn := 5) (cap := 5) (hw _ (List.mem_of_getElem? (i := 11) rfl)) d2_135 rfl (by decide) (by decide) (by decide) (by decide) rfl (fun T267 h267 b267 k267 X267 g267 E267 Ar267 N267 => ?_)
    have ne_b262_b267 : b262 ≠ b267 := Nat.ne_of_lt (Nat.lt_of_lt_of_eq Ex262.lt g267.symm)
    have Q267 : h0.size ≤ b267 := Nat.le_trans K263.1 (Nat.le_of_eq g267.symm)
    have K268 : Keep h0 h267 [] := K263.ext E267
    have O269 : Old Z n0 h267 := O264.ext E267
    have E270 := Ex262.ext E267
    have F271 := F265.ext E267
    have F272 := F266.ext E267
    have A267 : AI Z h267 b267 .char 5 (fun _ => 0) := AI.new rfl rfl Ar267
    refine Go.dup C X267 (pc' := 138) d2_137 rfl rfl ?_
    refine Go.iconst C X267 (pc' := 139) (v := (0 : Int32)) d2_138 rfl rfl ?_
    refine Go.iloadN C X267 (pc' := 140) d2_139 rfl rfl ?_
    refine Go.castore C X267 (pc' := 141) (i := 0) (x' := y0) A267 rfl (by decide) (own_nc k0) N267 d2_140 rfl (fun T273 h273 X273 W273 A273 => ?_)
    have K274 : Keep h0 h273 [] := K268.wr W273 (Or.inr Q267)
    have O275 : Old Z n0 h273 := O269.wr W273 N267
    have E276 := E270.wr W273
    have F277 := F271.other W273 (Or.inl ne_b262_b267)
    have F278 := F272.other W273 (Or.inl ne_b262_b267)
    refine Go.dup C X273 (pc' := 142) d2_141 rfl rfl ?_
    refine Go.iconst C X273 (pc' := 143) (v := (1 : Int32)) d2_142 rfl rfl ?_
    refine Go.iloadN C X273 (pc' := 144) d2_143 rfl rfl ?_
    refine Go.castore C X273 (pc' := 145) (i := 1) (x' := y1) A273 rfl (by decide) (own_nc k1) N267 d2_144 rfl (fun T279 h279 X279 W279 A279 => ?_)
    have K280 : Keep h0 h279 [] := K274.wr W279 (Or.inr Q267)
    have O281 : Old Z n0 h279 := O275.wr W279 N267
    have E282 := E276.wr W279
    have F283 := F277.other W279 (Or.inl ne_b262_b267)
    have F284 := F278.other W279 (Or.inl ne_b262_b267)
    refine Go.dup C X279 (pc' := 146) d2_145 rfl rfl ?_
    refine Go.iconst C X279 (pc' := 147) (v := (2 : Int32)) d2_146 rfl rfl ?_
    refine Go.iloadN C X279 (pc' := 148) d2_147 rfl rfl ?_
    refine Go.castore C X279 (pc' := 149) (i := 2) (x' := y2) A279 rfl (by decide) (own_nc k2) N267 d2_148 rfl (fun T285 h285 X285 W285 A285 => ?_)
    have K286 : Keep h0 h285 [] := K280.wr W285 (Or.inr Q267)
    have O287 : Old Z n0 h285 := O281.wr W285 N267
    have E288 := E282.wr W285
    have F289 := F283.other W285 (Or.inl ne_b262_b267)
    have F290 := F284.other W285 (Or.inl ne_b262_b267)
    refine Go.dup C X285 (pc' := 150) d2_149 rfl rfl ?_
    refine Go.iconst C X285 (pc' := 151) (v := (3 : Int32)) d2_150 rfl rfl ?_
    refine Go.iloadN C X285 (pc' := 152) d2_151 rfl rfl ?_
    refine Go.castore C X285 (pc' := 153) (i := 3) (x' := y3) A285 rfl (by decide) (own_nc k3) N267 d2_152 rfl (fun T291 h291 X291 W291 A291 => ?_)
    have K292 : Keep h0 h291 [] := K286.wr W291 (Or.inr Q267)
    have O293 : Old Z n0 h291 := O287.wr W291 N267
    have E294 := E288.wr W291
    have F295 := F289.other W291 (Or.inl ne_b262_b267)
    have F296 := F290.other W291 (Or.inl ne_b262_b267)
    refine Go.dup C X291 (pc' := 154) d2_153 rfl rfl ?_
    refine Go.iconst C X291 (pc' := 155) (v := (4 : Int32)) d2_154 rfl rfl ?_
    refine Go.iload C X291 (pc' := 157) d2_155 rfl rfl ?_
    refine Go.castore C X291 (pc' := 158) (i := 4) (x' := y4) A291 rfl (by decide) (own_nc k4) N267 d2_157 rfl (fun T297 h297 X297 W297 A297 => ?_)
    have K298 : Keep h0 h297 [] := K292.wr W297 (Or.inr Q267)
    have O299 : Old Z n0 h297 := O293.wr W297 N267
    have E300 := E294.wr W297
    have F301 := F295.other W297 (Or.inl ne_b262_b267)
    have F302 := F296.other W297 (Or.inl ne_b262_b267)
    refine Go.callI C X297 (pc' := 161) (W := 1) (argsL := [(.ref b267)]) (rest := [(.ref b262)]) (a := b262) (rm_sc l Z a0 hw b262 b267 5 (fun q => if q = 4 then y4 else (fun q => if q = 3 then y3 else (fun q => if q = 2 then y2 else (fun q => if q = 1 then y1 else (fun q => if q = 0 then y0 else (fun _ => 0) q) q) q) q) q) (5 : Int32) cs h297 n0 X297.sz O299 f1 E300 F302 F301 N262 A297 ne_b262_b267 hcs rfl (by decide) (by decide) (own_upd (R := fun z => ¬ (255 : Int32) < z) (own_upd (R := fun z => ¬ (255 : Int32) < z) (own_upd (R := fun z => ¬ (255 : Int32) < z) (own_upd (R := fun z => ¬ (255 : Int32) < z) (own_upd (R := fun z => ¬ (255 : Int32) < z) (fun _ => by decide) (own_n255 k0)) (own_n255 k1)) (own_n255 k2)) (own_n255 k3)) (own_n255 k4))) rfl rfl (hw _ (List.mem_of_getElem? (i := 12) rfl)) (hw _ (List.mem_of_getElem? (i := 13) rfl)) (hw _ (List.mem_of_getElem? (i := 10) rfl)) (hw _ (List.mem_of_getElem? (i := 14) rfl)) (by decide) rfl rfl (lenOf own_pd12 rfl) rfl (Nat.le_of_eq rfl) (by decide) (by decide) (by decide) (by decide) d2_158 rfl (fun _ _ q => by obtain ⟨_, _, _, _, K, _⟩ := q; exact K.1) (fun T303 h303 v303 X303 P303 => ?_)
    obtain ⟨t303, f1303, rfl, D303_t, K303, O303_0, O303_1, O303_2, O303_3, O303_4, Y303_0⟩ := P303
    have ne_b262_t303 : b262 ≠ t303 := Nat.ne_of_lt (Nat.lt_of_lt_of_le E300.lt D303_t)
    have ne_b267_t303 : b267 ≠ t303 := Nat.ne_of_lt (Nat.lt_of_lt_of_le A297.lt D303_t)
    have N_t303 : n0 ≤ t303 := Nat.le_trans X297.sz D303_t
    have Q_t303 : h0.size ≤ t303 := Nat.le_trans K298.1 D303_t
    have K304 : Keep h0 h303 [] := K298.trans K303 (allS (Or.inr Q262) all0)
    have O305 : Old Z n0 h303 := O299.keep K303 (allS N262 all0)
    have E306 := E300.keep K303
    have A307 := A297.keep K303 (ninS (Ne.symm ne_b262_b267) nin0)
    show Go p e below _ n0 _ _ _ T303 (mkF m 161 #[.val (.int y0), .val (.int y1), .val (.int y2), .val (.int y3), .val (.int y4), .val (.int y5), .val (.int y6), .val (.int y7), .val (.int (5 : Int32))] [(.ref b262)])
    exact Go.retA C X303 rfl d2_161 ⟨b262, t303, f1303, rfl, Q262, K304, O303_0, O303_1, O303_2, O303_3, O303_4, Y303_0⟩ (by decide) (by decide)
  · subst q
    obtain rfl : l8 = (6 : Int32) := own_ieq.mpr (hl.trans rfl)
    refine Go.iload C X0 (pc' := 2) d2_0 rfl rfl ?_
    refine Go.ifYes C X0 (pc' := 16) d2_2 ((if0 _ _).trans (feq (by decide)).2) (by decide) (by decide) ?_
    refine Go.iload C X0 (pc' := 18) d2_16 rfl rfl ?_
    refine Go.iconst C X0 (pc' := 19) (v := (1 : Int32)) d2_18 rfl rfl ?_
    refine Go.icmpYes C X0 (pc' := 37) d2_19 (feq (by decide)).2 (by decide) (by decide) ?_
    refine Go.iload C X0 (pc' := 39) d2_37 rfl rfl ?_
    refine Go.iconst C X0 (pc' := 40) (v := (2 : Int32)) d2_39 rfl rfl ?_
    refine Go.icmpYes C X0 (pc' := 62) d2_40 (feq (by decide)).2 (by decide) (by decide) ?_
    refine Go.iload C X0 (pc' := 64) d2_62 rfl rfl ?_
    refine Go.iconst C X0 (pc' := 65) (v := (3 : Int32)) d2_64 rfl rfl ?_
    refine Go.icmpYes C X0 (pc' := 91) d2_65 (feq (by decide)).2 (by decide) (by decide) ?_
    refine Go.iload C X0 (pc' := 93) d2_91 rfl rfl ?_
    refine Go.iconst C X0 (pc' := 94) (v := (4 : Int32)) d2_93 rfl rfl ?_
    refine Go.icmpYes C X0 (pc' := 124) d2_94 (feq (by decide)).2 (by decide) (by decide) ?_
    refine Go.iload C X0 (pc' := 126) d2_124 rfl rfl ?_
    refine Go.iconst C X0 (pc' := 127) (v := (5 : Int32)) d2_126 rfl rfl ?_
    refine Go.icmpYes C X0 (pc' := 162) d2_127 (feq (by decide)).2 (by decide) (by decide) ?_
    refine Go.iload C X0 (pc' := 164) d2_162 rfl rfl ?_
    refine Go.bipush C X0 (pc' := 166) (v := (6 : Int32)) d2_164 rfl rfl ?_
    refine Go.icmpNo C X0 (pc' := 169) d2_166 (teq (by decide)).2 rfl ?_
    refine Go.newO C X0 (pc' := 172) (hw _ (List.mem_of_getElem? (i := 8) rfl)) (hw _ (List.mem_of_getElem? (i := 9) rfl)) (hw _ (List.mem_of_getElem? (i := 10) rfl)) d2_169 (by decide) (by decide) rfl (fun T308 h308 b308 X308 g308 E308 Ex308 D308 N308 => ?_)
    have Q308 : h0.size ≤ b308 := Nat.le_trans (Keep.refl h0 []).1 (Nat.le_of_eq g308.symm)
    have K309 : Keep h0 h308 [] := (Keep.refl h0 []).ext E308
    have O310 : Old Z n0 h308 := f0.ext E308
    have F311 : Fld Z h308 b308 "java/lang/String" "coder" "B" (.int (0 : Int32)) := D308 (Or.inr (hw _ (List.mem_of_getElem? (i := 35) rfl))) (ty := .byte) (by decide)
    have F312 : Fld Z h308 b308 "java/lang/String" "value" "[B" .null := D308 (Or.inr (hw _ (List.mem_of_getElem? (i := 37) rfl))) (ty := (.array .byte)) (by decide)
    refine Go.dup C X308 (pc' := 173) d2_172 rfl rfl ?_
    refine Go.bipush C X308 (pc' := 175) (v := (6 : Int32)) d2_173 rfl rfl ?_
    refine Go.newP C X308 (pc' := 177) (nn := 6) (cap := 6) (hw _ (List.mem_of_getElem? (i := 11) rfl)) d2_175 rfl (by decide) (by decide) (by decide) (by decide) rfl (fun T313 h313 b313 k313 X313 g313 E313 Ar313 N313 => ?_)
    have ne_b308_b313 : b308 ≠ b313 := Nat.ne_of_lt (Nat.lt_of_lt_of_eq Ex308.lt g313.symm)
    have Q313 : h0.size ≤ b313 := Nat.le_trans K309.1 (Nat.le_of_eq g313.symm)
    have K314 : Keep h0 h313 [] := K309.ext E313
    have O315 : Old Z n0 h313 := O310.ext E313
    have E316 := Ex308.ext E313
    have F317 := F311.ext E313
    have F318 := F312.ext E313
    have A313 : AI Z h313 b313 .char 6 (fun _ => 0) := AI.new rfl rfl Ar313
    refine Go.dup C X313 (pc' := 178) d2_177 rfl rfl ?_
    refine Go.iconst C X313 (pc' := 179) (v := (0 : Int32)) d2_178 rfl rfl ?_
    refine Go.iloadN C X313 (pc' := 180) d2_179 rfl rfl ?_
    refine Go.castore C X313 (pc' := 181) (i := 0) (x' := y0) A313 rfl (by decide) (own_nc k0) N313 d2_180 rfl (fun T319 h319 X319 W319 A319 => ?_)
    have K320 : Keep h0 h319 [] := K314.wr W319 (Or.inr Q313)
    have O321 : Old Z n0 h319 := O315.wr W319 N313
    have E322 := E316.wr W319
    have F323 := F317.other W319 (Or.inl ne_b308_b313)
    have F324 := F318.other W319 (Or.inl ne_b308_b313)
    refine Go.dup C X319 (pc' := 182) d2_181 rfl rfl ?_
    refine Go.iconst C X319 (pc' := 183) (v := (1 : Int32)) d2_182 rfl rfl ?_
    refine Go.iloadN C X319 (pc' := 184) d2_183 rfl rfl ?_
    refine Go.castore C X319 (pc' := 185) (i := 1) (x' := y1) A319 rfl (by decide) (own_nc k1) N313 d2_184 rfl (fun T325 h325 X325 W325 A325 => ?_)
    have K326 : Keep h0 h325 [] := K320.wr W325 (Or.inr Q313)
    have O327 : Old Z n0 h325 := O321.wr W325 N313
    have E328 := E322.wr W325
    have F329 := F323.other W325 (Or.inl ne_b308_b313)
    have F330 := F324.other W325 (Or.inl ne_b308_b313)
    refine Go.dup C X325 (pc' := 186) d2_185 rfl rfl ?_
    refine Go.iconst C X325 (pc' := 187) (v := (2 : Int32)) d2_186 rfl rfl ?_
    refine Go.iloadN C X325 (pc' := 188) d2_187 rfl rfl ?_
    refine Go.castore C X325 (pc' := 189) (i := 2) (x' := y2) A325 rfl (by decide) (own_nc k2) N313 d2_188 rfl (fun T331 h331 X331 W331 A331 => ?_)
    have K332 : Keep h0 h331 [] := K326.wr W331 (Or.inr Q313)
    have O333 : Old Z n0 h331 := O327.wr W331 N313
    have E334 := E328.wr W331
    have F335 := F329.other W331 (Or.inl ne_b308_b313)
    have F336 := F330.other W331 (Or.inl ne_b308_b313)
    refine Go.dup C X331 (pc' := 190) d2_189 rfl rfl ?_
    refine Go.iconst C X331 (pc' := 191) (v := (3 : Int32)) d2_190 rfl rfl ?_
    refine Go.iloadN C X331 (pc' := 192) d2_191 rfl rfl ?_
    refine Go.castore C X331 (pc' := 193) (i := 3) (x' := y3) A331 rfl (by decide) (own_nc k3) N313 d2_192 rfl (fun T337 h337 X337 W337 A337 => ?_)
    have K338 : Keep h0 h337 [] := K332.wr W337 (Or.inr Q313)
    have O339 : Old Z n0 h337 := O333.wr W337 N313
    have E340 := E334.wr W337
    have F341 := F335.other W337 (Or.inl ne_b308_b313)
    have F342 := F336.other W337 (Or.inl ne_b308_b313)
    refine Go.dup C X337 (pc' := 194) d2_193 rfl rfl ?_
    refine Go.iconst C X337 (pc' := 195) (v := (4 : Int32)) d2_194 rfl rfl ?_
    refine Go.iload C X337 (pc' := 197) d2_195 rfl rfl ?_
    refine Go.castore C X337 (pc' := 198) (i := 4) (x' := y4) A337 rfl (by decide) (own_nc k4) N313 d2_197 rfl (fun T343 h343 X343 W343 A343 => ?_)
    have K344 : Keep h0 h343 [] := K338.wr W343 (Or.inr Q313)
    have O345 : Old Z n0 h343 := O339.wr W343 N313
    have E346 := E340.wr W343
    have F347 := F341.other W343 (Or.inl ne_b308_b313)
    have F348 := F342.other W343 (Or.inl ne_b308_b313)
    refine Go.dup C X343 (pc' := 199) d2_198 rfl rfl ?_
    refine Go.iconst C X343 (pc' := 200) (v := (5 : Int32)) d2_199 rfl rfl ?_
    refine Go.iload C X343 (pc' := 202) d2_200 rfl rfl ?_
    refine Go.castore C X343 (pc' := 203) (i := 5) (x' := y5) A343 rfl (by decide) (own_nc k5) N313 d2_202 rfl (fun T349 h349 X349 W349 A349 => ?_)
    have K350 : Keep h0 h349 [] := K344.wr W349 (Or.inr Q313)
    have O351 : Old Z n0 h349 := O345.wr W349 N313
    have E352 := E346.wr W349
    have F353 := F347.other W349 (Or.inl ne_b308_b313)
    have F354 := F348.other W349 (Or.inl ne_b308_b313)
    refine Go.callI C X349 (pc' := 206) (W := 1) (argsL := [(.ref b313)]) (rest := [(.ref b308)]) (a := b308) (rm_sc l Z a0 hw b308 b313 6 (fun q => if q = 5 then y5 else (fun q => if q = 4 then y4 else (fun q => if q = 3 then y3 else (fun q => if q = 2 then y2 else (fun q => if q = 1 then y1 else (fun q => if q = 0 then y0 else (fun _ => 0) q) q) q) q) q) q) (6 : Int32) cs h349 n0 X349.sz O351 f1 E352 F354 F353 N308 A349 ne_b308_b313 hcs rfl (by decide) (by decide) (own_upd (R := fun z => ¬ (255 : Int32) < z) (own_upd (R := fun z => ¬ (255 : Int32) < z) (own_upd (R := fun z => ¬ (255 : Int32) < z) (own_upd (R := fun z => ¬ (255 : Int32) < z) (own_upd (R := fun z => ¬ (255 : Int32) < z) (own_upd (R := fun z => ¬ (255 : Int32) < z) (fun _ => by decide) (own_n255 k0)) (own_n255 k1)) (own_n255 k2)) (own_n255 k3)) (own_n255 k4)) (own_n255 k5))) rfl rfl (hw _ (List.mem_of_getElem? (i := 12) rfl)) (hw _ (List.mem_of_getElem? (i := 13) rfl)) (hw _ (List.mem_of_getElem? (i := 10) rfl)) (hw _ (List.mem_of_getElem? (i := 14) rfl)) (by decide) rfl rfl (lenOf own_pd12 rfl) rfl (Nat.le_of_eq rfl) (by decide) (by decide) (by decide) (by decide) d2_203 rfl (fun _ _ q => by obtain ⟨_, _, _, _, K, _⟩ := q; exact K.1) (fun T355 h355 v355 X355 P355 => ?_)
    obtain ⟨t355, f1355, rfl, D355_t, K355, O355_0, O355_1, O355_2, O355_3, O355_4, Y355_0⟩ := P355
    have ne_b308_t355 : b308 ≠ t355 := Nat.ne_of_lt (Nat.lt_of_lt_of_le E352.lt D355_t)
    have ne_b313_t355 : b313 ≠ t355 := Nat.ne_of_lt (Nat.lt_of_lt_of_le A349.lt D355_t)
    have N_t355 : n0 ≤ t355 := Nat.le_trans X349.sz D355_t
    have Q_t355 : h0.size ≤ t355 := Nat.le_trans K350.1 D355_t
    have K356 : Keep h0 h355 [] := K350.trans K355 (allS (Or.inr Q308) all0)
    have O357 : Old Z n0 h355 := O351.keep K355 (allS N308 all0)
    have E358 := E352.keep K355
    have A359 := A349.keep K355 (ninS (Ne.symm ne_b308_b313) nin0)
    show Go p e below _ n0 _ _ _ T355 (mkF m 206 #[.val (.int y0), .val (.int y1), .val (.int y2), .val (.int y3), .val (.int y4), .val (.int y5), .val (.int y6), .val (.int y7), .val (.int (6 : Int32))] [(.ref b308)])
    exact Go.retA C X355 rfl d2_206 ⟨b308, t355, f1355, rfl, Q308, K356, O355_0, O355_1, O355_2, O355_3, O355_4, Y355_0⟩ (by decide) (by decide)
  · subst q
    obtain rfl : l8 = (7 : Int32) := own_ieq.mpr (hl.trans rfl)
    refine Go.iload C X0 (pc' := 2) d2_0 rfl rfl ?_
    refine Go.ifYes C X0 (pc' := 16) d2_2 ((if0 _ _).trans (feq (by decide)).2) (by decide) (by decide) ?_
    refine Go.iload C X0 (pc' := 18) d2_16 rfl rfl ?_
    refine Go.iconst C X0 (pc' := 19) (v := (1 : Int32)) d2_18 rfl rfl ?_
    refine Go.icmpYes C X0 (pc' := 37) d2_19 (feq (by decide)).2 (by decide) (by decide) ?_
    refine Go.iload C X0 (pc' := 39) d2_37 rfl rfl ?_
    refine Go.iconst C X0 (pc' := 40) (v := (2 : Int32)) d2_39 rfl rfl ?_
    refine Go.icmpYes C X0 (pc' := 62) d2_40 (feq (by decide)).2 (by decide) (by decide) ?_
    refine Go.iload C X0 (pc' := 64) d2_62 rfl rfl ?_
    refine Go.iconst C X0 (pc' := 65) (v := (3 : Int32)) d2_64 rfl rfl ?_
    refine Go.icmpYes C X0 (pc' := 91) d2_65 (feq (by decide)).2 (by decide) (by decide) ?_
    refine Go.iload C X0 (pc' := 93) d2_91 rfl rfl ?_
    refine Go.iconst C X0 (pc' := 94) (v := (4 : Int32)) d2_93 rfl rfl ?_
    refine Go.icmpYes C X0 (pc' := 124) d2_94 (feq (by decide)).2 (by decide) (by decide) ?_
    refine Go.iload C X0 (pc' := 126) d2_124 rfl rfl ?_
    refine Go.iconst C X0 (pc' := 127) (v := (5 : Int32)) d2_126 rfl rfl ?_
    refine Go.icmpYes C X0 (pc' := 162) d2_127 (feq (by decide)).2 (by decide) (by decide) ?_
    refine Go.iload C X0 (pc' := 164) d2_162 rfl rfl ?_
    refine Go.bipush C X0 (pc' := 166) (v := (6 : Int32)) d2_164 rfl rfl ?_
    refine Go.icmpYes C X0 (pc' := 207) d2_166 (feq (by decide)).2 (by decide) (by decide) ?_
    refine Go.iload C X0 (pc' := 209) d2_207 rfl rfl ?_
    refine Go.bipush C X0 (pc' := 211) (v := (7 : Int32)) d2_209 rfl rfl ?_
    refine Go.icmpNo C X0 (pc' := 214) d2_211 (teq (by decide)).2 rfl ?_
    refine Go.newO C X0 (pc' := 217) (hw _ (List.mem_of_getElem? (i := 8) rfl)) (hw _ (List.mem_of_getElem? (i := 9) rfl)) (hw _ (List.mem_of_getElem? (i := 10) rfl)) d2_214 (by decide) (by decide) rfl (fun T360 h360 b360 X360 g360 E360 Ex360 D360 N360 => ?_)
    have Q360 : h0.size ≤ b360 := Nat.le_trans (Keep.refl h0 []).1 (Nat.le_of_eq g360.symm)
    have K361 : Keep h0 h360 [] := (Keep.refl h0 []).ext E360
    have O362 : Old Z n0 h360 := f0.ext E360
    have F363 : Fld Z h360 b360 "java/lang/String" "coder" "B" (.int (0 : Int32)) := D360 (Or.inr (hw _ (List.mem_of_getElem? (i := 35) rfl))) (ty := .byte) (by decide)
    have F364 : Fld Z h360 b360 "java/lang/String" "value" "[B" .null := D360 (Or.inr (hw _ (List.mem_of_getElem? (i := 37) rfl))) (ty := (.array .byte)) (by decide)
    refine Go.dup C X360 (pc' := 218) d2_217 rfl rfl ?_
    refine Go.bipush C X360 (pc' := 220) (v := (7 : Int32)) d2_218 rfl rfl ?_
    refine Go.newP C X360 (pc' := 222) (nn := 7) (cap := 7) (hw _ (List.mem_of_getElem? (i := 11) rfl)) d2_220 rfl (by decide) (by decide) (by decide) (by decide) rfl (fun T365 h365 b365 k365 X365 g365 E365 Ar365 N365 => ?_)
    have ne_b360_b365 : b360 ≠ b365 := Nat.ne_of_lt (Nat.lt_of_lt_of_eq Ex360.lt g365.symm)
    have Q365 : h0.size ≤ b365 := Nat.le_trans K361.1 (Nat.le_of_eq g365.symm)
    have K366 : Keep h0 h365 [] := K361.ext E365
    have O367 : Old Z n0 h365 := O362.ext E365
    have E368 := Ex360.ext E365
    have F369 := F363.ext E365
    have F370 := F364.ext E365
    have A365 : AI Z h365 b365 .char 7 (fun _ => 0) := AI.new rfl rfl Ar365
    refine Go.dup C X365 (pc' := 223) d2_222 rfl rfl ?_
    refine Go.iconst C X365 (pc' := 224) (v := (0 : Int32)) d2_223 rfl rfl ?_
    refine Go.iloadN C X365 (pc' := 225) d2_224 rfl rfl ?_
    refine Go.castore C X365 (pc' := 226) (i := 0) (x' := y0) A365 rfl (by decide) (own_nc k0) N365 d2_225 rfl (fun T371 h371 X371 W371 A371 => ?_)
    have K372 : Keep h0 h371 [] := K366.wr W371 (Or.inr Q365)
    have O373 : Old Z n0 h371 := O367.wr W371 N365
    have E374 := E368.wr W371
    have F375 := F369.other W371 (Or.inl ne_b360_b365)
    have F376 := F370.other W371 (Or.inl ne_b360_b365)
    refine Go.dup C X371 (pc' := 227) d2_226 rfl rfl ?_
    refine Go.iconst C X371 (pc' := 228) (v := (1 : Int32)) d2_227 rfl rfl ?_
    refine Go.iloadN C X371 (pc' := 229) d2_228 rfl rfl ?_
    refine Go.castore C X371 (pc' := 230) (i := 1) (x' := y1) A371 rfl (by decide) (own_nc k1) N365 d2_229 rfl (fun T377 h377 X377 W377 A377 => ?_)
    have K378 : Keep h0 h377 [] := K372.wr W377 (Or.inr Q365)
    have O379 : Old Z n0 h377 := O373.wr W377 N365
    have E380 := E374.wr W377
    have F381 := F375.other W377 (Or.inl ne_b360_b365)
    have F382 := F376.other W377 (Or.inl ne_b360_b365)
    refine Go.dup C X377 (pc' := 231) d2_230 rfl rfl ?_
    refine Go.iconst C X377 (pc' := 232) (v := (2 : Int32)) d2_231 rfl rfl ?_
    refine Go.iloadN C X377 (pc' := 233) d2_232 rfl rfl ?_
    refine Go.castore C X377 (pc' := 234) (i := 2) (x' := y2) A377 rfl (by decide) (own_nc k2) N365 d2_233 rfl (fun T383 h383 X383 W383 A383 => ?_)
    have K384 : Keep h0 h383 [] := K378.wr W383 (Or.inr Q365)
    have O385 : Old Z n0 h383 := O379.wr W383 N365
    have E386 := E380.wr W383
    have F387 := F381.other W383 (Or.inl ne_b360_b365)
    have F388 := F382.other W383 (Or.inl ne_b360_b365)
    refine Go.dup C X383 (pc' := 235) d2_234 rfl rfl ?_
    refine Go.iconst C X383 (pc' := 236) (v := (3 : Int32)) d2_235 rfl rfl ?_
    refine Go.iloadN C X383 (pc' := 237) d2_236 rfl rfl ?_
    refine Go.castore C X383 (pc' := 238) (i := 3) (x' := y3) A383 rfl (by decide) (own_nc k3) N365 d2_237 rfl (fun T389 h389 X389 W389 A389 => ?_)
    have K390 : Keep h0 h389 [] := K384.wr W389 (Or.inr Q365)
    have O391 : Old Z n0 h389 := O385.wr W389 N365
    have E392 := E386.wr W389
    have F393 := F387.other W389 (Or.inl ne_b360_b365)
    have F394 := F388.other W389 (Or.inl ne_b360_b365)
    refine Go.dup C X389 (pc' := 239) d2_238 rfl rfl ?_
    refine Go.iconst C X389 (pc' := 240) (v := (4 : Int32)) d2_239 rfl rfl ?_
    refine Go.iload C X389 (pc' := 242) d2_240 rfl rfl ?_
    refine Go.castore C X389 (pc' := 243) (i := 4) (x' := y4) A389 rfl (by decide) (own_nc k4) N365 d2_242 rfl (fun T395 h395 X395 W395 A395 => ?_)
    have K396 : Keep h0 h395 [] := K390.wr W395 (Or.inr Q365)
    have O397 : Old Z n0 h395 := O391.wr W395 N365
    have E398 := E392.wr W395
    have F399 := F393.other W395 (Or.inl ne_b360_b365)
    have F400 := F394.other W395 (Or.inl ne_b360_b365)
    refine Go.dup C X395 (pc' := 244) d2_243 rfl rfl ?_
    refine Go.iconst C X395 (pc' := 245) (v := (5 : Int32)) d2_244 rfl rfl ?_
    refine Go.iload C X395 (pc' := 247) d2_245 rfl rfl ?_
    refine Go.castore C X395 (pc' := 248) (i := 5) (x' := y5) A395 rfl (by decide) (own_nc k5) N365 d2_247 rfl (fun T401 h401 X401 W401 A401 => ?_)
    have K402 : Keep h0 h401 [] := K396.wr W401 (Or.inr Q365)
    have O403 : Old Z n0 h401 := O397.wr W401 N365
    have E404 := E398.wr W401
    have F405 := F399.other W401 (Or.inl ne_b360_b365)
    have F406 := F400.other W401 (Or.inl ne_b360_b365)
    refine Go.dup C X401 (pc' := 249) d2_248 rfl rfl ?_
    refine Go.bipush C X401 (pc' := 251) (v := (6 : Int32)) d2_249 rfl rfl ?_
    refine Go.iload C X401 (pc' := 253) d2_251 rfl rfl ?_
    refine Go.castore C X401 (pc' := 254) (i := 6) (x' := y6) A401 rfl (by decide) (own_nc k6) N365 d2_253 rfl (fun T407 h407 X407 W407 A407 => ?_)
    have K408 : Keep h0 h407 [] := K402.wr W407 (Or.inr Q365)
    have O409 : Old Z n0 h407 := O403.wr W407 N365
    have E410 := E404.wr W407
    have F411 := F405.other W407 (Or.inl ne_b360_b365)
    have F412 := F406.other W407 (Or.inl ne_b360_b365)
    refine Go.callI C X407 (pc' := 257) (W := 1) (argsL := [(.ref b365)]) (rest := [(.ref b360)]) (a := b360) (rm_sc l Z a0 hw b360 b365 7 (fun q => if q = 6 then y6 else (fun q => if q = 5 then y5 else (fun q => if q = 4 then y4 else (fun q => if q = 3 then y3 else (fun q => if q = 2 then y2 else (fun q => if q = 1 then y1 else (fun q => if q = 0 then y0 else (fun _ => 0) q) q) q) q) q) q) q) (7 : Int32) cs h407 n0 X407.sz O409 f1 E410 F412 F411 N360 A407 ne_b360_b365 hcs rfl (by decide) (by decide) (own_upd (R := fun z => ¬ (255 : Int32) < z) (own_upd (R := fun z => ¬ (255 : Int32) < z) (own_upd (R := fun z => ¬ (255 : Int32) < z) (own_upd (R := fun z => ¬ (255 : Int32) < z) (own_upd (R := fun z => ¬ (255 : Int32) < z) (own_upd (R := fun z => ¬ (255 : Int32) < z) (own_upd (R := fun z => ¬ (255 : Int32) < z) (fun _ => by decide) (own_n255 k0)) (own_n255 k1)) (own_n255 k2)) (own_n255 k3)) (own_n255 k4)) (own_n255 k5)) (own_n255 k6))) rfl rfl (hw _ (List.mem_of_getElem? (i := 12) rfl)) (hw _ (List.mem_of_getElem? (i := 13) rfl)) (hw _ (List.mem_of_getElem? (i := 10) rfl)) (hw _ (List.mem_of_getElem? (i := 14) rfl)) (by decide) rfl rfl (lenOf own_pd12 rfl) rfl (Nat.le_of_eq rfl) (by decide) (by decide) (by decide) (by decide) d2_254 rfl (fun _ _ q => by obtain ⟨_, _, _, _, K, _⟩ := q; exact K.1) (fun T413 h413 v413 X413 P413 => ?_)
    obtain ⟨t413, f1413, rfl, D413_t, K413, O413_0, O413_1, O413_2, O413_3, O413_4, Y413_0⟩ := P413
    have ne_b360_t413 : b360 ≠ t413 := Nat.ne_of_lt (Nat.lt_of_lt_of_le E410.lt D413_t)
    have ne_b365_t413 : b365 ≠ t413 := Nat.ne_of_lt (Nat.lt_of_lt_of_le A407.lt D413_t)
    have N_t413 : n0 ≤ t413 := Nat.le_trans X407.sz D413_t
    have Q_t413 : h0.size ≤ t413 := Nat.le_trans K408.1 D413_t
    have K414 : Keep h0 h413 [] := K408.trans K413 (allS (Or.inr Q360) all0)
    have O415 : Old Z n0 h413 := O409.keep K413 (allS N360 all0)
    have E416 := E410.keep K413
    have A417 := A407.keep K413 (ninS (Ne.symm ne_b360_b365) nin0)
    show Go p e below _ n0 _ _ _ T413 (mkF m 257 #[.val (.int y0), .val (.int y1), .val (.int y2), .val (.int y3), .val (.int y4), .val (.int y5), .val (.int y6), .val (.int y7), .val (.int (7 : Int32))] [(.ref b360)])
    exact Go.retA C X413 rfl d2_257 ⟨b360, t413, f1413, rfl, Q360, K414, O413_0, O413_1, O413_2, O413_3, O413_4, Y413_0⟩ (by decide) (by decide)
  · subst q
    obtain rfl : l8 = (8 : Int32) := own_ieq.mpr (hl.trans rfl)
    refine Go.iload C X0 (pc' := 2) d2_0 rfl rfl ?_
    refine Go.ifYes C X0 (pc' := 16) d2_2 ((if0 _ _).trans (feq (by decide)).2) (by decide) (by decide) ?_
    refine Go.iload C X0 (pc' := 18) d2_16 rfl rfl ?_
    refine Go.iconst C X0 (pc' := 19) (v := (1 : Int32)) d2_18 rfl rfl ?_
    refine Go.icmpYes C X0 (pc' := 37) d2_19 (feq (by decide)).2 (by decide) (by decide) ?_
    refine Go.iload C X0 (pc' := 39) d2_37 rfl rfl ?_
    refine Go.iconst C X0 (pc' := 40) (v := (2 : Int32)) d2_39 rfl rfl ?_
    refine Go.icmpYes C X0 (pc' := 62) d2_40 (feq (by decide)).2 (by decide) (by decide) ?_
    refine Go.iload C X0 (pc' := 64) d2_62 rfl rfl ?_
    refine Go.iconst C X0 (pc' := 65) (v := (3 : Int32)) d2_64 rfl rfl ?_
    refine Go.icmpYes C X0 (pc' := 91) d2_65 (feq (by decide)).2 (by decide) (by decide) ?_
    refine Go.iload C X0 (pc' := 93) d2_91 rfl rfl ?_
    refine Go.iconst C X0 (pc' := 94) (v := (4 : Int32)) d2_93 rfl rfl ?_
    refine Go.icmpYes C X0 (pc' := 124) d2_94 (feq (by decide)).2 (by decide) (by decide) ?_
    refine Go.iload C X0 (pc' := 126) d2_124 rfl rfl ?_
    refine Go.iconst C X0 (pc' := 127) (v := (5 : Int32)) d2_126 rfl rfl ?_
    refine Go.icmpYes C X0 (pc' := 162) d2_127 (feq (by decide)).2 (by decide) (by decide) ?_
    refine Go.iload C X0 (pc' := 164) d2_162 rfl rfl ?_
    refine Go.bipush C X0 (pc' := 166) (v := (6 : Int32)) d2_164 rfl rfl ?_
    refine Go.icmpYes C X0 (pc' := 207) d2_166 (feq (by decide)).2 (by decide) (by decide) ?_
    refine Go.iload C X0 (pc' := 209) d2_207 rfl rfl ?_
    refine Go.bipush C X0 (pc' := 211) (v := (7 : Int32)) d2_209 rfl rfl ?_
    refine Go.icmpYes C X0 (pc' := 258) d2_211 (feq (by decide)).2 (by decide) (by decide) ?_
    refine Go.newO C X0 (pc' := 261) (hw _ (List.mem_of_getElem? (i := 8) rfl)) (hw _ (List.mem_of_getElem? (i := 9) rfl)) (hw _ (List.mem_of_getElem? (i := 10) rfl)) d2_258 (by decide) (by decide) rfl (fun T418 h418 b418 X418 g418 E418 Ex418 D418 N418 => ?_)
    have Q418 : h0.size ≤ b418 := Nat.le_trans (Keep.refl h0 []).1 (Nat.le_of_eq g418.symm)
    have K419 : Keep h0 h418 [] := (Keep.refl h0 []).ext E418
    have O420 : Old Z n0 h418 := f0.ext E418
    have F421 : Fld Z h418 b418 "java/lang/String" "coder" "B" (.int (0 : Int32)) := D418 (Or.inr (hw _ (List.mem_of_getElem? (i := 35) rfl))) (ty := .byte) (by decide)
    have F422 : Fld Z h418 b418 "java/lang/String" "value" "[B" .null := D418 (Or.inr (hw _ (List.mem_of_getElem? (i := 37) rfl))) (ty := (.array .byte)) (by decide)
    refine Go.dup C X418 (pc' := 262) d2_261 rfl rfl ?_
    refine Go.bipush C X418 (pc' := 264) (v := (8 : Int32)) d2_262 rfl rfl ?_
    refine Go.newP C X418 (pc' := 266) (nn := 8) (cap := 8) (hw _ (List.mem_of_getElem? (i := 11) rfl)) d2_264 rfl (by decide) (by decide) (by decide) (by decide) rfl (fun T423 h423 b423 k423 X423 g423 E423 Ar423 N423 => ?_)
    have ne_b418_b423 : b418 ≠ b423 := Nat.ne_of_lt (Nat.lt_of_lt_of_eq Ex418.lt g423.symm)
    have Q423 : h0.size ≤ b423 := Nat.le_trans K419.1 (Nat.le_of_eq g423.symm)
    have K424 : Keep h0 h423 [] := K419.ext E423
    have O425 : Old Z n0 h423 := O420.ext E423
    have E426 := Ex418.ext E423
    have F427 := F421.ext E423
    have F428 := F422.ext E423
    have A423 : AI Z h423 b423 .char 8 (fun _ => 0) := AI.new rfl rfl Ar423
    refine Go.dup C X423 (pc' := 267) d2_266 rfl rfl ?_
    refine Go.iconst C X423 (pc' := 268) (v := (0 : Int32)) d2_267 rfl rfl ?_
    refine Go.iloadN C X423 (pc' := 269) d2_268 rfl rfl ?_
    refine Go.castore C X423 (pc' := 270) (i := 0) (x' := y0) A423 rfl (by decide) (own_nc k0) N423 d2_269 rfl (fun T429 h429 X429 W429 A429 => ?_)
    have K430 : Keep h0 h429 [] := K424.wr W429 (Or.inr Q423)
    have O431 : Old Z n0 h429 := O425.wr W429 N423
    have E432 := E426.wr W429
    have F433 := F427.other W429 (Or.inl ne_b418_b423)
    have F434 := F428.other W429 (Or.inl ne_b418_b423)
    refine Go.dup C X429 (pc' := 271) d2_270 rfl rfl ?_
    refine Go.iconst C X429 (pc' := 272) (v := (1 : Int32)) d2_271 rfl rfl ?_
    refine Go.iloadN C X429 (pc' := 273) d2_272 rfl rfl ?_
    refine Go.castore C X429 (pc' := 274) (i := 1) (x' := y1) A429 rfl (by decide) (own_nc k1) N423 d2_273 rfl (fun T435 h435 X435 W435 A435 => ?_)
    have K436 : Keep h0 h435 [] := K430.wr W435 (Or.inr Q423)
    have O437 : Old Z n0 h435 := O431.wr W435 N423
    have E438 := E432.wr W435
    have F439 := F433.other W435 (Or.inl ne_b418_b423)
    have F440 := F434.other W435 (Or.inl ne_b418_b423)
    refine Go.dup C X435 (pc' := 275) d2_274 rfl rfl ?_
    refine Go.iconst C X435 (pc' := 276) (v := (2 : Int32)) d2_275 rfl rfl ?_
    refine Go.iloadN C X435 (pc' := 277) d2_276 rfl rfl ?_
    refine Go.castore C X435 (pc' := 278) (i := 2) (x' := y2) A435 rfl (by decide) (own_nc k2) N423 d2_277 rfl (fun T441 h441 X441 W441 A441 => ?_)
    have K442 : Keep h0 h441 [] := K436.wr W441 (Or.inr Q423)
    have O443 : Old Z n0 h441 := O437.wr W441 N423
    have E444 := E438.wr W441
    have F445 := F439.other W441 (Or.inl ne_b418_b423)
    have F446 := F440.other W441 (Or.inl ne_b418_b423)
    refine Go.dup C X441 (pc' := 279) d2_278 rfl rfl ?_
    refine Go.iconst C X441 (pc' := 280) (v := (3 : Int32)) d2_279 rfl rfl ?_
    refine Go.iloadN C X441 (pc' := 281) d2_280 rfl rfl ?_
    refine Go.castore C X441 (pc' := 282) (i := 3) (x' := y3) A441 rfl (by decide) (own_nc k3) N423 d2_281 rfl (fun T447 h447 X447 W447 A447 => ?_)
    have K448 : Keep h0 h447 [] := K442.wr W447 (Or.inr Q423)
    have O449 : Old Z n0 h447 := O443.wr W447 N423
    have E450 := E444.wr W447
    have F451 := F445.other W447 (Or.inl ne_b418_b423)
    have F452 := F446.other W447 (Or.inl ne_b418_b423)
    refine Go.dup C X447 (pc' := 283) d2_282 rfl rfl ?_
    refine Go.iconst C X447 (pc' := 284) (v := (4 : Int32)) d2_283 rfl rfl ?_
    refine Go.iload C X447 (pc' := 286) d2_284 rfl rfl ?_
    refine Go.castore C X447 (pc' := 287) (i := 4) (x' := y4) A447 rfl (by decide) (own_nc k4) N423 d2_286 rfl (fun T453 h453 X453 W453 A453 => ?_)
    have K454 : Keep h0 h453 [] := K448.wr W453 (Or.inr Q423)
    have O455 : Old Z n0 h453 := O449.wr W453 N423
    have E456 := E450.wr W453
    have F457 := F451.other W453 (Or.inl ne_b418_b423)
    have F458 := F452.other W453 (Or.inl ne_b418_b423)
    refine Go.dup C X453 (pc' := 288) d2_287 rfl rfl ?_
    refine Go.iconst C X453 (pc' := 289) (v := (5 : Int32)) d2_288 rfl rfl ?_
    refine Go.iload C X453 (pc' := 291) d2_289 rfl rfl ?_
    refine Go.castore C X453 (pc' := 292) (i := 5) (x' := y5) A453 rfl (by decide) (own_nc k5) N423 d2_291 rfl (fun T459 h459 X459 W459 A459 => ?_)
    have K460 : Keep h0 h459 [] := K454.wr W459 (Or.inr Q423)
    have O461 : Old Z n0 h459 := O455.wr W459 N423
    have E462 := E456.wr W459
    have F463 := F457.other W459 (Or.inl ne_b418_b423)
    have F464 := F458.other W459 (Or.inl ne_b418_b423)
    refine Go.dup C X459 (pc' := 293) d2_292 rfl rfl ?_
    refine Go.bipush C X459 (pc' := 295) (v := (6 : Int32)) d2_293 rfl rfl ?_
    refine Go.iload C X459 (pc' := 297) d2_295 rfl rfl ?_
    refine Go.castore C X459 (pc' := 298) (i := 6) (x' := y6) A459 rfl (by decide) (own_nc k6) N423 d2_297 rfl (fun T465 h465 X465 W465 A465 => ?_)
    have K466 : Keep h0 h465 [] := K460.wr W465 (Or.inr Q423)
    have O467 : Old Z n0 h465 := O461.wr W465 N423
    have E468 := E462.wr W465
    have F469 := F463.other W465 (Or.inl ne_b418_b423)
    have F470 := F464.other W465 (Or.inl ne_b418_b423)
    refine Go.dup C X465 (pc' := 299) d2_298 rfl rfl ?_
    refine Go.bipush C X465 (pc' := 301) (v := (7 : Int32)) d2_299 rfl rfl ?_
    refine Go.iload C X465 (pc' := 303) d2_301 rfl rfl ?_
    refine Go.castore C X465 (pc' := 304) (i := 7) (x' := y7) A465 rfl (by decide) (own_nc k7) N423 d2_303 rfl (fun T471 h471 X471 W471 A471 => ?_)
    have K472 : Keep h0 h471 [] := K466.wr W471 (Or.inr Q423)
    have O473 : Old Z n0 h471 := O467.wr W471 N423
    have E474 := E468.wr W471
    have F475 := F469.other W471 (Or.inl ne_b418_b423)
    have F476 := F470.other W471 (Or.inl ne_b418_b423)
    refine Go.callI C X471 (pc' := 307) (W := 1) (argsL := [(.ref b423)]) (rest := [(.ref b418)]) (a := b418) (rm_sc l Z a0 hw b418 b423 8 (fun q => if q = 7 then y7 else (fun q => if q = 6 then y6 else (fun q => if q = 5 then y5 else (fun q => if q = 4 then y4 else (fun q => if q = 3 then y3 else (fun q => if q = 2 then y2 else (fun q => if q = 1 then y1 else (fun q => if q = 0 then y0 else (fun _ => 0) q) q) q) q) q) q) q) q) (8 : Int32) cs h471 n0 X471.sz O473 f1 E474 F476 F475 N418 A471 ne_b418_b423 hcs rfl (by decide) (by decide) (own_upd (R := fun z => ¬ (255 : Int32) < z) (own_upd (R := fun z => ¬ (255 : Int32) < z) (own_upd (R := fun z => ¬ (255 : Int32) < z) (own_upd (R := fun z => ¬ (255 : Int32) < z) (own_upd (R := fun z => ¬ (255 : Int32) < z) (own_upd (R := fun z => ¬ (255 : Int32) < z) (own_upd (R := fun z => ¬ (255 : Int32) < z) (own_upd (R := fun z => ¬ (255 : Int32) < z) (fun _ => by decide) (own_n255 k0)) (own_n255 k1)) (own_n255 k2)) (own_n255 k3)) (own_n255 k4)) (own_n255 k5)) (own_n255 k6)) (own_n255 k7))) rfl rfl (hw _ (List.mem_of_getElem? (i := 12) rfl)) (hw _ (List.mem_of_getElem? (i := 13) rfl)) (hw _ (List.mem_of_getElem? (i := 10) rfl)) (hw _ (List.mem_of_getElem? (i := 14) rfl)) (by decide) rfl rfl (lenOf own_pd12 rfl) rfl (Nat.le_of_eq rfl) (by decide) (by decide) (by decide) (by decide) d2_304 rfl (fun _ _ q => by obtain ⟨_, _, _, _, K, _⟩ := q; exact K.1) (fun T477 h477 v477 X477 P477 => ?_)
    obtain ⟨t477, f1477, rfl, D477_t, K477, O477_0, O477_1, O477_2, O477_3, O477_4, Y477_0⟩ := P477
    have ne_b418_t477 : b418 ≠ t477 := Nat.ne_of_lt (Nat.lt_of_lt_of_le E474.lt D477_t)
    have ne_b423_t477 : b423 ≠ t477 := Nat.ne_of_lt (Nat.lt_of_lt_of_le A471.lt D477_t)
    have N_t477 : n0 ≤ t477 := Nat.le_trans X471.sz D477_t
    have Q_t477 : h0.size ≤ t477 := Nat.le_trans K472.1 D477_t
    have K478 : Keep h0 h477 [] := K472.trans K477 (allS (Or.inr Q418) all0)
    have O479 : Old Z n0 h477 := O473.keep K477 (allS N418 all0)
    have E480 := E474.keep K477
    have A481 := A471.keep K477 (ninS (Ne.symm ne_b418_b423) nin0)
    show Go p e below _ n0 _ _ _ T477 (mkF m 307 #[.val (.int y0), .val (.int y1), .val (.int y2), .val (.int y3), .val (.int y4), .val (.int y5), .val (.int y6), .val (.int y7), .val (.int (8 : Int32))] [(.ref b418)])
    exact Go.retA C X477 rfl d2_307 ⟨b418, t477, f1477, rfl, Q418, K478, O477_0, O477_1, O477_2, O477_3, O477_4, Y477_0⟩ (by decide) (by decide)
theorem own_ef_rm_mk0 (m : MethodId) (x0 : Int32) (x1 : Int32) (x2 : Int32) (x3 : Int32) (x4 : Int32) (x5 : Int32) (x6 : Int32) (x7 : Int32) (x8 : Int32) : entryFrame m #[(.int x0), (.int x1), (.int x2), (.int x3), (.int x4), (.int x5), (.int x6), (.int x7), (.int x8)] 9 = mkF m 0 #[.val (.int x0), .val (.int x1), .val (.int x2), .val (.int x3), .val (.int x4), .val (.int x5), .val (.int x6), .val (.int x7), .val (.int x8)] [] := by first | (simp [entryFrame, mkF, argsToLocals, Value.category]; done) | rfl
theorem d2_5 : decode method_4_code 5 = .ok (.new 32, 3) := by decide +kernel
theorem d2_8 : decode method_4_code 8 = .ok (.dup, 1) := by decide +kernel
theorem d2_9 : decode method_4_code 9 = .ok (.iconst 0, 1) := by decide +kernel
theorem d2_10 : decode method_4_code 10 = .ok (.newarray .char, 2) := by decide +kernel
theorem d2_12 : decode method_4_code 12 = .ok (.invokespecial 34, 3) := by decide +kernel
theorem d2_15 : decode method_4_code 15 = .ok (.areturn, 1) := by decide +kernel
set_option maxRecDepth 65536 in
set_option maxHeartbeats 40000000 in
theorem rm_mk0 (l : Launch) (Z : State) (a0 : Array Value) (hw : ∀ d ∈ tables_1, d.before a0 Z = true) (y0 : Int32) (y1 : Int32) (y2 : Int32) (y3 : Int32) (y4 : Int32) (y5 : Int32) (y6 : Int32) (y7 : Int32) (l8 : Int32)  (h0 : Heap) (n0 : Nat) (Z0 : n0 ≤ h0.size) (hl0 : l8 = (0 : Int32)) :
    ConW l Z (⟨"com/example/needlewright/needlewright/CharNeedleIndexInPinLaw", "make", "(CCCCCCCCI)Ljava/lang/String;"⟩ : MethodName) method_4_code 9 (some (.object "java/lang/String")) ({ frames := 3, cells := 4, slots := 8, locals := 43 } : Room) #[(.int y0), (.int y1), (.int y2), (.int y3), (.int y4), (.int y5), (.int y6), (.int y7), (.int l8)] h0 n0 consts_1 (fun rv hv => ∃ t : Addr, ∃ b1 : Addr, ∃ f1 : Nat → Int32, rv = some (.ref t) ∧ h0.size ≤ t ∧ Keep h0 hv [] ∧ Exa Z hv t "java/lang/String" ∧ Fld Z hv t "java/lang/String" "value" "[B" (.ref b1) ∧ Fld Z hv t "java/lang/String" "coder" "B" (.int (0 : Int32)) ∧ AI Z hv b1 .byte 0 f1 ∧ t ≠ b1 ∧ (∀ q, own_bt (f1 q))) := by
  refine ConW.enter (plainFor_of_name own_pn5) Z0 ?_
  intro p e s m below meth c T0 C hnm X0 HC0
  refine Go.cast (own_ef_rm_mk0 m y0 y1 y2 y3 y4 y5 y6 y7 l8) ?_
  subst hl0
  refine Go.iload C X0 (pc' := 2) d2_0 rfl rfl ?_
  refine Go.ifNo C X0 (pc' := 5) d2_2 ((if0 _ _).trans (teq (by decide)).2) rfl ?_
  refine Go.newO C X0 (pc' := 8) (hw _ (List.mem_of_getElem? (i := 8) rfl)) (hw _ (List.mem_of_getElem? (i := 9) rfl)) (hw _ (List.mem_of_getElem? (i := 10) rfl)) d2_5 (by decide) (by decide) rfl (fun T482 h482 b482 X482 g482 E482 Ex482 D482 N482 => ?_)
  have Q482 : h0.size ≤ b482 := Nat.le_trans (Keep.refl h0 []).1 (Nat.le_of_eq g482.symm)
  have K483 : Keep h0 h482 [] := (Keep.refl h0 []).ext E482
  have F484 : Fld Z h482 b482 "java/lang/String" "coder" "B" (.int (0 : Int32)) := D482 (Or.inr (hw _ (List.mem_of_getElem? (i := 35) rfl))) (ty := .byte) (by decide)
  have F485 : Fld Z h482 b482 "java/lang/String" "value" "[B" .null := D482 (Or.inr (hw _ (List.mem_of_getElem? (i := 37) rfl))) (ty := (.array .byte)) (by decide)
  refine Go.dup C X482 (pc' := 9) d2_8 rfl rfl ?_
  refine Go.iconst C X482 (pc' := 10) (v := (0 : Int32)) d2_9 rfl rfl ?_
  refine Go.newP C X482 (pc' := 12) (nn := 0) (cap := 0) (hw _ (List.mem_of_getElem? (i := 11) rfl)) d2_10 rfl (by decide) (by decide) (by decide) (by decide) rfl (fun T486 h486 b486 k486 X486 g486 E486 Ar486 N486 => ?_)
  have ne_b482_b486 : b482 ≠ b486 := Nat.ne_of_lt (Nat.lt_of_lt_of_eq Ex482.lt g486.symm)
  have Q486 : h0.size ≤ b486 := Nat.le_trans K483.1 (Nat.le_of_eq g486.symm)
  have K487 : Keep h0 h486 [] := K483.ext E486
  have E488 := Ex482.ext E486
  have F489 := F484.ext E486
  have F490 := F485.ext E486
  have A486 : AI Z h486 b486 .char 0 (fun _ => 0) := AI.new rfl rfl Ar486
  refine Go.callIW C X486 (pc' := 15) (W := 1) (argsL := [(.ref b486)]) (rest := [(.ref b482)]) (a := b482) (rm_sc0 l Z a0 hw b482 b486 (fun _ => 0) h486 n0 X486.sz E488 F490 F489 N482 A486 ne_b482_b486) (own_ew hw) (CHv.keep K487 (fun _ q => absurd q List.not_mem_nil) HC0) rfl rfl (hw _ (List.mem_of_getElem? (i := 12) rfl)) (hw _ (List.mem_of_getElem? (i := 13) rfl)) (hw _ (List.mem_of_getElem? (i := 10) rfl)) (hw _ (List.mem_of_getElem? (i := 14) rfl)) (by decide) rfl rfl (lenOf own_pd12 rfl) rfl (Nat.le_of_eq rfl) (by decide) (by decide) (by decide) (by decide) d2_12 rfl (fun T491 h491 v491 X491 C P491 => ?_)
  obtain ⟨b1491, f1491, rfl, K491, O491_0, O491_1, O491_2, O491_3, O491_4, Y491_0⟩ := P491
  have K492 : Keep h0 h491 [] := K487.trans K491 (allS (Or.inr Q482) all0)
  have E493 := E488.keep K491
  have A494 := A486.keep K491 (ninS (Ne.symm ne_b482_b486) nin0)
  have M491_ : h491.size ≤ h491.size := Nat.le_refl _
  show Go p e below _ n0 _ _ _ T491 (mkF m 15 #[.val (.int y0), .val (.int y1), .val (.int y2), .val (.int y3), .val (.int y4), .val (.int y5), .val (.int y6), .val (.int y7), .val (.int (0 : Int32))] [(.ref b482)])
  refine Go.wide ?_
  exact Go.retA C X491 rfl d2_15 ⟨⟨b482, b1491, f1491, rfl, Q482, K492, O491_0, O491_1, O491_2, O491_3, O491_4, Y491_0⟩, M491_⟩ (by decide) (by decide)
theorem d1_0 : decode method_3_code 0 = .ok (.lload_n 0, 1) := by decide +kernel
theorem d1_1 : decode method_3_code 1 = .ok (.bipush 8, 2) := by decide +kernel
theorem d1_3 : decode method_3_code 3 = .ok (.iload_n 2, 1) := by decide +kernel
theorem d1_4 : decode method_3_code 4 = .ok (.imul, 1) := by decide +kernel
theorem d1_5 : decode method_3_code 5 = .ok (.lushr, 1) := by decide +kernel
theorem d1_6 : decode method_3_code 6 = .ok (.ldc2_w 30, 3) := by decide +kernel
theorem d1_9 : decode method_3_code 9 = .ok (.land, 1) := by decide +kernel
theorem d1_10 : decode method_3_code 10 = .ok (.l2i, 1) := by decide +kernel
theorem d1_11 : decode method_3_code 11 = .ok (.istore 4, 2) := by decide +kernel
theorem d1_13 : decode method_3_code 13 = .ok (.iload_n 3, 1) := by decide +kernel
theorem d1_14 : decode method_3_code 14 = .ok (.ifCond .eq 9, 3) := by decide +kernel
theorem d1_23 : decode method_3_code 23 = .ok (.bipush 97, 2) := by decide +kernel
theorem d1_25 : decode method_3_code 25 = .ok (.iload 4, 2) := by decide +kernel
theorem d1_27 : decode method_3_code 27 = .ok (.iconst 1, 1) := by decide +kernel
theorem d1_28 : decode method_3_code 28 = .ok (.iand, 1) := by decide +kernel
theorem d1_29 : decode method_3_code 29 = .ok (.iadd, 1) := by decide +kernel
theorem d1_30 : decode method_3_code 30 = .ok (.i2c, 1) := by decide +kernel
theorem d1_31 : decode method_3_code 31 = .ok (.ireturn, 1) := by decide +kernel
theorem d1_17 : decode method_3_code 17 = .ok (.iload 4, 2) := by decide +kernel
theorem d1_19 : decode method_3_code 19 = .ok (.i2c, 1) := by decide +kernel
theorem d1_20 : decode method_3_code 20 = .ok (.goto 11, 3) := by decide +kernel
def own_f_rm_ch (y0 : Int64) (y1 : Int32) (y2 : Int32) : Int32 := (if y2 = (0 : Int32) then ((((97 : Int32) + (((((y0).toUInt64 >>> (((8 : Int32) * y1) &&& 0x3f).toInt64.toUInt64).toInt64 &&& (255 : Int64))).toInt32 &&& (1 : Int32)))).toUInt32.toUInt16.toUInt32.toInt32).toUInt32.toUInt16.toUInt32.toInt32 else ((((((y0).toUInt64 >>> (((8 : Int32) * y1) &&& 0x3f).toInt64.toUInt64).toInt64 &&& (255 : Int64))).toInt32).toUInt32.toUInt16.toUInt32.toInt32).toUInt32.toUInt16.toUInt32.toInt32)
theorem own_ef_rm_ch (m : MethodId) (x0 : Int64) (x1 : Int32) (x2 : Int32) : entryFrame m #[(.long x0), (.int x1), (.int x2)] 5 = mkF m 0 #[.val (.long x0), .second, .val (.int x1), .val (.int x2), .unset] [] := by first | (simp [entryFrame, mkF, argsToLocals, Value.category]; done) | rfl
set_option maxRecDepth 65536 in
set_option maxHeartbeats 40000000 in
theorem rm_ch (l : Launch) (Z : State) (a0 : Array Value) (hw : ∀ d ∈ tables_1, d.before a0 Z = true) (y0 : Int64) (y1 : Int32) (y2 : Int32) (h0 : Heap) (n0 : Nat) (Z0 : n0 ≤ h0.size)  :
    Con l Z (⟨"com/example/needlewright/needlewright/CharNeedleIndexInPinLaw", "ch", "(JIZ)C"⟩ : MethodName) method_3_code 5 (some .char) ({ frames := 0, cells := 0, slots := 0, locals := 0 } : Room) #[(.long y0), (.int y1), (.int y2)] h0 n0 (fun rv hv => rv = some (.int (own_f_rm_ch y0 y1 y2)) ∧ h0 = hv) := by
  refine Con.enter (plainFor_of_name own_pn5) Z0 ?_
  intro p e s m below meth c T0 C hnm X0
  refine Go.cast (own_ef_rm_ch m y0 y1 y2) ?_
  refine Go.lloadN C X0 (pc' := 1) d1_0 rfl rfl ?_
  refine Go.bipush C X0 (pc' := 3) (v := (8 : Int32)) d1_1 rfl rfl ?_
  refine Go.iloadN C X0 (pc' := 4) d1_3 rfl rfl ?_
  refine Go.imul C X0 (pc' := 5) d1_4 rfl ?_
  refine Go.lushr C X0 (pc' := 6) d1_5 rfl ?_
  refine Go.ldc2 C X0 (pc' := 9) (hw _ (List.mem_of_getElem? (i := 4) rfl)) d1_6 rfl ?_
  refine Go.land C X0 (pc' := 10) d1_9 rfl ?_
  refine Go.l2i C X0 (pc' := 11) d1_10 rfl ?_
  refine Go.istore C X0 (pc' := 13) (Ls' := #[.val (.long y0), .second, .val (.int y1), .val (.int y2), .val (.int ((((y0).toUInt64 >>> (((8 : Int32) * y1) &&& 0x3f).toInt64.toUInt64).toInt64 &&& (255 : Int64))).toInt32)]) d1_11 rfl rfl ?_
  refine Go.iloadN C X0 (pc' := 14) d1_13 rfl rfl ?_
  by_cases c496 : y2 = (0 : Int32)
  · refine Go.ifYes C X0 (pc' := 23) d1_14 ((if0 _ _).trans (teq c496).1) (by decide) (by decide) ?_
    refine Go.bipush C X0 (pc' := 25) (v := (97 : Int32)) d1_23 rfl rfl ?_
    refine Go.iload C X0 (pc' := 27) d1_25 rfl rfl ?_
    refine Go.iconst C X0 (pc' := 28) (v := (1 : Int32)) d1_27 rfl rfl ?_
    refine Go.iand C X0 (pc' := 29) d1_28 rfl ?_
    refine Go.iadd C X0 (pc' := 30) d1_29 rfl ?_
    refine Go.i2c C X0 (pc' := 31) d1_30 rfl ?_
    exact Go.retZ (t := .char) C X0 (z' := ((((97 : Int32) + (((((y0).toUInt64 >>> (((8 : Int32) * y1) &&& 0x3f).toInt64.toUInt64).toInt64 &&& (255 : Int64))).toInt32 &&& (1 : Int32)))).toUInt32.toUInt16.toUInt32.toInt32).toUInt32.toUInt16.toUInt32.toInt32) rfl d1_31 ⟨by show some (Value.int ((((97 : Int32) + (((((y0).toUInt64 >>> (((8 : Int32) * y1) &&& 0x3f).toInt64.toUInt64).toInt64 &&& (255 : Int64))).toInt32 &&& (1 : Int32)))).toUInt32.toUInt16.toUInt32.toInt32).toUInt32.toUInt16.toUInt32.toInt32) = some (Value.int (own_f_rm_ch y0 y1 y2)); unfold own_f_rm_ch; rw [if_pos c496], rfl⟩ (by decide) (by decide)
  · refine Go.ifNo C X0 (pc' := 17) d1_14 ((if0 _ _).trans (feq c496).1) rfl ?_
    refine Go.iload C X0 (pc' := 19) d1_17 rfl rfl ?_
    refine Go.i2c C X0 (pc' := 20) d1_19 rfl ?_
    refine Go.goto C X0 (pc' := 31) d1_20 (by decide) (by decide) ?_
    exact Go.retZ (t := .char) C X0 (z' := ((((((y0).toUInt64 >>> (((8 : Int32) * y1) &&& 0x3f).toInt64.toUInt64).toInt64 &&& (255 : Int64))).toInt32).toUInt32.toUInt16.toUInt32.toInt32).toUInt32.toUInt16.toUInt32.toInt32) rfl d1_31 ⟨by show some (Value.int ((((((y0).toUInt64 >>> (((8 : Int32) * y1) &&& 0x3f).toInt64.toUInt64).toInt64 &&& (255 : Int64))).toInt32).toUInt32.toUInt16.toUInt32.toInt32).toUInt32.toUInt16.toUInt32.toInt32) = some (Value.int (own_f_rm_ch y0 y1 y2)); unfold own_f_rm_ch; rw [if_neg c496], rfl⟩ (by decide) (by decide)
theorem d21_0 : decode jdk_29_method_65_code 0 = .ok (.iload_n 0, 1) := by decide +kernel
theorem d21_1 : decode jdk_29_method_65_code 1 = .ok (.iload_n 1, 1) := by decide +kernel
theorem d21_2 : decode jdk_29_method_65_code 2 = .ok (.if_icmp .lt 7, 3) := by decide +kernel
theorem d21_9 : decode jdk_29_method_65_code 9 = .ok (.iload_n 1, 1) := by decide +kernel
theorem d21_10 : decode jdk_29_method_65_code 10 = .ok (.ireturn, 1) := by decide +kernel
theorem d21_5 : decode jdk_29_method_65_code 5 = .ok (.iload_n 0, 1) := by decide +kernel
theorem d21_6 : decode jdk_29_method_65_code 6 = .ok (.goto 4, 3) := by decide +kernel
def own_f_rm_mx (y0 : Int32) (y1 : Int32) : Int32 := (if y0 < y1 then y1 else y0)
theorem own_pn6 : plainFor (⟨"java/lang/Math", "max", "(II)I"⟩ : MethodName) = true := by decide +kernel
theorem own_ef_rm_mx (m : MethodId) (x0 : Int32) (x1 : Int32) : entryFrame m #[(.int x0), (.int x1)] 2 = mkF m 0 #[.val (.int x0), .val (.int x1)] [] := by first | (simp [entryFrame, mkF, argsToLocals, Value.category]; done) | rfl
set_option maxRecDepth 65536 in
set_option maxHeartbeats 40000000 in
theorem rm_mx (l : Launch) (Z : State) (a0 : Array Value) (hw : ∀ d ∈ tables_1, d.before a0 Z = true) (y0 : Int32) (y1 : Int32) (h0 : Heap) (n0 : Nat) (Z0 : n0 ≤ h0.size)  :
    Con l Z (⟨"java/lang/Math", "max", "(II)I"⟩ : MethodName) jdk_29_method_65_code 2 (some .int) ({ frames := 0, cells := 0, slots := 0, locals := 0 } : Room) #[(.int y0), (.int y1)] h0 n0 (fun rv hv => rv = some (.int (own_f_rm_mx y0 y1)) ∧ h0 = hv) := by
  refine Con.enter own_pn6 Z0 ?_
  intro p e s m below meth c T0 C hnm X0
  refine Go.cast (own_ef_rm_mx m y0 y1) ?_
  refine Go.iloadN C X0 (pc' := 1) d21_0 rfl rfl ?_
  refine Go.iloadN C X0 (pc' := 2) d21_1 rfl rfl ?_
  by_cases c498 : y0 < y1
  · refine Go.icmpYes C X0 (pc' := 9) d21_2 (tlt c498).1 (by decide) (by decide) ?_
    refine Go.iloadN C X0 (pc' := 10) d21_9 rfl rfl ?_
    exact Go.retI C X0 d21_10 ⟨by show some (Value.int y1) = some (Value.int (own_f_rm_mx y0 y1)); unfold own_f_rm_mx; rw [if_pos c498], rfl⟩ (by decide) (by decide)
  · refine Go.icmpNo C X0 (pc' := 5) d21_2 (flt c498).1 rfl ?_
    refine Go.iloadN C X0 (pc' := 6) d21_5 rfl rfl ?_
    refine Go.goto C X0 (pc' := 10) d21_6 (by decide) (by decide) ?_
    exact Go.retI C X0 d21_10 ⟨by show some (Value.int y0) = some (Value.int (own_f_rm_mx y0 y1)); unfold own_f_rm_mx; rw [if_neg c498], rfl⟩ (by decide) (by decide)
theorem d29_0 : decode jdk_29_method_69_code 0 = .ok (.iload_n 0, 1) := by decide +kernel
theorem d29_1 : decode jdk_29_method_69_code 1 = .ok (.iload_n 1, 1) := by decide +kernel
theorem d29_2 : decode jdk_29_method_69_code 2 = .ok (.if_icmp .gt 7, 3) := by decide +kernel
theorem d29_9 : decode jdk_29_method_69_code 9 = .ok (.iload_n 1, 1) := by decide +kernel
theorem d29_10 : decode jdk_29_method_69_code 10 = .ok (.ireturn, 1) := by decide +kernel
theorem d29_5 : decode jdk_29_method_69_code 5 = .ok (.iload_n 0, 1) := by decide +kernel
theorem d29_6 : decode jdk_29_method_69_code 6 = .ok (.goto 4, 3) := by decide +kernel
def own_f_rm_mn (y0 : Int32) (y1 : Int32) : Int32 := (if y1 < y0 then y1 else y0)
theorem own_pn7 : plainFor (⟨"java/lang/Math", "min", "(II)I"⟩ : MethodName) = true := by decide +kernel
theorem own_ef_rm_mn (m : MethodId) (x0 : Int32) (x1 : Int32) : entryFrame m #[(.int x0), (.int x1)] 2 = mkF m 0 #[.val (.int x0), .val (.int x1)] [] := by first | (simp [entryFrame, mkF, argsToLocals, Value.category]; done) | rfl
set_option maxRecDepth 65536 in
set_option maxHeartbeats 40000000 in
theorem rm_mn (l : Launch) (Z : State) (a0 : Array Value) (hw : ∀ d ∈ tables_1, d.before a0 Z = true) (y0 : Int32) (y1 : Int32) (h0 : Heap) (n0 : Nat) (Z0 : n0 ≤ h0.size)  :
    Con l Z (⟨"java/lang/Math", "min", "(II)I"⟩ : MethodName) jdk_29_method_69_code 2 (some .int) ({ frames := 0, cells := 0, slots := 0, locals := 0 } : Room) #[(.int y0), (.int y1)] h0 n0 (fun rv hv => rv = some (.int (own_f_rm_mn y0 y1)) ∧ h0 = hv) := by
  refine Con.enter own_pn7 Z0 ?_
  intro p e s m below meth c T0 C hnm X0
  refine Go.cast (own_ef_rm_mn m y0 y1) ?_
  refine Go.iloadN C X0 (pc' := 1) d29_0 rfl rfl ?_
  refine Go.iloadN C X0 (pc' := 2) d29_1 rfl rfl ?_
  by_cases c500 : y1 < y0
  · refine Go.icmpYes C X0 (pc' := 9) d29_2 (tlt c500).2.2.1 (by decide) (by decide) ?_
    refine Go.iloadN C X0 (pc' := 10) d29_9 rfl rfl ?_
    exact Go.retI C X0 d29_10 ⟨by show some (Value.int y1) = some (Value.int (own_f_rm_mn y0 y1)); unfold own_f_rm_mn; rw [if_pos c500], rfl⟩ (by decide) (by decide)
  · refine Go.icmpNo C X0 (pc' := 5) d29_2 (flt c500).2.2.1 rfl ?_
    refine Go.iloadN C X0 (pc' := 6) d29_5 rfl rfl ?_
    refine Go.goto C X0 (pc' := 10) d29_6 (by decide) (by decide) ?_
    exact Go.retI C X0 d29_10 ⟨by show some (Value.int y0) = some (Value.int (own_f_rm_mn y0 y1)); unfold own_f_rm_mn; rw [if_neg c500], rfl⟩ (by decide) (by decide)
theorem own_ef_rm_ce (m : MethodId) (x0 : Int32) : entryFrame m #[(.int x0)] 1 = mkF m 0 #[.val (.int x0)] [] := by first | (simp [entryFrame, mkF, argsToLocals, Value.category]; done) | rfl
theorem d28_0 : decode jdk_43_method_4_code 0 = .ok (.iload_n 0, 1) := by decide +kernel
theorem d28_1 : decode jdk_43_method_4_code 1 = .ok (.ifCond .lt 14, 3) := by decide +kernel
theorem d28_4 : decode jdk_43_method_4_code 4 = .ok (.iload_n 0, 1) := by decide +kernel
theorem d28_5 : decode jdk_43_method_4_code 5 = .ok (.sipush 255, 3) := by decide +kernel
theorem d28_8 : decode jdk_43_method_4_code 8 = .ok (.if_icmp .gt 7, 3) := by decide +kernel
theorem d28_11 : decode jdk_43_method_4_code 11 = .ok (.iconst 1, 1) := by decide +kernel
theorem d28_12 : decode jdk_43_method_4_code 12 = .ok (.goto 4, 3) := by decide +kernel
theorem d28_16 : decode jdk_43_method_4_code 16 = .ok (.ireturn, 1) := by decide +kernel
set_option maxRecDepth 65536 in
set_option maxHeartbeats 40000000 in
theorem rm_ce (l : Launch) (Z : State) (a0 : Array Value) (hw : ∀ d ∈ tables_1, d.before a0 Z = true) (y0 : Int32)  (h0 : Heap) (n0 : Nat) (Z0 : n0 ≤ h0.size) (hc : 0 ≤ y0.toInt ∧ y0.toInt ≤ 255) :
    Con l Z (⟨"java/lang/StringLatin1", "canEncode", "(I)Z"⟩ : MethodName) jdk_43_method_4_code 1 (some .boolean) ({ frames := 0, cells := 0, slots := 0, locals := 0 } : Room) #[(.int y0)] h0 n0 (fun rv hv => rv = some (.int (1 : Int32)) ∧ h0 = hv) := by
  refine Con.enter (plainFor_of_name own_pn3) Z0 ?_
  intro p e s m below meth c T0 C hnm X0
  refine Go.cast (own_ef_rm_ce m y0) ?_
  refine Go.iloadN C X0 (pc' := 1) d28_0 rfl rfl ?_
  refine Go.ifNo C X0 (pc' := 4) d28_1 ((if0 _ _).trans (flt (fun q => by have := own_ilt.mp q; have e : (0 : Int32).toInt = 0 := rfl; omega)).1) rfl ?_
  refine Go.iloadN C X0 (pc' := 5) d28_4 rfl rfl ?_
  refine Go.sipush C X0 (pc' := 8) (v := (255 : Int32)) d28_5 rfl rfl ?_
  refine Go.icmpNo C X0 (pc' := 11) d28_8 (flt (own_n255 hc)).2.2.1 rfl ?_
  refine Go.iconst C X0 (pc' := 12) (v := (1 : Int32)) d28_11 rfl rfl ?_
  refine Go.goto C X0 (pc' := 16) d28_12 (by decide) (by decide) ?_
  exact Go.retZ (t := .boolean) C X0 (z' := (1 : Int32)) (by decide) d28_16 ⟨rfl, rfl⟩ (by decide) (by decide)
theorem own_more {f : Nat → Int32} {x : Int32} {a i : Nat} (h : ∀ q, a ≤ q → q < i → ¬ f q = x) (hi : ¬ f i = x) : ∀ q, a ≤ q → q < i + 1 → ¬ f q = x := fun q h1 h2 => by
  by_cases e : q = i
  · rw [e]; exact hi
  · exact h q h1 (by omega)
theorem own_ef_rm_ic (m : MethodId) (x0 : Addr) (x1 : Int32) (x2 : Int32) (x3 : Int32) : entryFrame m #[(.ref x0), (.int x1), (.int x2), (.int x3)] 6 = mkF m 0 #[.val (.ref x0), .val (.int x1), .val (.int x2), .val (.int x3), .unset, .unset] [] := by first | (simp [entryFrame, mkF, argsToLocals, Value.category]; done) | rfl
theorem d30_0 : decode jdk_43_method_23_code 0 = .ok (.iload_n 1, 1) := by decide +kernel
theorem d30_1 : decode jdk_43_method_23_code 1 = .ok (.i2b, 1) := by decide +kernel
theorem d30_2 : decode jdk_43_method_23_code 2 = .ok (.istore 4, 2) := by decide +kernel
theorem d30_4 : decode jdk_43_method_23_code 4 = .ok (.iload_n 2, 1) := by decide +kernel
theorem d30_5 : decode jdk_43_method_23_code 5 = .ok (.istore 5, 2) := by decide +kernel
theorem d30_7 : decode jdk_43_method_23_code 7 = .ok (.iload 5, 2) := by decide +kernel
theorem d30_9 : decode jdk_43_method_23_code 9 = .ok (.iload_n 3, 1) := by decide +kernel
theorem d30_10 : decode jdk_43_method_23_code 10 = .ok (.if_icmp .ge 21, 3) := by decide +kernel
theorem d30_13 : decode jdk_43_method_23_code 13 = .ok (.aload_n 0, 1) := by decide +kernel
theorem d30_14 : decode jdk_43_method_23_code 14 = .ok (.iload 5, 2) := by decide +kernel
theorem d30_16 : decode jdk_43_method_23_code 16 = .ok (.baload, 1) := by decide +kernel
theorem d30_17 : decode jdk_43_method_23_code 17 = .ok (.iload 4, 2) := by decide +kernel
theorem d30_19 : decode jdk_43_method_23_code 19 = .ok (.if_icmp .ne 6, 3) := by decide +kernel
theorem d30_22 : decode jdk_43_method_23_code 22 = .ok (.iload 5, 2) := by decide +kernel
theorem d30_24 : decode jdk_43_method_23_code 24 = .ok (.ireturn, 1) := by decide +kernel
theorem d30_25 : decode jdk_43_method_23_code 25 = .ok (.iinc 5 1, 3) := by decide +kernel
theorem d30_28 : decode jdk_43_method_23_code 28 = .ok (.goto (-21), 3) := by decide +kernel
theorem d30_31 : decode jdk_43_method_23_code 31 = .ok (.iconst (-1), 1) := by decide +kernel
theorem d30_32 : decode jdk_43_method_23_code 32 = .ok (.ireturn, 1) := by decide +kernel
set_option maxRecDepth 65536 in
set_option maxHeartbeats 40000000 in
theorem rm_ic (l : Launch) (Z : State) (a0 : Array Value) (hw : ∀ d ∈ tables_1, d.before a0 Z = true) (b : Addr) (ch : Int32) (fr : Int32) (mx : Int32) (n : Nat) (f : Nat → Int32) (ff : Nat) (h0 : Heap) (n0 : Nat) (Z0 : n0 ≤ h0.size) (f0 : AI Z h0 b .byte n f) (hf : fr.toInt = (ff : Int)) (hm : mx.toInt = (n : Int)) (hn8 : n ≤ 8) :
    Con l Z (⟨"java/lang/StringLatin1", "indexOfChar", "([BIII)I"⟩ : MethodName) jdk_43_method_23_code 6 (some .int) ({ frames := 0, cells := 0, slots := 0, locals := 0 } : Room) #[(.ref b), (.int ch), (.int fr), (.int mx)] h0 n0 (fun rv hv => ∃ r : Int32, rv = some (.int r) ∧ h0 = hv ∧ (own_io f ((ch).toInt8.toInt32) ff n r)) := by
  refine Con.enter (plainFor_of_name own_pn3) Z0 ?_
  intro p e s m below meth c T0 C hnm X0
  refine Go.cast (own_ef_rm_ic m b ch fr mx) ?_
  refine Go.iloadN C X0 (pc' := 1) d30_0 rfl rfl ?_
  refine Go.i2b C X0 (pc' := 2) d30_1 rfl ?_
  refine Go.istore C X0 (pc' := 4) (Ls' := #[.val (.ref b), .val (.int ch), .val (.int fr), .val (.int mx), .val (.int (ch).toInt8.toInt32), .unset]) d30_2 rfl rfl ?_
  refine Go.iloadN C X0 (pc' := 5) d30_4 rfl rfl ?_
  refine Go.istore C X0 (pc' := 7) (Ls' := #[.val (.ref b), .val (.int ch), .val (.int fr), .val (.int mx), .val (.int (ch).toInt8.toInt32), .val (.int fr)]) d30_5 rfl rfl ?_
  have Cut7 : ∀ (fuel : Nat) (T_7 : State) (ii : Nat) (u5 : Int32), (n - ii) < fuel → (u5.toInt = (ii : Int)) → (ff ≤ ii) → (∀ q, ff ≤ q → q < ii → ¬ f q = ((ch).toInt8.toInt32)) → On p l e ({ frames := 0, cells := 0, slots := 0, locals := 0 } : Room) s m #[(.ref b), (.int ch), (.int fr), (.int mx)] below meth c n0 T_7 h0 0 0 → Go p e below (FrameEnd s) n0 (({ frames := 0, cells := 0, slots := 0, locals := 0 } : Room)).cells (({ frames := 0, cells := 0, slots := 0, locals := 0 } : Room)).slots (fun rv hv => ∃ r : Int32, rv = some (.int r) ∧ h0 = hv ∧ (own_io f ((ch).toInt8.toInt32) ff n r)) T_7 (mkF m 7 #[.val (.ref b), .val (.int ch), .val (.int fr), .val (.int mx), .val (.int (ch).toInt8.toInt32), .val (.int u5)] []) := by
    intro fuel
    induction fuel with
    | zero => intro T_7 ii u5 hM_7 h5 hlo hno X_7; exact absurd hM_7 (Nat.not_lt_zero _)
    | succ fuel ih_7 =>
      intro T_7 ii u5 hM_7 h5 hlo hno X_7
      refine Go.iload C X_7 (pc' := 9) d30_7 rfl rfl ?_
      refine Go.iloadN C X_7 (pc' := 10) d30_9 rfl rfl ?_
      by_cases c501 : u5 < mx
      · refine Go.icmpNo C X_7 (pc' := 13) d30_10 (tlt c501).2.1 rfl ?_
        refine Go.aloadN C X_7 (pc' := 14) d30_13 rfl rfl rfl ?_
        refine Go.iload C X_7 (pc' := 16) d30_14 rfl rfl ?_
        refine Go.baload C X_7 (pc' := 17) (i := ii) (w := (f ii)) f0 h5 (show ii < n by have := own_ilt.mp c501; omega) rfl d30_16 rfl ?_
        refine Go.iload C X_7 (pc' := 19) d30_17 rfl rfl ?_
        by_cases c502 : (f ii) = (ch).toInt8.toInt32
        · refine Go.icmpNo C X_7 (pc' := 22) d30_19 (teq c502).2 rfl ?_
          refine Go.iload C X_7 (pc' := 24) d30_22 rfl rfl ?_
          exact Go.retI C X_7 d30_24 ⟨u5, rfl, rfl, (Or.inl ⟨ii, h5, hlo, (show ii < n by have := own_ilt.mp c501; omega), c502, hno⟩)⟩ (by decide) (by decide)
        · refine Go.icmpYes C X_7 (pc' := 25) d30_19 (feq c502).2 (by decide) (by decide) ?_
          refine Go.iinc C X_7 (pc' := 28) (Ls' := #[.val (.ref b), .val (.int ch), .val (.int fr), .val (.int mx), .val (.int (ch).toInt8.toInt32), .val (.int (u5 + (1 : Int32)))]) (v' := (u5 + (1 : Int32))) d30_25 rfl rfl rfl rfl ?_
          refine Go.goto C X_7 (pc' := 7) d30_28 (by decide) (by decide) ?_
          exact ih_7 T_7 (ii + 1) (u5 + (1 : Int32)) (by have := (show ii < n by have := own_ilt.mp c501; omega); omega) (own_up1 h5 (by have := (show ii < n by have := own_ilt.mp c501; omega); omega)) (by omega) (own_more hno c502) X_7
      · refine Go.icmpYes C X_7 (pc' := 31) d30_10 (flt c501).2.1 (by decide) (by decide) ?_
        refine Go.iconst C X_7 (pc' := 32) (v := (-1 : Int32)) d30_31 rfl rfl ?_
        exact Go.retI C X_7 d30_32 ⟨(-1 : Int32), rfl, rfl, (Or.inr ⟨rfl, fun q a d => hno q a (by have := own_nilt c501; omega)⟩)⟩ (by decide) (by decide)
  exact Cut7 (_) T0 ff fr (Nat.lt_succ_self _) hf (Nat.le_refl _) (fun q a b => absurd (Nat.lt_of_lt_of_le b a) (Nat.lt_irrefl _)) X0
theorem own_mx0 {x : Int32} {k : Nat} (h : x.toInt = (k : Int)) : own_f_rm_mx x (0 : Int32) = x := by
  have e : (0 : Int32).toInt = 0 := rfl
  unfold own_f_rm_mx
  rw [if_neg (fun q => by have := own_ilt.mp q; omega)]
theorem own_mns (x : Int32) : own_f_rm_mn x x = x := by
  unfold own_f_rm_mn
  rw [if_neg (fun q => absurd (own_ilt.mp q) (Int.lt_irrefl _))]
theorem own_mxn (x : Int32) : (own_f_rm_mx x (0 : Int32)).toInt = (((own_f_rm_mx x (0 : Int32)).toInt.toNat : Nat) : Int) := by
  have e : (0 : Int32).toInt = 0 := rfl
  unfold own_f_rm_mx
  by_cases h : x < (0 : Int32)
  · rw [if_pos h]; rfl
  · rw [if_neg h]; have := own_nilt h; omega
theorem own_ef_rm_lo (m : MethodId) (x0 : Addr) (x1 : Int32) (x2 : Int32) (x3 : Int32) : entryFrame m #[(.ref x0), (.int x1), (.int x2), (.int x3)] 4 = mkF m 0 #[.val (.ref x0), .val (.int x1), .val (.int x2), .val (.int x3)] [] := by first | (simp [entryFrame, mkF, argsToLocals, Value.category]; done) | rfl
theorem d27_0 : decode jdk_43_method_22_code 0 = .ok (.iload_n 1, 1) := by decide +kernel
theorem d27_1 : decode jdk_43_method_22_code 1 = .ok (.invokestatic 88, 3) := by decide +kernel
theorem own_pd13 : parseMethodDescriptor "(I)Z" = some ⟨[.int], some .boolean⟩ := by decide +kernel
theorem d27_4 : decode jdk_43_method_22_code 4 = .ok (.ifCond .ne 5, 3) := by decide +kernel
theorem d27_9 : decode jdk_43_method_22_code 9 = .ok (.iload_n 2, 1) := by decide +kernel
theorem d27_10 : decode jdk_43_method_22_code 10 = .ok (.iconst 0, 1) := by decide +kernel
theorem d27_11 : decode jdk_43_method_22_code 11 = .ok (.invokestatic 92, 3) := by decide +kernel
theorem d27_14 : decode jdk_43_method_22_code 14 = .ok (.istore_n 2, 1) := by decide +kernel
theorem d27_15 : decode jdk_43_method_22_code 15 = .ok (.iload_n 3, 1) := by decide +kernel
theorem d27_16 : decode jdk_43_method_22_code 16 = .ok (.aload_n 0, 1) := by decide +kernel
theorem d27_17 : decode jdk_43_method_22_code 17 = .ok (.arraylength, 1) := by decide +kernel
theorem d27_18 : decode jdk_43_method_22_code 18 = .ok (.invokestatic 38, 3) := by decide +kernel
theorem d27_21 : decode jdk_43_method_22_code 21 = .ok (.istore_n 3, 1) := by decide +kernel
theorem d27_22 : decode jdk_43_method_22_code 22 = .ok (.iload_n 2, 1) := by decide +kernel
theorem d27_23 : decode jdk_43_method_22_code 23 = .ok (.iload_n 3, 1) := by decide +kernel
theorem d27_24 : decode jdk_43_method_22_code 24 = .ok (.if_icmp .lt 5, 3) := by decide +kernel
theorem d27_29 : decode jdk_43_method_22_code 29 = .ok (.aload_n 0, 1) := by decide +kernel
theorem d27_30 : decode jdk_43_method_22_code 30 = .ok (.iload_n 1, 1) := by decide +kernel
theorem d27_31 : decode jdk_43_method_22_code 31 = .ok (.iload_n 2, 1) := by decide +kernel
theorem d27_32 : decode jdk_43_method_22_code 32 = .ok (.iload_n 3, 1) := by decide +kernel
theorem d27_33 : decode jdk_43_method_22_code 33 = .ok (.invokestatic 95, 3) := by decide +kernel
theorem own_pd14 : parseMethodDescriptor "([BIII)I" = some ⟨[(.array .byte), .int, .int, .int], some .int⟩ := by decide +kernel
theorem d27_36 : decode jdk_43_method_22_code 36 = .ok (.ireturn, 1) := by decide +kernel
theorem d27_27 : decode jdk_43_method_22_code 27 = .ok (.iconst (-1), 1) := by decide +kernel
theorem d27_28 : decode jdk_43_method_22_code 28 = .ok (.ireturn, 1) := by decide +kernel
set_option maxRecDepth 65536 in
set_option maxHeartbeats 40000000 in
theorem rm_lo (l : Launch) (Z : State) (a0 : Array Value) (hw : ∀ d ∈ tables_1, d.before a0 Z = true) (b : Addr) (ch : Int32) (fr : Int32) (z : Int32) (n : Nat) (f : Nat → Int32) (ff : Nat) (h0 : Heap) (n0 : Nat) (Z0 : n0 ≤ h0.size) (f0 : AI Z h0 b .byte n f) (hz : z.toInt = (n : Int)) (hn8 : n ≤ 8) (hf : fr.toInt = (ff : Int)) (hc : 0 ≤ ch.toInt ∧ ch.toInt ≤ 255) :
    Con l Z (⟨"java/lang/StringLatin1", "indexOf", "([BIII)I"⟩ : MethodName) jdk_43_method_22_code 4 (some .int) ({ frames := 1, cells := 0, slots := 0, locals := 17 } : Room) #[(.ref b), (.int ch), (.int fr), (.int z)] h0 n0 (fun rv hv => ∃ r : Int32, rv = some (.int r) ∧ h0 = hv ∧ (own_io f ((ch).toInt8.toInt32) ff n r)) := by
  refine Con.enter (plainFor_of_name own_pn3) Z0 ?_
  intro p e s m below meth c T0 C hnm X0
  refine Go.cast (own_ef_rm_lo m b ch fr z) ?_
  refine Go.iloadN C X0 (pc' := 1) d27_0 rfl rfl ?_
  refine Go.callS C X0 (pc' := 4) (W := 0) (argsL := [(.int ch)]) (rest := []) (rm_ce l Z a0 hw ch  h0 n0 X0.sz hc) (hw _ (List.mem_of_getElem? (i := 157) rfl)) (hw _ (List.mem_of_getElem? (i := 158) rfl)) (hw _ (List.mem_of_getElem? (i := 71) rfl)) (hw _ (List.mem_of_getElem? (i := 159) rfl)) (by decide) rfl rfl (lenOf own_pd13 rfl) rfl (Nat.le_of_eq rfl) (by decide) (by decide) (by decide) (by decide) d27_1 rfl (fun _ _ q => Nat.le_of_eq (congrArg Array.size q.2)) (fun T503 h503 v503 X503 P503 => ?_)
  obtain ⟨rfl, rfl⟩ := P503
  show Go p e below _ n0 _ _ _ T503 (mkF m 4 #[.val (.ref b), .val (.int ch), .val (.int fr), .val (.int z)] [(.int (1 : Int32))])
  refine Go.ifYes C X503 (pc' := 9) d27_4 ((if0 _ _).trans (feq (by decide)).2) (by decide) (by decide) ?_
  refine Go.iloadN C X503 (pc' := 10) d27_9 rfl rfl ?_
  refine Go.iconst C X503 (pc' := 11) (v := (0 : Int32)) d27_10 rfl rfl ?_
  refine Go.callS C X503 (pc' := 14) (W := 0) (argsL := [(.int fr), (.int (0 : Int32))]) (rest := []) (rm_mx l Z a0 hw fr (0 : Int32) h0 n0 X503.sz ) (hw _ (List.mem_of_getElem? (i := 160) rfl)) (hw _ (List.mem_of_getElem? (i := 110) rfl)) (hw _ (List.mem_of_getElem? (i := 111) rfl)) (hw _ (List.mem_of_getElem? (i := 112) rfl)) (by decide) rfl rfl (lenOf own_pd1 rfl) rfl (Nat.le_of_eq rfl) (by decide) (by decide) (by decide) (by decide) d27_11 rfl (fun _ _ q => Nat.le_of_eq (congrArg Array.size q.2)) (fun T504 h504 v504 X504 P504 => ?_)
  obtain ⟨rfl, rfl⟩ := P504
  show Go p e below _ n0 _ _ _ T504 (mkF m 14 #[.val (.ref b), .val (.int ch), .val (.int fr), .val (.int z)] [(.int (own_f_rm_mx fr (0 : Int32)))])
  refine Go.istoreN C X504 (pc' := 15) (Ls' := #[.val (.ref b), .val (.int ch), .val (.int (own_f_rm_mx fr (0 : Int32))), .val (.int z)]) d27_14 rfl rfl ?_
  rw [show (own_f_rm_mx fr (0 : Int32)) = fr from own_mx0 hf]
  refine Go.iloadN C X504 (pc' := 16) d27_15 rfl rfl ?_
  refine Go.aloadN C X504 (pc' := 17) d27_16 rfl rfl rfl ?_
  refine Go.alenI C X504 (pc' := 18) (z := z) f0 hz d27_17 rfl ?_
  refine Go.callS C X504 (pc' := 21) (W := 0) (argsL := [(.int z), (.int z)]) (rest := []) (rm_mn l Z a0 hw z z h0 n0 X504.sz ) (hw _ (List.mem_of_getElem? (i := 161) rfl)) (hw _ (List.mem_of_getElem? (i := 162) rfl)) (hw _ (List.mem_of_getElem? (i := 111) rfl)) (hw _ (List.mem_of_getElem? (i := 163) rfl)) (by decide) rfl rfl (lenOf own_pd1 rfl) rfl (Nat.le_of_eq rfl) (by decide) (by decide) (by decide) (by decide) d27_18 rfl (fun _ _ q => Nat.le_of_eq (congrArg Array.size q.2)) (fun T505 h505 v505 X505 P505 => ?_)
  obtain ⟨rfl, rfl⟩ := P505
  show Go p e below _ n0 _ _ _ T505 (mkF m 21 #[.val (.ref b), .val (.int ch), .val (.int fr), .val (.int z)] [(.int (own_f_rm_mn z z))])
  refine Go.istoreN C X505 (pc' := 22) (Ls' := #[.val (.ref b), .val (.int ch), .val (.int fr), .val (.int (own_f_rm_mn z z))]) d27_21 rfl rfl ?_
  rw [show (own_f_rm_mn z z) = z from own_mns z]
  refine Go.iloadN C X505 (pc' := 23) d27_22 rfl rfl ?_
  refine Go.iloadN C X505 (pc' := 24) d27_23 rfl rfl ?_
  by_cases c506 : fr < z
  · refine Go.icmpYes C X505 (pc' := 29) d27_24 (tlt c506).1 (by decide) (by decide) ?_
    refine Go.aloadN C X505 (pc' := 30) d27_29 rfl rfl rfl ?_
    refine Go.iloadN C X505 (pc' := 31) d27_30 rfl rfl ?_
    refine Go.iloadN C X505 (pc' := 32) d27_31 rfl rfl ?_
    refine Go.iloadN C X505 (pc' := 33) d27_32 rfl rfl ?_
    refine Go.callS C X505 (pc' := 36) (W := 0) (argsL := [(.ref b), (.int ch), (.int fr), (.int z)]) (rest := []) (rm_ic l Z a0 hw b ch fr z n f ff h0 n0 X505.sz f0 hf hz hn8) (hw _ (List.mem_of_getElem? (i := 164) rfl)) (hw _ (List.mem_of_getElem? (i := 165) rfl)) (hw _ (List.mem_of_getElem? (i := 71) rfl)) (hw _ (List.mem_of_getElem? (i := 166) rfl)) (by decide) rfl rfl (lenOf own_pd14 rfl) rfl (Nat.le_of_eq rfl) (by decide) (by decide) (by decide) (by decide) d27_33 rfl (fun _ _ q => by obtain ⟨_, _, e, _⟩ := q; exact Nat.le_of_eq (congrArg Array.size e)) (fun T507 h507 v507 X507 P507 => ?_)
    obtain ⟨r507, rfl, rfl, Y507_0⟩ := P507
    show Go p e below _ n0 _ _ _ T507 (mkF m 36 #[.val (.ref b), .val (.int ch), .val (.int fr), .val (.int z)] [(.int r507)])
    exact Go.retI C X507 d27_36 ⟨r507, rfl, rfl, Y507_0⟩ (by decide) (by decide)
  · refine Go.icmpNo C X505 (pc' := 27) d27_24 (flt c506).1 rfl ?_
    refine Go.iconst C X505 (pc' := 28) (v := (-1 : Int32)) d27_27 rfl rfl ?_
    exact Go.retI C X505 d27_28 ⟨(-1 : Int32), rfl, rfl, (Or.inr ⟨rfl, fun q a d => by have := own_nilt c506; omega⟩)⟩ (by decide) (by decide)
theorem own_ef_rm_io (m : MethodId) (x0 : Addr) (x1 : Int32) (x2 : Int32) : entryFrame m #[(.ref x0), (.int x1), (.int x2)] 3 = mkF m 0 #[.val (.ref x0), .val (.int x1), .val (.int x2)] [] := by first | (simp [entryFrame, mkF, argsToLocals, Value.category]; done) | rfl
theorem d26_0 : decode jdk_42_method_80_code 0 = .ok (.aload_n 0, 1) := by decide +kernel
theorem d26_1 : decode jdk_42_method_80_code 1 = .ok (.invokevirtual 492, 3) := by decide +kernel
theorem d26_4 : decode jdk_42_method_80_code 4 = .ok (.ifCond .eq 19, 3) := by decide +kernel
theorem d26_7 : decode jdk_42_method_80_code 7 = .ok (.aload_n 0, 1) := by decide +kernel
theorem d26_8 : decode jdk_42_method_80_code 8 = .ok (.getfield 9, 3) := by decide +kernel
theorem d26_11 : decode jdk_42_method_80_code 11 = .ok (.iload_n 1, 1) := by decide +kernel
theorem d26_12 : decode jdk_42_method_80_code 12 = .ok (.iload_n 2, 1) := by decide +kernel
theorem d26_13 : decode jdk_42_method_80_code 13 = .ok (.aload_n 0, 1) := by decide +kernel
theorem d26_14 : decode jdk_42_method_80_code 14 = .ok (.invokevirtual 505, 3) := by decide +kernel
theorem d26_17 : decode jdk_42_method_80_code 17 = .ok (.invokestatic 637, 3) := by decide +kernel
theorem d26_20 : decode jdk_42_method_80_code 20 = .ok (.goto 16, 3) := by decide +kernel
theorem d26_36 : decode jdk_42_method_80_code 36 = .ok (.ireturn, 1) := by decide +kernel
set_option maxRecDepth 65536 in
set_option maxHeartbeats 40000000 in
theorem rm_io (l : Launch) (Z : State) (a0 : Array Value) (hw : ∀ d ∈ tables_1, d.before a0 Z = true) (a : Addr) (ch : Int32) (fr : Int32) (b : Addr) (n : Nat) (f : Nat → Int32) (z : Int32) (ff : Nat) (cs : Int32) (h0 : Heap) (n0 : Nat) (Z0 : n0 ≤ h0.size) (f0 : Old Z n0 h0) (f1 : Sta Z Z.heap "java/lang/String" "COMPACT_STRINGS" "Z" (.int cs)) (f2 : Exa Z h0 a "java/lang/String") (f3 : Fld Z h0 a "java/lang/String" "value" "[B" (.ref b)) (f4 : Fld Z h0 a "java/lang/String" "coder" "B" (.int (0 : Int32))) (f5 : AI Z h0 b .byte n f) (hcs : ¬ cs = (0 : Int32)) (hz : z.toInt = (n : Int)) (hn8 : n ≤ 8) (hf : fr.toInt = (ff : Int)) (hc : 0 ≤ ch.toInt ∧ ch.toInt ≤ 255) :
    Con l Z (⟨"java/lang/String", "indexOf", "(II)I"⟩ : MethodName) jdk_42_method_80_code 3 (some .int) ({ frames := 2, cells := 0, slots := 0, locals := 32 } : Room) #[(.ref a), (.int ch), (.int fr)] h0 n0 (fun rv hv => ∃ r : Int32, rv = some (.int r) ∧ h0 = hv ∧ (own_io f ((ch).toInt8.toInt32) ff n r)) := by
  refine Con.enter (plainFor_of_name own_pn1) Z0 ?_
  intro p e s m below meth c T0 C hnm X0
  refine Go.cast (own_ef_rm_io m a ch fr) ?_
  refine Go.aloadN C X0 (pc' := 1) d26_0 rfl rfl rfl ?_
  refine Go.callV C X0 (pc' := 4) (W := 0) (argsL := []) (rest := []) (a := a) (rm_il l Z a0 hw a cs h0 n0 X0.sz f0 f1 f4 hcs) f2 (notFace_of_selects (args := #[]) (mvT C.2.1 (hw _ (List.mem_of_getElem? (i := 67) rfl)))) (hw _ (List.mem_of_getElem? (i := 64) rfl)) (hw _ (List.mem_of_getElem? (i := 65) rfl)) (hw _ (List.mem_of_getElem? (i := 67) rfl)) (hw _ (List.mem_of_getElem? (i := 66) rfl)) (hw _ (List.mem_of_getElem? (i := 10) rfl)) (hw _ (List.mem_of_getElem? (i := 68) rfl)) (by decide) rfl rfl (lenOf own_pd6 rfl) rfl (Nat.le_of_eq rfl) (by decide) (by decide) (by decide) (by decide) d26_1 rfl (fun _ _ q => Nat.le_of_eq (congrArg Array.size q.2)) (fun T508 h508 v508 X508 P508 => ?_)
  obtain ⟨rfl, rfl⟩ := P508
  show Go p e below _ n0 _ _ _ T508 (mkF m 4 #[.val (.ref a), .val (.int ch), .val (.int fr)] [(.int (1 : Int32))])
  refine Go.ifNo C X508 (pc' := 7) d26_4 ((if0 _ _).trans (feq (by decide)).1) rfl ?_
  refine Go.aloadN C X508 (pc' := 8) d26_7 rfl rfl rfl ?_
  refine Go.getF C X508 (pc' := 11) (host := "") (Or.inl (hw _ (List.mem_of_getElem? (i := 36) rfl))) Via.refl f3 d26_8 rfl (fun T509 X509 => ?_)
  refine Go.iloadN C X509 (pc' := 12) d26_11 rfl rfl ?_
  refine Go.iloadN C X509 (pc' := 13) d26_12 rfl rfl ?_
  refine Go.aloadN C X509 (pc' := 14) d26_13 rfl rfl rfl ?_
  refine Go.callV C X509 (pc' := 17) (W := 3) (argsL := []) (rest := [(.int fr), (.int ch), (.ref b)]) (a := a) (rm_ln l Z a0 hw a b n f z cs h0 n0 X509.sz f0 f1 f2 f3 f4 f5 hcs hz) f2 (notFace_of_selects (args := #[]) (mvT C.2.1 (hw _ (List.mem_of_getElem? (i := 51) rfl)))) (hw _ (List.mem_of_getElem? (i := 153) rfl)) (hw _ (List.mem_of_getElem? (i := 49) rfl)) (hw _ (List.mem_of_getElem? (i := 51) rfl)) (hw _ (List.mem_of_getElem? (i := 50) rfl)) (hw _ (List.mem_of_getElem? (i := 10) rfl)) (hw _ (List.mem_of_getElem? (i := 52) rfl)) (by decide) rfl rfl (lenOf own_pd0 rfl) rfl (Nat.le_of_eq rfl) (by decide) (by decide) (by decide) (by decide) d26_14 rfl (fun _ _ q => Nat.le_of_eq (congrArg Array.size q.2)) (fun T510 h510 v510 X510 P510 => ?_)
  obtain ⟨rfl, rfl⟩ := P510
  show Go p e below _ n0 _ _ _ T510 (mkF m 17 #[.val (.ref a), .val (.int ch), .val (.int fr)] [(.int z), (.int fr), (.int ch), (.ref b)])
  refine Go.callS C X510 (pc' := 20) (W := 0) (argsL := [(.ref b), (.int ch), (.int fr), (.int z)]) (rest := []) (rm_lo l Z a0 hw b ch fr z n f ff h0 n0 X510.sz f5 hz hn8 hf hc) (hw _ (List.mem_of_getElem? (i := 154) rfl)) (hw _ (List.mem_of_getElem? (i := 155) rfl)) (hw _ (List.mem_of_getElem? (i := 71) rfl)) (hw _ (List.mem_of_getElem? (i := 156) rfl)) (by decide) rfl rfl (lenOf own_pd14 rfl) rfl (Nat.le_of_eq rfl) (by decide) (by decide) (by decide) (by decide) d26_17 rfl (fun _ _ q => by obtain ⟨_, _, e, _⟩ := q; exact Nat.le_of_eq (congrArg Array.size e)) (fun T511 h511 v511 X511 P511 => ?_)
  obtain ⟨r511, rfl, rfl, Y511_0⟩ := P511
  show Go p e below _ n0 _ _ _ T511 (mkF m 20 #[.val (.ref a), .val (.int ch), .val (.int fr)] [(.int r511)])
  refine Go.goto C X511 (pc' := 36) d26_20 (by decide) (by decide) ?_
  exact Go.retI C X511 d26_36 ⟨r511, rfl, rfl, Y511_0⟩ (by decide) (by decide)
def own_cg (g : Nat → Int32) (n : Nat) (u : Nat → Int32) : Prop := ∀ q, q < n → u q = own_c8 (g q)
theorem own_cg1 {g u : Nat → Int32} {i : Nat} (h : own_cg g i u) : own_cg g (i + 1) (fun q => if q = i then own_c8 (g i) else u q) := fun q hq => by
  by_cases e : q = i
  · simp only [if_pos e]; rw [e]
  · simp only [if_neg e]; exact h q (by omega)
theorem own_cg2 {g u : Nat → Int32} {n : Nat} (h : own_cg g n u) : own_cg g n (fun q => if q = (n + 1 - 1) then (-2147483648 : Int32) else u q) ∧ (fun q => if q = (n + 1 - 1) then (-2147483648 : Int32) else u q) n = (-2147483648 : Int32) := by
  refine ⟨fun q hq => ?_, ?_⟩
  · simp only [if_neg (show ¬ q = n + 1 - 1 by omega)]; exact h q hq
  · simp only [if_pos (show n = n + 1 - 1 by omega)]
theorem own_min {u : Nat → Int32} {n : Nat} (h : u n = (-2147483648 : Int32)) : ∀ y : Int32, ¬ u n = own_c8 y := fun y q => by
  have e : (-2147483648 : Int32).toInt = -2147483648 := rfl
  have r := own_c8r y
  rw [← q, h, e] at r; omega
theorem own_pn8 : plainName "com/example/needlewright/needlewright/CharNeedle" = true := by first | (simp [plainName, overriddenIn]; done) | decide +kernel
theorem own_ef_rm_cn (m : MethodId) (x0 : Addr) (x1 : Addr) : entryFrame m #[(.ref x0), (.ref x1)] 4 = mkF m 0 #[.val (.ref x0), .val (.ref x1), .unset, .unset] [] := by first | (simp [entryFrame, mkF, argsToLocals, Value.category]; done) | rfl
theorem d9_0 : decode prog_6_method_1_code 0 = .ok (.aload_n 0, 1) := by decide +kernel
theorem d9_1 : decode prog_6_method_1_code 1 = .ok (.invokespecial 1, 3) := by decide +kernel
theorem d9_4 : decode prog_6_method_1_code 4 = .ok (.aload_n 1, 1) := by decide +kernel
theorem d9_5 : decode prog_6_method_1_code 5 = .ok (.invokevirtual 7, 3) := by decide +kernel
theorem d9_8 : decode prog_6_method_1_code 8 = .ok (.iconst 1, 1) := by decide +kernel
theorem d9_9 : decode prog_6_method_1_code 9 = .ok (.iadd, 1) := by decide +kernel
theorem d9_10 : decode prog_6_method_1_code 10 = .ok (.newarray .int, 2) := by decide +kernel
theorem d9_12 : decode prog_6_method_1_code 12 = .ok (.astore_n 2, 1) := by decide +kernel
theorem d9_13 : decode prog_6_method_1_code 13 = .ok (.iconst 0, 1) := by decide +kernel
theorem d9_14 : decode prog_6_method_1_code 14 = .ok (.istore_n 3, 1) := by decide +kernel
theorem d9_15 : decode prog_6_method_1_code 15 = .ok (.iload_n 3, 1) := by decide +kernel
theorem d9_16 : decode prog_6_method_1_code 16 = .ok (.aload_n 1, 1) := by decide +kernel
theorem d9_17 : decode prog_6_method_1_code 17 = .ok (.invokevirtual 7, 3) := by decide +kernel
theorem d9_20 : decode prog_6_method_1_code 20 = .ok (.if_icmp .ge 17, 3) := by decide +kernel
theorem d9_23 : decode prog_6_method_1_code 23 = .ok (.aload_n 2, 1) := by decide +kernel
theorem d9_24 : decode prog_6_method_1_code 24 = .ok (.iload_n 3, 1) := by decide +kernel
theorem d9_25 : decode prog_6_method_1_code 25 = .ok (.aload_n 1, 1) := by decide +kernel
theorem d9_26 : decode prog_6_method_1_code 26 = .ok (.iload_n 3, 1) := by decide +kernel
theorem d9_27 : decode prog_6_method_1_code 27 = .ok (.invokevirtual 13, 3) := by decide +kernel
theorem own_pd15 : parseMethodDescriptor "(I)C" = some ⟨[.int], some .char⟩ := by decide +kernel
theorem d9_30 : decode prog_6_method_1_code 30 = .ok (.iastore, 1) := by decide +kernel
theorem d9_31 : decode prog_6_method_1_code 31 = .ok (.iinc 3 1, 3) := by decide +kernel
theorem d9_34 : decode prog_6_method_1_code 34 = .ok (.goto (-19), 3) := by decide +kernel
theorem d9_37 : decode prog_6_method_1_code 37 = .ok (.aload_n 0, 1) := by decide +kernel
theorem d9_38 : decode prog_6_method_1_code 38 = .ok (.new 17, 3) := by decide +kernel
theorem d9_41 : decode prog_6_method_1_code 41 = .ok (.dup, 1) := by decide +kernel
theorem d9_42 : decode prog_6_method_1_code 42 = .ok (.aload_n 2, 1) := by decide +kernel
theorem d9_43 : decode prog_6_method_1_code 43 = .ok (.invokespecial 19, 3) := by decide +kernel
theorem own_pd16 : parseMethodDescriptor "([I)V" = some ⟨[(.array .int)], none⟩ := by decide +kernel
theorem d9_46 : decode prog_6_method_1_code 46 = .ok (.putfield 22, 3) := by decide +kernel
theorem d9_49 : decode prog_6_method_1_code 49 = .ok (.return_, 1) := by decide +kernel
set_option maxRecDepth 65536 in
set_option maxHeartbeats 40000000 in
theorem rm_cn (l : Launch) (Z : State) (a0 : Array Value) (hw : ∀ d ∈ tables_1, d.before a0 Z = true) (a : Addr) (sr : Addr) (b : Addr) (n : Nat) (g : Nat → Int32) (z : Int32) (cs : Int32) (sf : Value) (h0 : Heap) (n0 : Nat) (Z0 : n0 ≤ h0.size) (f0 : Old Z n0 h0) (f1 : Sta Z Z.heap "java/lang/String" "COMPACT_STRINGS" "Z" (.int cs)) (f2 : Sta Z Z.heap "jdk/internal/util/Preconditions" "SIOOBE_FORMATTER" "Ljava/util/function/BiFunction;" sf) (f3 : Exa Z h0 a "com/example/needlewright/needlewright/CharNeedle") (f4 : Fld Z h0 a "com/example/needlewright/needlewright/CharNeedle" "automaton" "Lcom/example/needlewright/needlewright/Automaton;" .null) (f5 : n0 ≤ a) (f6 : Exa Z h0 sr "java/lang/String") (f7 : Fld Z h0 sr "java/lang/String" "value" "[B" (.ref b)) (f8 : Fld Z h0 sr "java/lang/String" "coder" "B" (.int (0 : Int32))) (f9 : AI Z h0 b .byte n g) (f10 : a ≠ sr) (f11 : a ≠ b) (hcs : ¬ cs = (0 : Int32)) (hsf : sf.isRef = true) (hz : z.toInt = (n : Int)) (hn1 : 1 ≤ n) (hn4 : n ≤ 4) :
    Con l Z (⟨"com/example/needlewright/needlewright/CharNeedle", "<init>", "(Ljava/lang/String;)V"⟩ : MethodName) prog_6_method_1_code 4 none ({ frames := 4, cells := 3, slots := 12, locals := 55 } : Room) #[(.ref a), (.ref sr)] h0 n0 (fun rv hv => ∃ au : Addr, ∃ t : Addr, ∃ t2 : Addr, ∃ u1 : Nat → Int32, ∃ b1 : Nat → Nat, rv = none ∧ h0.size ≤ au ∧ h0.size ≤ t ∧ h0.size ≤ t2 ∧ Keep h0 hv [a] ∧ Exa Z hv a "com/example/needlewright/needlewright/CharNeedle" ∧ Fld Z hv a "com/example/needlewright/needlewright/CharNeedle" "automaton" "Lcom/example/needlewright/needlewright/Automaton;" (.ref au) ∧ Exa Z hv au "com/example/needlewright/needlewright/Automaton" ∧ Fld Z hv au "com/example/needlewright/needlewright/Automaton" "units" "[I" (.ref t) ∧ Fld Z hv au "com/example/needlewright/needlewright/Automaton" "borders" "[I" (.ref t2) ∧ AI Z hv t .int (n + 1) u1 ∧ AI Z hv t2 .int (n + 1) (own_ofn b1) ∧ a ≠ au ∧ a ≠ t ∧ a ≠ t2 ∧ au ≠ t ∧ au ≠ t2 ∧ t ≠ t2 ∧ (own_cg g n u1) ∧ (u1 n = (-2147483648 : Int32)) ∧ (∀ k, 1 ≤ k → k < n + 1 → own_P u1 k (b1 k))) := by
  refine Con.enter (plainFor_of_name own_pn8) Z0 ?_
  intro p e s m below meth c T0 C hnm X0
  refine Go.cast (own_ef_rm_cn m a sr) ?_
  refine Go.aloadN C X0 (pc' := 1) d9_0 rfl rfl rfl ?_
  refine Go.initO C X0 (pc' := 4) (fun locs X eT => RoadKit.initO X C.1 C.2.1 C.2.2.2.1 (hw _ (List.mem_of_getElem? (i := 47) rfl)) (hw _ (List.mem_of_getElem? (i := 20) rfl)) (hw _ (List.mem_of_getElem? (i := 21) rfl)) eT (g := (mkF m 1 #[.val (.ref a), .val (.ref sr), .unset, .unset] [(.ref a)])) rfl (by rw [C.2.2.2.2.1]; rfl) rfl (hb C.2.2.1 d9_1) (by decide) (W := 0) (by show 2 * 0 + _ ≤ _; exact Nat.le_of_eq rfl) (by decide)) rfl (fun T512 X512 => ?_)
  refine Go.aloadN C X512 (pc' := 5) d9_4 rfl rfl rfl ?_
  refine Go.callV C X512 (pc' := 8) (W := 0) (argsL := []) (rest := []) (a := sr) (rm_ln l Z a0 hw sr b n g z cs h0 n0 X512.sz f0 f1 f6 f7 f8 f9 hcs hz) f6 (notFace_of_selects (args := #[]) (mvT C.2.1 (hw _ (List.mem_of_getElem? (i := 51) rfl)))) (hw _ (List.mem_of_getElem? (i := 48) rfl)) (hw _ (List.mem_of_getElem? (i := 49) rfl)) (hw _ (List.mem_of_getElem? (i := 51) rfl)) (hw _ (List.mem_of_getElem? (i := 50) rfl)) (hw _ (List.mem_of_getElem? (i := 10) rfl)) (hw _ (List.mem_of_getElem? (i := 52) rfl)) (by decide) rfl rfl (lenOf own_pd0 rfl) rfl (Nat.le_of_eq rfl) (by decide) (by decide) (by decide) (by decide) d9_5 rfl (fun _ _ q => Nat.le_of_eq (congrArg Array.size q.2)) (fun T513 h513 v513 X513 P513 => ?_)
  obtain ⟨rfl, rfl⟩ := P513
  show Go p e below _ n0 _ _ _ T513 (mkF m 8 #[.val (.ref a), .val (.ref sr), .unset, .unset] [(.int z)])
  refine Go.iconst C X513 (pc' := 9) (v := (1 : Int32)) d9_8 rfl rfl ?_
  refine Go.iadd C X513 (pc' := 10) d9_9 rfl ?_
  refine Go.newP C X513 (pc' := 12) (nn := (n + 1)) (cap := 5) (hw _ (List.mem_of_getElem? (i := 58) rfl)) d9_10 (own_up1 hz (by omega)) (by omega) (by decide) (by decide) (by decide) rfl (fun T514 h514 b514 k514 X514 g514 E514 Ar514 N514 => ?_)
  have ne_a_b514 : a ≠ b514 := Nat.ne_of_lt (Nat.lt_of_lt_of_eq f3.lt g514.symm)
  have ne_sr_b514 : sr ≠ b514 := Nat.ne_of_lt (Nat.lt_of_lt_of_eq f6.lt g514.symm)
  have ne_b_b514 : b ≠ b514 := Nat.ne_of_lt (Nat.lt_of_lt_of_eq f9.lt g514.symm)
  have Q514 : h0.size ≤ b514 := Nat.le_trans (Keep.refl h0 [a]).1 (Nat.le_of_eq g514.symm)
  have K515 : Keep h0 h514 [a] := (Keep.refl h0 [a]).ext E514
  have O516 : Old Z n0 h514 := f0.ext E514
  have E517 := f3.ext E514
  have F518 := f4.ext E514
  have E519 := f6.ext E514
  have F520 := f7.ext E514
  have F521 := f8.ext E514
  have A522 := f9.ext E514
  have A514 : AI Z h514 b514 .int (n + 1) (fun _ => 0) := AI.new (own_up1 hz (by omega)) rfl Ar514
  refine Go.astoreN C X514 (pc' := 13) (Ls' := #[.val (.ref a), .val (.ref sr), .val (.ref b514), .unset]) d9_12 rfl rfl rfl ?_
  refine Go.iconst C X514 (pc' := 14) (v := (0 : Int32)) d9_13 rfl rfl ?_
  refine Go.istoreN C X514 (pc' := 15) (Ls' := #[.val (.ref a), .val (.ref sr), .val (.ref b514), .val (.int (0 : Int32))]) d9_14 rfl rfl ?_
  have Cut15 : ∀ (fuel : Nat) (T_15 : State) (h_15 : Heap) (ii : Nat) (uu : Nat → Int32) (u3 : Int32), (n - ii) < fuel → (u3.toInt = (ii : Int)) → (ii ≤ n) → (own_cg g ii uu) → On p l e ({ frames := 4, cells := 3, slots := 12, locals := 55 } : Room) s m #[(.ref a), (.ref sr)] below meth c n0 T_15 h_15 1 5 → Keep h0 h_15 [a] → Old Z n0 h_15 → Exa Z h_15 a "com/example/needlewright/needlewright/CharNeedle" → Fld Z h_15 a "com/example/needlewright/needlewright/CharNeedle" "automaton" "Lcom/example/needlewright/needlewright/Automaton;" .null → Exa Z h_15 sr "java/lang/String" → Fld Z h_15 sr "java/lang/String" "value" "[B" (.ref b) → Fld Z h_15 sr "java/lang/String" "coder" "B" (.int (0 : Int32)) → AI Z h_15 b .byte n g → AI Z h_15 b514 .int (n + 1) uu → Go p e below (FrameEnd s) n0 (({ frames := 4, cells := 3, slots := 12, locals := 55 } : Room)).cells (({ frames := 4, cells := 3, slots := 12, locals := 55 } : Room)).slots (fun rv hv => ∃ au : Addr, ∃ t : Addr, ∃ t2 : Addr, ∃ u1 : Nat → Int32, ∃ b1 : Nat → Nat, rv = none ∧ h0.size ≤ au ∧ h0.size ≤ t ∧ h0.size ≤ t2 ∧ Keep h0 hv [a] ∧ Exa Z hv a "com/example/needlewright/needlewright/CharNeedle" ∧ Fld Z hv a "com/example/needlewright/needlewright/CharNeedle" "automaton" "Lcom/example/needlewright/needlewright/Automaton;" (.ref au) ∧ Exa Z hv au "com/example/needlewright/needlewright/Automaton" ∧ Fld Z hv au "com/example/needlewright/needlewright/Automaton" "units" "[I" (.ref t) ∧ Fld Z hv au "com/example/needlewright/needlewright/Automaton" "borders" "[I" (.ref t2) ∧ AI Z hv t .int (n + 1) u1 ∧ AI Z hv t2 .int (n + 1) (own_ofn b1) ∧ a ≠ au ∧ a ≠ t ∧ a ≠ t2 ∧ au ≠ t ∧ au ≠ t2 ∧ t ≠ t2 ∧ (own_cg g n u1) ∧ (u1 n = (-2147483648 : Int32)) ∧ (∀ k, 1 ≤ k → k < n + 1 → own_P u1 k (b1 k))) T_15 (mkF m 15 #[.val (.ref a), .val (.ref sr), .val (.ref b514), .val (.int u3)] []) := by
    intro fuel
    induction fuel with
    | zero => intro T_15 h_15 ii uu u3 hM_15 h3 hle hcg X_15 K_15 G15_0 G15_1 G15_2 G15_3 G15_4 G15_5 G15_6 G15_7; exact absurd hM_15 (Nat.not_lt_zero _)
    | succ fuel ih_15 =>
      intro T_15 h_15 ii uu u3 hM_15 h3 hle hcg X_15 K_15 G15_0 G15_1 G15_2 G15_3 G15_4 G15_5 G15_6 G15_7
      refine Go.iloadN C X_15 (pc' := 16) d9_15 rfl rfl ?_
      refine Go.aloadN C X_15 (pc' := 17) d9_16 rfl rfl rfl ?_
      refine Go.callV C X_15 (pc' := 20) (W := 1) (argsL := []) (rest := [(.int u3)]) (a := sr) (rm_ln l Z a0 hw sr b n g z cs h_15 n0 X_15.sz G15_0 f1 G15_3 G15_4 G15_5 G15_6 hcs hz) G15_3 (notFace_of_selects (args := #[]) (mvT C.2.1 (hw _ (List.mem_of_getElem? (i := 51) rfl)))) (hw _ (List.mem_of_getElem? (i := 48) rfl)) (hw _ (List.mem_of_getElem? (i := 49) rfl)) (hw _ (List.mem_of_getElem? (i := 51) rfl)) (hw _ (List.mem_of_getElem? (i := 50) rfl)) (hw _ (List.mem_of_getElem? (i := 10) rfl)) (hw _ (List.mem_of_getElem? (i := 52) rfl)) (by decide) rfl rfl (lenOf own_pd0 rfl) rfl (Nat.le_of_eq rfl) (by decide) (by decide) (by decide) (by decide) d9_17 rfl (fun _ _ q => Nat.le_of_eq (congrArg Array.size q.2)) (fun T523 h523 v523 X523 P523 => ?_)
      obtain ⟨rfl, rfl⟩ := P523
      show Go p e below _ n0 _ _ _ T523 (mkF m 20 #[.val (.ref a), .val (.ref sr), .val (.ref b514), .val (.int u3)] [(.int z), (.int u3)])
      by_cases c524 : u3 < z
      · refine Go.icmpNo C X523 (pc' := 23) d9_20 (tlt c524).2.1 rfl ?_
        refine Go.aloadN C X523 (pc' := 24) d9_23 rfl rfl rfl ?_
        refine Go.iloadN C X523 (pc' := 25) d9_24 rfl rfl ?_
        refine Go.aloadN C X523 (pc' := 26) d9_25 rfl rfl rfl ?_
        refine Go.iloadN C X523 (pc' := 27) d9_26 rfl rfl ?_
        refine Go.callV C X523 (pc' := 30) (W := 2) (argsL := [(.int u3)]) (rest := [(.int u3), (.ref b514)]) (a := sr) (rm_ca l Z a0 hw sr u3 b n g z ii cs sf h_15 n0 X523.sz G15_0 f1 f2 G15_3 G15_4 G15_5 G15_6 hcs hsf hz h3 (show ii < n by have := own_ilt.mp c524; omega)) G15_3 (notFace_of_selects (args := #[]) (mvT C.2.1 (hw _ (List.mem_of_getElem? (i := 62) rfl)))) (hw _ (List.mem_of_getElem? (i := 59) rfl)) (hw _ (List.mem_of_getElem? (i := 60) rfl)) (hw _ (List.mem_of_getElem? (i := 62) rfl)) (hw _ (List.mem_of_getElem? (i := 61) rfl)) (hw _ (List.mem_of_getElem? (i := 10) rfl)) (hw _ (List.mem_of_getElem? (i := 63) rfl)) (by decide) rfl rfl (lenOf own_pd15 rfl) rfl (Nat.le_of_eq rfl) (by decide) (by decide) (by decide) (by decide) d9_27 rfl (fun _ _ q => Nat.le_of_eq (congrArg Array.size q.2)) (fun T525 h525 v525 X525 P525 => ?_)
        obtain ⟨rfl, rfl⟩ := P525
        show Go p e below _ n0 _ _ _ T525 (mkF m 30 #[.val (.ref a), .val (.ref sr), .val (.ref b514), .val (.int u3)] [(.int (own_c8 (g ii))), (.int u3), (.ref b514)])
        refine Go.iastore C X525 (pc' := 31) (i := ii) (x' := (own_c8 (g ii))) G15_7 h3 (by have := (show ii < n by have := own_ilt.mp c524; omega); omega) rfl N514 d9_30 rfl (fun T526 h526 X526 W526 A526 => ?_)
        have K527 : Keep h0 h526 [a] := K_15.wr W526 (Or.inr Q514)
        have O528 : Old Z n0 h526 := G15_0.wr W526 N514
        have E529 := G15_1.wr W526
        have F530 := G15_2.other W526 (Or.inl ne_a_b514)
        have E531 := G15_3.wr W526
        have F532 := G15_4.other W526 (Or.inl ne_sr_b514)
        have F533 := G15_5.other W526 (Or.inl ne_sr_b514)
        have A534 := G15_6.other W526 ne_b_b514
        refine Go.iinc C X526 (pc' := 34) (Ls' := #[.val (.ref a), .val (.ref sr), .val (.ref b514), .val (.int (u3 + (1 : Int32)))]) (v' := (u3 + (1 : Int32))) d9_31 rfl rfl rfl rfl ?_
        refine Go.goto C X526 (pc' := 15) d9_34 (by decide) (by decide) ?_
        exact ih_15 T526 h526 (ii + 1) (fun q => if q = ii then own_c8 (g ii) else uu q) (u3 + (1 : Int32)) (by have := (show ii < n by have := own_ilt.mp c524; omega); omega) (own_up1 h3 (by omega)) (by have := (show ii < n by have := own_ilt.mp c524; omega); omega) (own_cg1 hcg) X526 K527 O528 E529 F530 E531 F532 F533 A534 A526
      · refine Go.icmpYes C X523 (pc' := 37) d9_20 (flt c524).2.1 (by decide) (by decide) ?_
        have hcg2 : own_cg g n uu := fun q hq => hcg q (by have := own_nilt c524; omega)
        refine Go.aloadN C X523 (pc' := 38) d9_37 rfl rfl rfl ?_
        refine Go.newO C X523 (pc' := 41) (hw _ (List.mem_of_getElem? (i := 81) rfl)) (hw _ (List.mem_of_getElem? (i := 82) rfl)) (hw _ (List.mem_of_getElem? (i := 83) rfl)) d9_38 (by decide) (by decide) rfl (fun T535 h535 b535 X535 g535 E535 Ex535 D535 N535 => ?_)
        have ne_a_b535 : a ≠ b535 := Nat.ne_of_lt (Nat.lt_of_lt_of_eq G15_1.lt g535.symm)
        have ne_sr_b535 : sr ≠ b535 := Nat.ne_of_lt (Nat.lt_of_lt_of_eq G15_3.lt g535.symm)
        have ne_b_b535 : b ≠ b535 := Nat.ne_of_lt (Nat.lt_of_lt_of_eq G15_6.lt g535.symm)
        have ne_b514_b535 : b514 ≠ b535 := Nat.ne_of_lt (Nat.lt_of_lt_of_eq G15_7.lt g535.symm)
        have Q535 : h0.size ≤ b535 := Nat.le_trans K_15.1 (Nat.le_of_eq g535.symm)
        have K536 : Keep h0 h535 [a] := K_15.ext E535
        have O537 : Old Z n0 h535 := G15_0.ext E535
        have E538 := G15_1.ext E535
        have F539 := G15_2.ext E535
        have E540 := G15_3.ext E535
        have F541 := G15_4.ext E535
        have F542 := G15_5.ext E535
        have A543 := G15_6.ext E535
        have A544 := G15_7.ext E535
        have F545 : Fld Z h535 b535 "com/example/needlewright/needlewright/Automaton" "units" "[I" .null := D535 (Or.inr (hw _ (List.mem_of_getElem? (i := 90) rfl))) (ty := (.array .int)) (by decide)
        have F546 : Fld Z h535 b535 "com/example/needlewright/needlewright/Automaton" "borders" "[I" .null := D535 (Or.inr (hw _ (List.mem_of_getElem? (i := 92) rfl))) (ty := (.array .int)) (by decide)
        refine Go.dup C X535 (pc' := 42) d9_41 rfl rfl ?_
        refine Go.aloadN C X535 (pc' := 43) d9_42 rfl rfl rfl ?_
        refine Go.callI C X535 (pc' := 46) (W := 2) (argsL := [(.ref b514)]) (rest := [(.ref b535), (.ref a)]) (a := b535) (rm_au l Z a0 hw b535 b514 (n + 1) uu (z + (1 : Int32)) h535 n0 X535.sz Ex535 F545 F546 N535 N514 A544 (Ne.symm ne_b514_b535) (own_up1 hz (by omega)) (by omega) (by omega)) rfl rfl (hw _ (List.mem_of_getElem? (i := 84) rfl)) (hw _ (List.mem_of_getElem? (i := 85) rfl)) (hw _ (List.mem_of_getElem? (i := 83) rfl)) (hw _ (List.mem_of_getElem? (i := 86) rfl)) (by decide) rfl rfl (lenOf own_pd16 rfl) rfl (Nat.le_of_eq rfl) (by decide) (by decide) (by decide) (by decide) d9_43 rfl (fun _ _ q => by obtain ⟨_, _, _, _, K, _⟩ := q; exact K.1) (fun T547 h547 v547 X547 P547 => ?_)
        obtain ⟨t2547, b1547, rfl, D547_t2, K547, O547_0, O547_1, O547_2, O547_3, O547_4, O547_5, O547_6, Y547_0⟩ := P547
        have ne_a_t2547 : a ≠ t2547 := Nat.ne_of_lt (Nat.lt_of_lt_of_le E538.lt D547_t2)
        have ne_sr_t2547 : sr ≠ t2547 := Nat.ne_of_lt (Nat.lt_of_lt_of_le E540.lt D547_t2)
        have ne_b_t2547 : b ≠ t2547 := Nat.ne_of_lt (Nat.lt_of_lt_of_le A543.lt D547_t2)
        have ne_b514_t2547 : b514 ≠ t2547 := Nat.ne_of_lt (Nat.lt_of_lt_of_le A544.lt D547_t2)
        have ne_b535_t2547 : b535 ≠ t2547 := Nat.ne_of_lt (Nat.lt_of_lt_of_le Ex535.lt D547_t2)
        have N_t2547 : n0 ≤ t2547 := Nat.le_trans X535.sz D547_t2
        have Q_t2547 : h0.size ≤ t2547 := Nat.le_trans K536.1 D547_t2
        have K548 : Keep h0 h547 [a] := K536.trans K547 (allS (Or.inr Q535) (allS (Or.inr Q514) all0))
        have O549 : Old Z n0 h547 := O537.keep K547 (allS N535 (allS N514 all0))
        have E550 := E538.keep K547
        have F551 := F539.keep K547 (ninS ne_a_b535 (ninS ne_a_b514 nin0))
        have E552 := E540.keep K547
        have F553 := F541.keep K547 (ninS ne_sr_b535 (ninS ne_sr_b514 nin0))
        have F554 := F542.keep K547 (ninS ne_sr_b535 (ninS ne_sr_b514 nin0))
        have A555 := A543.keep K547 (ninS ne_b_b535 (ninS ne_b_b514 nin0))
        have E556 := Ex535.keep K547
        show Go p e below _ n0 _ _ _ T547 (mkF m 46 #[.val (.ref a), .val (.ref sr), .val (.ref b514), .val (.int u3)] [(.ref b535), (.ref a)])
        refine Go.putF C X547 (pc' := 49) (host := "") (Or.inl (hw _ (List.mem_of_getElem? (i := 102) rfl))) Via.refl F551 E550 (Or.inr ⟨(hw _ (List.mem_of_getElem? (i := 103) rfl)), rfl, hnm⟩) (hw _ (List.mem_of_getElem? (i := 42) rfl)) f5 (ty := (.object "com/example/needlewright/needlewright/Automaton")) (by decide) rfl rfl d9_46 rfl (fun T557 h557 X557 W557 => ?_)
        have Fw557 := F551.same W557
        have K558 : Keep h0 h557 [a] := K548.wr W557 (Or.inl (List.mem_of_getElem? (i := 0) rfl))
        have O559 : Old Z n0 h557 := O549.wr W557 f5
        have E560 := E550.wr W557
        have E561 := E552.wr W557
        have F562 := F553.other W557 (Or.inl (Ne.symm f10))
        have F563 := F554.other W557 (Or.inl (Ne.symm f10))
        have A564 := A555.other W557 (Ne.symm f11)
        have E565 := O547_0.wr W557
        have F566 := O547_1.other W557 (Or.inl (Ne.symm ne_a_b535))
        have F567 := O547_2.other W557 (Or.inl (Ne.symm ne_a_b535))
        have A568 := O547_3.other W557 (Ne.symm ne_a_b514)
        have A569 := O547_4.other W557 (Ne.symm ne_a_t2547)
        exact Go.retV C X557 d9_49 ⟨b535, b514, t2547, (fun q => if q = (n + 1 - 1) then (-2147483648 : Int32) else uu q), b1547, rfl, Q535, Q514, Q_t2547, K558, E560, Fw557, E565, F566, F567, A568, A569, ne_a_b535, ne_a_b514, ne_a_t2547, (Ne.symm ne_b514_b535), O547_6, O547_5, (own_cg2 hcg2).1, (own_cg2 hcg2).2, Y547_0⟩ (by decide) (by decide)
  exact Cut15 (_) T514 h514 0 (fun _ => 0) (0 : Int32) (Nat.lt_succ_self _) rfl (Nat.zero_le _) (fun q hq => absurd hq (Nat.not_lt_zero _)) X514 K515 O516 E517 F518 E519 F520 F521 A522 A514
theorem own_cu {u : Nat → Int32} {n : Nat} (hcu : ∀ q, q < n → ∃ y, u q = own_c8 y) (h : 0 < n) : (u 0).toUInt32.toUInt16.toUInt32.toInt32 = u 0 ∧ 0 ≤ (u 0).toInt ∧ (u 0).toInt ≤ 255 := by
  obtain ⟨y, e⟩ := hcu 0 h
  rw [e]; exact ⟨own_c8n y, own_c8r y⟩
theorem own_iob {f u : Nat → Int32} {n fr m : Nat} {r : Int32} (hrg : ∀ q, own_bt (f q)) (hcu : ∀ q, q < n → ∃ y, u q = own_c8 y) (h : 0 < n) (d : own_io f ((u 0).toInt8.toInt32) fr m r) : (∃ p : Nat, r.toInt = (p : Int) ∧ fr ≤ p ∧ p < m ∧ own_c8 (f p) = u 0 ∧ ∀ q, fr ≤ q → q < p → ¬ own_c8 (f q) = u 0) ∨ (r.toInt = -1 ∧ ∀ q, fr ≤ q → q < m → ¬ own_c8 (f q) = u 0) := by
  obtain ⟨y, e⟩ := hcu 0 h
  rw [e] at d ⊢
  rcases d with ⟨p, a1, a2, a3, a4, a5⟩ | ⟨a1, a2⟩
  · exact Or.inl ⟨p, a1, a2, a3, (own_c8b (hrg p)).mp a4, fun q x z w => a5 q x z ((own_c8b (hrg q)).mpr w)⟩
  · exact Or.inr ⟨a1, fun q x z w => a2 q x z ((own_c8b (hrg q)).mpr w)⟩
theorem own_zn {z : Int32} {n : Nat} (hz : z.toInt = ((n + 1 : Nat) : Int)) (h : n ≤ 4) : (z - (1 : Int32)).toInt = (n : Int) := by
  have e : (1 : Int32).toInt = 1 := rfl
  rw [own_isub (by omega) (by omega), hz, e]; omega
theorem own_ofz {k : Nat} {z : Int32} {n : Nat} (hz : z.toInt = ((n + 1 : Nat) : Int)) (h : n ≤ 4) (hk : k < 100) : (Int32.ofNat k + (1 : Int32)) = (z - (1 : Int32)) ↔ k + 1 = n := by
  rw [own_add1 (by omega), own_ieq, own_n32 (by omega), own_zn hz h]; omega
theorem own_ef_rm_ne (m : MethodId) (x0 : Addr) (x1 : Addr) (x2 : Int32) (x3 : Int32) : entryFrame m #[(.ref x0), (.ref x1), (.int x2), (.int x3)] 11 = mkF m 0 #[.val (.ref x0), .val (.ref x1), .val (.int x2), .val (.int x3), .unset, .unset, .unset, .unset, .unset, .unset, .unset] [] := by first | (simp [entryFrame, mkF, argsToLocals, Value.category]; done) | rfl
theorem d22_0 : decode prog_6_method_6_code 0 = .ok (.aload_n 0, 1) := by decide +kernel
theorem d22_1 : decode prog_6_method_6_code 1 = .ok (.getfield 22, 3) := by decide +kernel
theorem d22_4 : decode prog_6_method_6_code 4 = .ok (.getfield 63, 3) := by decide +kernel
theorem d22_7 : decode prog_6_method_6_code 7 = .ok (.astore 4, 2) := by decide +kernel
theorem d22_9 : decode prog_6_method_6_code 9 = .ok (.aload_n 0, 1) := by decide +kernel
theorem d22_10 : decode prog_6_method_6_code 10 = .ok (.getfield 22, 3) := by decide +kernel
theorem d22_13 : decode prog_6_method_6_code 13 = .ok (.invokevirtual 28, 3) := by decide +kernel
theorem d22_16 : decode prog_6_method_6_code 16 = .ok (.istore 5, 2) := by decide +kernel
theorem d22_18 : decode prog_6_method_6_code 18 = .ok (.aload 4, 2) := by decide +kernel
theorem d22_20 : decode prog_6_method_6_code 20 = .ok (.iconst 0, 1) := by decide +kernel
theorem d22_21 : decode prog_6_method_6_code 21 = .ok (.iaload, 1) := by decide +kernel
theorem d22_22 : decode prog_6_method_6_code 22 = .ok (.i2c, 1) := by decide +kernel
theorem d22_23 : decode prog_6_method_6_code 23 = .ok (.istore 6, 2) := by decide +kernel
theorem d22_25 : decode prog_6_method_6_code 25 = .ok (.aload_n 1, 1) := by decide +kernel
theorem d22_26 : decode prog_6_method_6_code 26 = .ok (.instanceof 8, 3) := by decide +kernel
theorem d22_29 : decode prog_6_method_6_code 29 = .ok (.ifCond .eq 10, 3) := by decide +kernel
theorem d22_32 : decode prog_6_method_6_code 32 = .ok (.aload_n 1, 1) := by decide +kernel
theorem d22_33 : decode prog_6_method_6_code 33 = .ok (.checkcast 8, 3) := by decide +kernel
theorem d22_36 : decode prog_6_method_6_code 36 = .ok (.goto 4, 3) := by decide +kernel
theorem d22_40 : decode prog_6_method_6_code 40 = .ok (.astore 7, 2) := by decide +kernel
theorem d22_42 : decode prog_6_method_6_code 42 = .ok (.aload_n 1, 1) := by decide +kernel
theorem d22_43 : decode prog_6_method_6_code 43 = .ok (.invokeinterface 67 1, 5) := by decide +kernel
theorem d22_48 : decode prog_6_method_6_code 48 = .ok (.istore 8, 2) := by decide +kernel
theorem d22_50 : decode prog_6_method_6_code 50 = .ok (.iload_n 2, 1) := by decide +kernel
theorem d22_51 : decode prog_6_method_6_code 51 = .ok (.istore 9, 2) := by decide +kernel
theorem d22_53 : decode prog_6_method_6_code 53 = .ok (.iload 9, 2) := by decide +kernel
theorem d22_55 : decode prog_6_method_6_code 55 = .ok (.iload 8, 2) := by decide +kernel
theorem d22_57 : decode prog_6_method_6_code 57 = .ok (.if_icmp .ge 82, 3) := by decide +kernel
theorem d22_60 : decode prog_6_method_6_code 60 = .ok (.aload_n 1, 1) := by decide +kernel
theorem d22_61 : decode prog_6_method_6_code 61 = .ok (.iload 9, 2) := by decide +kernel
theorem d22_63 : decode prog_6_method_6_code 63 = .ok (.invokeinterface 70 2, 5) := by decide +kernel
theorem d22_68 : decode prog_6_method_6_code 68 = .ok (.istore 10, 2) := by decide +kernel
theorem d22_70 : decode prog_6_method_6_code 70 = .ok (.aload_n 0, 1) := by decide +kernel
theorem d22_71 : decode prog_6_method_6_code 71 = .ok (.getfield 22, 3) := by decide +kernel
theorem d22_74 : decode prog_6_method_6_code 74 = .ok (.iload_n 3, 1) := by decide +kernel
theorem d22_75 : decode prog_6_method_6_code 75 = .ok (.iload 10, 2) := by decide +kernel
theorem d22_77 : decode prog_6_method_6_code 77 = .ok (.invokevirtual 71, 3) := by decide +kernel
theorem d22_80 : decode prog_6_method_6_code 80 = .ok (.istore_n 3, 1) := by decide +kernel
theorem d22_81 : decode prog_6_method_6_code 81 = .ok (.aload 4, 2) := by decide +kernel
theorem d22_83 : decode prog_6_method_6_code 83 = .ok (.iload_n 3, 1) := by decide +kernel
theorem d22_84 : decode prog_6_method_6_code 84 = .ok (.iaload, 1) := by decide +kernel
theorem d22_85 : decode prog_6_method_6_code 85 = .ok (.iload 10, 2) := by decide +kernel
theorem d22_87 : decode prog_6_method_6_code 87 = .ok (.if_icmp .eq 32, 3) := by decide +kernel
theorem d22_119 : decode prog_6_method_6_code 119 = .ok (.iinc 3 1, 3) := by decide +kernel
theorem d22_122 : decode prog_6_method_6_code 122 = .ok (.iload_n 3, 1) := by decide +kernel
theorem d22_123 : decode prog_6_method_6_code 123 = .ok (.iload 5, 2) := by decide +kernel
theorem d22_125 : decode prog_6_method_6_code 125 = .ok (.if_icmp .ne 8, 3) := by decide +kernel
theorem d22_128 : decode prog_6_method_6_code 128 = .ok (.iload 9, 2) := by decide +kernel
theorem d22_130 : decode prog_6_method_6_code 130 = .ok (.iconst 1, 1) := by decide +kernel
theorem d22_131 : decode prog_6_method_6_code 131 = .ok (.iadd, 1) := by decide +kernel
theorem d22_132 : decode prog_6_method_6_code 132 = .ok (.ireturn, 1) := by decide +kernel
theorem d22_133 : decode prog_6_method_6_code 133 = .ok (.iinc 9 1, 3) := by decide +kernel
theorem d22_136 : decode prog_6_method_6_code 136 = .ok (.goto (-83), 3) := by decide +kernel
theorem d22_90 : decode prog_6_method_6_code 90 = .ok (.aload 7, 2) := by decide +kernel
theorem d22_92 : decode prog_6_method_6_code 92 = .ok (.ifnonnull 6, 3) := by decide +kernel
theorem d22_98 : decode prog_6_method_6_code 98 = .ok (.aload 7, 2) := by decide +kernel
theorem d22_100 : decode prog_6_method_6_code 100 = .ok (.iload 6, 2) := by decide +kernel
theorem d22_102 : decode prog_6_method_6_code 102 = .ok (.iload 9, 2) := by decide +kernel
theorem d22_104 : decode prog_6_method_6_code 104 = .ok (.iconst 1, 1) := by decide +kernel
theorem d22_105 : decode prog_6_method_6_code 105 = .ok (.iadd, 1) := by decide +kernel
theorem d22_106 : decode prog_6_method_6_code 106 = .ok (.invokevirtual 74, 3) := by decide +kernel
theorem d22_109 : decode prog_6_method_6_code 109 = .ok (.istore 9, 2) := by decide +kernel
theorem d22_111 : decode prog_6_method_6_code 111 = .ok (.iload 9, 2) := by decide +kernel
theorem d22_113 : decode prog_6_method_6_code 113 = .ok (.iconst (-1), 1) := by decide +kernel
theorem d22_114 : decode prog_6_method_6_code 114 = .ok (.if_icmp .ne 5, 3) := by decide +kernel
theorem d22_117 : decode prog_6_method_6_code 117 = .ok (.iconst (-1), 1) := by decide +kernel
theorem d22_118 : decode prog_6_method_6_code 118 = .ok (.ireturn, 1) := by decide +kernel
theorem d22_139 : decode prog_6_method_6_code 139 = .ok (.iconst (-1), 1) := by decide +kernel
theorem d22_140 : decode prog_6_method_6_code 140 = .ok (.ireturn, 1) := by decide +kernel
set_option maxRecDepth 65536 in
set_option maxHeartbeats 40000000 in
theorem rm_ne (l : Launch) (Z : State) (a0 : Array Value) (hw : ∀ d ∈ tables_1, d.before a0 Z = true) (a : Addr) (sr : Addr) (fr : Int32) (s0 : Int32) (au : Addr) (t : Addr) (t2 : Addr) (n : Nat) (u : Nat → Int32) (b1 : Nat → Nat) (zn : Int32) (sb : Addr) (tl : Nat) (f : Nat → Int32) (zm : Int32) (ss : Nat) (cs : Int32) (sf : Value) (h0 : Heap) (n0 : Nat) (Z0 : n0 ≤ h0.size) (f0 : Old Z n0 h0) (f1 : Sta Z Z.heap "java/lang/String" "COMPACT_STRINGS" "Z" (.int cs)) (f2 : Sta Z Z.heap "jdk/internal/util/Preconditions" "SIOOBE_FORMATTER" "Ljava/util/function/BiFunction;" sf) (f3 : Exa Z h0 a "com/example/needlewright/needlewright/CharNeedle") (f4 : Fld Z h0 a "com/example/needlewright/needlewright/CharNeedle" "automaton" "Lcom/example/needlewright/needlewright/Automaton;" (.ref au)) (f5 : Exa Z h0 au "com/example/needlewright/needlewright/Automaton") (f6 : Fld Z h0 au "com/example/needlewright/needlewright/Automaton" "units" "[I" (.ref t)) (f7 : Fld Z h0 au "com/example/needlewright/needlewright/Automaton" "borders" "[I" (.ref t2)) (f8 : AI Z h0 t .int (n + 1) u) (f9 : AI Z h0 t2 .int (n + 1) (own_ofn b1)) (f10 : Exa Z h0 sr "java/lang/String") (f11 : Fld Z h0 sr "java/lang/String" "value" "[B" (.ref sb)) (f12 : Fld Z h0 sr "java/lang/String" "coder" "B" (.int (0 : Int32))) (f13 : AI Z h0 sb .byte tl f) (hcs : ¬ cs = (0 : Int32)) (hsf : sf.isRef = true) (hzn : zn.toInt = ((n + 1 : Nat) : Int)) (hzm : zm.toInt = (tl : Int)) (hn1 : 1 ≤ n) (hn4 : n ≤ 4) (hm8 : tl ≤ 8) (hcu : ∀ q, q < n → ∃ y, u q = own_c8 y) (hun : u n = (-2147483648 : Int32)) (hb : ∀ k, 1 ≤ k → k < n + 1 → own_P u k (b1 k)) (hrg : ∀ q, own_bt (f q)) (hfr : fr.toInt = (ss : Int)) (hs0 : s0 = (0 : Int32)) :
    Con l Z (⟨"com/example/needlewright/needlewright/CharNeedle", "nextEnd", "(Ljava/lang/CharSequence;II)I"⟩ : MethodName) prog_6_method_6_code 11 (some .int) ({ frames := 4, cells := 0, slots := 0, locals := 53 } : Room) #[(.ref a), (.ref sr), (.int fr), (.int s0)] h0 n0 (fun rv hv => ∃ r : Int32, rv = some (.int r) ∧ h0 = hv ∧ (own_ne f u n tl ss r)) := by
  refine Con.enter (plainFor_of_name own_pn8) Z0 ?_
  intro p e s m below meth c T0 C hnm X0
  refine Go.cast (own_ef_rm_ne m a sr fr s0) ?_
  rw [hs0]
  refine Go.aloadN C X0 (pc' := 1) d22_0 rfl rfl rfl ?_
  refine Go.getF C X0 (pc' := 4) (host := "") (Or.inl (hw _ (List.mem_of_getElem? (i := 102) rfl))) Via.refl f4 d22_1 rfl (fun T570 X570 => ?_)
  refine Go.getF C X570 (pc' := 7) (host := "") (Or.inl (hw _ (List.mem_of_getElem? (i := 117) rfl))) Via.refl f6 d22_4 rfl (fun T571 X571 => ?_)
  refine Go.astore C X571 (pc' := 9) (Ls' := #[.val (.ref a), .val (.ref sr), .val (.int fr), .val (.int (0 : Int32)), .val (.ref t), .unset, .unset, .unset, .unset, .unset, .unset]) d22_7 rfl rfl rfl ?_
  refine Go.aloadN C X571 (pc' := 10) d22_9 rfl rfl rfl ?_
  refine Go.getF C X571 (pc' := 13) (host := "") (Or.inl (hw _ (List.mem_of_getElem? (i := 102) rfl))) Via.refl f4 d22_10 rfl (fun T572 X572 => ?_)
  refine Go.callV C X572 (pc' := 16) (W := 0) (argsL := []) (rest := []) (a := au) (rm_len l Z a0 hw au t (n + 1) u zn h0 n0 X572.sz f6 f8 hzn) f5 (notFace_of_selects (args := #[]) (mvT C.2.1 (hw _ (List.mem_of_getElem? (i := 100) rfl)))) (hw _ (List.mem_of_getElem? (i := 118) rfl)) (hw _ (List.mem_of_getElem? (i := 98) rfl)) (hw _ (List.mem_of_getElem? (i := 100) rfl)) (hw _ (List.mem_of_getElem? (i := 99) rfl)) (hw _ (List.mem_of_getElem? (i := 83) rfl)) (hw _ (List.mem_of_getElem? (i := 101) rfl)) (by decide) rfl rfl (lenOf own_pd0 rfl) rfl (Nat.le_of_eq rfl) (by decide) (by decide) (by decide) (by decide) d22_13 rfl (fun _ _ q => Nat.le_of_eq (congrArg Array.size q.2)) (fun T573 h573 v573 X573 P573 => ?_)
  obtain ⟨rfl, rfl⟩ := P573
  show Go p e below _ n0 _ _ _ T573 (mkF m 16 #[.val (.ref a), .val (.ref sr), .val (.int fr), .val (.int (0 : Int32)), .val (.ref t), .unset, .unset, .unset, .unset, .unset, .unset] [(.int (zn - (1 : Int32)))])
  refine Go.istore C X573 (pc' := 18) (Ls' := #[.val (.ref a), .val (.ref sr), .val (.int fr), .val (.int (0 : Int32)), .val (.ref t), .val (.int (zn - (1 : Int32))), .unset, .unset, .unset, .unset, .unset]) d22_16 rfl rfl ?_
  refine Go.aload C X573 (pc' := 20) d22_18 rfl rfl rfl ?_
  refine Go.iconst C X573 (pc' := 21) (v := (0 : Int32)) d22_20 rfl rfl ?_
  refine Go.iaload C X573 (pc' := 22) (i := 0) (w := (u 0)) f8 rfl (by omega) rfl d22_21 rfl ?_
  refine Go.i2c C X573 (pc' := 23) d22_22 rfl ?_
  refine Go.istore C X573 (pc' := 25) (Ls' := #[.val (.ref a), .val (.ref sr), .val (.int fr), .val (.int (0 : Int32)), .val (.ref t), .val (.int (zn - (1 : Int32))), .val (.int ((u 0)).toUInt32.toUInt16.toUInt32.toInt32), .unset, .unset, .unset, .unset]) d22_23 rfl rfl ?_
  rw [show ((u 0)).toUInt32.toUInt16.toUInt32.toInt32 = (u 0) from (own_cu hcu hn1).1]
  refine Go.aloadN C X573 (pc' := 26) d22_25 rfl rfl rfl ?_
  refine Go.instY C X573 (pc' := 29) (hw _ (List.mem_of_getElem? (i := 119) rfl)) (Ins.self f10) d22_26 rfl (fun T574 X574 => ?_)
  refine Go.ifNo C X574 (pc' := 32) d22_29 ((if0 _ _).trans (feq (by decide)).1) rfl ?_
  refine Go.aloadN C X574 (pc' := 33) d22_32 rfl rfl rfl ?_
  refine Go.castY C X574 (pc' := 36) (hw _ (List.mem_of_getElem? (i := 119) rfl)) (Ins.self f10) d22_33 rfl (fun T575 X575 => ?_)
  refine Go.goto C X575 (pc' := 40) d22_36 (by decide) (by decide) ?_
  refine Go.astore C X575 (pc' := 42) (Ls' := #[.val (.ref a), .val (.ref sr), .val (.int fr), .val (.int (0 : Int32)), .val (.ref t), .val (.int (zn - (1 : Int32))), .val (.int (u 0)), .val (.ref sr), .unset, .unset, .unset]) d22_40 rfl rfl rfl ?_
  refine Go.aloadN C X575 (pc' := 43) d22_42 rfl rfl rfl ?_
  refine Go.callF C X575 (pc' := 48) (W := 0) (argsL := []) (rest := []) (a := sr) (rm_ln l Z a0 hw sr sb tl f zm cs h0 n0 X575.sz f0 f1 f10 f11 f12 f13 hcs hzm) f10 (hw _ (List.mem_of_getElem? (i := 120) rfl)) (hw _ (List.mem_of_getElem? (i := 121) rfl)) (hw _ (List.mem_of_getElem? (i := 122) rfl)) rfl (hw _ (List.mem_of_getElem? (i := 123) rfl)) (hw _ (List.mem_of_getElem? (i := 50) rfl)) (hw _ (List.mem_of_getElem? (i := 124) rfl)) (hw _ (List.mem_of_getElem? (i := 125) rfl)) (hw _ (List.mem_of_getElem? (i := 126) rfl)) (hw _ (List.mem_of_getElem? (i := 10) rfl)) (hw _ (List.mem_of_getElem? (i := 52) rfl)) (by decide) rfl rfl (lenOf own_pd0 rfl) rfl (Nat.le_of_eq rfl) (by decide) (by decide) (by decide) (by decide) d22_43 rfl (fun _ _ q => Nat.le_of_eq (congrArg Array.size q.2)) (fun T576 h576 v576 X576 P576 => ?_)
  obtain ⟨rfl, rfl⟩ := P576
  show Go p e below _ n0 _ _ _ T576 (mkF m 48 #[.val (.ref a), .val (.ref sr), .val (.int fr), .val (.int (0 : Int32)), .val (.ref t), .val (.int (zn - (1 : Int32))), .val (.int (u 0)), .val (.ref sr), .unset, .unset, .unset] [(.int zm)])
  refine Go.istore C X576 (pc' := 50) (Ls' := #[.val (.ref a), .val (.ref sr), .val (.int fr), .val (.int (0 : Int32)), .val (.ref t), .val (.int (zn - (1 : Int32))), .val (.int (u 0)), .val (.ref sr), .val (.int zm), .unset, .unset]) d22_48 rfl rfl ?_
  refine Go.iloadN C X576 (pc' := 51) d22_50 rfl rfl ?_
  refine Go.istore C X576 (pc' := 53) (Ls' := #[.val (.ref a), .val (.ref sr), .val (.int fr), .val (.int (0 : Int32)), .val (.ref t), .val (.int (zn - (1 : Int32))), .val (.int (u 0)), .val (.ref sr), .val (.int zm), .val (.int fr), .unset]) d22_51 rfl rfl ?_
  have Cut53 : ∀ (fuel : Nat) (T_53 : State) (ii : Nat) (kk : Nat) (u9 : Int32) (u3 : Int32) (s10 : Slot), (tl - ii) < fuel → (u9.toInt = (ii : Int)) → (u3.toInt = (kk : Int)) → (own_I f u n tl ss ii kk) → (s10 = .unset ∨ ∃ w : Int32, s10 = .val (.int w)) → On p l e ({ frames := 4, cells := 0, slots := 0, locals := 53 } : Room) s m #[(.ref a), (.ref sr), (.int fr), (.int s0)] below meth c n0 T_53 h0 0 0 → Go p e below (FrameEnd s) n0 (({ frames := 4, cells := 0, slots := 0, locals := 53 } : Room)).cells (({ frames := 4, cells := 0, slots := 0, locals := 53 } : Room)).slots (fun rv hv => ∃ r : Int32, rv = some (.int r) ∧ h0 = hv ∧ (own_ne f u n tl ss r)) T_53 (mkF m 53 #[.val (.ref a), .val (.ref sr), .val (.int fr), .val (.int u3), .val (.ref t), .val (.int (zn - (1 : Int32))), .val (.int (u 0)), .val (.ref sr), .val (.int zm), .val (.int u9), s10] []) := by
    intro fuel
    induction fuel with
    | zero => intro T_53 ii kk u9 u3 s10 hM_53 h9 h3 hI hs10 X_53; exact absurd hM_53 (Nat.not_lt_zero _)
    | succ fuel ih_53 =>
      intro T_53 ii kk u9 u3 s10 hM_53 h9 h3 hI hs10 X_53
      refine Go.iload C X_53 (pc' := 55) d22_53 rfl rfl ?_
      refine Go.iload C X_53 (pc' := 57) d22_55 rfl rfl ?_
      by_cases c577 : u9 < zm
      · refine Go.icmpNo C X_53 (pc' := 60) d22_57 (tlt c577).2.1 rfl ?_
        refine Go.aloadN C X_53 (pc' := 61) d22_60 rfl rfl rfl ?_
        refine Go.iload C X_53 (pc' := 63) d22_61 rfl rfl ?_
        refine Go.callF C X_53 (pc' := 68) (W := 0) (argsL := [(.int u9)]) (rest := []) (a := sr) (rm_ca l Z a0 hw sr u9 sb tl f zm ii cs sf h0 n0 X_53.sz f0 f1 f2 f10 f11 f12 f13 hcs hsf hzm h9 (show ii < tl by have := own_ilt.mp c577; omega)) f10 (hw _ (List.mem_of_getElem? (i := 140) rfl)) (hw _ (List.mem_of_getElem? (i := 141) rfl)) (hw _ (List.mem_of_getElem? (i := 142) rfl)) rfl (hw _ (List.mem_of_getElem? (i := 143) rfl)) (hw _ (List.mem_of_getElem? (i := 61) rfl)) (hw _ (List.mem_of_getElem? (i := 144) rfl)) (hw _ (List.mem_of_getElem? (i := 145) rfl)) (hw _ (List.mem_of_getElem? (i := 126) rfl)) (hw _ (List.mem_of_getElem? (i := 10) rfl)) (hw _ (List.mem_of_getElem? (i := 63) rfl)) (by decide) rfl rfl (lenOf own_pd15 rfl) rfl (Nat.le_of_eq rfl) (by decide) (by decide) (by decide) (by decide) d22_63 rfl (fun _ _ q => Nat.le_of_eq (congrArg Array.size q.2)) (fun T578 h578 v578 X578 P578 => ?_)
        obtain ⟨rfl, rfl⟩ := P578
        show Go p e below _ n0 _ _ _ T578 (mkF m 68 #[.val (.ref a), .val (.ref sr), .val (.int fr), .val (.int u3), .val (.ref t), .val (.int (zn - (1 : Int32))), .val (.int (u 0)), .val (.ref sr), .val (.int zm), .val (.int u9), s10] [(.int (own_c8 (f ii)))])
        refine Go.istore C X578 (pc' := 70) (Ls' := #[.val (.ref a), .val (.ref sr), .val (.int fr), .val (.int u3), .val (.ref t), .val (.int (zn - (1 : Int32))), .val (.int (u 0)), .val (.ref sr), .val (.int zm), .val (.int u9), .val (.int (own_c8 (f ii)))]) d22_68 (by rcases hs10 with rfl | ⟨w, rfl⟩ <;> rfl) rfl ?_
        refine Go.aloadN C X578 (pc' := 71) d22_70 rfl rfl rfl ?_
        refine Go.getF C X578 (pc' := 74) (host := "") (Or.inl (hw _ (List.mem_of_getElem? (i := 102) rfl))) Via.refl f4 d22_71 rfl (fun T579 X579 => ?_)
        refine Go.iloadN C X579 (pc' := 75) d22_74 rfl rfl ?_
        refine Go.iload C X579 (pc' := 77) d22_75 rfl rfl ?_
        refine Go.callV C X579 (pc' := 80) (W := 0) (argsL := [(.int u3), (.int (own_c8 (f ii)))]) (rest := []) (a := au) (rm_fb l Z a0 hw au u3 (own_c8 (f ii)) t t2 (n + 1) u b1 kk h0 n0 X579.sz f6 f7 f8 f9 (by omega) h3 (by have := hI.2.1; omega) (fun k a d => hb k a (by have := hI.2.1; omega))) f5 (notFace_of_selects (args := #[]) (mvT C.2.1 (hw _ (List.mem_of_getElem? (i := 138) rfl)))) (hw _ (List.mem_of_getElem? (i := 146) rfl)) (hw _ (List.mem_of_getElem? (i := 136) rfl)) (hw _ (List.mem_of_getElem? (i := 138) rfl)) (hw _ (List.mem_of_getElem? (i := 137) rfl)) (hw _ (List.mem_of_getElem? (i := 83) rfl)) (hw _ (List.mem_of_getElem? (i := 139) rfl)) (by decide) rfl rfl (lenOf own_pd1 rfl) rfl (Nat.le_of_eq rfl) (by decide) (by decide) (by decide) (by decide) d22_77 rfl (fun _ _ q => Nat.le_of_eq (congrArg Array.size q.2)) (fun T580 h580 v580 X580 P580 => ?_)
        obtain ⟨rfl, rfl⟩ := P580
        show Go p e below _ n0 _ _ _ T580 (mkF m 80 #[.val (.ref a), .val (.ref sr), .val (.int fr), .val (.int u3), .val (.ref t), .val (.int (zn - (1 : Int32))), .val (.int (u 0)), .val (.ref sr), .val (.int zm), .val (.int u9), .val (.int (own_c8 (f ii)))] [(.int (Int32.ofNat (own_fb u b1 (own_c8 (f ii)) kk)))])
        refine Go.istoreN C X580 (pc' := 81) (Ls' := #[.val (.ref a), .val (.ref sr), .val (.int fr), .val (.int (Int32.ofNat (own_fb u b1 (own_c8 (f ii)) kk))), .val (.ref t), .val (.int (zn - (1 : Int32))), .val (.int (u 0)), .val (.ref sr), .val (.int zm), .val (.int u9), .val (.int (own_c8 (f ii)))]) d22_80 rfl rfl ?_
        refine Go.aload C X580 (pc' := 83) d22_81 rfl rfl rfl ?_
        refine Go.iloadN C X580 (pc' := 84) d22_83 rfl rfl ?_
        refine Go.iaload C X580 (pc' := 85) (i := (own_fb u b1 (own_c8 (f ii)) kk)) (w := (u (own_fb u b1 (own_c8 (f ii)) kk))) f8 (own_n32 (by have := own_fb_le u b1 (own_c8 (f ii)) kk; have := hI.2.1; omega)) (by have := own_fb_le u b1 (own_c8 (f ii)) kk; have := hI.2.1; omega) rfl d22_84 rfl ?_
        refine Go.iload C X580 (pc' := 87) d22_85 rfl rfl ?_
        by_cases c581 : (u (own_fb u b1 (own_c8 (f ii)) kk)) = (own_c8 (f ii))
        · refine Go.icmpYes C X580 (pc' := 119) d22_87 (teq c581).1 (by decide) (by decide) ?_
          refine Go.iinc C X580 (pc' := 122) (Ls' := #[.val (.ref a), .val (.ref sr), .val (.int fr), .val (.int ((Int32.ofNat (own_fb u b1 (own_c8 (f ii)) kk)) + (1 : Int32))), .val (.ref t), .val (.int (zn - (1 : Int32))), .val (.int (u 0)), .val (.ref sr), .val (.int zm), .val (.int u9), .val (.int (own_c8 (f ii)))]) (v' := ((Int32.ofNat (own_fb u b1 (own_c8 (f ii)) kk)) + (1 : Int32))) d22_119 rfl rfl rfl rfl ?_
          refine Go.iloadN C X580 (pc' := 123) d22_122 rfl rfl ?_
          refine Go.iload C X580 (pc' := 125) d22_123 rfl rfl ?_
          by_cases c582 : ((Int32.ofNat (own_fb u b1 (own_c8 (f ii)) kk)) + (1 : Int32)) = (zn - (1 : Int32))
          · refine Go.icmpNo C X580 (pc' := 128) d22_125 (teq c582).2 rfl ?_
            refine Go.iload C X580 (pc' := 130) d22_128 rfl rfl ?_
            refine Go.iconst C X580 (pc' := 131) (v := (1 : Int32)) d22_130 rfl rfl ?_
            refine Go.iadd C X580 (pc' := 132) d22_131 rfl ?_
            exact Go.retI C X580 d22_132 ⟨(u9 + (1 : Int32)), rfl, rfl, (Or.inl ⟨ii + 1, own_up1 h9 (by have := (show ii < tl by have := own_ilt.mp c577; omega); omega), (own_stA (fun q a d => hb q a (by omega)) (own_min hun) hI (show ii < tl by have := own_ilt.mp c577; omega) c581).1 ((own_ofz hzn hn4 (by have := own_fb_le u b1 (own_c8 (f ii)) kk; have := hI.2.1; omega)).mp c582)⟩)⟩ (by decide) (by decide)
          · refine Go.icmpYes C X580 (pc' := 133) d22_125 (feq c582).2 (by decide) (by decide) ?_
            refine Go.iinc C X580 (pc' := 136) (Ls' := #[.val (.ref a), .val (.ref sr), .val (.int fr), .val (.int ((Int32.ofNat (own_fb u b1 (own_c8 (f ii)) kk)) + (1 : Int32))), .val (.ref t), .val (.int (zn - (1 : Int32))), .val (.int (u 0)), .val (.ref sr), .val (.int zm), .val (.int (u9 + (1 : Int32))), .val (.int (own_c8 (f ii)))]) (v' := (u9 + (1 : Int32))) d22_133 rfl rfl rfl rfl ?_
            refine Go.goto C X580 (pc' := 53) d22_136 (by decide) (by decide) ?_
            exact ih_53 T580 (ii + 1) ((own_fb u b1 (own_c8 (f ii)) kk) + 1) (u9 + (1 : Int32)) ((Int32.ofNat (own_fb u b1 (own_c8 (f ii)) kk)) + (1 : Int32)) (.val (.int (own_c8 (f ii)))) (by have := (show ii < tl by have := own_ilt.mp c577; omega); omega) (own_up1 h9 (by have := (show ii < tl by have := own_ilt.mp c577; omega); omega)) (by rw [own_add1 (by have := own_fb_le u b1 (own_c8 (f ii)) kk; have := hI.2.1; omega)]; exact own_n32 (by have := own_fb_le u b1 (own_c8 (f ii)) kk; have := hI.2.1; omega)) ((own_stA (fun q a d => hb q a (by omega)) (own_min hun) hI (show ii < tl by have := own_ilt.mp c577; omega) c581).2 (fun e => c582 ((own_ofz hzn hn4 (by have := own_fb_le u b1 (own_c8 (f ii)) kk; have := hI.2.1; omega)).mpr e))) (Or.inr ⟨_, rfl⟩) X580
        · refine Go.icmpNo C X580 (pc' := 90) d22_87 (feq c581).1 rfl ?_
          refine Go.aload C X580 (pc' := 92) d22_90 rfl rfl rfl ?_
          refine Go.ifnonnullYes C X580 (pc' := 98) d22_92 (by decide) (by decide) ?_
          refine Go.aload C X580 (pc' := 100) d22_98 rfl rfl rfl ?_
          refine Go.iload C X580 (pc' := 102) d22_100 rfl rfl ?_
          refine Go.iload C X580 (pc' := 104) d22_102 rfl rfl ?_
          refine Go.iconst C X580 (pc' := 105) (v := (1 : Int32)) d22_104 rfl rfl ?_
          refine Go.iadd C X580 (pc' := 106) d22_105 rfl ?_
          refine Go.callV C X580 (pc' := 109) (W := 0) (argsL := [(.int (u 0)), (.int (u9 + (1 : Int32)))]) (rest := []) (a := sr) (rm_io l Z a0 hw sr (u 0) (u9 + (1 : Int32)) sb tl f zm (ii + 1) cs h0 n0 X580.sz f0 f1 f10 f11 f12 f13 hcs hzm hm8 (own_up1 h9 (by have := (show ii < tl by have := own_ilt.mp c577; omega); omega)) (own_cu hcu hn1).2) f10 (notFace_of_selects (args := #[]) (mvT C.2.1 (hw _ (List.mem_of_getElem? (i := 151) rfl)))) (hw _ (List.mem_of_getElem? (i := 148) rfl)) (hw _ (List.mem_of_getElem? (i := 149) rfl)) (hw _ (List.mem_of_getElem? (i := 151) rfl)) (hw _ (List.mem_of_getElem? (i := 150) rfl)) (hw _ (List.mem_of_getElem? (i := 10) rfl)) (hw _ (List.mem_of_getElem? (i := 152) rfl)) (by decide) rfl rfl (lenOf own_pd1 rfl) rfl (Nat.le_of_eq rfl) (by decide) (by decide) (by decide) (by decide) d22_106 rfl (fun _ _ q => by obtain ⟨_, _, e, _⟩ := q; exact Nat.le_of_eq (congrArg Array.size e)) (fun T583 h583 v583 X583 P583 => ?_)
          obtain ⟨r583, rfl, rfl, Y583_0⟩ := P583
          show Go p e below _ n0 _ _ _ T583 (mkF m 109 #[.val (.ref a), .val (.ref sr), .val (.int fr), .val (.int (Int32.ofNat (own_fb u b1 (own_c8 (f ii)) kk))), .val (.ref t), .val (.int (zn - (1 : Int32))), .val (.int (u 0)), .val (.ref sr), .val (.int zm), .val (.int u9), .val (.int (own_c8 (f ii)))] [(.int r583)])
          obtain ⟨z0, hM0⟩ := own_stB (fun q a d => hb q a (by omega)) (own_min hun) hI c581
          rcases own_iob hrg hcu hn1 Y583_0 with ⟨p, p1, p2, p3, p4, p5⟩ | ⟨p1, p2⟩
          · refine Go.istore C X583 (pc' := 111) (Ls' := #[.val (.ref a), .val (.ref sr), .val (.int fr), .val (.int (Int32.ofNat (own_fb u b1 (own_c8 (f ii)) kk))), .val (.ref t), .val (.int (zn - (1 : Int32))), .val (.int (u 0)), .val (.ref sr), .val (.int zm), .val (.int r583), .val (.int (own_c8 (f ii)))]) d22_109 rfl rfl ?_
            refine Go.iload C X583 (pc' := 113) d22_111 rfl rfl ?_
            refine Go.iconst C X583 (pc' := 114) (v := (-1 : Int32)) d22_113 rfl rfl ?_
            refine Go.icmpYes C X583 (pc' := 119) d22_114 (feq (fun q => by have e : (-1 : Int32).toInt = -1 := rfl; rw [own_ieq.mp q, e] at p1; omega)).2 (by decide) (by decide) ?_
            refine Go.iinc C X583 (pc' := 122) (Ls' := #[.val (.ref a), .val (.ref sr), .val (.int fr), .val (.int ((Int32.ofNat (own_fb u b1 (own_c8 (f ii)) kk)) + (1 : Int32))), .val (.ref t), .val (.int (zn - (1 : Int32))), .val (.int (u 0)), .val (.ref sr), .val (.int zm), .val (.int r583), .val (.int (own_c8 (f ii)))]) (v' := ((Int32.ofNat (own_fb u b1 (own_c8 (f ii)) kk)) + (1 : Int32))) d22_119 rfl rfl rfl rfl ?_
            refine Go.iloadN C X583 (pc' := 123) d22_122 rfl rfl ?_
            refine Go.iload C X583 (pc' := 125) d22_123 rfl rfl ?_
            by_cases c585 : ((Int32.ofNat (own_fb u b1 (own_c8 (f ii)) kk)) + (1 : Int32)) = (zn - (1 : Int32))
            · refine Go.icmpNo C X583 (pc' := 128) d22_125 (teq c585).2 rfl ?_
              refine Go.iload C X583 (pc' := 130) d22_128 rfl rfl ?_
              refine Go.iconst C X583 (pc' := 131) (v := (1 : Int32)) d22_130 rfl rfl ?_
              refine Go.iadd C X583 (pc' := 132) d22_131 rfl ?_
              exact Go.retI C X583 d22_132 ⟨(r583 + (1 : Int32)), rfl, rfl, (Or.inl ⟨p + 1, own_up1 p1 (by omega), (own_jump hn1 (fun q a d => hb q a (by omega)) (own_min hun) hI hM0 p2 p3 p4 p5).1 (by have := (own_ofz hzn hn4 (by have := own_fb_le u b1 (own_c8 (f ii)) kk; have := hI.2.1; omega)).mp c585; omega)⟩)⟩ (by decide) (by decide)
            · refine Go.icmpYes C X583 (pc' := 133) d22_125 (feq c585).2 (by decide) (by decide) ?_
              refine Go.iinc C X583 (pc' := 136) (Ls' := #[.val (.ref a), .val (.ref sr), .val (.int fr), .val (.int ((Int32.ofNat (own_fb u b1 (own_c8 (f ii)) kk)) + (1 : Int32))), .val (.ref t), .val (.int (zn - (1 : Int32))), .val (.int (u 0)), .val (.ref sr), .val (.int zm), .val (.int (r583 + (1 : Int32))), .val (.int (own_c8 (f ii)))]) (v' := (r583 + (1 : Int32))) d22_133 rfl rfl rfl rfl ?_
              refine Go.goto C X583 (pc' := 53) d22_136 (by decide) (by decide) ?_
              exact ih_53 T583 (p + 1) ((own_fb u b1 (own_c8 (f ii)) kk) + 1) (r583 + (1 : Int32)) ((Int32.ofNat (own_fb u b1 (own_c8 (f ii)) kk)) + (1 : Int32)) (.val (.int (own_c8 (f ii)))) (by have := (show ii < tl by have := own_ilt.mp c577; omega); omega) (own_up1 p1 (by omega)) (by rw [own_add1 (by have := own_fb_le u b1 (own_c8 (f ii)) kk; have := hI.2.1; omega)]; exact own_n32 (by have := own_fb_le u b1 (own_c8 (f ii)) kk; have := hI.2.1; omega)) (by rw [z0]; exact (own_jump hn1 (fun q a d => hb q a (by omega)) (own_min hun) hI hM0 p2 p3 p4 p5).2 (fun e => c585 ((own_ofz hzn hn4 (by have := own_fb_le u b1 (own_c8 (f ii)) kk; have := hI.2.1; omega)).mpr (by omega)))) (Or.inr ⟨_, rfl⟩) X583
          · refine Go.istore C X583 (pc' := 111) (Ls' := #[.val (.ref a), .val (.ref sr), .val (.int fr), .val (.int (Int32.ofNat (own_fb u b1 (own_c8 (f ii)) kk))), .val (.ref t), .val (.int (zn - (1 : Int32))), .val (.int (u 0)), .val (.ref sr), .val (.int zm), .val (.int r583), .val (.int (own_c8 (f ii)))]) d22_109 rfl rfl ?_
            refine Go.iload C X583 (pc' := 113) d22_111 rfl rfl ?_
            refine Go.iconst C X583 (pc' := 114) (v := (-1 : Int32)) d22_113 rfl rfl ?_
            refine Go.icmpNo C X583 (pc' := 117) d22_114 (teq (own_ieq.mpr p1)).2 rfl ?_
            refine Go.iconst C X583 (pc' := 118) (v := (-1 : Int32)) d22_117 rfl rfl ?_
            exact Go.retI C X583 d22_118 ⟨(-1 : Int32), rfl, rfl, (Or.inr ⟨rfl, fun q a o => own_later hn1 (fun q a d => hb q a (by omega)) (own_min hun) hI hM0 p2 q a o.1 o⟩)⟩ (by decide) (by decide)
      · refine Go.icmpYes C X_53 (pc' := 139) d22_57 (flt c577).2.1 (by decide) (by decide) ?_
        refine Go.iconst C X_53 (pc' := 140) (v := (-1 : Int32)) d22_139 rfl rfl ?_
        exact Go.retI C X_53 d22_140 ⟨(-1 : Int32), rfl, rfl, (Or.inr ⟨rfl, own_out hI (by have := own_nilt c577; omega)⟩)⟩ (by decide) (by decide)
  exact Cut53 (_) T576 ss 0 fr (0 : Int32) (.unset) (Nat.lt_succ_self _) hfr rfl (own_I0 hn1) (Or.inl rfl) X576
theorem own_ef_rm_ii (m : MethodId) (x0 : Addr) (x1 : Addr) (x2 : Int32) : entryFrame m #[(.ref x0), (.ref x1), (.int x2)] 4 = mkF m 0 #[.val (.ref x0), .val (.ref x1), .val (.int x2), .unset] [] := by first | (simp [entryFrame, mkF, argsToLocals, Value.category]; done) | rfl
theorem d20_0 : decode prog_6_method_4_code 0 = .ok (.aload_n 0, 1) := by decide +kernel
theorem d20_1 : decode prog_6_method_4_code 1 = .ok (.aload_n 1, 1) := by decide +kernel
theorem d20_2 : decode prog_6_method_4_code 2 = .ok (.iload_n 2, 1) := by decide +kernel
theorem d20_3 : decode prog_6_method_4_code 3 = .ok (.iconst 0, 1) := by decide +kernel
theorem d20_4 : decode prog_6_method_4_code 4 = .ok (.invokestatic 33, 3) := by decide +kernel
theorem d20_7 : decode prog_6_method_4_code 7 = .ok (.iconst 0, 1) := by decide +kernel
theorem d20_8 : decode prog_6_method_4_code 8 = .ok (.invokevirtual 39, 3) := by decide +kernel
theorem own_pd17 : parseMethodDescriptor "(Ljava/lang/CharSequence;II)I" = some ⟨[(.object "java/lang/CharSequence"), .int, .int], some .int⟩ := by decide +kernel
theorem d20_11 : decode prog_6_method_4_code 11 = .ok (.istore_n 3, 1) := by decide +kernel
theorem d20_12 : decode prog_6_method_4_code 12 = .ok (.iload_n 3, 1) := by decide +kernel
theorem d20_13 : decode prog_6_method_4_code 13 = .ok (.iconst (-1), 1) := by decide +kernel
theorem d20_14 : decode prog_6_method_4_code 14 = .ok (.if_icmp .ne 7, 3) := by decide +kernel
theorem d20_17 : decode prog_6_method_4_code 17 = .ok (.iconst (-1), 1) := by decide +kernel
theorem d20_18 : decode prog_6_method_4_code 18 = .ok (.goto 12, 3) := by decide +kernel
theorem d20_30 : decode prog_6_method_4_code 30 = .ok (.ireturn, 1) := by decide +kernel
theorem d20_21 : decode prog_6_method_4_code 21 = .ok (.iload_n 3, 1) := by decide +kernel
theorem d20_22 : decode prog_6_method_4_code 22 = .ok (.aload_n 0, 1) := by decide +kernel
theorem d20_23 : decode prog_6_method_4_code 23 = .ok (.getfield 22, 3) := by decide +kernel
theorem d20_26 : decode prog_6_method_4_code 26 = .ok (.invokevirtual 28, 3) := by decide +kernel
theorem d20_29 : decode prog_6_method_4_code 29 = .ok (.isub, 1) := by decide +kernel
set_option maxRecDepth 65536 in
set_option maxHeartbeats 40000000 in
theorem rm_ii (l : Launch) (Z : State) (a0 : Array Value) (hw : ∀ d ∈ tables_1, d.before a0 Z = true) (a : Addr) (sr : Addr) (fr : Int32) (au : Addr) (t : Addr) (t2 : Addr) (n : Nat) (u : Nat → Int32) (b1 : Nat → Nat) (zn : Int32) (sb : Addr) (tl : Nat) (f : Nat → Int32) (zm : Int32) (ss : Nat) (cs : Int32) (sf : Value) (h0 : Heap) (n0 : Nat) (Z0 : n0 ≤ h0.size) (f0 : Old Z n0 h0) (f1 : Sta Z Z.heap "java/lang/String" "COMPACT_STRINGS" "Z" (.int cs)) (f2 : Sta Z Z.heap "jdk/internal/util/Preconditions" "SIOOBE_FORMATTER" "Ljava/util/function/BiFunction;" sf) (f3 : Exa Z h0 a "com/example/needlewright/needlewright/CharNeedle") (f4 : Fld Z h0 a "com/example/needlewright/needlewright/CharNeedle" "automaton" "Lcom/example/needlewright/needlewright/Automaton;" (.ref au)) (f5 : Exa Z h0 au "com/example/needlewright/needlewright/Automaton") (f6 : Fld Z h0 au "com/example/needlewright/needlewright/Automaton" "units" "[I" (.ref t)) (f7 : Fld Z h0 au "com/example/needlewright/needlewright/Automaton" "borders" "[I" (.ref t2)) (f8 : AI Z h0 t .int (n + 1) u) (f9 : AI Z h0 t2 .int (n + 1) (own_ofn b1)) (f10 : Exa Z h0 sr "java/lang/String") (f11 : Fld Z h0 sr "java/lang/String" "value" "[B" (.ref sb)) (f12 : Fld Z h0 sr "java/lang/String" "coder" "B" (.int (0 : Int32))) (f13 : AI Z h0 sb .byte tl f) (hcs : ¬ cs = (0 : Int32)) (hsf : sf.isRef = true) (hzn : zn.toInt = ((n + 1 : Nat) : Int)) (hzm : zm.toInt = (tl : Int)) (hn1 : 1 ≤ n) (hn4 : n ≤ 4) (hm8 : tl ≤ 8) (hcu : ∀ q, q < n → ∃ y, u q = own_c8 y) (hun : u n = (-2147483648 : Int32)) (hb : ∀ k, 1 ≤ k → k < n + 1 → own_P u k (b1 k)) (hrg : ∀ q, own_bt (f q)) (hfr : (own_f_rm_mx fr (0 : Int32)).toInt = (ss : Int)) :
    Con l Z (⟨"com/example/needlewright/needlewright/CharNeedle", "indexIn", "(Ljava/lang/CharSequence;I)I"⟩ : MethodName) prog_6_method_4_code 4 (some .int) ({ frames := 5, cells := 0, slots := 0, locals := 75 } : Room) #[(.ref a), (.ref sr), (.int fr)] h0 n0 (fun rv hv => ∃ r : Int32, rv = some (.int r) ∧ h0 = hv ∧ (own_res f u n tl ss r)) := by
  refine Con.enter (plainFor_of_name own_pn8) Z0 ?_
  intro p e s m below meth c T0 C hnm X0
  refine Go.cast (own_ef_rm_ii m a sr fr) ?_
  refine Go.aloadN C X0 (pc' := 1) d20_0 rfl rfl rfl ?_
  refine Go.aloadN C X0 (pc' := 2) d20_1 rfl rfl rfl ?_
  refine Go.iloadN C X0 (pc' := 3) d20_2 rfl rfl ?_
  refine Go.iconst C X0 (pc' := 4) (v := (0 : Int32)) d20_3 rfl rfl ?_
  refine Go.callS C X0 (pc' := 7) (W := 2) (argsL := [(.int fr), (.int (0 : Int32))]) (rest := [(.ref sr), (.ref a)]) (rm_mx l Z a0 hw fr (0 : Int32) h0 n0 X0.sz ) (hw _ (List.mem_of_getElem? (i := 109) rfl)) (hw _ (List.mem_of_getElem? (i := 110) rfl)) (hw _ (List.mem_of_getElem? (i := 111) rfl)) (hw _ (List.mem_of_getElem? (i := 112) rfl)) (by decide) rfl rfl (lenOf own_pd1 rfl) rfl (Nat.le_of_eq rfl) (by decide) (by decide) (by decide) (by decide) d20_4 rfl (fun _ _ q => Nat.le_of_eq (congrArg Array.size q.2)) (fun T586 h586 v586 X586 P586 => ?_)
  obtain ⟨rfl, rfl⟩ := P586
  show Go p e below _ n0 _ _ _ T586 (mkF m 7 #[.val (.ref a), .val (.ref sr), .val (.int fr), .unset] [(.int (own_f_rm_mx fr (0 : Int32))), (.ref sr), (.ref a)])
  refine Go.iconst C X586 (pc' := 8) (v := (0 : Int32)) d20_7 rfl rfl ?_
  refine Go.callP C X586 (pc' := 11) (W := 0) (argsL := [(.ref sr), (.int (own_f_rm_mx fr (0 : Int32))), (.int (0 : Int32))]) (rest := []) (a := a) (rm_ne l Z a0 hw a sr (own_f_rm_mx fr (0 : Int32)) (0 : Int32) au t t2 n u b1 zn sb tl f zm ss cs sf h0 n0 X586.sz f0 f1 f2 f3 f4 f5 f6 f7 f8 f9 f10 f11 f12 f13 hcs hsf hzn hzm hn1 hn4 hm8 hcu hun hb hrg hfr rfl) f3 (hw _ (List.mem_of_getElem? (i := 113) rfl)) (hw _ (List.mem_of_getElem? (i := 114) rfl)) (hw _ (List.mem_of_getElem? (i := 42) rfl)) (hw _ (List.mem_of_getElem? (i := 115) rfl)) (hw _ (List.mem_of_getElem? (i := 43) rfl)) (hw _ (List.mem_of_getElem? (i := 116) rfl)) (by decide) rfl rfl (lenOf own_pd17 rfl) rfl (Nat.le_of_eq rfl) (by decide) (by decide) (by decide) (by decide) d20_8 rfl (fun _ _ q => by obtain ⟨_, _, e, _⟩ := q; exact Nat.le_of_eq (congrArg Array.size e)) (fun T587 h587 v587 X587 P587 => ?_)
  obtain ⟨r587, rfl, rfl, Y587_0⟩ := P587
  show Go p e below _ n0 _ _ _ T587 (mkF m 11 #[.val (.ref a), .val (.ref sr), .val (.int fr), .unset] [(.int r587)])
  refine Go.istoreN C X587 (pc' := 12) (Ls' := #[.val (.ref a), .val (.ref sr), .val (.int fr), .val (.int r587)]) d20_11 rfl rfl ?_
  refine Go.iloadN C X587 (pc' := 13) d20_12 rfl rfl ?_
  refine Go.iconst C X587 (pc' := 14) (v := (-1 : Int32)) d20_13 rfl rfl ?_
  by_cases c588 : r587 = (-1 : Int32)
  · refine Go.icmpNo C X587 (pc' := 17) d20_14 (teq c588).2 rfl ?_
    refine Go.iconst C X587 (pc' := 18) (v := (-1 : Int32)) d20_17 rfl rfl ?_
    refine Go.goto C X587 (pc' := 30) d20_18 (by decide) (by decide) ?_
    exact Go.retI C X587 d20_30 ⟨(-1 : Int32), rfl, rfl, (own_fin2 Y587_0 c588)⟩ (by decide) (by decide)
  · refine Go.icmpYes C X587 (pc' := 21) d20_14 (feq c588).2 (by decide) (by decide) ?_
    refine Go.iloadN C X587 (pc' := 22) d20_21 rfl rfl ?_
    refine Go.aloadN C X587 (pc' := 23) d20_22 rfl rfl rfl ?_
    refine Go.getF C X587 (pc' := 26) (host := "") (Or.inl (hw _ (List.mem_of_getElem? (i := 102) rfl))) Via.refl f4 d20_23 rfl (fun T589 X589 => ?_)
    refine Go.callV C X589 (pc' := 29) (W := 1) (argsL := []) (rest := [(.int r587)]) (a := au) (rm_len l Z a0 hw au t (n + 1) u zn h0 n0 X589.sz f6 f8 hzn) f5 (notFace_of_selects (args := #[]) (mvT C.2.1 (hw _ (List.mem_of_getElem? (i := 100) rfl)))) (hw _ (List.mem_of_getElem? (i := 118) rfl)) (hw _ (List.mem_of_getElem? (i := 98) rfl)) (hw _ (List.mem_of_getElem? (i := 100) rfl)) (hw _ (List.mem_of_getElem? (i := 99) rfl)) (hw _ (List.mem_of_getElem? (i := 83) rfl)) (hw _ (List.mem_of_getElem? (i := 101) rfl)) (by decide) rfl rfl (lenOf own_pd0 rfl) rfl (Nat.le_of_eq rfl) (by decide) (by decide) (by decide) (by decide) d20_26 rfl (fun _ _ q => Nat.le_of_eq (congrArg Array.size q.2)) (fun T590 h590 v590 X590 P590 => ?_)
    obtain ⟨rfl, rfl⟩ := P590
    show Go p e below _ n0 _ _ _ T590 (mkF m 29 #[.val (.ref a), .val (.ref sr), .val (.int fr), .val (.int r587)] [(.int (zn - (1 : Int32))), (.int r587)])
    refine Go.isub C X590 (pc' := 30) d20_29 rfl ?_
    exact Go.retI C X590 d20_30 ⟨(r587 - (zn - (1 : Int32))), rfl, rfl, (own_fin1 (own_zn hzn hn4) hm8 Y587_0 c588)⟩ (by decide) (by decide)
theorem own_upk {x k : Int32} {i d : Nat} (h : x.toInt = (i : Int)) (hk : k.toInt = (d : Int)) (hi : i < 100) (hd : d < 100) : (x + k).toInt = ((i + d : Nat) : Int) := by
  rw [own_iadd (by omega) (by omega), h, hk]; omega
theorem own_fit {p z m : Int32} {i n l : Nat} (hp : p.toInt = (i : Int)) (hz : z.toInt = (n : Int)) (hm : m.toInt = (l : Int)) (h1 : i < 100) (h2 : n < 100) : m < p + z ↔ l < i + n := by
  rw [own_ilt, own_upk hp hz h1 h2, hm]; omega
theorem own_jn {k z : Int32} {d n : Nat} (hk : k.toInt = (d : Int)) (hz : z.toInt = (n : Int)) : k < z ↔ d < n := by
  rw [own_ilt, hk, hz]; omega
theorem own_mkocc {f u : Nat → Int32} {n m p : Nat} (h : p + n ≤ m) (hn : n ≤ 4) (c0 : 0 < n → own_c8 (f (p + 0)) = u 0) (c1 : 1 < n → own_c8 (f (p + 1)) = u 1) (c2 : 2 < n → own_c8 (f (p + 2)) = u 2) (c3 : 3 < n → own_c8 (f (p + 3)) = u 3) : own_occ f u n m p := ⟨h, fun j hj => by
  rcases (by omega : j = 0 ∨ j = 1 ∨ j = 2 ∨ j = 3) with q | q | q | q <;> subst q
  · exact c0 hj
  · exact c1 hj
  · exact c2 hj
  · exact c3 hj⟩
theorem own_ef_rm_at (m : MethodId) (x0 : Addr) (x1 : Addr) (x2 : Int32) : entryFrame m #[(.ref x0), (.ref x1), (.int x2)] 4 = mkF m 0 #[.val (.ref x0), .val (.ref x1), .val (.int x2), .unset] [] := by first | (simp [entryFrame, mkF, argsToLocals, Value.category]; done) | rfl
theorem d24_0 : decode method_5_code 0 = .ok (.aload_n 1, 1) := by decide +kernel
theorem d24_1 : decode method_5_code 1 = .ok (.invokevirtual 37, 3) := by decide +kernel
theorem d24_4 : decode method_5_code 4 = .ok (.istore_n 3, 1) := by decide +kernel
theorem d24_5 : decode method_5_code 5 = .ok (.iload_n 2, 1) := by decide +kernel
theorem d24_6 : decode method_5_code 6 = .ok (.iload_n 3, 1) := by decide +kernel
theorem d24_7 : decode method_5_code 7 = .ok (.iadd, 1) := by decide +kernel
theorem d24_8 : decode method_5_code 8 = .ok (.aload_n 0, 1) := by decide +kernel
theorem d24_9 : decode method_5_code 9 = .ok (.invokevirtual 37, 3) := by decide +kernel
theorem d24_12 : decode method_5_code 12 = .ok (.if_icmp .le 5, 3) := by decide +kernel
theorem d24_15 : decode method_5_code 15 = .ok (.iconst 0, 1) := by decide +kernel
theorem d24_16 : decode method_5_code 16 = .ok (.ireturn, 1) := by decide +kernel
theorem d24_17 : decode method_5_code 17 = .ok (.aload_n 0, 1) := by decide +kernel
theorem d24_18 : decode method_5_code 18 = .ok (.iload_n 2, 1) := by decide +kernel
theorem d24_19 : decode method_5_code 19 = .ok (.invokevirtual 41, 3) := by decide +kernel
theorem d24_22 : decode method_5_code 22 = .ok (.aload_n 1, 1) := by decide +kernel
theorem d24_23 : decode method_5_code 23 = .ok (.iconst 0, 1) := by decide +kernel
theorem d24_24 : decode method_5_code 24 = .ok (.invokevirtual 41, 3) := by decide +kernel
theorem d24_27 : decode method_5_code 27 = .ok (.if_icmp .eq 5, 3) := by decide +kernel
theorem d24_32 : decode method_5_code 32 = .ok (.iload_n 3, 1) := by decide +kernel
theorem d24_33 : decode method_5_code 33 = .ok (.iconst 1, 1) := by decide +kernel
theorem d24_34 : decode method_5_code 34 = .ok (.if_icmp .le 20, 3) := by decide +kernel
theorem d24_37 : decode method_5_code 37 = .ok (.aload_n 0, 1) := by decide +kernel
theorem d24_38 : decode method_5_code 38 = .ok (.iload_n 2, 1) := by decide +kernel
theorem d24_39 : decode method_5_code 39 = .ok (.iconst 1, 1) := by decide +kernel
theorem d24_40 : decode method_5_code 40 = .ok (.iadd, 1) := by decide +kernel
theorem d24_41 : decode method_5_code 41 = .ok (.invokevirtual 41, 3) := by decide +kernel
theorem d24_44 : decode method_5_code 44 = .ok (.aload_n 1, 1) := by decide +kernel
theorem d24_45 : decode method_5_code 45 = .ok (.iconst 1, 1) := by decide +kernel
theorem d24_46 : decode method_5_code 46 = .ok (.invokevirtual 41, 3) := by decide +kernel
theorem d24_49 : decode method_5_code 49 = .ok (.if_icmp .eq 5, 3) := by decide +kernel
theorem d24_54 : decode method_5_code 54 = .ok (.iload_n 3, 1) := by decide +kernel
theorem d24_55 : decode method_5_code 55 = .ok (.iconst 2, 1) := by decide +kernel
theorem d24_56 : decode method_5_code 56 = .ok (.if_icmp .le 20, 3) := by decide +kernel
theorem d24_59 : decode method_5_code 59 = .ok (.aload_n 0, 1) := by decide +kernel
theorem d24_60 : decode method_5_code 60 = .ok (.iload_n 2, 1) := by decide +kernel
theorem d24_61 : decode method_5_code 61 = .ok (.iconst 2, 1) := by decide +kernel
theorem d24_62 : decode method_5_code 62 = .ok (.iadd, 1) := by decide +kernel
theorem d24_63 : decode method_5_code 63 = .ok (.invokevirtual 41, 3) := by decide +kernel
theorem d24_66 : decode method_5_code 66 = .ok (.aload_n 1, 1) := by decide +kernel
theorem d24_67 : decode method_5_code 67 = .ok (.iconst 2, 1) := by decide +kernel
theorem d24_68 : decode method_5_code 68 = .ok (.invokevirtual 41, 3) := by decide +kernel
theorem d24_71 : decode method_5_code 71 = .ok (.if_icmp .eq 5, 3) := by decide +kernel
theorem d24_76 : decode method_5_code 76 = .ok (.iload_n 3, 1) := by decide +kernel
theorem d24_77 : decode method_5_code 77 = .ok (.iconst 3, 1) := by decide +kernel
theorem d24_78 : decode method_5_code 78 = .ok (.if_icmp .le 20, 3) := by decide +kernel
theorem d24_81 : decode method_5_code 81 = .ok (.aload_n 0, 1) := by decide +kernel
theorem d24_82 : decode method_5_code 82 = .ok (.iload_n 2, 1) := by decide +kernel
theorem d24_83 : decode method_5_code 83 = .ok (.iconst 3, 1) := by decide +kernel
theorem d24_84 : decode method_5_code 84 = .ok (.iadd, 1) := by decide +kernel
theorem d24_85 : decode method_5_code 85 = .ok (.invokevirtual 41, 3) := by decide +kernel
theorem d24_88 : decode method_5_code 88 = .ok (.aload_n 1, 1) := by decide +kernel
theorem d24_89 : decode method_5_code 89 = .ok (.iconst 3, 1) := by decide +kernel
theorem d24_90 : decode method_5_code 90 = .ok (.invokevirtual 41, 3) := by decide +kernel
theorem d24_93 : decode method_5_code 93 = .ok (.if_icmp .eq 5, 3) := by decide +kernel
theorem d24_98 : decode method_5_code 98 = .ok (.iconst 1, 1) := by decide +kernel
theorem d24_99 : decode method_5_code 99 = .ok (.ireturn, 1) := by decide +kernel
theorem d24_96 : decode method_5_code 96 = .ok (.iconst 0, 1) := by decide +kernel
theorem d24_97 : decode method_5_code 97 = .ok (.ireturn, 1) := by decide +kernel
theorem d24_74 : decode method_5_code 74 = .ok (.iconst 0, 1) := by decide +kernel
theorem d24_75 : decode method_5_code 75 = .ok (.ireturn, 1) := by decide +kernel
theorem d24_52 : decode method_5_code 52 = .ok (.iconst 0, 1) := by decide +kernel
theorem d24_53 : decode method_5_code 53 = .ok (.ireturn, 1) := by decide +kernel
theorem d24_30 : decode method_5_code 30 = .ok (.iconst 0, 1) := by decide +kernel
theorem d24_31 : decode method_5_code 31 = .ok (.ireturn, 1) := by decide +kernel
set_option maxRecDepth 65536 in
set_option maxHeartbeats 40000000 in
theorem rm_at (l : Launch) (Z : State) (a0 : Array Value) (hw : ∀ d ∈ tables_1, d.before a0 Z = true) (tt : Addr) (nd : Addr) (pz : Int32) (tb : Addr) (tl : Nat) (f : Nat → Int32) (zm : Int32) (nb : Addr) (n : Nat) (g : Nat → Int32) (zn : Int32) (pp : Nat) (cs : Int32) (sf : Value) (h0 : Heap) (n0 : Nat) (Z0 : n0 ≤ h0.size) (f0 : Old Z n0 h0) (f1 : Sta Z Z.heap "java/lang/String" "COMPACT_STRINGS" "Z" (.int cs)) (f2 : Sta Z Z.heap "jdk/internal/util/Preconditions" "SIOOBE_FORMATTER" "Ljava/util/function/BiFunction;" sf) (f3 : Exa Z h0 tt "java/lang/String") (f4 : Fld Z h0 tt "java/lang/String" "value" "[B" (.ref tb)) (f5 : Fld Z h0 tt "java/lang/String" "coder" "B" (.int (0 : Int32))) (f6 : AI Z h0 tb .byte tl f) (f7 : Exa Z h0 nd "java/lang/String") (f8 : Fld Z h0 nd "java/lang/String" "value" "[B" (.ref nb)) (f9 : Fld Z h0 nd "java/lang/String" "coder" "B" (.int (0 : Int32))) (f10 : AI Z h0 nb .byte n g) (hcs : ¬ cs = (0 : Int32)) (hsf : sf.isRef = true) (hzm : zm.toInt = (tl : Int)) (hzn : zn.toInt = (n : Int)) (hn1 : 1 ≤ n) (hn4 : n ≤ 4) (hm8 : tl ≤ 8) (hp : pz.toInt = (pp : Int)) (hp7 : pp ≤ 7) :
    Con l Z (⟨"com/example/needlewright/needlewright/CharNeedleIndexInPinLaw", "at", "(Ljava/lang/String;Ljava/lang/String;I)Z"⟩ : MethodName) method_5_code 4 (some .boolean) ({ frames := 4, cells := 0, slots := 0, locals := 54 } : Room) #[(.ref tt), (.ref nd), (.int pz)] h0 n0 (fun rv hv => rv = some (.int (if own_occ f (fun j => own_c8 (g j)) n tl pp then (1 : Int32) else 0)) ∧ h0 = hv) := by
  refine Con.enter (plainFor_of_name own_pn5) Z0 ?_
  intro p e s m below meth c T0 C hnm X0
  refine Go.cast (own_ef_rm_at m tt nd pz) ?_
  refine Go.aloadN C X0 (pc' := 1) d24_0 rfl rfl rfl ?_
  refine Go.callV C X0 (pc' := 4) (W := 0) (argsL := []) (rest := []) (a := nd) (rm_ln l Z a0 hw nd nb n g zn cs h0 n0 X0.sz f0 f1 f7 f8 f9 f10 hcs hzn) f7 (notFace_of_selects (args := #[]) (mvT C.2.1 (hw _ (List.mem_of_getElem? (i := 51) rfl)))) (hw _ (List.mem_of_getElem? (i := 134) rfl)) (hw _ (List.mem_of_getElem? (i := 49) rfl)) (hw _ (List.mem_of_getElem? (i := 51) rfl)) (hw _ (List.mem_of_getElem? (i := 50) rfl)) (hw _ (List.mem_of_getElem? (i := 10) rfl)) (hw _ (List.mem_of_getElem? (i := 52) rfl)) (by decide) rfl rfl (lenOf own_pd0 rfl) rfl (Nat.le_of_eq rfl) (by decide) (by decide) (by decide) (by decide) d24_1 rfl (fun _ _ q => Nat.le_of_eq (congrArg Array.size q.2)) (fun T591 h591 v591 X591 P591 => ?_)
  obtain ⟨rfl, rfl⟩ := P591
  show Go p e below _ n0 _ _ _ T591 (mkF m 4 #[.val (.ref tt), .val (.ref nd), .val (.int pz), .unset] [(.int zn)])
  refine Go.istoreN C X591 (pc' := 5) (Ls' := #[.val (.ref tt), .val (.ref nd), .val (.int pz), .val (.int zn)]) d24_4 rfl rfl ?_
  refine Go.iloadN C X591 (pc' := 6) d24_5 rfl rfl ?_
  refine Go.iloadN C X591 (pc' := 7) d24_6 rfl rfl ?_
  refine Go.iadd C X591 (pc' := 8) d24_7 rfl ?_
  refine Go.aloadN C X591 (pc' := 9) d24_8 rfl rfl rfl ?_
  refine Go.callV C X591 (pc' := 12) (W := 1) (argsL := []) (rest := [(.int (pz + zn))]) (a := tt) (rm_ln l Z a0 hw tt tb tl f zm cs h0 n0 X591.sz f0 f1 f3 f4 f5 f6 hcs hzm) f3 (notFace_of_selects (args := #[]) (mvT C.2.1 (hw _ (List.mem_of_getElem? (i := 51) rfl)))) (hw _ (List.mem_of_getElem? (i := 134) rfl)) (hw _ (List.mem_of_getElem? (i := 49) rfl)) (hw _ (List.mem_of_getElem? (i := 51) rfl)) (hw _ (List.mem_of_getElem? (i := 50) rfl)) (hw _ (List.mem_of_getElem? (i := 10) rfl)) (hw _ (List.mem_of_getElem? (i := 52) rfl)) (by decide) rfl rfl (lenOf own_pd0 rfl) rfl (Nat.le_of_eq rfl) (by decide) (by decide) (by decide) (by decide) d24_9 rfl (fun _ _ q => Nat.le_of_eq (congrArg Array.size q.2)) (fun T592 h592 v592 X592 P592 => ?_)
  obtain ⟨rfl, rfl⟩ := P592
  show Go p e below _ n0 _ _ _ T592 (mkF m 12 #[.val (.ref tt), .val (.ref nd), .val (.int pz), .val (.int zn)] [(.int zm), (.int (pz + zn))])
  by_cases c593 : zm < (pz + zn)
  · refine Go.icmpNo C X592 (pc' := 15) d24_12 (tlt c593).2.2.2 rfl ?_
    refine Go.iconst C X592 (pc' := 16) (v := (0 : Int32)) d24_15 rfl rfl ?_
    exact Go.retZ (t := .boolean) C X592 (z' := (0 : Int32)) (by decide) d24_16 ⟨(by rw [if_neg (fun q => by have h1 := (own_fit hp hzn hzm (by omega) (by omega)).mp c593; have := q.1; omega)]), rfl⟩ (by decide) (by decide)
  · refine Go.icmpYes C X592 (pc' := 17) d24_12 (flt c593).2.2.2 (by decide) (by decide) ?_
    refine Go.aloadN C X592 (pc' := 18) d24_17 rfl rfl rfl ?_
    refine Go.iloadN C X592 (pc' := 19) d24_18 rfl rfl ?_
    refine Go.callV C X592 (pc' := 22) (W := 0) (argsL := [(.int pz)]) (rest := []) (a := tt) (rm_ca l Z a0 hw tt pz tb tl f zm pp cs sf h0 n0 X592.sz f0 f1 f2 f3 f4 f5 f6 hcs hsf hzm hp (by have h1 : ¬ tl < pp + n := fun q => c593 ((own_fit hp hzn hzm (by omega) (by omega)).mpr q); omega)) f3 (notFace_of_selects (args := #[]) (mvT C.2.1 (hw _ (List.mem_of_getElem? (i := 62) rfl)))) (hw _ (List.mem_of_getElem? (i := 147) rfl)) (hw _ (List.mem_of_getElem? (i := 60) rfl)) (hw _ (List.mem_of_getElem? (i := 62) rfl)) (hw _ (List.mem_of_getElem? (i := 61) rfl)) (hw _ (List.mem_of_getElem? (i := 10) rfl)) (hw _ (List.mem_of_getElem? (i := 63) rfl)) (by decide) rfl rfl (lenOf own_pd15 rfl) rfl (Nat.le_of_eq rfl) (by decide) (by decide) (by decide) (by decide) d24_19 rfl (fun _ _ q => Nat.le_of_eq (congrArg Array.size q.2)) (fun T594 h594 v594 X594 P594 => ?_)
    obtain ⟨rfl, rfl⟩ := P594
    show Go p e below _ n0 _ _ _ T594 (mkF m 22 #[.val (.ref tt), .val (.ref nd), .val (.int pz), .val (.int zn)] [(.int (own_c8 (f pp)))])
    refine Go.aloadN C X594 (pc' := 23) d24_22 rfl rfl rfl ?_
    refine Go.iconst C X594 (pc' := 24) (v := (0 : Int32)) d24_23 rfl rfl ?_
    refine Go.callV C X594 (pc' := 27) (W := 1) (argsL := [(.int (0 : Int32))]) (rest := [(.int (own_c8 (f pp)))]) (a := nd) (rm_ca l Z a0 hw nd (0 : Int32) nb n g zn 0 cs sf h0 n0 X594.sz f0 f1 f2 f7 f8 f9 f10 hcs hsf hzn rfl (by omega)) f7 (notFace_of_selects (args := #[]) (mvT C.2.1 (hw _ (List.mem_of_getElem? (i := 62) rfl)))) (hw _ (List.mem_of_getElem? (i := 147) rfl)) (hw _ (List.mem_of_getElem? (i := 60) rfl)) (hw _ (List.mem_of_getElem? (i := 62) rfl)) (hw _ (List.mem_of_getElem? (i := 61) rfl)) (hw _ (List.mem_of_getElem? (i := 10) rfl)) (hw _ (List.mem_of_getElem? (i := 63) rfl)) (by decide) rfl rfl (lenOf own_pd15 rfl) rfl (Nat.le_of_eq rfl) (by decide) (by decide) (by decide) (by decide) d24_24 rfl (fun _ _ q => Nat.le_of_eq (congrArg Array.size q.2)) (fun T595 h595 v595 X595 P595 => ?_)
    obtain ⟨rfl, rfl⟩ := P595
    show Go p e below _ n0 _ _ _ T595 (mkF m 27 #[.val (.ref tt), .val (.ref nd), .val (.int pz), .val (.int zn)] [(.int (own_c8 (g 0))), (.int (own_c8 (f pp)))])
    by_cases c596 : (own_c8 (f pp)) = (own_c8 (g 0))
    · refine Go.icmpYes C X595 (pc' := 32) d24_27 (teq c596).1 (by decide) (by decide) ?_
      refine Go.iloadN C X595 (pc' := 33) d24_32 rfl rfl ?_
      refine Go.iconst C X595 (pc' := 34) (v := (1 : Int32)) d24_33 rfl rfl ?_
      by_cases c597 : (1 : Int32) < zn
      · refine Go.icmpNo C X595 (pc' := 37) d24_34 (tlt c597).2.2.2 rfl ?_
        refine Go.aloadN C X595 (pc' := 38) d24_37 rfl rfl rfl ?_
        refine Go.iloadN C X595 (pc' := 39) d24_38 rfl rfl ?_
        refine Go.iconst C X595 (pc' := 40) (v := (1 : Int32)) d24_39 rfl rfl ?_
        refine Go.iadd C X595 (pc' := 41) d24_40 rfl ?_
        refine Go.callV C X595 (pc' := 44) (W := 0) (argsL := [(.int (pz + (1 : Int32)))]) (rest := []) (a := tt) (rm_ca l Z a0 hw tt (pz + (1 : Int32)) tb tl f zm (pp + 1) cs sf h0 n0 X595.sz f0 f1 f2 f3 f4 f5 f6 hcs hsf hzm (own_upk hp rfl (by omega) (by decide)) (by have h1 : ¬ tl < pp + n := fun q => c593 ((own_fit hp hzn hzm (by omega) (by omega)).mpr q); have h2 := (own_jn (k := (1 : Int32)) (d := 1) rfl hzn).mp c597; omega)) f3 (notFace_of_selects (args := #[]) (mvT C.2.1 (hw _ (List.mem_of_getElem? (i := 62) rfl)))) (hw _ (List.mem_of_getElem? (i := 147) rfl)) (hw _ (List.mem_of_getElem? (i := 60) rfl)) (hw _ (List.mem_of_getElem? (i := 62) rfl)) (hw _ (List.mem_of_getElem? (i := 61) rfl)) (hw _ (List.mem_of_getElem? (i := 10) rfl)) (hw _ (List.mem_of_getElem? (i := 63) rfl)) (by decide) rfl rfl (lenOf own_pd15 rfl) rfl (Nat.le_of_eq rfl) (by decide) (by decide) (by decide) (by decide) d24_41 rfl (fun _ _ q => Nat.le_of_eq (congrArg Array.size q.2)) (fun T598 h598 v598 X598 P598 => ?_)
        obtain ⟨rfl, rfl⟩ := P598
        show Go p e below _ n0 _ _ _ T598 (mkF m 44 #[.val (.ref tt), .val (.ref nd), .val (.int pz), .val (.int zn)] [(.int (own_c8 (f (pp + 1))))])
        refine Go.aloadN C X598 (pc' := 45) d24_44 rfl rfl rfl ?_
        refine Go.iconst C X598 (pc' := 46) (v := (1 : Int32)) d24_45 rfl rfl ?_
        refine Go.callV C X598 (pc' := 49) (W := 1) (argsL := [(.int (1 : Int32))]) (rest := [(.int (own_c8 (f (pp + 1))))]) (a := nd) (rm_ca l Z a0 hw nd (1 : Int32) nb n g zn 1 cs sf h0 n0 X598.sz f0 f1 f2 f7 f8 f9 f10 hcs hsf hzn rfl ((own_jn (k := (1 : Int32)) (d := 1) rfl hzn).mp c597)) f7 (notFace_of_selects (args := #[]) (mvT C.2.1 (hw _ (List.mem_of_getElem? (i := 62) rfl)))) (hw _ (List.mem_of_getElem? (i := 147) rfl)) (hw _ (List.mem_of_getElem? (i := 60) rfl)) (hw _ (List.mem_of_getElem? (i := 62) rfl)) (hw _ (List.mem_of_getElem? (i := 61) rfl)) (hw _ (List.mem_of_getElem? (i := 10) rfl)) (hw _ (List.mem_of_getElem? (i := 63) rfl)) (by decide) rfl rfl (lenOf own_pd15 rfl) rfl (Nat.le_of_eq rfl) (by decide) (by decide) (by decide) (by decide) d24_46 rfl (fun _ _ q => Nat.le_of_eq (congrArg Array.size q.2)) (fun T599 h599 v599 X599 P599 => ?_)
        obtain ⟨rfl, rfl⟩ := P599
        show Go p e below _ n0 _ _ _ T599 (mkF m 49 #[.val (.ref tt), .val (.ref nd), .val (.int pz), .val (.int zn)] [(.int (own_c8 (g 1))), (.int (own_c8 (f (pp + 1))))])
        by_cases c600 : (own_c8 (f (pp + 1))) = (own_c8 (g 1))
        · refine Go.icmpYes C X599 (pc' := 54) d24_49 (teq c600).1 (by decide) (by decide) ?_
          refine Go.iloadN C X599 (pc' := 55) d24_54 rfl rfl ?_
          refine Go.iconst C X599 (pc' := 56) (v := (2 : Int32)) d24_55 rfl rfl ?_
          by_cases c601 : (2 : Int32) < zn
          · refine Go.icmpNo C X599 (pc' := 59) d24_56 (tlt c601).2.2.2 rfl ?_
            refine Go.aloadN C X599 (pc' := 60) d24_59 rfl rfl rfl ?_
            refine Go.iloadN C X599 (pc' := 61) d24_60 rfl rfl ?_
            refine Go.iconst C X599 (pc' := 62) (v := (2 : Int32)) d24_61 rfl rfl ?_
            refine Go.iadd C X599 (pc' := 63) d24_62 rfl ?_
            refine Go.callV C X599 (pc' := 66) (W := 0) (argsL := [(.int (pz + (2 : Int32)))]) (rest := []) (a := tt) (rm_ca l Z a0 hw tt (pz + (2 : Int32)) tb tl f zm (pp + 2) cs sf h0 n0 X599.sz f0 f1 f2 f3 f4 f5 f6 hcs hsf hzm (own_upk hp rfl (by omega) (by decide)) (by have h1 : ¬ tl < pp + n := fun q => c593 ((own_fit hp hzn hzm (by omega) (by omega)).mpr q); have h2 := (own_jn (k := (2 : Int32)) (d := 2) rfl hzn).mp c601; omega)) f3 (notFace_of_selects (args := #[]) (mvT C.2.1 (hw _ (List.mem_of_getElem? (i := 62) rfl)))) (hw _ (List.mem_of_getElem? (i := 147) rfl)) (hw _ (List.mem_of_getElem? (i := 60) rfl)) (hw _ (List.mem_of_getElem? (i := 62) rfl)) (hw _ (List.mem_of_getElem? (i := 61) rfl)) (hw _ (List.mem_of_getElem? (i := 10) rfl)) (hw _ (List.mem_of_getElem? (i := 63) rfl)) (by decide) rfl rfl (lenOf own_pd15 rfl) rfl (Nat.le_of_eq rfl) (by decide) (by decide) (by decide) (by decide) d24_63 rfl (fun _ _ q => Nat.le_of_eq (congrArg Array.size q.2)) (fun T602 h602 v602 X602 P602 => ?_)
            obtain ⟨rfl, rfl⟩ := P602
            show Go p e below _ n0 _ _ _ T602 (mkF m 66 #[.val (.ref tt), .val (.ref nd), .val (.int pz), .val (.int zn)] [(.int (own_c8 (f (pp + 2))))])
            refine Go.aloadN C X602 (pc' := 67) d24_66 rfl rfl rfl ?_
            refine Go.iconst C X602 (pc' := 68) (v := (2 : Int32)) d24_67 rfl rfl ?_
            refine Go.callV C X602 (pc' := 71) (W := 1) (argsL := [(.int (2 : Int32))]) (rest := [(.int (own_c8 (f (pp + 2))))]) (a := nd) (rm_ca l Z a0 hw nd (2 : Int32) nb n g zn 2 cs sf h0 n0 X602.sz f0 f1 f2 f7 f8 f9 f10 hcs hsf hzn rfl ((own_jn (k := (2 : Int32)) (d := 2) rfl hzn).mp c601)) f7 (notFace_of_selects (args := #[]) (mvT C.2.1 (hw _ (List.mem_of_getElem? (i := 62) rfl)))) (hw _ (List.mem_of_getElem? (i := 147) rfl)) (hw _ (List.mem_of_getElem? (i := 60) rfl)) (hw _ (List.mem_of_getElem? (i := 62) rfl)) (hw _ (List.mem_of_getElem? (i := 61) rfl)) (hw _ (List.mem_of_getElem? (i := 10) rfl)) (hw _ (List.mem_of_getElem? (i := 63) rfl)) (by decide) rfl rfl (lenOf own_pd15 rfl) rfl (Nat.le_of_eq rfl) (by decide) (by decide) (by decide) (by decide) d24_68 rfl (fun _ _ q => Nat.le_of_eq (congrArg Array.size q.2)) (fun T603 h603 v603 X603 P603 => ?_)
            obtain ⟨rfl, rfl⟩ := P603
            show Go p e below _ n0 _ _ _ T603 (mkF m 71 #[.val (.ref tt), .val (.ref nd), .val (.int pz), .val (.int zn)] [(.int (own_c8 (g 2))), (.int (own_c8 (f (pp + 2))))])
            by_cases c604 : (own_c8 (f (pp + 2))) = (own_c8 (g 2))
            · refine Go.icmpYes C X603 (pc' := 76) d24_71 (teq c604).1 (by decide) (by decide) ?_
              refine Go.iloadN C X603 (pc' := 77) d24_76 rfl rfl ?_
              refine Go.iconst C X603 (pc' := 78) (v := (3 : Int32)) d24_77 rfl rfl ?_
              by_cases c605 : (3 : Int32) < zn
              · refine Go.icmpNo C X603 (pc' := 81) d24_78 (tlt c605).2.2.2 rfl ?_
                refine Go.aloadN C X603 (pc' := 82) d24_81 rfl rfl rfl ?_
                refine Go.iloadN C X603 (pc' := 83) d24_82 rfl rfl ?_
                refine Go.iconst C X603 (pc' := 84) (v := (3 : Int32)) d24_83 rfl rfl ?_
                refine Go.iadd C X603 (pc' := 85) d24_84 rfl ?_
                refine Go.callV C X603 (pc' := 88) (W := 0) (argsL := [(.int (pz + (3 : Int32)))]) (rest := []) (a := tt) (rm_ca l Z a0 hw tt (pz + (3 : Int32)) tb tl f zm (pp + 3) cs sf h0 n0 X603.sz f0 f1 f2 f3 f4 f5 f6 hcs hsf hzm (own_upk hp rfl (by omega) (by decide)) (by have h1 : ¬ tl < pp + n := fun q => c593 ((own_fit hp hzn hzm (by omega) (by omega)).mpr q); have h2 := (own_jn (k := (3 : Int32)) (d := 3) rfl hzn).mp c605; omega)) f3 (notFace_of_selects (args := #[]) (mvT C.2.1 (hw _ (List.mem_of_getElem? (i := 62) rfl)))) (hw _ (List.mem_of_getElem? (i := 147) rfl)) (hw _ (List.mem_of_getElem? (i := 60) rfl)) (hw _ (List.mem_of_getElem? (i := 62) rfl)) (hw _ (List.mem_of_getElem? (i := 61) rfl)) (hw _ (List.mem_of_getElem? (i := 10) rfl)) (hw _ (List.mem_of_getElem? (i := 63) rfl)) (by decide) rfl rfl (lenOf own_pd15 rfl) rfl (Nat.le_of_eq rfl) (by decide) (by decide) (by decide) (by decide) d24_85 rfl (fun _ _ q => Nat.le_of_eq (congrArg Array.size q.2)) (fun T606 h606 v606 X606 P606 => ?_)
                obtain ⟨rfl, rfl⟩ := P606
                show Go p e below _ n0 _ _ _ T606 (mkF m 88 #[.val (.ref tt), .val (.ref nd), .val (.int pz), .val (.int zn)] [(.int (own_c8 (f (pp + 3))))])
                refine Go.aloadN C X606 (pc' := 89) d24_88 rfl rfl rfl ?_
                refine Go.iconst C X606 (pc' := 90) (v := (3 : Int32)) d24_89 rfl rfl ?_
                refine Go.callV C X606 (pc' := 93) (W := 1) (argsL := [(.int (3 : Int32))]) (rest := [(.int (own_c8 (f (pp + 3))))]) (a := nd) (rm_ca l Z a0 hw nd (3 : Int32) nb n g zn 3 cs sf h0 n0 X606.sz f0 f1 f2 f7 f8 f9 f10 hcs hsf hzn rfl ((own_jn (k := (3 : Int32)) (d := 3) rfl hzn).mp c605)) f7 (notFace_of_selects (args := #[]) (mvT C.2.1 (hw _ (List.mem_of_getElem? (i := 62) rfl)))) (hw _ (List.mem_of_getElem? (i := 147) rfl)) (hw _ (List.mem_of_getElem? (i := 60) rfl)) (hw _ (List.mem_of_getElem? (i := 62) rfl)) (hw _ (List.mem_of_getElem? (i := 61) rfl)) (hw _ (List.mem_of_getElem? (i := 10) rfl)) (hw _ (List.mem_of_getElem? (i := 63) rfl)) (by decide) rfl rfl (lenOf own_pd15 rfl) rfl (Nat.le_of_eq rfl) (by decide) (by decide) (by decide) (by decide) d24_90 rfl (fun _ _ q => Nat.le_of_eq (congrArg Array.size q.2)) (fun T607 h607 v607 X607 P607 => ?_)
                obtain ⟨rfl, rfl⟩ := P607
                show Go p e below _ n0 _ _ _ T607 (mkF m 93 #[.val (.ref tt), .val (.ref nd), .val (.int pz), .val (.int zn)] [(.int (own_c8 (g 3))), (.int (own_c8 (f (pp + 3))))])
                by_cases c608 : (own_c8 (f (pp + 3))) = (own_c8 (g 3))
                · refine Go.icmpYes C X607 (pc' := 98) d24_93 (teq c608).1 (by decide) (by decide) ?_
                  refine Go.iconst C X607 (pc' := 99) (v := (1 : Int32)) d24_98 rfl rfl ?_
                  exact Go.retZ (t := .boolean) C X607 (z' := (1 : Int32)) (by decide) d24_99 ⟨(by rw [if_pos (own_mkocc (u := (fun j => own_c8 (g j))) (by have h1 : ¬ tl < pp + n := fun q => c593 ((own_fit hp hzn hzm (by omega) (by omega)).mpr q); omega) hn4 (fun _ => c596) (fun _ => c600) (fun _ => c604) (fun _ => c608))]), rfl⟩ (by decide) (by decide)
                · refine Go.icmpNo C X607 (pc' := 96) d24_93 (feq c608).1 rfl ?_
                  refine Go.iconst C X607 (pc' := 97) (v := (0 : Int32)) d24_96 rfl rfl ?_
                  exact Go.retZ (t := .boolean) C X607 (z' := (0 : Int32)) (by decide) d24_97 ⟨(by rw [if_neg (fun q => c608 (q.2 3 ((own_jn (k := (3 : Int32)) (d := 3) rfl hzn).mp c605)))]), rfl⟩ (by decide) (by decide)
              · refine Go.icmpYes C X603 (pc' := 98) d24_78 (flt c605).2.2.2 (by decide) (by decide) ?_
                refine Go.iconst C X603 (pc' := 99) (v := (1 : Int32)) d24_98 rfl rfl ?_
                exact Go.retZ (t := .boolean) C X603 (z' := (1 : Int32)) (by decide) d24_99 ⟨(by rw [if_pos (own_mkocc (u := (fun j => own_c8 (g j))) (by have h1 : ¬ tl < pp + n := fun q => c593 ((own_fit hp hzn hzm (by omega) (by omega)).mpr q); omega) hn4 (fun _ => c596) (fun _ => c600) (fun _ => c604) (fun h => absurd ((own_jn (k := (3 : Int32)) (d := 3) rfl hzn).mpr (by omega)) c605))]), rfl⟩ (by decide) (by decide)
            · refine Go.icmpNo C X603 (pc' := 74) d24_71 (feq c604).1 rfl ?_
              refine Go.iconst C X603 (pc' := 75) (v := (0 : Int32)) d24_74 rfl rfl ?_
              exact Go.retZ (t := .boolean) C X603 (z' := (0 : Int32)) (by decide) d24_75 ⟨(by rw [if_neg (fun q => c604 (q.2 2 ((own_jn (k := (2 : Int32)) (d := 2) rfl hzn).mp c601)))]), rfl⟩ (by decide) (by decide)
          · refine Go.icmpYes C X599 (pc' := 76) d24_56 (flt c601).2.2.2 (by decide) (by decide) ?_
            refine Go.iloadN C X599 (pc' := 77) d24_76 rfl rfl ?_
            refine Go.iconst C X599 (pc' := 78) (v := (3 : Int32)) d24_77 rfl rfl ?_
            refine Go.icmpYes C X599 (pc' := 98) d24_78 (flt (fun z => c601 ((own_jn (k := (2 : Int32)) (d := 2) rfl hzn).mpr (by have := (own_jn (k := (3 : Int32)) (d := 3) rfl hzn).mp z; omega)))).2.2.2 (by decide) (by decide) ?_
            refine Go.iconst C X599 (pc' := 99) (v := (1 : Int32)) d24_98 rfl rfl ?_
            exact Go.retZ (t := .boolean) C X599 (z' := (1 : Int32)) (by decide) d24_99 ⟨(by rw [if_pos (own_mkocc (u := (fun j => own_c8 (g j))) (by have h1 : ¬ tl < pp + n := fun q => c593 ((own_fit hp hzn hzm (by omega) (by omega)).mpr q); omega) hn4 (fun _ => c596) (fun _ => c600) (fun h => absurd ((own_jn (k := (2 : Int32)) (d := 2) rfl hzn).mpr (by omega)) c601) (fun h => absurd ((own_jn (k := (2 : Int32)) (d := 2) rfl hzn).mpr (by omega)) c601))]), rfl⟩ (by decide) (by decide)
        · refine Go.icmpNo C X599 (pc' := 52) d24_49 (feq c600).1 rfl ?_
          refine Go.iconst C X599 (pc' := 53) (v := (0 : Int32)) d24_52 rfl rfl ?_
          exact Go.retZ (t := .boolean) C X599 (z' := (0 : Int32)) (by decide) d24_53 ⟨(by rw [if_neg (fun q => c600 (q.2 1 ((own_jn (k := (1 : Int32)) (d := 1) rfl hzn).mp c597)))]), rfl⟩ (by decide) (by decide)
      · refine Go.icmpYes C X595 (pc' := 54) d24_34 (flt c597).2.2.2 (by decide) (by decide) ?_
        refine Go.iloadN C X595 (pc' := 55) d24_54 rfl rfl ?_
        refine Go.iconst C X595 (pc' := 56) (v := (2 : Int32)) d24_55 rfl rfl ?_
        refine Go.icmpYes C X595 (pc' := 76) d24_56 (flt (fun z => c597 ((own_jn (k := (1 : Int32)) (d := 1) rfl hzn).mpr (by have := (own_jn (k := (2 : Int32)) (d := 2) rfl hzn).mp z; omega)))).2.2.2 (by decide) (by decide) ?_
        refine Go.iloadN C X595 (pc' := 77) d24_76 rfl rfl ?_
        refine Go.iconst C X595 (pc' := 78) (v := (3 : Int32)) d24_77 rfl rfl ?_
        refine Go.icmpYes C X595 (pc' := 98) d24_78 (flt (fun z => c597 ((own_jn (k := (1 : Int32)) (d := 1) rfl hzn).mpr (by have := (own_jn (k := (3 : Int32)) (d := 3) rfl hzn).mp z; omega)))).2.2.2 (by decide) (by decide) ?_
        refine Go.iconst C X595 (pc' := 99) (v := (1 : Int32)) d24_98 rfl rfl ?_
        exact Go.retZ (t := .boolean) C X595 (z' := (1 : Int32)) (by decide) d24_99 ⟨(by rw [if_pos (own_mkocc (u := (fun j => own_c8 (g j))) (by have h1 : ¬ tl < pp + n := fun q => c593 ((own_fit hp hzn hzm (by omega) (by omega)).mpr q); omega) hn4 (fun _ => c596) (fun h => absurd ((own_jn (k := (1 : Int32)) (d := 1) rfl hzn).mpr (by omega)) c597) (fun h => absurd ((own_jn (k := (1 : Int32)) (d := 1) rfl hzn).mpr (by omega)) c597) (fun h => absurd ((own_jn (k := (1 : Int32)) (d := 1) rfl hzn).mpr (by omega)) c597))]), rfl⟩ (by decide) (by decide)
    · refine Go.icmpNo C X595 (pc' := 30) d24_27 (feq c596).1 rfl ?_
      refine Go.iconst C X595 (pc' := 31) (v := (0 : Int32)) d24_30 rfl rfl ?_
      exact Go.retZ (t := .boolean) C X595 (z' := (0 : Int32)) (by decide) d24_31 ⟨(by rw [if_neg (fun q => c596 (q.2 0 (by omega)))]), rfl⟩ (by decide) (by decide)
theorem own_ref1 {P : Nat → Prop} {ss k : Nat} (h : ∀ q, q < k → ss ≤ q → ¬ P q) (hk : ss ≤ k → ¬ P k) : ∀ q, q < k + 1 → ss ≤ q → ¬ P q := fun q a b => by
  by_cases e : q = k
  · rw [e] at b ⊢; exact hk b
  · exact h q (by omega) b
theorem own_big {s k : Int32} {d n : Nat} (hs : s.toInt = (n : Int)) (hk : k.toInt = (d : Int)) : k < s ↔ d < n := by
  rw [own_ilt, hs, hk]; omega
theorem own_ef_rm_rf (m : MethodId) (x0 : Addr) (x1 : Addr) (x2 : Int32) : entryFrame m #[(.ref x0), (.ref x1), (.int x2)] 4 = mkF m 0 #[.val (.ref x0), .val (.ref x1), .val (.int x2), .unset] [] := by first | (simp [entryFrame, mkF, argsToLocals, Value.category]; done) | rfl
theorem d23_0 : decode method_6_code 0 = .ok (.iload_n 2, 1) := by decide +kernel
theorem d23_1 : decode method_6_code 1 = .ok (.iconst 0, 1) := by decide +kernel
theorem d23_2 : decode method_6_code 2 = .ok (.invokestatic 45, 3) := by decide +kernel
theorem d23_5 : decode method_6_code 5 = .ok (.istore_n 3, 1) := by decide +kernel
theorem d23_139 : decode method_6_code 139 = .ok (.iconst (-1), 1) := by decide +kernel
theorem d23_140 : decode method_6_code 140 = .ok (.ireturn, 1) := by decide +kernel
theorem d23_120 : decode method_6_code 120 = .ok (.iload_n 3, 1) := by decide +kernel
theorem d23_121 : decode method_6_code 121 = .ok (.bipush 7, 2) := by decide +kernel
theorem d23_123 : decode method_6_code 123 = .ok (.if_icmp .gt 16, 3) := by decide +kernel
theorem d23_126 : decode method_6_code 126 = .ok (.aload_n 0, 1) := by decide +kernel
theorem d23_127 : decode method_6_code 127 = .ok (.aload_n 1, 1) := by decide +kernel
theorem d23_128 : decode method_6_code 128 = .ok (.bipush 7, 2) := by decide +kernel
theorem d23_130 : decode method_6_code 130 = .ok (.invokestatic 51, 3) := by decide +kernel
theorem own_pd18 : parseMethodDescriptor "(Ljava/lang/String;Ljava/lang/String;I)Z" = some ⟨[(.object "java/lang/String"), (.object "java/lang/String"), .int], some .boolean⟩ := by decide +kernel
theorem d23_133 : decode method_6_code 133 = .ok (.ifCond .eq 6, 3) := by decide +kernel
theorem d23_136 : decode method_6_code 136 = .ok (.bipush 7, 2) := by decide +kernel
theorem d23_138 : decode method_6_code 138 = .ok (.ireturn, 1) := by decide +kernel
theorem d23_101 : decode method_6_code 101 = .ok (.iload_n 3, 1) := by decide +kernel
theorem d23_102 : decode method_6_code 102 = .ok (.bipush 6, 2) := by decide +kernel
theorem d23_104 : decode method_6_code 104 = .ok (.if_icmp .gt 16, 3) := by decide +kernel
theorem d23_107 : decode method_6_code 107 = .ok (.aload_n 0, 1) := by decide +kernel
theorem d23_108 : decode method_6_code 108 = .ok (.aload_n 1, 1) := by decide +kernel
theorem d23_109 : decode method_6_code 109 = .ok (.bipush 6, 2) := by decide +kernel
theorem d23_111 : decode method_6_code 111 = .ok (.invokestatic 51, 3) := by decide +kernel
theorem d23_114 : decode method_6_code 114 = .ok (.ifCond .eq 6, 3) := by decide +kernel
theorem d23_117 : decode method_6_code 117 = .ok (.bipush 6, 2) := by decide +kernel
theorem d23_119 : decode method_6_code 119 = .ok (.ireturn, 1) := by decide +kernel
theorem d23_85 : decode method_6_code 85 = .ok (.iload_n 3, 1) := by decide +kernel
theorem d23_86 : decode method_6_code 86 = .ok (.iconst 5, 1) := by decide +kernel
theorem d23_87 : decode method_6_code 87 = .ok (.if_icmp .gt 14, 3) := by decide +kernel
theorem d23_90 : decode method_6_code 90 = .ok (.aload_n 0, 1) := by decide +kernel
theorem d23_91 : decode method_6_code 91 = .ok (.aload_n 1, 1) := by decide +kernel
theorem d23_92 : decode method_6_code 92 = .ok (.iconst 5, 1) := by decide +kernel
theorem d23_93 : decode method_6_code 93 = .ok (.invokestatic 51, 3) := by decide +kernel
theorem d23_96 : decode method_6_code 96 = .ok (.ifCond .eq 5, 3) := by decide +kernel
theorem d23_99 : decode method_6_code 99 = .ok (.iconst 5, 1) := by decide +kernel
theorem d23_100 : decode method_6_code 100 = .ok (.ireturn, 1) := by decide +kernel
theorem d23_69 : decode method_6_code 69 = .ok (.iload_n 3, 1) := by decide +kernel
theorem d23_70 : decode method_6_code 70 = .ok (.iconst 4, 1) := by decide +kernel
theorem d23_71 : decode method_6_code 71 = .ok (.if_icmp .gt 14, 3) := by decide +kernel
theorem d23_74 : decode method_6_code 74 = .ok (.aload_n 0, 1) := by decide +kernel
theorem d23_75 : decode method_6_code 75 = .ok (.aload_n 1, 1) := by decide +kernel
theorem d23_76 : decode method_6_code 76 = .ok (.iconst 4, 1) := by decide +kernel
theorem d23_77 : decode method_6_code 77 = .ok (.invokestatic 51, 3) := by decide +kernel
theorem d23_80 : decode method_6_code 80 = .ok (.ifCond .eq 5, 3) := by decide +kernel
theorem d23_83 : decode method_6_code 83 = .ok (.iconst 4, 1) := by decide +kernel
theorem d23_84 : decode method_6_code 84 = .ok (.ireturn, 1) := by decide +kernel
theorem d23_53 : decode method_6_code 53 = .ok (.iload_n 3, 1) := by decide +kernel
theorem d23_54 : decode method_6_code 54 = .ok (.iconst 3, 1) := by decide +kernel
theorem d23_55 : decode method_6_code 55 = .ok (.if_icmp .gt 14, 3) := by decide +kernel
theorem d23_58 : decode method_6_code 58 = .ok (.aload_n 0, 1) := by decide +kernel
theorem d23_59 : decode method_6_code 59 = .ok (.aload_n 1, 1) := by decide +kernel
theorem d23_60 : decode method_6_code 60 = .ok (.iconst 3, 1) := by decide +kernel
theorem d23_61 : decode method_6_code 61 = .ok (.invokestatic 51, 3) := by decide +kernel
theorem d23_64 : decode method_6_code 64 = .ok (.ifCond .eq 5, 3) := by decide +kernel
theorem d23_67 : decode method_6_code 67 = .ok (.iconst 3, 1) := by decide +kernel
theorem d23_68 : decode method_6_code 68 = .ok (.ireturn, 1) := by decide +kernel
theorem d23_37 : decode method_6_code 37 = .ok (.iload_n 3, 1) := by decide +kernel
theorem d23_38 : decode method_6_code 38 = .ok (.iconst 2, 1) := by decide +kernel
theorem d23_39 : decode method_6_code 39 = .ok (.if_icmp .gt 14, 3) := by decide +kernel
theorem d23_42 : decode method_6_code 42 = .ok (.aload_n 0, 1) := by decide +kernel
theorem d23_43 : decode method_6_code 43 = .ok (.aload_n 1, 1) := by decide +kernel
theorem d23_44 : decode method_6_code 44 = .ok (.iconst 2, 1) := by decide +kernel
theorem d23_45 : decode method_6_code 45 = .ok (.invokestatic 51, 3) := by decide +kernel
theorem d23_48 : decode method_6_code 48 = .ok (.ifCond .eq 5, 3) := by decide +kernel
theorem d23_51 : decode method_6_code 51 = .ok (.iconst 2, 1) := by decide +kernel
theorem d23_52 : decode method_6_code 52 = .ok (.ireturn, 1) := by decide +kernel
theorem d23_21 : decode method_6_code 21 = .ok (.iload_n 3, 1) := by decide +kernel
theorem d23_22 : decode method_6_code 22 = .ok (.iconst 1, 1) := by decide +kernel
theorem d23_23 : decode method_6_code 23 = .ok (.if_icmp .gt 14, 3) := by decide +kernel
theorem d23_26 : decode method_6_code 26 = .ok (.aload_n 0, 1) := by decide +kernel
theorem d23_27 : decode method_6_code 27 = .ok (.aload_n 1, 1) := by decide +kernel
theorem d23_28 : decode method_6_code 28 = .ok (.iconst 1, 1) := by decide +kernel
theorem d23_29 : decode method_6_code 29 = .ok (.invokestatic 51, 3) := by decide +kernel
theorem d23_32 : decode method_6_code 32 = .ok (.ifCond .eq 5, 3) := by decide +kernel
theorem d23_35 : decode method_6_code 35 = .ok (.iconst 1, 1) := by decide +kernel
theorem d23_36 : decode method_6_code 36 = .ok (.ireturn, 1) := by decide +kernel
theorem d23_6 : decode method_6_code 6 = .ok (.iload_n 3, 1) := by decide +kernel
theorem d23_7 : decode method_6_code 7 = .ok (.ifCond .gt 14, 3) := by decide +kernel
theorem d23_10 : decode method_6_code 10 = .ok (.aload_n 0, 1) := by decide +kernel
theorem d23_11 : decode method_6_code 11 = .ok (.aload_n 1, 1) := by decide +kernel
theorem d23_12 : decode method_6_code 12 = .ok (.iconst 0, 1) := by decide +kernel
theorem d23_13 : decode method_6_code 13 = .ok (.invokestatic 51, 3) := by decide +kernel
theorem d23_16 : decode method_6_code 16 = .ok (.ifCond .eq 5, 3) := by decide +kernel
theorem d23_19 : decode method_6_code 19 = .ok (.iconst 0, 1) := by decide +kernel
theorem d23_20 : decode method_6_code 20 = .ok (.ireturn, 1) := by decide +kernel
set_option maxRecDepth 65536 in
set_option maxHeartbeats 40000000 in
theorem rm_rf (l : Launch) (Z : State) (a0 : Array Value) (hw : ∀ d ∈ tables_1, d.before a0 Z = true) (tt : Addr) (nd : Addr) (fr : Int32) (tb : Addr) (tl : Nat) (f : Nat → Int32) (zm : Int32) (nb : Addr) (n : Nat) (g : Nat → Int32) (zn : Int32) (ss : Nat) (cs : Int32) (sf : Value) (h0 : Heap) (n0 : Nat) (Z0 : n0 ≤ h0.size) (f0 : Old Z n0 h0) (f1 : Sta Z Z.heap "java/lang/String" "COMPACT_STRINGS" "Z" (.int cs)) (f2 : Sta Z Z.heap "jdk/internal/util/Preconditions" "SIOOBE_FORMATTER" "Ljava/util/function/BiFunction;" sf) (f3 : Exa Z h0 tt "java/lang/String") (f4 : Fld Z h0 tt "java/lang/String" "value" "[B" (.ref tb)) (f5 : Fld Z h0 tt "java/lang/String" "coder" "B" (.int (0 : Int32))) (f6 : AI Z h0 tb .byte tl f) (f7 : Exa Z h0 nd "java/lang/String") (f8 : Fld Z h0 nd "java/lang/String" "value" "[B" (.ref nb)) (f9 : Fld Z h0 nd "java/lang/String" "coder" "B" (.int (0 : Int32))) (f10 : AI Z h0 nb .byte n g) (hcs : ¬ cs = (0 : Int32)) (hsf : sf.isRef = true) (hzm : zm.toInt = (tl : Int)) (hzn : zn.toInt = (n : Int)) (hn1 : 1 ≤ n) (hn4 : n ≤ 4) (hm8 : tl ≤ 8) (hfr : (own_f_rm_mx fr (0 : Int32)).toInt = (ss : Int)) :
    Con l Z (⟨"com/example/needlewright/needlewright/CharNeedleIndexInPinLaw", "reference", "(Ljava/lang/String;Ljava/lang/String;I)I"⟩ : MethodName) method_6_code 4 (some .int) ({ frames := 5, cells := 0, slots := 0, locals := 69 } : Room) #[(.ref tt), (.ref nd), (.int fr)] h0 n0 (fun rv hv => ∃ r : Int32, rv = some (.int r) ∧ h0 = hv ∧ (own_res f (fun j => own_c8 (g j)) n tl ss r)) := by
  refine Con.enter (plainFor_of_name own_pn5) Z0 ?_
  intro p e s m below meth c T0 C hnm X0
  refine Go.cast (own_ef_rm_rf m tt nd fr) ?_
  refine Go.iloadN C X0 (pc' := 1) d23_0 rfl rfl ?_
  refine Go.iconst C X0 (pc' := 2) (v := (0 : Int32)) d23_1 rfl rfl ?_
  refine Go.callS C X0 (pc' := 5) (W := 0) (argsL := [(.int fr), (.int (0 : Int32))]) (rest := []) (rm_mx l Z a0 hw fr (0 : Int32) h0 n0 X0.sz ) (hw _ (List.mem_of_getElem? (i := 130) rfl)) (hw _ (List.mem_of_getElem? (i := 110) rfl)) (hw _ (List.mem_of_getElem? (i := 111) rfl)) (hw _ (List.mem_of_getElem? (i := 112) rfl)) (by decide) rfl rfl (lenOf own_pd1 rfl) rfl (Nat.le_of_eq rfl) (by decide) (by decide) (by decide) (by decide) d23_2 rfl (fun _ _ q => Nat.le_of_eq (congrArg Array.size q.2)) (fun T609 h609 v609 X609 P609 => ?_)
  obtain ⟨rfl, rfl⟩ := P609
  show Go p e below _ n0 _ _ _ T609 (mkF m 5 #[.val (.ref tt), .val (.ref nd), .val (.int fr), .unset] [(.int (own_f_rm_mx fr (0 : Int32)))])
  refine Go.istoreN C X609 (pc' := 6) (Ls' := #[.val (.ref tt), .val (.ref nd), .val (.int fr), .val (.int (own_f_rm_mx fr (0 : Int32)))]) d23_5 rfl rfl ?_
  have Cut139 : ∀ (T_139 : State), (∀ q, q < 8 → ss ≤ q → ¬ own_occ f (fun j => own_c8 (g j)) n tl q) → On p l e ({ frames := 5, cells := 0, slots := 0, locals := 69 } : Room) s m #[(.ref tt), (.ref nd), (.int fr)] below meth c n0 T_139 h0 0 0 → Go p e below (FrameEnd s) n0 (({ frames := 5, cells := 0, slots := 0, locals := 69 } : Room)).cells (({ frames := 5, cells := 0, slots := 0, locals := 69 } : Room)).slots (fun rv hv => ∃ r : Int32, rv = some (.int r) ∧ h0 = hv ∧ (own_res f (fun j => own_c8 (g j)) n tl ss r)) T_139 (mkF m 139 #[.val (.ref tt), .val (.ref nd), .val (.int fr), .val (.int (own_f_rm_mx fr (0 : Int32)))] []) := by
    intro T_139 hj8 X_139
    refine Go.iconst C X_139 (pc' := 140) (v := (-1 : Int32)) d23_139 rfl rfl ?_
    exact Go.retI C X_139 d23_140 ⟨(-1 : Int32), rfl, rfl, (Or.inr ⟨rfl, fun q a o => hj8 q (by have := o.1; omega) a o⟩)⟩ (by decide) (by decide)
  have Cut120 : ∀ (T_120 : State), (∀ q, q < 7 → ss ≤ q → ¬ own_occ f (fun j => own_c8 (g j)) n tl q) → On p l e ({ frames := 5, cells := 0, slots := 0, locals := 69 } : Room) s m #[(.ref tt), (.ref nd), (.int fr)] below meth c n0 T_120 h0 0 0 → Go p e below (FrameEnd s) n0 (({ frames := 5, cells := 0, slots := 0, locals := 69 } : Room)).cells (({ frames := 5, cells := 0, slots := 0, locals := 69 } : Room)).slots (fun rv hv => ∃ r : Int32, rv = some (.int r) ∧ h0 = hv ∧ (own_res f (fun j => own_c8 (g j)) n tl ss r)) T_120 (mkF m 120 #[.val (.ref tt), .val (.ref nd), .val (.int fr), .val (.int (own_f_rm_mx fr (0 : Int32)))] []) := by
    intro T_120 hj7 X_120
    refine Go.iloadN C X_120 (pc' := 121) d23_120 rfl rfl ?_
    refine Go.bipush C X_120 (pc' := 123) (v := (7 : Int32)) d23_121 rfl rfl ?_
    by_cases c610 : (7 : Int32) < (own_f_rm_mx fr (0 : Int32))
    · refine Go.icmpYes C X_120 (pc' := 139) d23_123 (tlt c610).2.2.1 (by decide) (by decide) ?_
      exact Cut139 T_120 (own_ref1 (P := fun q => own_occ f (fun j => own_c8 (g j)) n tl q) hj7 (fun z => by have := (own_big (k := (7 : Int32)) (d := 7) hfr rfl).mp c610; omega)) X_120
    · refine Go.icmpNo C X_120 (pc' := 126) d23_123 (flt c610).2.2.1 rfl ?_
      refine Go.aloadN C X_120 (pc' := 127) d23_126 rfl rfl rfl ?_
      refine Go.aloadN C X_120 (pc' := 128) d23_127 rfl rfl rfl ?_
      refine Go.bipush C X_120 (pc' := 130) (v := (7 : Int32)) d23_128 rfl rfl ?_
      refine Go.callS C X_120 (pc' := 133) (W := 0) (argsL := [(.ref tt), (.ref nd), (.int (7 : Int32))]) (rest := []) (rm_at l Z a0 hw tt nd (7 : Int32) tb tl f zm nb n g zn 7 cs sf h0 n0 X_120.sz f0 f1 f2 f3 f4 f5 f6 f7 f8 f9 f10 hcs hsf hzm hzn hn1 hn4 hm8 rfl (by decide)) (hw _ (List.mem_of_getElem? (i := 131) rfl)) (hw _ (List.mem_of_getElem? (i := 132) rfl)) (hw _ (List.mem_of_getElem? (i := 2) rfl)) (hw _ (List.mem_of_getElem? (i := 133) rfl)) (by decide) rfl rfl (lenOf own_pd18 rfl) rfl (Nat.le_of_eq rfl) (by decide) (by decide) (by decide) (by decide) d23_130 rfl (fun _ _ q => Nat.le_of_eq (congrArg Array.size q.2)) (fun T611 h611 v611 X611 P611 => ?_)
      obtain ⟨rfl, rfl⟩ := P611
      show Go p e below _ n0 _ _ _ T611 (mkF m 133 #[.val (.ref tt), .val (.ref nd), .val (.int fr), .val (.int (own_f_rm_mx fr (0 : Int32)))] [(.int (if own_occ f (fun j => own_c8 (g j)) n tl 7 then (1 : Int32) else 0))])
      by_cases c612 : (if own_occ f (fun j => own_c8 (g j)) n tl 7 then (1 : Int32) else 0) = (0 : Int32)
      · refine Go.ifYes C X611 (pc' := 139) d23_133 ((if0 _ _).trans (teq c612).1) (by decide) (by decide) ?_
        exact Cut139 T611 (own_ref1 (P := fun q => own_occ f (fun j => own_c8 (g j)) n tl q) hj7 (fun _ => own_if0.mp c612)) X611
      · refine Go.ifNo C X611 (pc' := 136) d23_133 ((if0 _ _).trans (feq c612).1) rfl ?_
        refine Go.bipush C X611 (pc' := 138) (v := (7 : Int32)) d23_136 rfl rfl ?_
        exact Go.retI C X611 d23_138 ⟨(7 : Int32), rfl, rfl, (Or.inl ⟨7, rfl, Nat.le_of_not_lt (fun z => c610 ((own_big (k := (7 : Int32)) (d := 7) hfr rfl).mpr z)), Classical.byContradiction (fun z => c612 (own_if0.mpr z)), (fun q a b => hj7 q b a)⟩)⟩ (by decide) (by decide)
  have Cut101 : ∀ (T_101 : State), (∀ q, q < 6 → ss ≤ q → ¬ own_occ f (fun j => own_c8 (g j)) n tl q) → On p l e ({ frames := 5, cells := 0, slots := 0, locals := 69 } : Room) s m #[(.ref tt), (.ref nd), (.int fr)] below meth c n0 T_101 h0 0 0 → Go p e below (FrameEnd s) n0 (({ frames := 5, cells := 0, slots := 0, locals := 69 } : Room)).cells (({ frames := 5, cells := 0, slots := 0, locals := 69 } : Room)).slots (fun rv hv => ∃ r : Int32, rv = some (.int r) ∧ h0 = hv ∧ (own_res f (fun j => own_c8 (g j)) n tl ss r)) T_101 (mkF m 101 #[.val (.ref tt), .val (.ref nd), .val (.int fr), .val (.int (own_f_rm_mx fr (0 : Int32)))] []) := by
    intro T_101 hj6 X_101
    refine Go.iloadN C X_101 (pc' := 102) d23_101 rfl rfl ?_
    refine Go.bipush C X_101 (pc' := 104) (v := (6 : Int32)) d23_102 rfl rfl ?_
    by_cases c613 : (6 : Int32) < (own_f_rm_mx fr (0 : Int32))
    · refine Go.icmpYes C X_101 (pc' := 120) d23_104 (tlt c613).2.2.1 (by decide) (by decide) ?_
      exact Cut120 T_101 (own_ref1 (P := fun q => own_occ f (fun j => own_c8 (g j)) n tl q) hj6 (fun z => by have := (own_big (k := (6 : Int32)) (d := 6) hfr rfl).mp c613; omega)) X_101
    · refine Go.icmpNo C X_101 (pc' := 107) d23_104 (flt c613).2.2.1 rfl ?_
      refine Go.aloadN C X_101 (pc' := 108) d23_107 rfl rfl rfl ?_
      refine Go.aloadN C X_101 (pc' := 109) d23_108 rfl rfl rfl ?_
      refine Go.bipush C X_101 (pc' := 111) (v := (6 : Int32)) d23_109 rfl rfl ?_
      refine Go.callS C X_101 (pc' := 114) (W := 0) (argsL := [(.ref tt), (.ref nd), (.int (6 : Int32))]) (rest := []) (rm_at l Z a0 hw tt nd (6 : Int32) tb tl f zm nb n g zn 6 cs sf h0 n0 X_101.sz f0 f1 f2 f3 f4 f5 f6 f7 f8 f9 f10 hcs hsf hzm hzn hn1 hn4 hm8 rfl (by decide)) (hw _ (List.mem_of_getElem? (i := 131) rfl)) (hw _ (List.mem_of_getElem? (i := 132) rfl)) (hw _ (List.mem_of_getElem? (i := 2) rfl)) (hw _ (List.mem_of_getElem? (i := 133) rfl)) (by decide) rfl rfl (lenOf own_pd18 rfl) rfl (Nat.le_of_eq rfl) (by decide) (by decide) (by decide) (by decide) d23_111 rfl (fun _ _ q => Nat.le_of_eq (congrArg Array.size q.2)) (fun T614 h614 v614 X614 P614 => ?_)
      obtain ⟨rfl, rfl⟩ := P614
      show Go p e below _ n0 _ _ _ T614 (mkF m 114 #[.val (.ref tt), .val (.ref nd), .val (.int fr), .val (.int (own_f_rm_mx fr (0 : Int32)))] [(.int (if own_occ f (fun j => own_c8 (g j)) n tl 6 then (1 : Int32) else 0))])
      by_cases c615 : (if own_occ f (fun j => own_c8 (g j)) n tl 6 then (1 : Int32) else 0) = (0 : Int32)
      · refine Go.ifYes C X614 (pc' := 120) d23_114 ((if0 _ _).trans (teq c615).1) (by decide) (by decide) ?_
        exact Cut120 T614 (own_ref1 (P := fun q => own_occ f (fun j => own_c8 (g j)) n tl q) hj6 (fun _ => own_if0.mp c615)) X614
      · refine Go.ifNo C X614 (pc' := 117) d23_114 ((if0 _ _).trans (feq c615).1) rfl ?_
        refine Go.bipush C X614 (pc' := 119) (v := (6 : Int32)) d23_117 rfl rfl ?_
        exact Go.retI C X614 d23_119 ⟨(6 : Int32), rfl, rfl, (Or.inl ⟨6, rfl, Nat.le_of_not_lt (fun z => c613 ((own_big (k := (6 : Int32)) (d := 6) hfr rfl).mpr z)), Classical.byContradiction (fun z => c615 (own_if0.mpr z)), (fun q a b => hj6 q b a)⟩)⟩ (by decide) (by decide)
  have Cut85 : ∀ (T_85 : State), (∀ q, q < 5 → ss ≤ q → ¬ own_occ f (fun j => own_c8 (g j)) n tl q) → On p l e ({ frames := 5, cells := 0, slots := 0, locals := 69 } : Room) s m #[(.ref tt), (.ref nd), (.int fr)] below meth c n0 T_85 h0 0 0 → Go p e below (FrameEnd s) n0 (({ frames := 5, cells := 0, slots := 0, locals := 69 } : Room)).cells (({ frames := 5, cells := 0, slots := 0, locals := 69 } : Room)).slots (fun rv hv => ∃ r : Int32, rv = some (.int r) ∧ h0 = hv ∧ (own_res f (fun j => own_c8 (g j)) n tl ss r)) T_85 (mkF m 85 #[.val (.ref tt), .val (.ref nd), .val (.int fr), .val (.int (own_f_rm_mx fr (0 : Int32)))] []) := by
    intro T_85 hj5 X_85
    refine Go.iloadN C X_85 (pc' := 86) d23_85 rfl rfl ?_
    refine Go.iconst C X_85 (pc' := 87) (v := (5 : Int32)) d23_86 rfl rfl ?_
    by_cases c616 : (5 : Int32) < (own_f_rm_mx fr (0 : Int32))
    · refine Go.icmpYes C X_85 (pc' := 101) d23_87 (tlt c616).2.2.1 (by decide) (by decide) ?_
      exact Cut101 T_85 (own_ref1 (P := fun q => own_occ f (fun j => own_c8 (g j)) n tl q) hj5 (fun z => by have := (own_big (k := (5 : Int32)) (d := 5) hfr rfl).mp c616; omega)) X_85
    · refine Go.icmpNo C X_85 (pc' := 90) d23_87 (flt c616).2.2.1 rfl ?_
      refine Go.aloadN C X_85 (pc' := 91) d23_90 rfl rfl rfl ?_
      refine Go.aloadN C X_85 (pc' := 92) d23_91 rfl rfl rfl ?_
      refine Go.iconst C X_85 (pc' := 93) (v := (5 : Int32)) d23_92 rfl rfl ?_
      refine Go.callS C X_85 (pc' := 96) (W := 0) (argsL := [(.ref tt), (.ref nd), (.int (5 : Int32))]) (rest := []) (rm_at l Z a0 hw tt nd (5 : Int32) tb tl f zm nb n g zn 5 cs sf h0 n0 X_85.sz f0 f1 f2 f3 f4 f5 f6 f7 f8 f9 f10 hcs hsf hzm hzn hn1 hn4 hm8 rfl (by decide)) (hw _ (List.mem_of_getElem? (i := 131) rfl)) (hw _ (List.mem_of_getElem? (i := 132) rfl)) (hw _ (List.mem_of_getElem? (i := 2) rfl)) (hw _ (List.mem_of_getElem? (i := 133) rfl)) (by decide) rfl rfl (lenOf own_pd18 rfl) rfl (Nat.le_of_eq rfl) (by decide) (by decide) (by decide) (by decide) d23_93 rfl (fun _ _ q => Nat.le_of_eq (congrArg Array.size q.2)) (fun T617 h617 v617 X617 P617 => ?_)
      obtain ⟨rfl, rfl⟩ := P617
      show Go p e below _ n0 _ _ _ T617 (mkF m 96 #[.val (.ref tt), .val (.ref nd), .val (.int fr), .val (.int (own_f_rm_mx fr (0 : Int32)))] [(.int (if own_occ f (fun j => own_c8 (g j)) n tl 5 then (1 : Int32) else 0))])
      by_cases c618 : (if own_occ f (fun j => own_c8 (g j)) n tl 5 then (1 : Int32) else 0) = (0 : Int32)
      · refine Go.ifYes C X617 (pc' := 101) d23_96 ((if0 _ _).trans (teq c618).1) (by decide) (by decide) ?_
        exact Cut101 T617 (own_ref1 (P := fun q => own_occ f (fun j => own_c8 (g j)) n tl q) hj5 (fun _ => own_if0.mp c618)) X617
      · refine Go.ifNo C X617 (pc' := 99) d23_96 ((if0 _ _).trans (feq c618).1) rfl ?_
        refine Go.iconst C X617 (pc' := 100) (v := (5 : Int32)) d23_99 rfl rfl ?_
        exact Go.retI C X617 d23_100 ⟨(5 : Int32), rfl, rfl, (Or.inl ⟨5, rfl, Nat.le_of_not_lt (fun z => c616 ((own_big (k := (5 : Int32)) (d := 5) hfr rfl).mpr z)), Classical.byContradiction (fun z => c618 (own_if0.mpr z)), (fun q a b => hj5 q b a)⟩)⟩ (by decide) (by decide)
  have Cut69 : ∀ (T_69 : State), (∀ q, q < 4 → ss ≤ q → ¬ own_occ f (fun j => own_c8 (g j)) n tl q) → On p l e ({ frames := 5, cells := 0, slots := 0, locals := 69 } : Room) s m #[(.ref tt), (.ref nd), (.int fr)] below meth c n0 T_69 h0 0 0 → Go p e below (FrameEnd s) n0 (({ frames := 5, cells := 0, slots := 0, locals := 69 } : Room)).cells (({ frames := 5, cells := 0, slots := 0, locals := 69 } : Room)).slots (fun rv hv => ∃ r : Int32, rv = some (.int r) ∧ h0 = hv ∧ (own_res f (fun j => own_c8 (g j)) n tl ss r)) T_69 (mkF m 69 #[.val (.ref tt), .val (.ref nd), .val (.int fr), .val (.int (own_f_rm_mx fr (0 : Int32)))] []) := by
    intro T_69 hj4 X_69
    refine Go.iloadN C X_69 (pc' := 70) d23_69 rfl rfl ?_
    refine Go.iconst C X_69 (pc' := 71) (v := (4 : Int32)) d23_70 rfl rfl ?_
    by_cases c619 : (4 : Int32) < (own_f_rm_mx fr (0 : Int32))
    · refine Go.icmpYes C X_69 (pc' := 85) d23_71 (tlt c619).2.2.1 (by decide) (by decide) ?_
      exact Cut85 T_69 (own_ref1 (P := fun q => own_occ f (fun j => own_c8 (g j)) n tl q) hj4 (fun z => by have := (own_big (k := (4 : Int32)) (d := 4) hfr rfl).mp c619; omega)) X_69
    · refine Go.icmpNo C X_69 (pc' := 74) d23_71 (flt c619).2.2.1 rfl ?_
      refine Go.aloadN C X_69 (pc' := 75) d23_74 rfl rfl rfl ?_
      refine Go.aloadN C X_69 (pc' := 76) d23_75 rfl rfl rfl ?_
      refine Go.iconst C X_69 (pc' := 77) (v := (4 : Int32)) d23_76 rfl rfl ?_
      refine Go.callS C X_69 (pc' := 80) (W := 0) (argsL := [(.ref tt), (.ref nd), (.int (4 : Int32))]) (rest := []) (rm_at l Z a0 hw tt nd (4 : Int32) tb tl f zm nb n g zn 4 cs sf h0 n0 X_69.sz f0 f1 f2 f3 f4 f5 f6 f7 f8 f9 f10 hcs hsf hzm hzn hn1 hn4 hm8 rfl (by decide)) (hw _ (List.mem_of_getElem? (i := 131) rfl)) (hw _ (List.mem_of_getElem? (i := 132) rfl)) (hw _ (List.mem_of_getElem? (i := 2) rfl)) (hw _ (List.mem_of_getElem? (i := 133) rfl)) (by decide) rfl rfl (lenOf own_pd18 rfl) rfl (Nat.le_of_eq rfl) (by decide) (by decide) (by decide) (by decide) d23_77 rfl (fun _ _ q => Nat.le_of_eq (congrArg Array.size q.2)) (fun T620 h620 v620 X620 P620 => ?_)
      obtain ⟨rfl, rfl⟩ := P620
      show Go p e below _ n0 _ _ _ T620 (mkF m 80 #[.val (.ref tt), .val (.ref nd), .val (.int fr), .val (.int (own_f_rm_mx fr (0 : Int32)))] [(.int (if own_occ f (fun j => own_c8 (g j)) n tl 4 then (1 : Int32) else 0))])
      by_cases c621 : (if own_occ f (fun j => own_c8 (g j)) n tl 4 then (1 : Int32) else 0) = (0 : Int32)
      · refine Go.ifYes C X620 (pc' := 85) d23_80 ((if0 _ _).trans (teq c621).1) (by decide) (by decide) ?_
        exact Cut85 T620 (own_ref1 (P := fun q => own_occ f (fun j => own_c8 (g j)) n tl q) hj4 (fun _ => own_if0.mp c621)) X620
      · refine Go.ifNo C X620 (pc' := 83) d23_80 ((if0 _ _).trans (feq c621).1) rfl ?_
        refine Go.iconst C X620 (pc' := 84) (v := (4 : Int32)) d23_83 rfl rfl ?_
        exact Go.retI C X620 d23_84 ⟨(4 : Int32), rfl, rfl, (Or.inl ⟨4, rfl, Nat.le_of_not_lt (fun z => c619 ((own_big (k := (4 : Int32)) (d := 4) hfr rfl).mpr z)), Classical.byContradiction (fun z => c621 (own_if0.mpr z)), (fun q a b => hj4 q b a)⟩)⟩ (by decide) (by decide)
  have Cut53 : ∀ (T_53 : State), (∀ q, q < 3 → ss ≤ q → ¬ own_occ f (fun j => own_c8 (g j)) n tl q) → On p l e ({ frames := 5, cells := 0, slots := 0, locals := 69 } : Room) s m #[(.ref tt), (.ref nd), (.int fr)] below meth c n0 T_53 h0 0 0 → Go p e below (FrameEnd s) n0 (({ frames := 5, cells := 0, slots := 0, locals := 69 } : Room)).cells (({ frames := 5, cells := 0, slots := 0, locals := 69 } : Room)).slots (fun rv hv => ∃ r : Int32, rv = some (.int r) ∧ h0 = hv ∧ (own_res f (fun j => own_c8 (g j)) n tl ss r)) T_53 (mkF m 53 #[.val (.ref tt), .val (.ref nd), .val (.int fr), .val (.int (own_f_rm_mx fr (0 : Int32)))] []) := by
    intro T_53 hj3 X_53
    refine Go.iloadN C X_53 (pc' := 54) d23_53 rfl rfl ?_
    refine Go.iconst C X_53 (pc' := 55) (v := (3 : Int32)) d23_54 rfl rfl ?_
    by_cases c622 : (3 : Int32) < (own_f_rm_mx fr (0 : Int32))
    · refine Go.icmpYes C X_53 (pc' := 69) d23_55 (tlt c622).2.2.1 (by decide) (by decide) ?_
      exact Cut69 T_53 (own_ref1 (P := fun q => own_occ f (fun j => own_c8 (g j)) n tl q) hj3 (fun z => by have := (own_big (k := (3 : Int32)) (d := 3) hfr rfl).mp c622; omega)) X_53
    · refine Go.icmpNo C X_53 (pc' := 58) d23_55 (flt c622).2.2.1 rfl ?_
      refine Go.aloadN C X_53 (pc' := 59) d23_58 rfl rfl rfl ?_
      refine Go.aloadN C X_53 (pc' := 60) d23_59 rfl rfl rfl ?_
      refine Go.iconst C X_53 (pc' := 61) (v := (3 : Int32)) d23_60 rfl rfl ?_
      refine Go.callS C X_53 (pc' := 64) (W := 0) (argsL := [(.ref tt), (.ref nd), (.int (3 : Int32))]) (rest := []) (rm_at l Z a0 hw tt nd (3 : Int32) tb tl f zm nb n g zn 3 cs sf h0 n0 X_53.sz f0 f1 f2 f3 f4 f5 f6 f7 f8 f9 f10 hcs hsf hzm hzn hn1 hn4 hm8 rfl (by decide)) (hw _ (List.mem_of_getElem? (i := 131) rfl)) (hw _ (List.mem_of_getElem? (i := 132) rfl)) (hw _ (List.mem_of_getElem? (i := 2) rfl)) (hw _ (List.mem_of_getElem? (i := 133) rfl)) (by decide) rfl rfl (lenOf own_pd18 rfl) rfl (Nat.le_of_eq rfl) (by decide) (by decide) (by decide) (by decide) d23_61 rfl (fun _ _ q => Nat.le_of_eq (congrArg Array.size q.2)) (fun T623 h623 v623 X623 P623 => ?_)
      obtain ⟨rfl, rfl⟩ := P623
      show Go p e below _ n0 _ _ _ T623 (mkF m 64 #[.val (.ref tt), .val (.ref nd), .val (.int fr), .val (.int (own_f_rm_mx fr (0 : Int32)))] [(.int (if own_occ f (fun j => own_c8 (g j)) n tl 3 then (1 : Int32) else 0))])
      by_cases c624 : (if own_occ f (fun j => own_c8 (g j)) n tl 3 then (1 : Int32) else 0) = (0 : Int32)
      · refine Go.ifYes C X623 (pc' := 69) d23_64 ((if0 _ _).trans (teq c624).1) (by decide) (by decide) ?_
        exact Cut69 T623 (own_ref1 (P := fun q => own_occ f (fun j => own_c8 (g j)) n tl q) hj3 (fun _ => own_if0.mp c624)) X623
      · refine Go.ifNo C X623 (pc' := 67) d23_64 ((if0 _ _).trans (feq c624).1) rfl ?_
        refine Go.iconst C X623 (pc' := 68) (v := (3 : Int32)) d23_67 rfl rfl ?_
        exact Go.retI C X623 d23_68 ⟨(3 : Int32), rfl, rfl, (Or.inl ⟨3, rfl, Nat.le_of_not_lt (fun z => c622 ((own_big (k := (3 : Int32)) (d := 3) hfr rfl).mpr z)), Classical.byContradiction (fun z => c624 (own_if0.mpr z)), (fun q a b => hj3 q b a)⟩)⟩ (by decide) (by decide)
  have Cut37 : ∀ (T_37 : State), (∀ q, q < 2 → ss ≤ q → ¬ own_occ f (fun j => own_c8 (g j)) n tl q) → On p l e ({ frames := 5, cells := 0, slots := 0, locals := 69 } : Room) s m #[(.ref tt), (.ref nd), (.int fr)] below meth c n0 T_37 h0 0 0 → Go p e below (FrameEnd s) n0 (({ frames := 5, cells := 0, slots := 0, locals := 69 } : Room)).cells (({ frames := 5, cells := 0, slots := 0, locals := 69 } : Room)).slots (fun rv hv => ∃ r : Int32, rv = some (.int r) ∧ h0 = hv ∧ (own_res f (fun j => own_c8 (g j)) n tl ss r)) T_37 (mkF m 37 #[.val (.ref tt), .val (.ref nd), .val (.int fr), .val (.int (own_f_rm_mx fr (0 : Int32)))] []) := by
    intro T_37 hj2 X_37
    refine Go.iloadN C X_37 (pc' := 38) d23_37 rfl rfl ?_
    refine Go.iconst C X_37 (pc' := 39) (v := (2 : Int32)) d23_38 rfl rfl ?_
    by_cases c625 : (2 : Int32) < (own_f_rm_mx fr (0 : Int32))
    · refine Go.icmpYes C X_37 (pc' := 53) d23_39 (tlt c625).2.2.1 (by decide) (by decide) ?_
      exact Cut53 T_37 (own_ref1 (P := fun q => own_occ f (fun j => own_c8 (g j)) n tl q) hj2 (fun z => by have := (own_big (k := (2 : Int32)) (d := 2) hfr rfl).mp c625; omega)) X_37
    · refine Go.icmpNo C X_37 (pc' := 42) d23_39 (flt c625).2.2.1 rfl ?_
      refine Go.aloadN C X_37 (pc' := 43) d23_42 rfl rfl rfl ?_
      refine Go.aloadN C X_37 (pc' := 44) d23_43 rfl rfl rfl ?_
      refine Go.iconst C X_37 (pc' := 45) (v := (2 : Int32)) d23_44 rfl rfl ?_
      refine Go.callS C X_37 (pc' := 48) (W := 0) (argsL := [(.ref tt), (.ref nd), (.int (2 : Int32))]) (rest := []) (rm_at l Z a0 hw tt nd (2 : Int32) tb tl f zm nb n g zn 2 cs sf h0 n0 X_37.sz f0 f1 f2 f3 f4 f5 f6 f7 f8 f9 f10 hcs hsf hzm hzn hn1 hn4 hm8 rfl (by decide)) (hw _ (List.mem_of_getElem? (i := 131) rfl)) (hw _ (List.mem_of_getElem? (i := 132) rfl)) (hw _ (List.mem_of_getElem? (i := 2) rfl)) (hw _ (List.mem_of_getElem? (i := 133) rfl)) (by decide) rfl rfl (lenOf own_pd18 rfl) rfl (Nat.le_of_eq rfl) (by decide) (by decide) (by decide) (by decide) d23_45 rfl (fun _ _ q => Nat.le_of_eq (congrArg Array.size q.2)) (fun T626 h626 v626 X626 P626 => ?_)
      obtain ⟨rfl, rfl⟩ := P626
      show Go p e below _ n0 _ _ _ T626 (mkF m 48 #[.val (.ref tt), .val (.ref nd), .val (.int fr), .val (.int (own_f_rm_mx fr (0 : Int32)))] [(.int (if own_occ f (fun j => own_c8 (g j)) n tl 2 then (1 : Int32) else 0))])
      by_cases c627 : (if own_occ f (fun j => own_c8 (g j)) n tl 2 then (1 : Int32) else 0) = (0 : Int32)
      · refine Go.ifYes C X626 (pc' := 53) d23_48 ((if0 _ _).trans (teq c627).1) (by decide) (by decide) ?_
        exact Cut53 T626 (own_ref1 (P := fun q => own_occ f (fun j => own_c8 (g j)) n tl q) hj2 (fun _ => own_if0.mp c627)) X626
      · refine Go.ifNo C X626 (pc' := 51) d23_48 ((if0 _ _).trans (feq c627).1) rfl ?_
        refine Go.iconst C X626 (pc' := 52) (v := (2 : Int32)) d23_51 rfl rfl ?_
        exact Go.retI C X626 d23_52 ⟨(2 : Int32), rfl, rfl, (Or.inl ⟨2, rfl, Nat.le_of_not_lt (fun z => c625 ((own_big (k := (2 : Int32)) (d := 2) hfr rfl).mpr z)), Classical.byContradiction (fun z => c627 (own_if0.mpr z)), (fun q a b => hj2 q b a)⟩)⟩ (by decide) (by decide)
  have Cut21 : ∀ (T_21 : State), (∀ q, q < 1 → ss ≤ q → ¬ own_occ f (fun j => own_c8 (g j)) n tl q) → On p l e ({ frames := 5, cells := 0, slots := 0, locals := 69 } : Room) s m #[(.ref tt), (.ref nd), (.int fr)] below meth c n0 T_21 h0 0 0 → Go p e below (FrameEnd s) n0 (({ frames := 5, cells := 0, slots := 0, locals := 69 } : Room)).cells (({ frames := 5, cells := 0, slots := 0, locals := 69 } : Room)).slots (fun rv hv => ∃ r : Int32, rv = some (.int r) ∧ h0 = hv ∧ (own_res f (fun j => own_c8 (g j)) n tl ss r)) T_21 (mkF m 21 #[.val (.ref tt), .val (.ref nd), .val (.int fr), .val (.int (own_f_rm_mx fr (0 : Int32)))] []) := by
    intro T_21 hj1 X_21
    refine Go.iloadN C X_21 (pc' := 22) d23_21 rfl rfl ?_
    refine Go.iconst C X_21 (pc' := 23) (v := (1 : Int32)) d23_22 rfl rfl ?_
    by_cases c628 : (1 : Int32) < (own_f_rm_mx fr (0 : Int32))
    · refine Go.icmpYes C X_21 (pc' := 37) d23_23 (tlt c628).2.2.1 (by decide) (by decide) ?_
      exact Cut37 T_21 (own_ref1 (P := fun q => own_occ f (fun j => own_c8 (g j)) n tl q) hj1 (fun z => by have := (own_big (k := (1 : Int32)) (d := 1) hfr rfl).mp c628; omega)) X_21
    · refine Go.icmpNo C X_21 (pc' := 26) d23_23 (flt c628).2.2.1 rfl ?_
      refine Go.aloadN C X_21 (pc' := 27) d23_26 rfl rfl rfl ?_
      refine Go.aloadN C X_21 (pc' := 28) d23_27 rfl rfl rfl ?_
      refine Go.iconst C X_21 (pc' := 29) (v := (1 : Int32)) d23_28 rfl rfl ?_
      refine Go.callS C X_21 (pc' := 32) (W := 0) (argsL := [(.ref tt), (.ref nd), (.int (1 : Int32))]) (rest := []) (rm_at l Z a0 hw tt nd (1 : Int32) tb tl f zm nb n g zn 1 cs sf h0 n0 X_21.sz f0 f1 f2 f3 f4 f5 f6 f7 f8 f9 f10 hcs hsf hzm hzn hn1 hn4 hm8 rfl (by decide)) (hw _ (List.mem_of_getElem? (i := 131) rfl)) (hw _ (List.mem_of_getElem? (i := 132) rfl)) (hw _ (List.mem_of_getElem? (i := 2) rfl)) (hw _ (List.mem_of_getElem? (i := 133) rfl)) (by decide) rfl rfl (lenOf own_pd18 rfl) rfl (Nat.le_of_eq rfl) (by decide) (by decide) (by decide) (by decide) d23_29 rfl (fun _ _ q => Nat.le_of_eq (congrArg Array.size q.2)) (fun T629 h629 v629 X629 P629 => ?_)
      obtain ⟨rfl, rfl⟩ := P629
      show Go p e below _ n0 _ _ _ T629 (mkF m 32 #[.val (.ref tt), .val (.ref nd), .val (.int fr), .val (.int (own_f_rm_mx fr (0 : Int32)))] [(.int (if own_occ f (fun j => own_c8 (g j)) n tl 1 then (1 : Int32) else 0))])
      by_cases c630 : (if own_occ f (fun j => own_c8 (g j)) n tl 1 then (1 : Int32) else 0) = (0 : Int32)
      · refine Go.ifYes C X629 (pc' := 37) d23_32 ((if0 _ _).trans (teq c630).1) (by decide) (by decide) ?_
        exact Cut37 T629 (own_ref1 (P := fun q => own_occ f (fun j => own_c8 (g j)) n tl q) hj1 (fun _ => own_if0.mp c630)) X629
      · refine Go.ifNo C X629 (pc' := 35) d23_32 ((if0 _ _).trans (feq c630).1) rfl ?_
        refine Go.iconst C X629 (pc' := 36) (v := (1 : Int32)) d23_35 rfl rfl ?_
        exact Go.retI C X629 d23_36 ⟨(1 : Int32), rfl, rfl, (Or.inl ⟨1, rfl, Nat.le_of_not_lt (fun z => c628 ((own_big (k := (1 : Int32)) (d := 1) hfr rfl).mpr z)), Classical.byContradiction (fun z => c630 (own_if0.mpr z)), (fun q a b => hj1 q b a)⟩)⟩ (by decide) (by decide)
  refine Go.iloadN C X609 (pc' := 7) d23_6 rfl rfl ?_
  by_cases c631 : (0 : Int32) < (own_f_rm_mx fr (0 : Int32))
  · refine Go.ifYes C X609 (pc' := 21) d23_7 ((if0 _ _).trans (tlt c631).2.2.1) (by decide) (by decide) ?_
    exact Cut21 T609 (own_ref1 (P := fun q => own_occ f (fun j => own_c8 (g j)) n tl q) (fun q a _ => absurd a (Nat.not_lt_zero _)) (fun z => by have := (own_big (k := (0 : Int32)) (d := 0) hfr rfl).mp c631; omega)) X609
  · refine Go.ifNo C X609 (pc' := 10) d23_7 ((if0 _ _).trans (flt c631).2.2.1) rfl ?_
    refine Go.aloadN C X609 (pc' := 11) d23_10 rfl rfl rfl ?_
    refine Go.aloadN C X609 (pc' := 12) d23_11 rfl rfl rfl ?_
    refine Go.iconst C X609 (pc' := 13) (v := (0 : Int32)) d23_12 rfl rfl ?_
    refine Go.callS C X609 (pc' := 16) (W := 0) (argsL := [(.ref tt), (.ref nd), (.int (0 : Int32))]) (rest := []) (rm_at l Z a0 hw tt nd (0 : Int32) tb tl f zm nb n g zn 0 cs sf h0 n0 X609.sz f0 f1 f2 f3 f4 f5 f6 f7 f8 f9 f10 hcs hsf hzm hzn hn1 hn4 hm8 rfl (by decide)) (hw _ (List.mem_of_getElem? (i := 131) rfl)) (hw _ (List.mem_of_getElem? (i := 132) rfl)) (hw _ (List.mem_of_getElem? (i := 2) rfl)) (hw _ (List.mem_of_getElem? (i := 133) rfl)) (by decide) rfl rfl (lenOf own_pd18 rfl) rfl (Nat.le_of_eq rfl) (by decide) (by decide) (by decide) (by decide) d23_13 rfl (fun _ _ q => Nat.le_of_eq (congrArg Array.size q.2)) (fun T632 h632 v632 X632 P632 => ?_)
    obtain ⟨rfl, rfl⟩ := P632
    show Go p e below _ n0 _ _ _ T632 (mkF m 16 #[.val (.ref tt), .val (.ref nd), .val (.int fr), .val (.int (own_f_rm_mx fr (0 : Int32)))] [(.int (if own_occ f (fun j => own_c8 (g j)) n tl 0 then (1 : Int32) else 0))])
    by_cases c633 : (if own_occ f (fun j => own_c8 (g j)) n tl 0 then (1 : Int32) else 0) = (0 : Int32)
    · refine Go.ifYes C X632 (pc' := 21) d23_16 ((if0 _ _).trans (teq c633).1) (by decide) (by decide) ?_
      exact Cut21 T632 (own_ref1 (P := fun q => own_occ f (fun j => own_c8 (g j)) n tl q) (fun q a _ => absurd a (Nat.not_lt_zero _)) (fun _ => own_if0.mp c633)) X632
    · refine Go.ifNo C X632 (pc' := 19) d23_16 ((if0 _ _).trans (feq c633).1) rfl ?_
      refine Go.iconst C X632 (pc' := 20) (v := (0 : Int32)) d23_19 rfl rfl ?_
      exact Go.retI C X632 d23_20 ⟨(0 : Int32), rfl, rfl, (Or.inl ⟨0, rfl, Nat.le_of_not_lt (fun z => c631 ((own_big (k := (0 : Int32)) (d := 0) hfr rfl).mpr z)), Classical.byContradiction (fun z => c633 (own_if0.mpr z)), (fun q _ b => absurd b (Nat.not_lt_zero _))⟩)⟩ (by decide) (by decide)
theorem own_l255 (y : Int64) : 0 ≤ ((y &&& (255 : Int64)).toInt32).toInt ∧ ((y &&& (255 : Int64)).toInt32).toInt ≤ 255 := by
  have h := c_maskL y 255 8 (by decide) (by decide)
  have e : ((2 ^ 8 : Nat) : Int) = 256 := rfl
  have h2 := c_l2i (y &&& (255 : Int64)); have h3 := rng32 ((y &&& (255 : Int64)).toInt32)
  rw [e] at h; omega
theorem own_chr (y0 : Int64) (y1 y2 : Int32) : 0 ≤ (own_f_rm_ch y0 y1 y2).toInt ∧ (own_f_rm_ch y0 y1 y2).toInt ≤ 255 := by
  unfold own_f_rm_ch
  by_cases h : y2 = (0 : Int32)
  · rw [if_pos h]
    rcases own_and1 ((((y0).toUInt64 >>> (((8 : Int32) * y1) &&& 0x3f).toInt64.toUInt64).toInt64 &&& (255 : Int64)).toInt32) with q | q <;> rw [q] <;> decide
  · rw [if_neg h, own_nc (own_l255 _), own_nc (own_l255 _)]; exact own_l255 _
theorem own_n7 (x3 : Int32) : ∃ (u : Int32) (k : Nat), ((1 : Int32) + (x3 &&& (3 : Int32))) = u ∧ u.toInt = (k : Int) ∧ 1 ≤ k ∧ k ≤ 4 := by
  rcases own_and3 x3 with q | q | q | q <;> rw [q]
  · exact ⟨_, 1, rfl, rfl, by decide, by decide⟩
  · exact ⟨_, 2, rfl, rfl, by decide, by decide⟩
  · exact ⟨_, 3, rfl, rfl, by decide, by decide⟩
  · exact ⟨_, 4, rfl, rfl, by decide, by decide⟩
theorem own_m8 (x3 : Int32) : ∃ (u : Int32) (k : Nat), ((((x3).toUInt32 >>> ((2 : Int32) &&& 31).toUInt32).toInt32 &&& (15 : Int32)) % (9 : Int32)) = u ∧ u.toInt = (k : Int) ∧ k ≤ 8 := by
  have h := c_mask (((x3).toUInt32 >>> ((2 : Int32) &&& 31).toUInt32).toInt32) 15 4 (by decide) (by decide)
  have e : ((2 ^ 4 : Nat) : Int) = 16 := rfl
  rw [e] at h
  have r := (c_irem ((((x3).toUInt32 >>> ((2 : Int32) &&& 31).toUInt32).toInt32) &&& (15 : Int32)) 9 9 rfl).1 (by omega)
  exact ⟨_, (((((x3).toUInt32 >>> ((2 : Int32) &&& 31).toUInt32).toInt32 &&& (15 : Int32)) % (9 : Int32))).toInt.toNat, rfl, by omega, by omega⟩
theorem own_ef_rm0 (m : MethodId) (x0 : Int32) (x1 : Int64) (x2 : Int32) (x3 : Int32) (x4 : Int32) : entryFrame m #[(.int x0), (.long x1), (.int x2), (.int x3), (.int x4)] maxLocals = mkF m 0 #[.val (.int x0), .val (.long x1), .second, .val (.int x2), .val (.int x3), .val (.int x4), .unset, .unset, .unset, .unset, .unset, .unset] [] := by first | (simp [entryFrame, mkF, argsToLocals, Value.category, maxLocals]; done) | rfl
theorem own_pd19 : parseMethodDescriptor "(JIZ)C" = some ⟨[.long, .int, .boolean], some .char⟩ := by decide +kernel
theorem own_pd20 : parseMethodDescriptor "(CCCCCCCCI)Ljava/lang/String;" = some ⟨[.char, .char, .char, .char, .char, .char, .char, .char, .int], some (.object "java/lang/String")⟩ := by decide +kernel
theorem own_pd21 : parseMethodDescriptor "(Ljava/lang/String;)V" = some ⟨[(.object "java/lang/String")], none⟩ := by decide +kernel
theorem own_pd22 : parseMethodDescriptor "(Ljava/lang/CharSequence;I)I" = some ⟨[(.object "java/lang/CharSequence"), .int], some .int⟩ := by decide +kernel
theorem own_pd23 : parseMethodDescriptor "(Ljava/lang/String;Ljava/lang/String;I)I" = some ⟨[(.object "java/lang/String"), (.object "java/lang/String"), .int], some .int⟩ := by decide +kernel
set_option maxRecDepth 65536 in
set_option maxHeartbeats 40000000 in
theorem rm0 (l : Launch) (Z : State) (a0 : Array Value) (hw : ∀ d ∈ tables_1, d.before a0 Z = true) (x0 : Int32) (x1 : Int64) (x2 x3 x4 : Int32) (cs : Int32) (sf : Value) (h0 : Heap) (n0 : Nat) (Z0 : n0 ≤ h0.size) (hO : Old Z n0 h0) (hS : Sta Z Z.heap "java/lang/String" "COMPACT_STRINGS" "Z" (.int cs)) (hcs : ¬ cs = (0 : Int32)) (hSF : Sta Z Z.heap "jdk/internal/util/Preconditions" "SIOOBE_FORMATTER" "Ljava/util/function/BiFunction;" sf) (hsf : sf.isRef = true) :
    ConW l Z x code maxLocals ret room_1 #[(.int x0), (.long x1), (.int x2), (.int x3), (.int x4)] h0 n0 consts_1 (fun rv hv => rv = some (.int 1)) := by
  refine ConW.enter (plainFor_of_name own_pn5) Z0 ?_
  intro p e s m below meth c T0 C hnm X0 HC0
  refine Go.cast (own_ef_rm0 m x0 x1 x2 x3 x4) ?_
  have Cut14 : ∀ (T_14 : State) (u6 : Int32), On p l e room_1 s m #[(.int x0), (.long x1), (.int x2), (.int x3), (.int x4)] below meth c n0 T_14 h0 0 0 → Go p e below (ReturnedEndW s) n0 (room_1).cells (room_1).slots (fun rv hv => rv = some (.int 1)) T_14 (mkF m 14 #[.val (.int x0), .val (.long x1), .second, .val (.int x2), .val (.int x3), .val (.int x4), .val (.int u6), .unset, .unset, .unset, .unset, .unset] []) := by
    intro T_14 u6 X_14
    refine Go.iconst C X_14 (pc' := 15) (v := (1 : Int32)) at_14 rfl rfl ?_
    refine Go.iload C X_14 (pc' := 17) at_15 rfl rfl ?_
    refine Go.iconst C X_14 (pc' := 18) (v := (3 : Int32)) at_17 rfl rfl ?_
    refine Go.iand C X_14 (pc' := 19) at_18 rfl ?_
    refine Go.iadd C X_14 (pc' := 20) at_19 rfl ?_
    refine Go.istore C X_14 (pc' := 22) (Ls' := #[.val (.int x0), .val (.long x1), .second, .val (.int x2), .val (.int x3), .val (.int x4), .val (.int u6), .val (.int ((1 : Int32) + (x3 &&& (3 : Int32)))), .unset, .unset, .unset, .unset]) at_20 rfl rfl ?_
    refine Go.iload C X_14 (pc' := 24) at_22 rfl rfl ?_
    refine Go.iconst C X_14 (pc' := 25) (v := (2 : Int32)) at_24 rfl rfl ?_
    refine Go.iushr C X_14 (pc' := 26) at_25 rfl ?_
    refine Go.bipush C X_14 (pc' := 28) (v := (15 : Int32)) at_26 rfl rfl ?_
    refine Go.iand C X_14 (pc' := 29) at_28 rfl ?_
    refine Go.bipush C X_14 (pc' := 31) (v := (9 : Int32)) at_29 rfl rfl ?_
    refine Go.irem C X_14 (pc' := 32) at_31 (by decide) rfl ?_
    refine Go.istore C X_14 (pc' := 34) (Ls' := #[.val (.int x0), .val (.long x1), .second, .val (.int x2), .val (.int x3), .val (.int x4), .val (.int u6), .val (.int ((1 : Int32) + (x3 &&& (3 : Int32)))), .val (.int ((((x3).toUInt32 >>> ((2 : Int32) &&& 31).toUInt32).toInt32 &&& (15 : Int32)) % (9 : Int32))), .unset, .unset, .unset]) at_32 rfl rfl ?_
    obtain ⟨u7, nn, e7, h7, h71, h74⟩ := own_n7 x3
    obtain ⟨u8, mm, e8, h8, h88⟩ := own_m8 x3
    rw [e7, e8]
    refine Go.iloadN C X_14 (pc' := 35) at_34 rfl rfl ?_
    refine Go.i2l C X_14 (pc' := 36) at_35 rfl ?_
    refine Go.iconst C X_14 (pc' := 37) (v := (0 : Int32)) at_36 rfl rfl ?_
    refine Go.iload C X_14 (pc' := 39) at_37 rfl rfl ?_
    refine Go.callS C X_14 (pc' := 42) (W := 0) (argsL := [(.long (x0).toInt64), (.int (0 : Int32)), (.int u6)]) (rest := []) (rm_ch l Z a0 hw (x0).toInt64 (0 : Int32) u6 h0 n0 X_14.sz ) (hw _ (List.mem_of_getElem? (i := 0) rfl)) (hw _ (List.mem_of_getElem? (i := 1) rfl)) (hw _ (List.mem_of_getElem? (i := 2) rfl)) (hw _ (List.mem_of_getElem? (i := 3) rfl)) (by decide) rfl rfl (lenOf own_pd19 rfl) rfl (Nat.le_of_eq rfl) (by decide) (by decide) (by decide) (by decide) at_39 rfl (fun _ _ q => Nat.le_of_eq (congrArg Array.size q.2)) (fun T634 h634 v634 X634 P634 => ?_)
    obtain ⟨rfl, rfl⟩ := P634
    show Go p e below _ n0 _ _ _ T634 (mkF m 42 #[.val (.int x0), .val (.long x1), .second, .val (.int x2), .val (.int x3), .val (.int x4), .val (.int u6), .val (.int u7), .val (.int u8), .unset, .unset, .unset] [(.int (own_f_rm_ch (x0).toInt64 (0 : Int32) u6))])
    refine Go.iloadN C X634 (pc' := 43) at_42 rfl rfl ?_
    refine Go.i2l C X634 (pc' := 44) at_43 rfl ?_
    refine Go.iconst C X634 (pc' := 45) (v := (1 : Int32)) at_44 rfl rfl ?_
    refine Go.iload C X634 (pc' := 47) at_45 rfl rfl ?_
    refine Go.callS C X634 (pc' := 50) (W := 1) (argsL := [(.long (x0).toInt64), (.int (1 : Int32)), (.int u6)]) (rest := [(.int (own_f_rm_ch (x0).toInt64 (0 : Int32) u6))]) (rm_ch l Z a0 hw (x0).toInt64 (1 : Int32) u6 h0 n0 X634.sz ) (hw _ (List.mem_of_getElem? (i := 0) rfl)) (hw _ (List.mem_of_getElem? (i := 1) rfl)) (hw _ (List.mem_of_getElem? (i := 2) rfl)) (hw _ (List.mem_of_getElem? (i := 3) rfl)) (by decide) rfl rfl (lenOf own_pd19 rfl) rfl (Nat.le_of_eq rfl) (by decide) (by decide) (by decide) (by decide) at_47 rfl (fun _ _ q => Nat.le_of_eq (congrArg Array.size q.2)) (fun T635 h635 v635 X635 P635 => ?_)
    obtain ⟨rfl, rfl⟩ := P635
    show Go p e below _ n0 _ _ _ T635 (mkF m 50 #[.val (.int x0), .val (.long x1), .second, .val (.int x2), .val (.int x3), .val (.int x4), .val (.int u6), .val (.int u7), .val (.int u8), .unset, .unset, .unset] [(.int (own_f_rm_ch (x0).toInt64 (1 : Int32) u6)), (.int (own_f_rm_ch (x0).toInt64 (0 : Int32) u6))])
    refine Go.iloadN C X635 (pc' := 51) at_50 rfl rfl ?_
    refine Go.i2l C X635 (pc' := 52) at_51 rfl ?_
    refine Go.iconst C X635 (pc' := 53) (v := (2 : Int32)) at_52 rfl rfl ?_
    refine Go.iload C X635 (pc' := 55) at_53 rfl rfl ?_
    refine Go.callS C X635 (pc' := 58) (W := 2) (argsL := [(.long (x0).toInt64), (.int (2 : Int32)), (.int u6)]) (rest := [(.int (own_f_rm_ch (x0).toInt64 (1 : Int32) u6)), (.int (own_f_rm_ch (x0).toInt64 (0 : Int32) u6))]) (rm_ch l Z a0 hw (x0).toInt64 (2 : Int32) u6 h0 n0 X635.sz ) (hw _ (List.mem_of_getElem? (i := 0) rfl)) (hw _ (List.mem_of_getElem? (i := 1) rfl)) (hw _ (List.mem_of_getElem? (i := 2) rfl)) (hw _ (List.mem_of_getElem? (i := 3) rfl)) (by decide) rfl rfl (lenOf own_pd19 rfl) rfl (Nat.le_of_eq rfl) (by decide) (by decide) (by decide) (by decide) at_55 rfl (fun _ _ q => Nat.le_of_eq (congrArg Array.size q.2)) (fun T636 h636 v636 X636 P636 => ?_)
    obtain ⟨rfl, rfl⟩ := P636
    show Go p e below _ n0 _ _ _ T636 (mkF m 58 #[.val (.int x0), .val (.long x1), .second, .val (.int x2), .val (.int x3), .val (.int x4), .val (.int u6), .val (.int u7), .val (.int u8), .unset, .unset, .unset] [(.int (own_f_rm_ch (x0).toInt64 (2 : Int32) u6)), (.int (own_f_rm_ch (x0).toInt64 (1 : Int32) u6)), (.int (own_f_rm_ch (x0).toInt64 (0 : Int32) u6))])
    refine Go.iloadN C X636 (pc' := 59) at_58 rfl rfl ?_
    refine Go.i2l C X636 (pc' := 60) at_59 rfl ?_
    refine Go.iconst C X636 (pc' := 61) (v := (3 : Int32)) at_60 rfl rfl ?_
    refine Go.iload C X636 (pc' := 63) at_61 rfl rfl ?_
    refine Go.callS C X636 (pc' := 66) (W := 3) (argsL := [(.long (x0).toInt64), (.int (3 : Int32)), (.int u6)]) (rest := [(.int (own_f_rm_ch (x0).toInt64 (2 : Int32) u6)), (.int (own_f_rm_ch (x0).toInt64 (1 : Int32) u6)), (.int (own_f_rm_ch (x0).toInt64 (0 : Int32) u6))]) (rm_ch l Z a0 hw (x0).toInt64 (3 : Int32) u6 h0 n0 X636.sz ) (hw _ (List.mem_of_getElem? (i := 0) rfl)) (hw _ (List.mem_of_getElem? (i := 1) rfl)) (hw _ (List.mem_of_getElem? (i := 2) rfl)) (hw _ (List.mem_of_getElem? (i := 3) rfl)) (by decide) rfl rfl (lenOf own_pd19 rfl) rfl (Nat.le_of_eq rfl) (by decide) (by decide) (by decide) (by decide) at_63 rfl (fun _ _ q => Nat.le_of_eq (congrArg Array.size q.2)) (fun T637 h637 v637 X637 P637 => ?_)
    obtain ⟨rfl, rfl⟩ := P637
    show Go p e below _ n0 _ _ _ T637 (mkF m 66 #[.val (.int x0), .val (.long x1), .second, .val (.int x2), .val (.int x3), .val (.int x4), .val (.int u6), .val (.int u7), .val (.int u8), .unset, .unset, .unset] [(.int (own_f_rm_ch (x0).toInt64 (3 : Int32) u6)), (.int (own_f_rm_ch (x0).toInt64 (2 : Int32) u6)), (.int (own_f_rm_ch (x0).toInt64 (1 : Int32) u6)), (.int (own_f_rm_ch (x0).toInt64 (0 : Int32) u6))])
    refine Go.bipush C X637 (pc' := 68) (v := (97 : Int32)) at_66 rfl rfl ?_
    refine Go.bipush C X637 (pc' := 70) (v := (97 : Int32)) at_68 rfl rfl ?_
    refine Go.bipush C X637 (pc' := 72) (v := (97 : Int32)) at_70 rfl rfl ?_
    refine Go.bipush C X637 (pc' := 74) (v := (97 : Int32)) at_72 rfl rfl ?_
    refine Go.iload C X637 (pc' := 76) at_74 rfl rfl ?_
    refine Go.callS C X637 (pc' := 79) (W := 0) (argsL := [(.int (own_f_rm_ch (x0).toInt64 (0 : Int32) u6)), (.int (own_f_rm_ch (x0).toInt64 (1 : Int32) u6)), (.int (own_f_rm_ch (x0).toInt64 (2 : Int32) u6)), (.int (own_f_rm_ch (x0).toInt64 (3 : Int32) u6)), (.int (97 : Int32)), (.int (97 : Int32)), (.int (97 : Int32)), (.int (97 : Int32)), (.int u7)]) (rest := []) (rm_mk l Z a0 hw (own_f_rm_ch (x0).toInt64 (0 : Int32) u6) (own_f_rm_ch (x0).toInt64 (1 : Int32) u6) (own_f_rm_ch (x0).toInt64 (2 : Int32) u6) (own_f_rm_ch (x0).toInt64 (3 : Int32) u6) (97 : Int32) (97 : Int32) (97 : Int32) (97 : Int32) u7 nn cs h0 n0 X637.sz hO hS hcs (own_chr _ _ _) (own_chr _ _ _) (own_chr _ _ _) (own_chr _ _ _) (by decide) (by decide) (by decide) (by decide) h7 h71 (by omega)) (hw _ (List.mem_of_getElem? (i := 5) rfl)) (hw _ (List.mem_of_getElem? (i := 6) rfl)) (hw _ (List.mem_of_getElem? (i := 2) rfl)) (hw _ (List.mem_of_getElem? (i := 7) rfl)) (by decide) rfl rfl (lenOf own_pd20 rfl) rfl (Nat.le_of_eq rfl) (by decide) (by decide) (by decide) (by decide) at_76 rfl (fun _ _ q => by obtain ⟨_, _, _, _, _, K, _⟩ := q; exact K.1) (fun T638 h638 v638 X638 P638 => ?_)
    obtain ⟨t638, b1638, f1638, rfl, D638_t, K638, O638_0, O638_1, O638_2, O638_3, O638_4, Y638_0⟩ := P638
    have N_t638 : n0 ≤ t638 := Nat.le_trans X637.sz D638_t
    have Q_t638 : h0.size ≤ t638 := Nat.le_trans (Keep.refl h0 []).1 D638_t
    have O639 : Old Z n0 h638 := hO.keep K638 all0
    have K640 : Keep h0 h638 [] := (Keep.refl h0 []).trans K638 all0
    show Go p e below _ n0 _ _ _ T638 (mkF m 79 #[.val (.int x0), .val (.long x1), .second, .val (.int x2), .val (.int x3), .val (.int x4), .val (.int u6), .val (.int u7), .val (.int u8), .unset, .unset, .unset] [(.ref t638)])
    refine Go.astore C X638 (pc' := 81) (Ls' := #[.val (.int x0), .val (.long x1), .second, .val (.int x2), .val (.int x3), .val (.int x4), .val (.int u6), .val (.int u7), .val (.int u8), .val (.ref t638), .unset, .unset]) at_79 rfl rfl rfl ?_
    refine Go.lloadN C X638 (pc' := 82) at_81 rfl rfl ?_
    refine Go.iconst C X638 (pc' := 83) (v := (0 : Int32)) at_82 rfl rfl ?_
    refine Go.iload C X638 (pc' := 85) at_83 rfl rfl ?_
    refine Go.callS C X638 (pc' := 88) (W := 0) (argsL := [(.long x1), (.int (0 : Int32)), (.int u6)]) (rest := []) (rm_ch l Z a0 hw x1 (0 : Int32) u6 h638 n0 X638.sz ) (hw _ (List.mem_of_getElem? (i := 0) rfl)) (hw _ (List.mem_of_getElem? (i := 1) rfl)) (hw _ (List.mem_of_getElem? (i := 2) rfl)) (hw _ (List.mem_of_getElem? (i := 3) rfl)) (by decide) rfl rfl (lenOf own_pd19 rfl) rfl (Nat.le_of_eq rfl) (by decide) (by decide) (by decide) (by decide) at_85 rfl (fun _ _ q => Nat.le_of_eq (congrArg Array.size q.2)) (fun T641 h641 v641 X641 P641 => ?_)
    obtain ⟨rfl, rfl⟩ := P641
    show Go p e below _ n0 _ _ _ T641 (mkF m 88 #[.val (.int x0), .val (.long x1), .second, .val (.int x2), .val (.int x3), .val (.int x4), .val (.int u6), .val (.int u7), .val (.int u8), .val (.ref t638), .unset, .unset] [(.int (own_f_rm_ch x1 (0 : Int32) u6))])
    refine Go.lloadN C X641 (pc' := 89) at_88 rfl rfl ?_
    refine Go.iconst C X641 (pc' := 90) (v := (1 : Int32)) at_89 rfl rfl ?_
    refine Go.iload C X641 (pc' := 92) at_90 rfl rfl ?_
    refine Go.callS C X641 (pc' := 95) (W := 1) (argsL := [(.long x1), (.int (1 : Int32)), (.int u6)]) (rest := [(.int (own_f_rm_ch x1 (0 : Int32) u6))]) (rm_ch l Z a0 hw x1 (1 : Int32) u6 h638 n0 X641.sz ) (hw _ (List.mem_of_getElem? (i := 0) rfl)) (hw _ (List.mem_of_getElem? (i := 1) rfl)) (hw _ (List.mem_of_getElem? (i := 2) rfl)) (hw _ (List.mem_of_getElem? (i := 3) rfl)) (by decide) rfl rfl (lenOf own_pd19 rfl) rfl (Nat.le_of_eq rfl) (by decide) (by decide) (by decide) (by decide) at_92 rfl (fun _ _ q => Nat.le_of_eq (congrArg Array.size q.2)) (fun T642 h642 v642 X642 P642 => ?_)
    obtain ⟨rfl, rfl⟩ := P642
    show Go p e below _ n0 _ _ _ T642 (mkF m 95 #[.val (.int x0), .val (.long x1), .second, .val (.int x2), .val (.int x3), .val (.int x4), .val (.int u6), .val (.int u7), .val (.int u8), .val (.ref t638), .unset, .unset] [(.int (own_f_rm_ch x1 (1 : Int32) u6)), (.int (own_f_rm_ch x1 (0 : Int32) u6))])
    refine Go.lloadN C X642 (pc' := 96) at_95 rfl rfl ?_
    refine Go.iconst C X642 (pc' := 97) (v := (2 : Int32)) at_96 rfl rfl ?_
    refine Go.iload C X642 (pc' := 99) at_97 rfl rfl ?_
    refine Go.callS C X642 (pc' := 102) (W := 2) (argsL := [(.long x1), (.int (2 : Int32)), (.int u6)]) (rest := [(.int (own_f_rm_ch x1 (1 : Int32) u6)), (.int (own_f_rm_ch x1 (0 : Int32) u6))]) (rm_ch l Z a0 hw x1 (2 : Int32) u6 h638 n0 X642.sz ) (hw _ (List.mem_of_getElem? (i := 0) rfl)) (hw _ (List.mem_of_getElem? (i := 1) rfl)) (hw _ (List.mem_of_getElem? (i := 2) rfl)) (hw _ (List.mem_of_getElem? (i := 3) rfl)) (by decide) rfl rfl (lenOf own_pd19 rfl) rfl (Nat.le_of_eq rfl) (by decide) (by decide) (by decide) (by decide) at_99 rfl (fun _ _ q => Nat.le_of_eq (congrArg Array.size q.2)) (fun T643 h643 v643 X643 P643 => ?_)
    obtain ⟨rfl, rfl⟩ := P643
    show Go p e below _ n0 _ _ _ T643 (mkF m 102 #[.val (.int x0), .val (.long x1), .second, .val (.int x2), .val (.int x3), .val (.int x4), .val (.int u6), .val (.int u7), .val (.int u8), .val (.ref t638), .unset, .unset] [(.int (own_f_rm_ch x1 (2 : Int32) u6)), (.int (own_f_rm_ch x1 (1 : Int32) u6)), (.int (own_f_rm_ch x1 (0 : Int32) u6))])
    refine Go.lloadN C X643 (pc' := 103) at_102 rfl rfl ?_
    refine Go.iconst C X643 (pc' := 104) (v := (3 : Int32)) at_103 rfl rfl ?_
    refine Go.iload C X643 (pc' := 106) at_104 rfl rfl ?_
    refine Go.callS C X643 (pc' := 109) (W := 3) (argsL := [(.long x1), (.int (3 : Int32)), (.int u6)]) (rest := [(.int (own_f_rm_ch x1 (2 : Int32) u6)), (.int (own_f_rm_ch x1 (1 : Int32) u6)), (.int (own_f_rm_ch x1 (0 : Int32) u6))]) (rm_ch l Z a0 hw x1 (3 : Int32) u6 h638 n0 X643.sz ) (hw _ (List.mem_of_getElem? (i := 0) rfl)) (hw _ (List.mem_of_getElem? (i := 1) rfl)) (hw _ (List.mem_of_getElem? (i := 2) rfl)) (hw _ (List.mem_of_getElem? (i := 3) rfl)) (by decide) rfl rfl (lenOf own_pd19 rfl) rfl (Nat.le_of_eq rfl) (by decide) (by decide) (by decide) (by decide) at_106 rfl (fun _ _ q => Nat.le_of_eq (congrArg Array.size q.2)) (fun T644 h644 v644 X644 P644 => ?_)
    obtain ⟨rfl, rfl⟩ := P644
    show Go p e below _ n0 _ _ _ T644 (mkF m 109 #[.val (.int x0), .val (.long x1), .second, .val (.int x2), .val (.int x3), .val (.int x4), .val (.int u6), .val (.int u7), .val (.int u8), .val (.ref t638), .unset, .unset] [(.int (own_f_rm_ch x1 (3 : Int32) u6)), (.int (own_f_rm_ch x1 (2 : Int32) u6)), (.int (own_f_rm_ch x1 (1 : Int32) u6)), (.int (own_f_rm_ch x1 (0 : Int32) u6))])
    refine Go.lloadN C X644 (pc' := 110) at_109 rfl rfl ?_
    refine Go.iconst C X644 (pc' := 111) (v := (4 : Int32)) at_110 rfl rfl ?_
    refine Go.iload C X644 (pc' := 113) at_111 rfl rfl ?_
    refine Go.callS C X644 (pc' := 116) (W := 4) (argsL := [(.long x1), (.int (4 : Int32)), (.int u6)]) (rest := [(.int (own_f_rm_ch x1 (3 : Int32) u6)), (.int (own_f_rm_ch x1 (2 : Int32) u6)), (.int (own_f_rm_ch x1 (1 : Int32) u6)), (.int (own_f_rm_ch x1 (0 : Int32) u6))]) (rm_ch l Z a0 hw x1 (4 : Int32) u6 h638 n0 X644.sz ) (hw _ (List.mem_of_getElem? (i := 0) rfl)) (hw _ (List.mem_of_getElem? (i := 1) rfl)) (hw _ (List.mem_of_getElem? (i := 2) rfl)) (hw _ (List.mem_of_getElem? (i := 3) rfl)) (by decide) rfl rfl (lenOf own_pd19 rfl) rfl (Nat.le_of_eq rfl) (by decide) (by decide) (by decide) (by decide) at_113 rfl (fun _ _ q => Nat.le_of_eq (congrArg Array.size q.2)) (fun T645 h645 v645 X645 P645 => ?_)
    obtain ⟨rfl, rfl⟩ := P645
    show Go p e below _ n0 _ _ _ T645 (mkF m 116 #[.val (.int x0), .val (.long x1), .second, .val (.int x2), .val (.int x3), .val (.int x4), .val (.int u6), .val (.int u7), .val (.int u8), .val (.ref t638), .unset, .unset] [(.int (own_f_rm_ch x1 (4 : Int32) u6)), (.int (own_f_rm_ch x1 (3 : Int32) u6)), (.int (own_f_rm_ch x1 (2 : Int32) u6)), (.int (own_f_rm_ch x1 (1 : Int32) u6)), (.int (own_f_rm_ch x1 (0 : Int32) u6))])
    refine Go.lloadN C X645 (pc' := 117) at_116 rfl rfl ?_
    refine Go.iconst C X645 (pc' := 118) (v := (5 : Int32)) at_117 rfl rfl ?_
    refine Go.iload C X645 (pc' := 120) at_118 rfl rfl ?_
    refine Go.callS C X645 (pc' := 123) (W := 5) (argsL := [(.long x1), (.int (5 : Int32)), (.int u6)]) (rest := [(.int (own_f_rm_ch x1 (4 : Int32) u6)), (.int (own_f_rm_ch x1 (3 : Int32) u6)), (.int (own_f_rm_ch x1 (2 : Int32) u6)), (.int (own_f_rm_ch x1 (1 : Int32) u6)), (.int (own_f_rm_ch x1 (0 : Int32) u6))]) (rm_ch l Z a0 hw x1 (5 : Int32) u6 h638 n0 X645.sz ) (hw _ (List.mem_of_getElem? (i := 0) rfl)) (hw _ (List.mem_of_getElem? (i := 1) rfl)) (hw _ (List.mem_of_getElem? (i := 2) rfl)) (hw _ (List.mem_of_getElem? (i := 3) rfl)) (by decide) rfl rfl (lenOf own_pd19 rfl) rfl (Nat.le_of_eq rfl) (by decide) (by decide) (by decide) (by decide) at_120 rfl (fun _ _ q => Nat.le_of_eq (congrArg Array.size q.2)) (fun T646 h646 v646 X646 P646 => ?_)
    obtain ⟨rfl, rfl⟩ := P646
    show Go p e below _ n0 _ _ _ T646 (mkF m 123 #[.val (.int x0), .val (.long x1), .second, .val (.int x2), .val (.int x3), .val (.int x4), .val (.int u6), .val (.int u7), .val (.int u8), .val (.ref t638), .unset, .unset] [(.int (own_f_rm_ch x1 (5 : Int32) u6)), (.int (own_f_rm_ch x1 (4 : Int32) u6)), (.int (own_f_rm_ch x1 (3 : Int32) u6)), (.int (own_f_rm_ch x1 (2 : Int32) u6)), (.int (own_f_rm_ch x1 (1 : Int32) u6)), (.int (own_f_rm_ch x1 (0 : Int32) u6))])
    refine Go.lloadN C X646 (pc' := 124) at_123 rfl rfl ?_
    refine Go.bipush C X646 (pc' := 126) (v := (6 : Int32)) at_124 rfl rfl ?_
    refine Go.iload C X646 (pc' := 128) at_126 rfl rfl ?_
    refine Go.callS C X646 (pc' := 131) (W := 6) (argsL := [(.long x1), (.int (6 : Int32)), (.int u6)]) (rest := [(.int (own_f_rm_ch x1 (5 : Int32) u6)), (.int (own_f_rm_ch x1 (4 : Int32) u6)), (.int (own_f_rm_ch x1 (3 : Int32) u6)), (.int (own_f_rm_ch x1 (2 : Int32) u6)), (.int (own_f_rm_ch x1 (1 : Int32) u6)), (.int (own_f_rm_ch x1 (0 : Int32) u6))]) (rm_ch l Z a0 hw x1 (6 : Int32) u6 h638 n0 X646.sz ) (hw _ (List.mem_of_getElem? (i := 0) rfl)) (hw _ (List.mem_of_getElem? (i := 1) rfl)) (hw _ (List.mem_of_getElem? (i := 2) rfl)) (hw _ (List.mem_of_getElem? (i := 3) rfl)) (by decide) rfl rfl (lenOf own_pd19 rfl) rfl (Nat.le_of_eq rfl) (by decide) (by decide) (by decide) (by decide) at_128 rfl (fun _ _ q => Nat.le_of_eq (congrArg Array.size q.2)) (fun T647 h647 v647 X647 P647 => ?_)
    obtain ⟨rfl, rfl⟩ := P647
    show Go p e below _ n0 _ _ _ T647 (mkF m 131 #[.val (.int x0), .val (.long x1), .second, .val (.int x2), .val (.int x3), .val (.int x4), .val (.int u6), .val (.int u7), .val (.int u8), .val (.ref t638), .unset, .unset] [(.int (own_f_rm_ch x1 (6 : Int32) u6)), (.int (own_f_rm_ch x1 (5 : Int32) u6)), (.int (own_f_rm_ch x1 (4 : Int32) u6)), (.int (own_f_rm_ch x1 (3 : Int32) u6)), (.int (own_f_rm_ch x1 (2 : Int32) u6)), (.int (own_f_rm_ch x1 (1 : Int32) u6)), (.int (own_f_rm_ch x1 (0 : Int32) u6))])
    refine Go.lloadN C X647 (pc' := 132) at_131 rfl rfl ?_
    refine Go.bipush C X647 (pc' := 134) (v := (7 : Int32)) at_132 rfl rfl ?_
    refine Go.iload C X647 (pc' := 136) at_134 rfl rfl ?_
    refine Go.callS C X647 (pc' := 139) (W := 7) (argsL := [(.long x1), (.int (7 : Int32)), (.int u6)]) (rest := [(.int (own_f_rm_ch x1 (6 : Int32) u6)), (.int (own_f_rm_ch x1 (5 : Int32) u6)), (.int (own_f_rm_ch x1 (4 : Int32) u6)), (.int (own_f_rm_ch x1 (3 : Int32) u6)), (.int (own_f_rm_ch x1 (2 : Int32) u6)), (.int (own_f_rm_ch x1 (1 : Int32) u6)), (.int (own_f_rm_ch x1 (0 : Int32) u6))]) (rm_ch l Z a0 hw x1 (7 : Int32) u6 h638 n0 X647.sz ) (hw _ (List.mem_of_getElem? (i := 0) rfl)) (hw _ (List.mem_of_getElem? (i := 1) rfl)) (hw _ (List.mem_of_getElem? (i := 2) rfl)) (hw _ (List.mem_of_getElem? (i := 3) rfl)) (by decide) rfl rfl (lenOf own_pd19 rfl) rfl (Nat.le_of_eq rfl) (by decide) (by decide) (by decide) (by decide) at_136 rfl (fun _ _ q => Nat.le_of_eq (congrArg Array.size q.2)) (fun T648 h648 v648 X648 P648 => ?_)
    obtain ⟨rfl, rfl⟩ := P648
    show Go p e below _ n0 _ _ _ T648 (mkF m 139 #[.val (.int x0), .val (.long x1), .second, .val (.int x2), .val (.int x3), .val (.int x4), .val (.int u6), .val (.int u7), .val (.int u8), .val (.ref t638), .unset, .unset] [(.int (own_f_rm_ch x1 (7 : Int32) u6)), (.int (own_f_rm_ch x1 (6 : Int32) u6)), (.int (own_f_rm_ch x1 (5 : Int32) u6)), (.int (own_f_rm_ch x1 (4 : Int32) u6)), (.int (own_f_rm_ch x1 (3 : Int32) u6)), (.int (own_f_rm_ch x1 (2 : Int32) u6)), (.int (own_f_rm_ch x1 (1 : Int32) u6)), (.int (own_f_rm_ch x1 (0 : Int32) u6))])
    refine Go.iload C X648 (pc' := 141) at_139 rfl rfl ?_
    by_cases hm0 : mm = 0
    · obtain rfl : u8 = (0 : Int32) := own_ieq.mpr (by rw [h8, hm0]; rfl)
      refine Go.callSW C X648 (pc' := 144) (W := 0) (argsL := [(.int (own_f_rm_ch x1 (0 : Int32) u6)), (.int (own_f_rm_ch x1 (1 : Int32) u6)), (.int (own_f_rm_ch x1 (2 : Int32) u6)), (.int (own_f_rm_ch x1 (3 : Int32) u6)), (.int (own_f_rm_ch x1 (4 : Int32) u6)), (.int (own_f_rm_ch x1 (5 : Int32) u6)), (.int (own_f_rm_ch x1 (6 : Int32) u6)), (.int (own_f_rm_ch x1 (7 : Int32) u6)), (.int (0 : Int32))]) (rest := []) (rm_mk0 l Z a0 hw (own_f_rm_ch x1 (0 : Int32) u6) (own_f_rm_ch x1 (1 : Int32) u6) (own_f_rm_ch x1 (2 : Int32) u6) (own_f_rm_ch x1 (3 : Int32) u6) (own_f_rm_ch x1 (4 : Int32) u6) (own_f_rm_ch x1 (5 : Int32) u6) (own_f_rm_ch x1 (6 : Int32) u6) (own_f_rm_ch x1 (7 : Int32) u6) (0 : Int32)  h638 n0 X648.sz rfl) (own_ew hw) (CHv.keep K640 (fun _ q => absurd q List.not_mem_nil) HC0) (hw _ (List.mem_of_getElem? (i := 5) rfl)) (hw _ (List.mem_of_getElem? (i := 6) rfl)) (hw _ (List.mem_of_getElem? (i := 2) rfl)) (hw _ (List.mem_of_getElem? (i := 7) rfl)) (by decide) rfl rfl (lenOf own_pd20 rfl) rfl (Nat.le_of_eq rfl) (by decide) (by decide) (by decide) (by decide) at_141 rfl (fun T649 h649 v649 X649 C P649 => ?_)
      obtain ⟨t649, b1649, f1649, rfl, D649_t, K649, O649_0, O649_1, O649_2, O649_3, O649_4, Y649_0⟩ := P649
      have ne_t638_t649 : t638 ≠ t649 := Nat.ne_of_lt (Nat.lt_of_lt_of_le O638_0.lt D649_t)
      have ne_b1638_t649 : b1638 ≠ t649 := Nat.ne_of_lt (Nat.lt_of_lt_of_le O638_3.lt D649_t)
      have N_t649 : n0 ≤ t649 := Nat.le_trans X648.sz D649_t
      have Q_t649 : h0.size ≤ t649 := Nat.le_trans K640.1 D649_t
      have O650 : Old Z n0 h649 := O639.keep K649 all0
      have K651 : Keep h0 h649 [] := K640.trans K649 all0
      have E652 := O638_0.keep K649
      have F653 := O638_1.keep K649 nin0
      have F654 := O638_2.keep K649 nin0
      have A655 := O638_3.keep K649 nin0
      have M649_ : h649.size ≤ h649.size := Nat.le_refl _
      show Go p e below _ n0 _ _ _ T649 (mkF m 144 #[.val (.int x0), .val (.long x1), .second, .val (.int x2), .val (.int x3), .val (.int x4), .val (.int u6), .val (.int u7), .val (.int (0 : Int32)), .val (.ref t638), .unset, .unset] [(.ref t649)])
      refine Go.astore C X649 (pc' := 146) (Ls' := #[.val (.int x0), .val (.long x1), .second, .val (.int x2), .val (.int x3), .val (.int x4), .val (.int u6), .val (.int u7), .val (.int (0 : Int32)), .val (.ref t638), .val (.ref t649), .unset]) at_144 rfl rfl rfl ?_
      refine Go.newO C X649 (pc' := 149) (hw _ (List.mem_of_getElem? (i := 41) rfl)) (hw _ (List.mem_of_getElem? (i := 42) rfl)) (hw _ (List.mem_of_getElem? (i := 43) rfl)) at_146 (by decide) (by decide) rfl (fun T656 h656 b656 X656 g656 E656 Ex656 D656 N656 => ?_)
      have ne_t638_b656 : t638 ≠ b656 := Nat.ne_of_lt (Nat.lt_of_lt_of_eq E652.lt g656.symm)
      have ne_b1638_b656 : b1638 ≠ b656 := Nat.ne_of_lt (Nat.lt_of_lt_of_eq A655.lt g656.symm)
      have ne_t649_b656 : t649 ≠ b656 := Nat.ne_of_lt (Nat.lt_of_lt_of_eq O649_0.lt g656.symm)
      have ne_b1649_b656 : b1649 ≠ b656 := Nat.ne_of_lt (Nat.lt_of_lt_of_eq O649_3.lt g656.symm)
      have Q656 : h0.size ≤ b656 := Nat.le_trans K651.1 (Nat.le_of_eq g656.symm)
      have O657 : Old Z n0 h656 := O650.ext E656
      have K658 : Keep h0 h656 [] := K651.ext E656
      have E659 := E652.ext E656
      have F660 := F653.ext E656
      have F661 := F654.ext E656
      have A662 := A655.ext E656
      have E663 := O649_0.ext E656
      have F664 := O649_1.ext E656
      have F665 := O649_2.ext E656
      have A666 := O649_3.ext E656
      have M667 : h649.size ≤ h656.size := Nat.le_trans M649_ E656.1
      have F668 : Fld Z h656 b656 "com/example/needlewright/needlewright/CharNeedle" "automaton" "Lcom/example/needlewright/needlewright/Automaton;" .null := D656 (Or.inr (hw _ (List.mem_of_getElem? (i := 103) rfl))) (ty := (.object "com/example/needlewright/needlewright/Automaton")) (by decide)
      refine Go.dup C X656 (pc' := 150) at_149 rfl rfl ?_
      refine Go.aload C X656 (pc' := 152) at_150 rfl rfl rfl ?_
      refine Go.callI C X656 (pc' := 155) (W := 1) (argsL := [(.ref t638)]) (rest := [(.ref b656)]) (a := b656) (rm_cn l Z a0 hw b656 t638 b1638 nn f1638 u7 cs sf h656 n0 X656.sz O657 hS hSF Ex656 F668 N656 E659 F660 F661 A662 (Ne.symm ne_t638_b656) (Ne.symm ne_b1638_b656) hcs hsf h7 h71 h74) rfl rfl (hw _ (List.mem_of_getElem? (i := 44) rfl)) (hw _ (List.mem_of_getElem? (i := 45) rfl)) (hw _ (List.mem_of_getElem? (i := 43) rfl)) (hw _ (List.mem_of_getElem? (i := 46) rfl)) (by decide) rfl rfl (lenOf own_pd21 rfl) rfl (Nat.le_of_eq rfl) (by decide) (by decide) (by decide) (by decide) at_152 rfl (fun _ _ q => by obtain ⟨_, _, _, _, _, _, _, _, _, K, _⟩ := q; exact K.1) (fun T669 h669 v669 X669 P669 => ?_)
      obtain ⟨au669, t669, t2669, u1669, b1669, rfl, D669_au, D669_t, D669_t2, K669, O669_0, O669_1, O669_2, O669_3, O669_4, O669_5, O669_6, O669_7, O669_8, O669_9, O669_10, O669_11, O669_12, Y669_0, Y669_1, Y669_2⟩ := P669
      have ne_t638_au669 : t638 ≠ au669 := Nat.ne_of_lt (Nat.lt_of_lt_of_le E659.lt D669_au)
      have ne_b1638_au669 : b1638 ≠ au669 := Nat.ne_of_lt (Nat.lt_of_lt_of_le A662.lt D669_au)
      have ne_t649_au669 : t649 ≠ au669 := Nat.ne_of_lt (Nat.lt_of_lt_of_le E663.lt D669_au)
      have ne_b1649_au669 : b1649 ≠ au669 := Nat.ne_of_lt (Nat.lt_of_lt_of_le A666.lt D669_au)
      have ne_b656_au669 : b656 ≠ au669 := Nat.ne_of_lt (Nat.lt_of_lt_of_le Ex656.lt D669_au)
      have N_au669 : n0 ≤ au669 := Nat.le_trans X656.sz D669_au
      have Q_au669 : h0.size ≤ au669 := Nat.le_trans K658.1 D669_au
      have ne_t638_t669 : t638 ≠ t669 := Nat.ne_of_lt (Nat.lt_of_lt_of_le E659.lt D669_t)
      have ne_b1638_t669 : b1638 ≠ t669 := Nat.ne_of_lt (Nat.lt_of_lt_of_le A662.lt D669_t)
      have ne_t649_t669 : t649 ≠ t669 := Nat.ne_of_lt (Nat.lt_of_lt_of_le E663.lt D669_t)
      have ne_b1649_t669 : b1649 ≠ t669 := Nat.ne_of_lt (Nat.lt_of_lt_of_le A666.lt D669_t)
      have ne_b656_t669 : b656 ≠ t669 := Nat.ne_of_lt (Nat.lt_of_lt_of_le Ex656.lt D669_t)
      have N_t669 : n0 ≤ t669 := Nat.le_trans X656.sz D669_t
      have Q_t669 : h0.size ≤ t669 := Nat.le_trans K658.1 D669_t
      have ne_t638_t2669 : t638 ≠ t2669 := Nat.ne_of_lt (Nat.lt_of_lt_of_le E659.lt D669_t2)
      have ne_b1638_t2669 : b1638 ≠ t2669 := Nat.ne_of_lt (Nat.lt_of_lt_of_le A662.lt D669_t2)
      have ne_t649_t2669 : t649 ≠ t2669 := Nat.ne_of_lt (Nat.lt_of_lt_of_le E663.lt D669_t2)
      have ne_b1649_t2669 : b1649 ≠ t2669 := Nat.ne_of_lt (Nat.lt_of_lt_of_le A666.lt D669_t2)
      have ne_b656_t2669 : b656 ≠ t2669 := Nat.ne_of_lt (Nat.lt_of_lt_of_le Ex656.lt D669_t2)
      have N_t2669 : n0 ≤ t2669 := Nat.le_trans X656.sz D669_t2
      have Q_t2669 : h0.size ≤ t2669 := Nat.le_trans K658.1 D669_t2
      have O670 : Old Z n0 h669 := O657.keep K669 (allS N656 all0)
      have K671 : Keep h0 h669 [] := K658.trans K669 (allS (Or.inr Q656) all0)
      have E672 := E659.keep K669
      have F673 := F660.keep K669 (ninS ne_t638_b656 nin0)
      have F674 := F661.keep K669 (ninS ne_t638_b656 nin0)
      have A675 := A662.keep K669 (ninS ne_b1638_b656 nin0)
      have E676 := E663.keep K669
      have F677 := F664.keep K669 (ninS ne_t649_b656 nin0)
      have F678 := F665.keep K669 (ninS ne_t649_b656 nin0)
      have A679 := A666.keep K669 (ninS ne_b1649_b656 nin0)
      have M680 : h649.size ≤ h669.size := Nat.le_trans M667 K669.1
      have E681 := Ex656.keep K669
      show Go p e below _ n0 _ _ _ T669 (mkF m 155 #[.val (.int x0), .val (.long x1), .second, .val (.int x2), .val (.int x3), .val (.int x4), .val (.int u6), .val (.int u7), .val (.int (0 : Int32)), .val (.ref t638), .val (.ref t649), .unset] [(.ref b656)])
      refine Go.aload C X669 (pc' := 157) at_155 rfl rfl rfl ?_
      refine Go.iloadN C X669 (pc' := 158) at_157 rfl rfl ?_
      refine Go.callV C X669 (pc' := 161) (W := 0) (argsL := [(.ref t649), (.int x2)]) (rest := []) (a := b656) (rm_ii l Z a0 hw b656 t649 x2 au669 t669 t2669 nn u1669 b1669 (u7 + (1 : Int32)) b1649 0 f1649 (0 : Int32) ((own_f_rm_mx x2 (0 : Int32)).toInt.toNat) cs sf h669 n0 X669.sz O670 hS hSF O669_0 O669_1 O669_2 O669_3 O669_4 O669_5 O669_6 E676 F677 F678 A679 hcs hsf (own_up1 h7 (by omega)) rfl h71 h74 (by decide) (fun q h => ⟨_, Y669_0 q h⟩) Y669_1 Y669_2 Y649_0 (own_mxn x2)) O669_0 (notFace_of_selects (args := #[]) (mvT C.2.1 (hw _ (List.mem_of_getElem? (i := 107) rfl)))) (hw _ (List.mem_of_getElem? (i := 104) rfl)) (hw _ (List.mem_of_getElem? (i := 105) rfl)) (hw _ (List.mem_of_getElem? (i := 107) rfl)) (hw _ (List.mem_of_getElem? (i := 106) rfl)) (hw _ (List.mem_of_getElem? (i := 43) rfl)) (hw _ (List.mem_of_getElem? (i := 108) rfl)) (by decide) rfl rfl (lenOf own_pd22 rfl) rfl (Nat.le_of_eq rfl) (by decide) (by decide) (by decide) (by decide) at_158 rfl (fun _ _ q => by obtain ⟨_, _, e, _⟩ := q; exact Nat.le_of_eq (congrArg Array.size e)) (fun T682 h682 v682 X682 P682 => ?_)
      obtain ⟨r682, rfl, rfl, Y682_0⟩ := P682
      show Go p e below _ n0 _ _ _ T682 (mkF m 161 #[.val (.int x0), .val (.long x1), .second, .val (.int x2), .val (.int x3), .val (.int x4), .val (.int u6), .val (.int u7), .val (.int (0 : Int32)), .val (.ref t638), .val (.ref t649), .unset] [(.int r682)])
      refine Go.istore C X682 (pc' := 163) (Ls' := #[.val (.int x0), .val (.long x1), .second, .val (.int x2), .val (.int x3), .val (.int x4), .val (.int u6), .val (.int u7), .val (.int (0 : Int32)), .val (.ref t638), .val (.ref t649), .val (.int r682)]) at_161 rfl rfl ?_
      refine Go.iload C X682 (pc' := 165) at_163 rfl rfl ?_
      refine Go.aload C X682 (pc' := 167) at_165 rfl rfl rfl ?_
      refine Go.aload C X682 (pc' := 169) at_167 rfl rfl rfl ?_
      refine Go.iloadN C X682 (pc' := 170) at_169 rfl rfl ?_
      refine Go.callS C X682 (pc' := 173) (W := 1) (argsL := [(.ref t649), (.ref t638), (.int x2)]) (rest := [(.int r682)]) (rm_rf l Z a0 hw t649 t638 x2 b1649 0 f1649 (0 : Int32) b1638 nn f1638 u7 ((own_f_rm_mx x2 (0 : Int32)).toInt.toNat) cs sf h669 n0 X682.sz O670 hS hSF E676 F677 F678 A679 E672 F673 F674 A675 hcs hsf rfl h7 h71 h74 (by decide) (own_mxn x2)) (hw _ (List.mem_of_getElem? (i := 127) rfl)) (hw _ (List.mem_of_getElem? (i := 128) rfl)) (hw _ (List.mem_of_getElem? (i := 2) rfl)) (hw _ (List.mem_of_getElem? (i := 129) rfl)) (by decide) rfl rfl (lenOf own_pd23 rfl) rfl (Nat.le_of_eq rfl) (by decide) (by decide) (by decide) (by decide) at_170 rfl (fun _ _ q => by obtain ⟨_, _, e, _⟩ := q; exact Nat.le_of_eq (congrArg Array.size e)) (fun T683 h683 v683 X683 P683 => ?_)
      obtain ⟨r683, rfl, rfl, Y683_0⟩ := P683
      show Go p e below _ n0 _ _ _ T683 (mkF m 173 #[.val (.int x0), .val (.long x1), .second, .val (.int x2), .val (.int x3), .val (.int x4), .val (.int u6), .val (.int u7), .val (.int (0 : Int32)), .val (.ref t638), .val (.ref t649), .val (.int r682)] [(.int r683), (.int r682)])
      refine Go.icmpNo C X683 (pc' := 176) at_173 (teq (own_res_uniq (own_res_congr Y669_0 Y682_0) Y683_0)).2 rfl ?_
      refine Go.iconst C X683 (pc' := 177) (v := (1 : Int32)) at_176 rfl rfl ?_
      refine Go.goto C X683 (pc' := 181) at_177 (by decide) (by decide) ?_
      refine Go.wide ?_
      exact Go.retZ (t := .boolean) C X683 (z' := (1 : Int32)) (by decide) at_181 ⟨rfl, M680⟩ (by decide) (by decide)
    · refine Go.callS C X648 (pc' := 144) (W := 0) (argsL := [(.int (own_f_rm_ch x1 (0 : Int32) u6)), (.int (own_f_rm_ch x1 (1 : Int32) u6)), (.int (own_f_rm_ch x1 (2 : Int32) u6)), (.int (own_f_rm_ch x1 (3 : Int32) u6)), (.int (own_f_rm_ch x1 (4 : Int32) u6)), (.int (own_f_rm_ch x1 (5 : Int32) u6)), (.int (own_f_rm_ch x1 (6 : Int32) u6)), (.int (own_f_rm_ch x1 (7 : Int32) u6)), (.int u8)]) (rest := []) (rm_mk l Z a0 hw (own_f_rm_ch x1 (0 : Int32) u6) (own_f_rm_ch x1 (1 : Int32) u6) (own_f_rm_ch x1 (2 : Int32) u6) (own_f_rm_ch x1 (3 : Int32) u6) (own_f_rm_ch x1 (4 : Int32) u6) (own_f_rm_ch x1 (5 : Int32) u6) (own_f_rm_ch x1 (6 : Int32) u6) (own_f_rm_ch x1 (7 : Int32) u6) u8 mm cs h638 n0 X648.sz O639 hS hcs (own_chr _ _ _) (own_chr _ _ _) (own_chr _ _ _) (own_chr _ _ _) (own_chr _ _ _) (own_chr _ _ _) (own_chr _ _ _) (own_chr _ _ _) h8 (by omega) h88) (hw _ (List.mem_of_getElem? (i := 5) rfl)) (hw _ (List.mem_of_getElem? (i := 6) rfl)) (hw _ (List.mem_of_getElem? (i := 2) rfl)) (hw _ (List.mem_of_getElem? (i := 7) rfl)) (by decide) rfl rfl (lenOf own_pd20 rfl) rfl (Nat.le_of_eq rfl) (by decide) (by decide) (by decide) (by decide) at_141 rfl (fun _ _ q => by obtain ⟨_, _, _, _, _, K, _⟩ := q; exact K.1) (fun T684 h684 v684 X684 P684 => ?_)
      obtain ⟨t684, b1684, f1684, rfl, D684_t, K684, O684_0, O684_1, O684_2, O684_3, O684_4, Y684_0⟩ := P684
      have ne_t638_t684 : t638 ≠ t684 := Nat.ne_of_lt (Nat.lt_of_lt_of_le O638_0.lt D684_t)
      have ne_b1638_t684 : b1638 ≠ t684 := Nat.ne_of_lt (Nat.lt_of_lt_of_le O638_3.lt D684_t)
      have N_t684 : n0 ≤ t684 := Nat.le_trans X648.sz D684_t
      have Q_t684 : h0.size ≤ t684 := Nat.le_trans K640.1 D684_t
      have O685 : Old Z n0 h684 := O639.keep K684 all0
      have K686 : Keep h0 h684 [] := K640.trans K684 all0
      have E687 := O638_0.keep K684
      have F688 := O638_1.keep K684 nin0
      have F689 := O638_2.keep K684 nin0
      have A690 := O638_3.keep K684 nin0
      show Go p e below _ n0 _ _ _ T684 (mkF m 144 #[.val (.int x0), .val (.long x1), .second, .val (.int x2), .val (.int x3), .val (.int x4), .val (.int u6), .val (.int u7), .val (.int u8), .val (.ref t638), .unset, .unset] [(.ref t684)])
      refine Go.astore C X684 (pc' := 146) (Ls' := #[.val (.int x0), .val (.long x1), .second, .val (.int x2), .val (.int x3), .val (.int x4), .val (.int u6), .val (.int u7), .val (.int u8), .val (.ref t638), .val (.ref t684), .unset]) at_144 rfl rfl rfl ?_
      refine Go.newO C X684 (pc' := 149) (hw _ (List.mem_of_getElem? (i := 41) rfl)) (hw _ (List.mem_of_getElem? (i := 42) rfl)) (hw _ (List.mem_of_getElem? (i := 43) rfl)) at_146 (by decide) (by decide) rfl (fun T691 h691 b691 X691 g691 E691 Ex691 D691 N691 => ?_)
      have ne_t638_b691 : t638 ≠ b691 := Nat.ne_of_lt (Nat.lt_of_lt_of_eq E687.lt g691.symm)
      have ne_b1638_b691 : b1638 ≠ b691 := Nat.ne_of_lt (Nat.lt_of_lt_of_eq A690.lt g691.symm)
      have ne_t684_b691 : t684 ≠ b691 := Nat.ne_of_lt (Nat.lt_of_lt_of_eq O684_0.lt g691.symm)
      have ne_b1684_b691 : b1684 ≠ b691 := Nat.ne_of_lt (Nat.lt_of_lt_of_eq O684_3.lt g691.symm)
      have Q691 : h0.size ≤ b691 := Nat.le_trans K686.1 (Nat.le_of_eq g691.symm)
      have O692 : Old Z n0 h691 := O685.ext E691
      have K693 : Keep h0 h691 [] := K686.ext E691
      have E694 := E687.ext E691
      have F695 := F688.ext E691
      have F696 := F689.ext E691
      have A697 := A690.ext E691
      have E698 := O684_0.ext E691
      have F699 := O684_1.ext E691
      have F700 := O684_2.ext E691
      have A701 := O684_3.ext E691
      have F702 : Fld Z h691 b691 "com/example/needlewright/needlewright/CharNeedle" "automaton" "Lcom/example/needlewright/needlewright/Automaton;" .null := D691 (Or.inr (hw _ (List.mem_of_getElem? (i := 103) rfl))) (ty := (.object "com/example/needlewright/needlewright/Automaton")) (by decide)
      refine Go.dup C X691 (pc' := 150) at_149 rfl rfl ?_
      refine Go.aload C X691 (pc' := 152) at_150 rfl rfl rfl ?_
      refine Go.callI C X691 (pc' := 155) (W := 1) (argsL := [(.ref t638)]) (rest := [(.ref b691)]) (a := b691) (rm_cn l Z a0 hw b691 t638 b1638 nn f1638 u7 cs sf h691 n0 X691.sz O692 hS hSF Ex691 F702 N691 E694 F695 F696 A697 (Ne.symm ne_t638_b691) (Ne.symm ne_b1638_b691) hcs hsf h7 h71 h74) rfl rfl (hw _ (List.mem_of_getElem? (i := 44) rfl)) (hw _ (List.mem_of_getElem? (i := 45) rfl)) (hw _ (List.mem_of_getElem? (i := 43) rfl)) (hw _ (List.mem_of_getElem? (i := 46) rfl)) (by decide) rfl rfl (lenOf own_pd21 rfl) rfl (Nat.le_of_eq rfl) (by decide) (by decide) (by decide) (by decide) at_152 rfl (fun _ _ q => by obtain ⟨_, _, _, _, _, _, _, _, _, K, _⟩ := q; exact K.1) (fun T703 h703 v703 X703 P703 => ?_)
      obtain ⟨au703, t703, t2703, u1703, b1703, rfl, D703_au, D703_t, D703_t2, K703, O703_0, O703_1, O703_2, O703_3, O703_4, O703_5, O703_6, O703_7, O703_8, O703_9, O703_10, O703_11, O703_12, Y703_0, Y703_1, Y703_2⟩ := P703
      have ne_t638_au703 : t638 ≠ au703 := Nat.ne_of_lt (Nat.lt_of_lt_of_le E694.lt D703_au)
      have ne_b1638_au703 : b1638 ≠ au703 := Nat.ne_of_lt (Nat.lt_of_lt_of_le A697.lt D703_au)
      have ne_t684_au703 : t684 ≠ au703 := Nat.ne_of_lt (Nat.lt_of_lt_of_le E698.lt D703_au)
      have ne_b1684_au703 : b1684 ≠ au703 := Nat.ne_of_lt (Nat.lt_of_lt_of_le A701.lt D703_au)
      have ne_b691_au703 : b691 ≠ au703 := Nat.ne_of_lt (Nat.lt_of_lt_of_le Ex691.lt D703_au)
      have N_au703 : n0 ≤ au703 := Nat.le_trans X691.sz D703_au
      have Q_au703 : h0.size ≤ au703 := Nat.le_trans K693.1 D703_au
      have ne_t638_t703 : t638 ≠ t703 := Nat.ne_of_lt (Nat.lt_of_lt_of_le E694.lt D703_t)
      have ne_b1638_t703 : b1638 ≠ t703 := Nat.ne_of_lt (Nat.lt_of_lt_of_le A697.lt D703_t)
      have ne_t684_t703 : t684 ≠ t703 := Nat.ne_of_lt (Nat.lt_of_lt_of_le E698.lt D703_t)
      have ne_b1684_t703 : b1684 ≠ t703 := Nat.ne_of_lt (Nat.lt_of_lt_of_le A701.lt D703_t)
      have ne_b691_t703 : b691 ≠ t703 := Nat.ne_of_lt (Nat.lt_of_lt_of_le Ex691.lt D703_t)
      have N_t703 : n0 ≤ t703 := Nat.le_trans X691.sz D703_t
      have Q_t703 : h0.size ≤ t703 := Nat.le_trans K693.1 D703_t
      have ne_t638_t2703 : t638 ≠ t2703 := Nat.ne_of_lt (Nat.lt_of_lt_of_le E694.lt D703_t2)
      have ne_b1638_t2703 : b1638 ≠ t2703 := Nat.ne_of_lt (Nat.lt_of_lt_of_le A697.lt D703_t2)
      have ne_t684_t2703 : t684 ≠ t2703 := Nat.ne_of_lt (Nat.lt_of_lt_of_le E698.lt D703_t2)
      have ne_b1684_t2703 : b1684 ≠ t2703 := Nat.ne_of_lt (Nat.lt_of_lt_of_le A701.lt D703_t2)
      have ne_b691_t2703 : b691 ≠ t2703 := Nat.ne_of_lt (Nat.lt_of_lt_of_le Ex691.lt D703_t2)
      have N_t2703 : n0 ≤ t2703 := Nat.le_trans X691.sz D703_t2
      have Q_t2703 : h0.size ≤ t2703 := Nat.le_trans K693.1 D703_t2
      have O704 : Old Z n0 h703 := O692.keep K703 (allS N691 all0)
      have K705 : Keep h0 h703 [] := K693.trans K703 (allS (Or.inr Q691) all0)
      have E706 := E694.keep K703
      have F707 := F695.keep K703 (ninS ne_t638_b691 nin0)
      have F708 := F696.keep K703 (ninS ne_t638_b691 nin0)
      have A709 := A697.keep K703 (ninS ne_b1638_b691 nin0)
      have E710 := E698.keep K703
      have F711 := F699.keep K703 (ninS ne_t684_b691 nin0)
      have F712 := F700.keep K703 (ninS ne_t684_b691 nin0)
      have A713 := A701.keep K703 (ninS ne_b1684_b691 nin0)
      have E714 := Ex691.keep K703
      show Go p e below _ n0 _ _ _ T703 (mkF m 155 #[.val (.int x0), .val (.long x1), .second, .val (.int x2), .val (.int x3), .val (.int x4), .val (.int u6), .val (.int u7), .val (.int u8), .val (.ref t638), .val (.ref t684), .unset] [(.ref b691)])
      refine Go.aload C X703 (pc' := 157) at_155 rfl rfl rfl ?_
      refine Go.iloadN C X703 (pc' := 158) at_157 rfl rfl ?_
      refine Go.callV C X703 (pc' := 161) (W := 0) (argsL := [(.ref t684), (.int x2)]) (rest := []) (a := b691) (rm_ii l Z a0 hw b691 t684 x2 au703 t703 t2703 nn u1703 b1703 (u7 + (1 : Int32)) b1684 mm f1684 u8 ((own_f_rm_mx x2 (0 : Int32)).toInt.toNat) cs sf h703 n0 X703.sz O704 hS hSF O703_0 O703_1 O703_2 O703_3 O703_4 O703_5 O703_6 E710 F711 F712 A713 hcs hsf (own_up1 h7 (by omega)) h8 h71 h74 h88 (fun q h => ⟨_, Y703_0 q h⟩) Y703_1 Y703_2 Y684_0 (own_mxn x2)) O703_0 (notFace_of_selects (args := #[]) (mvT C.2.1 (hw _ (List.mem_of_getElem? (i := 107) rfl)))) (hw _ (List.mem_of_getElem? (i := 104) rfl)) (hw _ (List.mem_of_getElem? (i := 105) rfl)) (hw _ (List.mem_of_getElem? (i := 107) rfl)) (hw _ (List.mem_of_getElem? (i := 106) rfl)) (hw _ (List.mem_of_getElem? (i := 43) rfl)) (hw _ (List.mem_of_getElem? (i := 108) rfl)) (by decide) rfl rfl (lenOf own_pd22 rfl) rfl (Nat.le_of_eq rfl) (by decide) (by decide) (by decide) (by decide) at_158 rfl (fun _ _ q => by obtain ⟨_, _, e, _⟩ := q; exact Nat.le_of_eq (congrArg Array.size e)) (fun T715 h715 v715 X715 P715 => ?_)
      obtain ⟨r715, rfl, rfl, Y715_0⟩ := P715
      show Go p e below _ n0 _ _ _ T715 (mkF m 161 #[.val (.int x0), .val (.long x1), .second, .val (.int x2), .val (.int x3), .val (.int x4), .val (.int u6), .val (.int u7), .val (.int u8), .val (.ref t638), .val (.ref t684), .unset] [(.int r715)])
      refine Go.istore C X715 (pc' := 163) (Ls' := #[.val (.int x0), .val (.long x1), .second, .val (.int x2), .val (.int x3), .val (.int x4), .val (.int u6), .val (.int u7), .val (.int u8), .val (.ref t638), .val (.ref t684), .val (.int r715)]) at_161 rfl rfl ?_
      refine Go.iload C X715 (pc' := 165) at_163 rfl rfl ?_
      refine Go.aload C X715 (pc' := 167) at_165 rfl rfl rfl ?_
      refine Go.aload C X715 (pc' := 169) at_167 rfl rfl rfl ?_
      refine Go.iloadN C X715 (pc' := 170) at_169 rfl rfl ?_
      refine Go.callS C X715 (pc' := 173) (W := 1) (argsL := [(.ref t684), (.ref t638), (.int x2)]) (rest := [(.int r715)]) (rm_rf l Z a0 hw t684 t638 x2 b1684 mm f1684 u8 b1638 nn f1638 u7 ((own_f_rm_mx x2 (0 : Int32)).toInt.toNat) cs sf h703 n0 X715.sz O704 hS hSF E710 F711 F712 A713 E706 F707 F708 A709 hcs hsf h8 h7 h71 h74 h88 (own_mxn x2)) (hw _ (List.mem_of_getElem? (i := 127) rfl)) (hw _ (List.mem_of_getElem? (i := 128) rfl)) (hw _ (List.mem_of_getElem? (i := 2) rfl)) (hw _ (List.mem_of_getElem? (i := 129) rfl)) (by decide) rfl rfl (lenOf own_pd23 rfl) rfl (Nat.le_of_eq rfl) (by decide) (by decide) (by decide) (by decide) at_170 rfl (fun _ _ q => by obtain ⟨_, _, e, _⟩ := q; exact Nat.le_of_eq (congrArg Array.size e)) (fun T716 h716 v716 X716 P716 => ?_)
      obtain ⟨r716, rfl, rfl, Y716_0⟩ := P716
      show Go p e below _ n0 _ _ _ T716 (mkF m 173 #[.val (.int x0), .val (.long x1), .second, .val (.int x2), .val (.int x3), .val (.int x4), .val (.int u6), .val (.int u7), .val (.int u8), .val (.ref t638), .val (.ref t684), .val (.int r715)] [(.int r716), (.int r715)])
      refine Go.icmpNo C X716 (pc' := 176) at_173 (teq (own_res_uniq (own_res_congr Y703_0 Y715_0) Y716_0)).2 rfl ?_
      refine Go.iconst C X716 (pc' := 177) (v := (1 : Int32)) at_176 rfl rfl ?_
      refine Go.goto C X716 (pc' := 181) at_177 (by decide) (by decide) ?_
      refine Go.wide ?_
      exact Go.retZ (t := .boolean) C X716 (z' := (1 : Int32)) (by decide) at_181 rfl (by decide) (by decide)
  refine Go.iload C X0 (pc' := 2) at_0 rfl rfl ?_
  refine Go.iconst C X0 (pc' := 3) (v := (1 : Int32)) at_2 rfl rfl ?_
  refine Go.iand C X0 (pc' := 4) at_3 rfl ?_
  by_cases c717 : (x4 &&& (1 : Int32)) = (0 : Int32)
  · refine Go.ifYes C X0 (pc' := 11) at_4 ((if0 _ _).trans (teq c717).1) (by decide) (by decide) ?_
    refine Go.iconst C X0 (pc' := 12) (v := (0 : Int32)) at_11 rfl rfl ?_
    refine Go.istore C X0 (pc' := 14) (Ls' := #[.val (.int x0), .val (.long x1), .second, .val (.int x2), .val (.int x3), .val (.int x4), .val (.int (0 : Int32)), .unset, .unset, .unset, .unset, .unset]) at_12 rfl rfl ?_
    exact Cut14 T0 (0 : Int32) X0
  · refine Go.ifNo C X0 (pc' := 7) at_4 ((if0 _ _).trans (feq c717).1) rfl ?_
    refine Go.iconst C X0 (pc' := 8) (v := (1 : Int32)) at_7 rfl rfl ?_
    refine Go.goto C X0 (pc' := 12) at_8 (by decide) (by decide) ?_
    refine Go.istore C X0 (pc' := 14) (Ls' := #[.val (.int x0), .val (.long x1), .second, .val (.int x2), .val (.int x3), .val (.int x4), .val (.int (1 : Int32)), .unset, .unset, .unset, .unset, .unset]) at_12 rfl rfl ?_
    exact Cut14 T0 (1 : Int32) X0
set_option maxRecDepth 65536 in
set_option maxHeartbeats 40000000 in
theorem comes_1 {Post : Tables → Env → Array Value → State → Outcome → State → Prop} (hpost : ∀ tb e args s v u, (limb_1_1.after args s (.returned v) u = true ∧ limb_1_2.after args s (.returned v) u = true ∧ True) → ReturnedEndW s (.returned v) u (Jvm.fieldLocs frame_1_writes args s ++ Jvm.arrayLocs frame_1_arrays args s ++ Jvm.staticLocs frame_1_statics s) 32 1216 → Post tb e args s (.returned v) u) :
    ArmFor flags0 classFile x code maxLocals ret World_1 tables_1 room_1 Calls_1 rest_1 Pre_1 Post := by
  intro l hfl _ _ p e ha hc hk s m args below hf hA hF happ hP
  obtain ⟨hcalls, hrest, hpre⟩ := hP
  obtain ⟨-, -, -, hnamed, -, -, -, hat⟩ := (Spec.applies_iff hf).mp happ
  obtain ⟨hg, hn⟩ := and_e (Cond.before_iff.mp (show (Jvm.Cond.and given_1 narrow_1).before args s = true from hpre))
  obtain ⟨hcount, hg0⟩ := and_e hg
  obtain ⟨w0, w1, w2, w3, w4, rfl⟩ : ∃ w0 w1 w2 w3 w4 : Value, args = #[w0, w1, w2, w3, w4] := by
    have hs : args.size = 5 := by simpa [Cond.value, given_1] using hcount
    obtain ⟨L⟩ := args
    match L, hs with
    | [w0, w1, w2, w3, w4], _ => exact ⟨w0, w1, w2, w3, w4, rfl⟩
  have hw := fun d (hd : d ∈ tables_1) => atoms_spec (ws := Jvm.Cond.code x code maxLocals ret :: tables_1) hat d (List.mem_cons_of_mem _ hd)
  have hfit : Fit s := fun {y c} hc i hi => by
    obtain ⟨ha, rfl⟩ := Array.getElem?_eq_some_iff.mp hc
    have q := List.all_eq_true.mp ((Array.all_eq_true_iff_forall_mem.mp hF) _ (Array.getElem_mem ha)) i (List.mem_range.mpr hi)
    simpa [Array.getElem?_eq_getElem hi] using q
  obtain ⟨ha0, hg1⟩ := and_e hg0
  obtain ⟨i0, e0⟩ := is_v ha0
  obtain rfl : w0 = (.int i0) := Option.some.inj e0
  obtain ⟨ha1, hg2⟩ := and_e hg1
  obtain ⟨i1, e1⟩ := isL_v ha1
  obtain rfl : w1 = (.long i1) := Option.some.inj e1
  obtain ⟨ha2, hg3⟩ := and_e hg2
  obtain ⟨i2, e2⟩ := is_v ha2
  obtain rfl : w2 = (.int i2) := Option.some.inj e2
  obtain ⟨ha3, hg4⟩ := and_e hg3
  obtain ⟨i3, e3⟩ := is_v ha3
  obtain rfl : w3 = (.int i3) := Option.some.inj e3
  obtain ⟨i4, e4⟩ := is_v hg4
  obtain rfl : w4 = (.int i4) := Option.some.inj e4
  obtain ⟨hsets, hown0⟩ := atoms_of _ (rest_1_c_eq ▸ (show rest_1_c.before _ s = true from hrest))
  have ncs := not_v (Cond.before_iff.mp (hsets _ (List.mem_of_getElem? (i := 2) rfl)))
  obtain ⟨cs, ecs⟩ := is_v (Cond.before_iff.mp (hsets _ (List.mem_of_getElem? (i := 1) rfl)))
  have hS : Sta s s.heap "java/lang/String" "COMPACT_STRINGS" "Z" (.int cs) := Sta.start ecs (Or.inl (hsets _ (List.mem_of_getElem? (i := 0) rfl)))
  have hcs : ¬ (cs = (0 : Int32)) := gotF (Cond.eq_ints ecs (Term.int_eval (0))) ncs
  obtain ⟨sf, esf, hsf⟩ := isR_v (Cond.before_iff.mp (hsets _ (List.mem_of_getElem? (i := 8) rfl)))
  have hSF : Sta s s.heap "jdk/internal/util/Preconditions" "SIOOBE_FORMATTER" "Ljava/util/function/BiFunction;" sf := Sta.start esf (Or.inl (hsets _ (List.mem_of_getElem? (i := 7) rfl)))
  obtain ⟨n, o, h1, h2, h3, _, L, rfl, ⟨rfl, N⟩, hq⟩ := rm0 l s _ hw i0 i1 i2 i3 i4 cs sf s.heap s.heap.size (Nat.le_refl _) (Old.start s) hS hcs hSF hsf tables_1 p e ha hc hk s m _ below hf ((Spec.applies_iff_loose hf).mp happ).1 ⟨rfl, State.Warmed39.refl s, rfl, CHv.start (own_ew hw) hcalls.1 (hsets _ (List.mem_of_getElem? (i := 2) rfl)) (own_sA hw _ (by simp [Bundle.stringAtoms])) (own_sA hw _ (by simp [Bundle.stringAtoms, Bundle.sN]))⟩ trivial
  refine ⟨n, _, h1, h2, h3, hpost _ _ _ _ _ _ ⟨Cond.after_iff.mpr rfl, Cond.after_iff.mpr (eq_i res_at (Term.int_eval (1)) rfl), trivial⟩ ⟨hq.1, hq.2.1, hq.2.2.1, (hq.2.2.2.sift fun y hy => Or.inr (N y hy)).mono (by decide) (by decide)⟩⟩
theorem main_1_1 : Claimed_1_1 := comes_1 fun _ _ _ _ _ _ h hF => ⟨h.1, hF⟩
theorem main_1_2 : Claimed_1_2 := comes_1 fun _ _ _ _ _ _ h hF => ⟨h.2.1, hF⟩
end Jvm.Pilot.@@N@@
namespace Jvm.Pilot.@@N@@
open Jvm Jvm.ClassFile Sem Op Lib Jvm.Free Jvm.Stand Jvm.Pilot.@@N@@.Jvm.D
/-! MADE BY PROGRAM (witnessworld.py) out of the Statement's table words and the real class files: 22 classes; the members and pool entries that the words name. The judged class is class 1, her method 1. -/
namespace start1
open Jvm.ClassFile
def u (s : String) : CpInfo := .utf8 (stringToUtf16 s)
/-- a pool by its gaps: so many unusable entries, then the entry; so many at the end -/
def gap : Nat → List CpInfo → List CpInfo
  | 0, r => r
  | n + 1, r => .unusable :: gap n r
def poolList (es : List (Nat × CpInfo)) (last : Nat) : List CpInfo := es.foldr (fun e r => gap e.1 (e.2 :: r)) (gap last [])
def pool (es : List (Nat × CpInfo)) (last : Nat) : Array CpInfo := ⟨poolList es last⟩
def fileOf (pool : Array CpInfo) (this : Nat) (attrs : Array Attribute := #[]) (ms : Array MethodInfo := #[]) (fl : Nat := 33) (sup : Nat := 0) (ifs : Array Nat := #[]) (fds : Array FieldInfo := #[]) : ClassFile where
  minorVersion := 0
  majorVersion := 65
  constantPool := pool
  accessFlags := fl
  thisClass := this
  superClass := sup
  interfaces := ifs
  fields := fds
  methods := ms
  attributes := attrs
def plain (name : String) (sup : Option ClassId) : Class where
  name := name
  kind := .ordinary
  loader := none
  accessFlags := 33
  super := sup
  interfaces := #[]
  cf := none
  fields := #[]
  methods := #[]
  instanceTypes := #[]
  staticTypes := #[]
  resolved := #[]
  callSites := []
  init := .initialized
  statics := none
  mirror := none

def pool0 : Array CpInfo := pool [(5, u "<init>"), (0, u "()V"), (1, .class_ 10), (1, u "java/lang/Object")] 113

def k0c0 : Code := { maxStack := 0, maxLocals := 1, code := object_method_1_code, exceptionTable := #[], attributes := #[] }
def k0m0 : Method := { name := "<init>", desc := "()V", sig := { parameters := [], returnType := none }, accessFlags := 1, code := some k0c0 }
/-- java/lang/Object -/
def k0 : Class := { plain "java/lang/Object" none with
  accessFlags := 33
  interfaces := #[]
  cf := some (fileOf pool0 8 #[] #[{ accessFlags := 1, nameIndex := 5, descriptorIndex := 6, attributes := #[] }] 33 0 #[] #[])
  fields := #[]
  methods := #[k0m0]
  instanceTypes := #[]
  staticTypes := #[]
  resolved := Array.replicate 124 none
  statics := none }

def pool1 : Array CpInfo := pool [(2, .class_ 4), (1, u "java/lang/Object"), (0, u "<init>"), (0, u "()V"), (0, .methodref 8 9), (0, .class_ 10), (0, .nameAndType 11 12), (0, u "com/example/needlewright/needlewright/CharNeedleIndexInPinLaw"), (0, u "ch"), (0, u "(JIZ)C"), (0, .methodref 8 14), (0, .nameAndType 15 16), (0, u "make"), (0, u "(CCCCCCCCI)Ljava/lang/String;"), (0, .class_ 18), (0, u "com/example/needlewright/needlewright/CharNeedle"), (0, .methodref 17 20), (0, .nameAndType 5 21), (0, u "(Ljava/lang/String;)V"), (0, .methodref 17 23), (0, .nameAndType 24 25), (0, u "indexIn"), (0, u "(Ljava/lang/CharSequence;I)I"), (0, .methodref 8 27), (0, .nameAndType 28 29), (0, u "reference"), (0, u "(Ljava/lang/String;Ljava/lang/String;I)I"), (0, .long 255), (1, .class_ 33), (0, u "java/lang/String"), (0, .methodref 32 35), (0, .nameAndType 5 36), (0, u "([C)V"), (0, .methodref 32 38), (0, .nameAndType 39 40), (0, u "length"), (0, u "()I"), (0, .methodref 32 42), (0, .nameAndType 43 44), (0, u "charAt"), (0, u "(I)C"), (0, .methodref 46 47), (0, .class_ 48), (0, .nameAndType 49 50), (0, u "java/lang/Math"), (0, u "max"), (0, u "(II)I"), (0, .methodref 8 52), (0, .nameAndType 53 54), (0, u "at"), (0, u "(Ljava/lang/String;Ljava/lang/String;I)Z"), (2, u "law"), (0, u "(IJIII)Z")] 3

def k1m0 : Method := { name := "<init>", desc := "()V", sig := { parameters := [], returnType := none }, accessFlags := 1, code := none }
def k1c1 : Code := { maxStack := 11, maxLocals := 12, code := code, exceptionTable := #[], attributes := #[] }
def k1m1 : Method := { name := "law", desc := "(IJIII)Z", sig := { parameters := [.int, .long, .int, .int, .int], returnType := some .boolean }, accessFlags := 9, code := some k1c1 }
def k1c2 : Code := { maxStack := 4, maxLocals := 5, code := method_3_code, exceptionTable := #[], attributes := #[] }
def k1m2 : Method := { name := "ch", desc := "(JIZ)C", sig := { parameters := [.long, .int, .boolean], returnType := some .char }, accessFlags := 10, code := some k1c2 }
def k1c3 : Code := { maxStack := 6, maxLocals := 9, code := method_4_code, exceptionTable := #[], attributes := #[] }
def k1m3 : Method := { name := "make", desc := "(CCCCCCCCI)Ljava/lang/String;", sig := { parameters := [.char, .char, .char, .char, .char, .char, .char, .char, .int], returnType := some (.object "java/lang/String") }, accessFlags := 10, code := some k1c3 }
def k1c4 : Code := { maxStack := 3, maxLocals := 4, code := method_5_code, exceptionTable := #[], attributes := #[] }
def k1m4 : Method := { name := "at", desc := "(Ljava/lang/String;Ljava/lang/String;I)Z", sig := { parameters := [(.object "java/lang/String"), (.object "java/lang/String"), .int], returnType := some .boolean }, accessFlags := 10, code := some k1c4 }
def k1c5 : Code := { maxStack := 3, maxLocals := 4, code := method_6_code, exceptionTable := #[], attributes := #[] }
def k1m5 : Method := { name := "reference", desc := "(Ljava/lang/String;Ljava/lang/String;I)I", sig := { parameters := [(.object "java/lang/String"), (.object "java/lang/String"), .int], returnType := some .int }, accessFlags := 10, code := some k1c5 }
/-- com/example/needlewright/needlewright/CharNeedleIndexInPinLaw -/
def k1 : Class := { plain "com/example/needlewright/needlewright/CharNeedleIndexInPinLaw" (some 0) with
  accessFlags := 49
  interfaces := #[]
  cf := some (fileOf pool1 8 #[] #[{ accessFlags := 1, nameIndex := 5, descriptorIndex := 6, attributes := #[] }, { accessFlags := 9, nameIndex := 57, descriptorIndex := 58, attributes := #[] }, { accessFlags := 10, nameIndex := 11, descriptorIndex := 12, attributes := #[] }, { accessFlags := 10, nameIndex := 15, descriptorIndex := 16, attributes := #[] }, { accessFlags := 10, nameIndex := 53, descriptorIndex := 54, attributes := #[] }, { accessFlags := 10, nameIndex := 28, descriptorIndex := 29, attributes := #[] }] 49 2 #[] #[])
  fields := #[]
  methods := #[k1m0, k1m1, k1m2, k1m3, k1m4, k1m5]
  instanceTypes := #[]
  staticTypes := #[]
  resolved := Array.replicate 62 none
  statics := none }

def pool2 : Array CpInfo := pool [(1, .class_ 2), (0, u "java/io/Serializable"), (0, .class_ 4), (0, u "java/lang/Object")] 2

/-- java/io/Serializable -/
def k2 : Class := { plain "java/io/Serializable" (some 0) with
  accessFlags := 1537
  interfaces := #[]
  cf := some (fileOf pool2 1 #[] #[] 1537 3 #[] #[])
  fields := #[]
  methods := #[]
  instanceTypes := #[]
  staticTypes := #[]
  resolved := Array.replicate 7 none
  statics := none }

def pool3 : Array CpInfo := pool [(1, .class_ 2), (0, u "java/lang/Comparable"), (0, .class_ 4), (0, u "java/lang/Object")] 7

/-- java/lang/Comparable -/
def k3 : Class := { plain "java/lang/Comparable" (some 0) with
  accessFlags := 1537
  interfaces := #[]
  cf := some (fileOf pool3 1 #[] #[] 1537 3 #[] #[])
  fields := #[]
  methods := #[]
  instanceTypes := #[]
  staticTypes := #[]
  resolved := Array.replicate 12 none
  statics := none }

def pool4 : Array CpInfo := pool [(2, .class_ 4), (1, u "java/lang/CharSequence"), (0, u "length"), (0, u "()I"), (38, u "charAt"), (0, u "(I)C"), (0, .class_ 48), (0, u "java/lang/CharSequence$1CodePointIterator"), (10, .class_ 60), (0, u "java/lang/CharSequence$1CharIterator"), (5, .class_ 67), (0, u "java/lang/Object")] 63

def k4m0 : Method := { name := "length", desc := "()I", sig := { parameters := [], returnType := some .int }, accessFlags := 1025, code := none }
def k4m1 : Method := { name := "charAt", desc := "(I)C", sig := { parameters := [.int], returnType := some .char }, accessFlags := 1025, code := none }
/-- java/lang/CharSequence -/
def k4 : Class := { plain "java/lang/CharSequence" (some 0) with
  accessFlags := 1537
  interfaces := #[]
  cf := some (fileOf pool4 2 #[.nestMembers #[47, 59]] #[{ accessFlags := 1025, nameIndex := 5, descriptorIndex := 6, attributes := #[] }, { accessFlags := 1025, nameIndex := 45, descriptorIndex := 46, attributes := #[] }] 1537 66 #[] #[])
  fields := #[]
  methods := #[k4m0, k4m1]
  instanceTypes := #[]
  staticTypes := #[]
  resolved := Array.replicate 131 none
  statics := none }

def pool5 : Array CpInfo := pool [(1, .class_ 2), (0, u "java/lang/constant/Constable"), (0, .class_ 4), (0, u "java/lang/Object")] 6

/-- java/lang/constant/Constable -/
def k5 : Class := { plain "java/lang/constant/Constable" (some 0) with
  accessFlags := 1537
  interfaces := #[]
  cf := some (fileOf pool5 1 #[] #[] 1537 3 #[] #[])
  fields := #[]
  methods := #[]
  instanceTypes := #[]
  staticTypes := #[]
  resolved := Array.replicate 11 none
  statics := none }

def pool6 : Array CpInfo := pool [(1, .class_ 2), (0, u "java/lang/constant/ConstantDesc"), (0, .class_ 4), (0, u "java/lang/Object")] 32

/-- java/lang/constant/ConstantDesc -/
def k6 : Class := { plain "java/lang/constant/ConstantDesc" (some 0) with
  accessFlags := 1537
  interfaces := #[]
  cf := some (fileOf pool6 1 #[] #[] 1537 3 #[] #[])
  fields := #[]
  methods := #[]
  instanceTypes := #[]
  staticTypes := #[]
  resolved := Array.replicate 37 none
  statics := none }

def pool7 : Array CpInfo := pool [(1, .methodref 2 3), (0, .class_ 4), (0, .nameAndType 5 6), (0, u "java/lang/Object"), (0, u "<init>"), (0, u "()V"), (0, .string 8), (0, u ""), (0, .fieldref 10 11), (0, .class_ 12), (0, .nameAndType 13 14), (0, u "java/lang/String"), (0, u "value"), (0, u "[B"), (0, .fieldref 10 16), (0, .nameAndType 17 18), (0, u "coder"), (0, u "B"), (2, u "hash"), (0, u "I"), (2, u "hashIsZero"), (0, u "Z"), (0, .methodref 10 28), (0, .nameAndType 5 29), (0, u "([CIILjava/lang/Void;)V"), (8, .fieldref 10 39), (0, .nameAndType 40 26), (0, u "COMPACT_STRINGS"), (1, .class_ 44), (1, u "java/lang/StringUTF16"), (0, u "compress"), (1, .methodref 42 48), (0, .nameAndType 49 50), (0, u "coderFromArrayLen"), (0, u "([BI)B"), (56, .class_ 109), (1, u "java/lang/StringLatin1"), (32, u "()Z"), (34, .methodref 42 178), (0, .nameAndType 45 179), (0, u "([CII)[B"), (154, u "()I"), (0, .methodref 10 336), (0, .nameAndType 17 337), (0, u "()B"), (25, u "([BI)C"), (27, u "(II)V"), (35, u "(I)C"), (64, .methodref 10 493), (0, .nameAndType 494 142), (0, u "isLatin1"), (0, .methodref 107 496), (0, .nameAndType 497 363), (0, u "charAt"), (3, u "checkIndex"), (3, .methodref 10 506), (0, .nameAndType 507 334), (0, u "length"), (67, .class_ 576), (0, u "java/lang/CharSequence"), (22, u "CASE_INSENSITIVE_ORDER"), (0, u "Ljava/util/Comparator;"), (34, u "indexOf"), (0, u "(II)I"), (0, .methodref 107 638), (0, .nameAndType 635 639), (0, u "([BIII)I"), (370, u "([C)V"), (42, .fieldref 1054 1055), (0, .class_ 1056), (0, .nameAndType 1057 1058), (0, u "jdk/internal/util/Preconditions"), (0, u "SIOOBE_FORMATTER"), (0, u "Ljava/util/function/BiFunction;"), (0, .methodref 1054 1060), (0, .nameAndType 501 1061), (0, u "(IILjava/util/function/BiFunction;)I"), (39, u "serialPersistentFields"), (0, u "[Ljava/io/ObjectStreamField;"), (0, .class_ 1104), (0, u "java/lang/String$CaseInsensitiveComparator"), (1, .class_ 1107), (0, u "java/io/Serializable"), (0, .class_ 1109), (0, u "java/lang/Comparable"), (0, .class_ 1111), (0, u "java/lang/constant/Constable"), (0, .class_ 1113), (0, u "java/lang/constant/ConstantDesc"), (2, u "serialVersionUID"), (0, u "J"), (3, u "REPL"), (0, u "C"), (2, u "LATIN1"), (1, u "UTF16")] 323

def k7m0 : Method := { name := "<init>", desc := "()V", sig := { parameters := [], returnType := none }, accessFlags := 1, code := none }
def k7c1 : Code := { maxStack := 5, maxLocals := 2, code := jdk_42_method_3_code, exceptionTable := #[], attributes := #[] }
def k7m1 : Method := { name := "<init>", desc := "([C)V", sig := { parameters := [(.array .char)], returnType := none }, accessFlags := 1, code := some k7c1 }
def k7c2 : Code := { maxStack := 2, maxLocals := 1, code := jdk_42_method_54_code, exceptionTable := #[], attributes := #[] }
def k7m2 : Method := { name := "length", desc := "()I", sig := { parameters := [], returnType := some .int }, accessFlags := 1, code := some k7c2 }
def k7c3 : Code := { maxStack := 2, maxLocals := 2, code := jdk_42_method_56_code, exceptionTable := #[], attributes := #[] }
def k7m3 : Method := { name := "charAt", desc := "(I)C", sig := { parameters := [.int], returnType := some .char }, accessFlags := 1, code := some k7c3 }
def k7c4 : Code := { maxStack := 4, maxLocals := 3, code := jdk_42_method_80_code, exceptionTable := #[], attributes := #[] }
def k7m4 : Method := { name := "indexOf", desc := "(II)I", sig := { parameters := [.int, .int], returnType := some .int }, accessFlags := 1, code := some k7c4 }
def k7c5 : Code := { maxStack := 4, maxLocals := 6, code := jdk_42_method_149_code, exceptionTable := #[], attributes := #[] }
def k7m5 : Method := { name := "<init>", desc := "([CIILjava/lang/Void;)V", sig := { parameters := [(.array .char), .int, .int, (.object "java/lang/Void")], returnType := none }, accessFlags := 2, code := some k7c5 }
def k7c6 : Code := { maxStack := 1, maxLocals := 1, code := jdk_42_method_152_code, exceptionTable := #[], attributes := #[] }
def k7m6 : Method := { name := "coder", desc := "()B", sig := { parameters := [], returnType := some .byte }, accessFlags := 0, code := some k7c6 }
def k7c7 : Code := { maxStack := 1, maxLocals := 1, code := jdk_42_method_154_code, exceptionTable := #[], attributes := #[] }
def k7m7 : Method := { name := "isLatin1", desc := "()Z", sig := { parameters := [], returnType := some .boolean }, accessFlags := 0, code := some k7c7 }
def k7c8 : Code := { maxStack := 3, maxLocals := 2, code := jdk_42_method_155_code, exceptionTable := #[], attributes := #[] }
def k7m8 : Method := { name := "checkIndex", desc := "(II)V", sig := { parameters := [.int, .int], returnType := none }, accessFlags := 8, code := some k7c8 }
/-- java/lang/String -/
def k7 : Class := { plain "java/lang/String" (some 0) with
  accessFlags := 49
  interfaces := #[2, 3, 4, 5, 6]
  cf := some (fileOf pool7 10 #[.nestMembers #[1103]] #[{ accessFlags := 1, nameIndex := 5, descriptorIndex := 6, attributes := #[] }, { accessFlags := 1, nameIndex := 5, descriptorIndex := 1010, attributes := #[] }, { accessFlags := 1, nameIndex := 507, descriptorIndex := 334, attributes := #[] }, { accessFlags := 1, nameIndex := 497, descriptorIndex := 427, attributes := #[] }, { accessFlags := 1, nameIndex := 635, descriptorIndex := 636, attributes := #[] }, { accessFlags := 2, nameIndex := 5, descriptorIndex := 29, attributes := #[] }, { accessFlags := 0, nameIndex := 17, descriptorIndex := 337, attributes := #[] }, { accessFlags := 0, nameIndex := 494, descriptorIndex := 142, attributes := #[] }, { accessFlags := 8, nameIndex := 501, descriptorIndex := 391, attributes := #[] }] 49 2 #[1106, 1108, 575, 1110, 1112] #[{ accessFlags := 18, nameIndex := 13, descriptorIndex := 14, attributes := #[] }, { accessFlags := 18, nameIndex := 17, descriptorIndex := 18, attributes := #[] }, { accessFlags := 2, nameIndex := 21, descriptorIndex := 22, attributes := #[] }, { accessFlags := 2, nameIndex := 25, descriptorIndex := 26, attributes := #[] }, { accessFlags := 26, nameIndex := 1116, descriptorIndex := 1117, attributes := #[] }, { accessFlags := 24, nameIndex := 40, descriptorIndex := 26, attributes := #[] }, { accessFlags := 26, nameIndex := 1101, descriptorIndex := 1102, attributes := #[] }, { accessFlags := 26, nameIndex := 1121, descriptorIndex := 1122, attributes := #[] }, { accessFlags := 25, nameIndex := 599, descriptorIndex := 600, attributes := #[] }, { accessFlags := 24, nameIndex := 1125, descriptorIndex := 18, attributes := #[] }, { accessFlags := 24, nameIndex := 1127, descriptorIndex := 18, attributes := #[] }])
  fields := #[{ name := "value", type := (.array .byte), accessFlags := 18, slot := 0, constantValue := 0 }, { name := "coder", type := .byte, accessFlags := 18, slot := 1, constantValue := 0 }, { name := "hash", type := .int, accessFlags := 2, slot := 2, constantValue := 0 }, { name := "hashIsZero", type := .boolean, accessFlags := 2, slot := 3, constantValue := 0 }, { name := "serialVersionUID", type := .long, accessFlags := 26, slot := 0, constantValue := 0 }, { name := "COMPACT_STRINGS", type := .boolean, accessFlags := 24, slot := 1, constantValue := 0 }, { name := "serialPersistentFields", type := (.array (.object "java/io/ObjectStreamField")), accessFlags := 26, slot := 2, constantValue := 0 }, { name := "REPL", type := .char, accessFlags := 26, slot := 3, constantValue := 0 }, { name := "CASE_INSENSITIVE_ORDER", type := (.object "java/util/Comparator"), accessFlags := 25, slot := 4, constantValue := 0 }, { name := "LATIN1", type := .byte, accessFlags := 24, slot := 5, constantValue := 0 }, { name := "UTF16", type := .byte, accessFlags := 24, slot := 6, constantValue := 0 }]
  methods := #[k7m0, k7m1, k7m2, k7m3, k7m4, k7m5, k7m6, k7m7, k7m8]
  instanceTypes := #[(.array .byte), .byte, .int, .boolean]
  staticTypes := #[.long, .boolean, (.array (.object "java/io/ObjectStreamField")), .char, (.object "java/util/Comparator"), .byte, .byte]
  resolved := Array.replicate 1451 none
  statics := some 0 }

def pool8 : Array CpInfo := pool [(6, .class_ 8), (1, u "java/lang/Object"), (0, u "<init>"), (0, u "()V"), (1, .class_ 14), (1, u "java/lang/StringUTF16"), (31, u "$assertionsDisabled"), (0, u "Z"), (13, u "HI_BYTE_SHIFT"), (0, u "I"), (2, u "LO_BYTE_SHIFT"), (49, .methodref 12 116), (0, .nameAndType 117 118), (0, u "compress"), (0, u "([CI[BII)I"), (3, u "([CII)[B"), (138, u "coderFromArrayLen"), (0, u "([BI)B"), (106, .class_ 371), (1, u "java/lang/StringUTF16$LinesSpliterator"), (58, u "MAX_LENGTH"), (196, .class_ 628), (0, u "java/lang/StringUTF16$CodePointsSpliterator"), (0, .class_ 630), (0, u "java/lang/StringUTF16$CharsSpliterator")] 4

def k8m0 : Method := { name := "<init>", desc := "()V", sig := { parameters := [], returnType := none }, accessFlags := 0, code := none }
def k8c1 : Code := { maxStack := 2, maxLocals := 2, code := jdk_52_method_15_code, exceptionTable := #[], attributes := #[] }
def k8m1 : Method := { name := "coderFromArrayLen", desc := "([BI)B", sig := { parameters := [(.array .byte), .int], returnType := some .byte }, accessFlags := 8, code := some k8c1 }
def k8c2 : Code := { maxStack := 5, maxLocals := 6, code := jdk_52_method_16_code, exceptionTable := #[], attributes := #[] }
def k8m2 : Method := { name := "compress", desc := "([CII)[B", sig := { parameters := [(.array .char), .int, .int], returnType := some (.array .byte) }, accessFlags := 9, code := some k8c2 }
def k8c3 : Code := { maxStack := 3, maxLocals := 7, code := jdk_52_method_21_code, exceptionTable := #[], attributes := #[] }
def k8m3 : Method := { name := "compress", desc := "([CI[BII)I", sig := { parameters := [(.array .char), .int, (.array .byte), .int, .int], returnType := some .int }, accessFlags := 9, code := some k8c3 }
/-- java/lang/StringUTF16 -/
def k8 : Class := { plain "java/lang/StringUTF16" (some 0) with
  accessFlags := 48
  interfaces := #[]
  cf := some (fileOf pool8 12 #[.nestMembers #[627, 629, 369]] #[{ accessFlags := 0, nameIndex := 9, descriptorIndex := 10, attributes := #[] }, { accessFlags := 8, nameIndex := 261, descriptorIndex := 262, attributes := #[] }, { accessFlags := 9, nameIndex := 117, descriptorIndex := 122, attributes := #[] }, { accessFlags := 9, nameIndex := 117, descriptorIndex := 118, attributes := #[] }] 48 6 #[] #[{ accessFlags := 26, nameIndex := 61, descriptorIndex := 62, attributes := #[] }, { accessFlags := 26, nameIndex := 65, descriptorIndex := 62, attributes := #[] }, { accessFlags := 24, nameIndex := 430, descriptorIndex := 62, attributes := #[] }, { accessFlags := 4120, nameIndex := 46, descriptorIndex := 47, attributes := #[] }])
  fields := #[{ name := "HI_BYTE_SHIFT", type := .int, accessFlags := 26, slot := 0, constantValue := 0 }, { name := "LO_BYTE_SHIFT", type := .int, accessFlags := 26, slot := 1, constantValue := 0 }, { name := "MAX_LENGTH", type := .int, accessFlags := 24, slot := 2, constantValue := 0 }, { name := "$assertionsDisabled", type := .boolean, accessFlags := 4120, slot := 3, constantValue := 0 }]
  methods := #[k8m0, k8m1, k8m2, k8m3]
  instanceTypes := #[]
  staticTypes := #[.int, .int, .int, .boolean]
  resolved := Array.replicate 635 none
  statics := none }

def pool9 : Array CpInfo := pool [(1, .methodref 2 3), (0, .class_ 4), (0, .nameAndType 5 6), (0, u "java/lang/Object"), (0, u "<init>"), (0, u "()V"), (0, .methodref 8 9), (0, .class_ 10), (0, .nameAndType 11 12), (0, u "java/lang/String"), (0, u "length"), (0, u "()I"), (0, .methodref 8 14), (0, .nameAndType 15 16), (0, u "charAt"), (0, u "(I)C"), (0, .class_ 18), (0, u "com/example/needlewright/needlewright/Automaton"), (0, .methodref 17 20), (0, .nameAndType 5 21), (0, u "([I)V"), (0, .fieldref 23 24), (0, .class_ 25), (0, .nameAndType 26 27), (0, u "com/example/needlewright/needlewright/CharNeedle"), (0, u "automaton"), (0, u "Lcom/example/needlewright/needlewright/Automaton;"), (0, .methodref 17 9), (2, u "indexIn"), (0, u "(Ljava/lang/CharSequence;I)I"), (0, .methodref 34 35), (0, .class_ 36), (0, .nameAndType 37 38), (0, u "java/lang/Math"), (0, u "max"), (0, u "(II)I"), (0, .methodref 23 40), (0, .nameAndType 41 42), (0, u "nextEnd"), (0, u "(Ljava/lang/CharSequence;II)I"), (20, .fieldref 17 64), (0, .nameAndType 65 66), (0, u "units"), (0, u "[I"), (0, .interfaceMethodref 68 9), (0, .class_ 69), (0, u "java/lang/CharSequence"), (0, .interfaceMethodref 68 14), (0, .methodref 17 72), (0, .nameAndType 73 38), (0, u "fallBack"), (0, .methodref 8 75), (0, .nameAndType 76 38), (0, u "indexOf"), (0, u "(Ljava/lang/String;)V")] 11

def k9c0 : Code := { maxStack := 4, maxLocals := 4, code := prog_6_method_1_code, exceptionTable := #[], attributes := #[] }
def k9m0 : Method := { name := "<init>", desc := "(Ljava/lang/String;)V", sig := { parameters := [(.object "java/lang/String")], returnType := none }, accessFlags := 1, code := some k9c0 }
def k9c1 : Code := { maxStack := 4, maxLocals := 4, code := prog_6_method_4_code, exceptionTable := #[], attributes := #[] }
def k9m1 : Method := { name := "indexIn", desc := "(Ljava/lang/CharSequence;I)I", sig := { parameters := [(.object "java/lang/CharSequence"), .int], returnType := some .int }, accessFlags := 1, code := some k9c1 }
def k9c2 : Code := { maxStack := 4, maxLocals := 11, code := prog_6_method_6_code, exceptionTable := #[], attributes := #[] }
def k9m2 : Method := { name := "nextEnd", desc := "(Ljava/lang/CharSequence;II)I", sig := { parameters := [(.object "java/lang/CharSequence"), .int, .int], returnType := some .int }, accessFlags := 2, code := some k9c2 }
/-- com/example/needlewright/needlewright/CharNeedle -/
def k9 : Class := { plain "com/example/needlewright/needlewright/CharNeedle" (some 0) with
  accessFlags := 49
  interfaces := #[]
  cf := some (fileOf pool9 23 #[] #[{ accessFlags := 1, nameIndex := 5, descriptorIndex := 77, attributes := #[] }, { accessFlags := 1, nameIndex := 31, descriptorIndex := 32, attributes := #[] }, { accessFlags := 2, nameIndex := 41, descriptorIndex := 42, attributes := #[] }] 49 2 #[] #[{ accessFlags := 18, nameIndex := 26, descriptorIndex := 27, attributes := #[] }])
  fields := #[{ name := "automaton", type := (.object "com/example/needlewright/needlewright/Automaton"), accessFlags := 18, slot := 0, constantValue := 0 }]
  methods := #[k9m0, k9m1, k9m2]
  instanceTypes := #[(.object "com/example/needlewright/needlewright/Automaton")]
  staticTypes := #[]
  resolved := Array.replicate 89 none
  statics := none }

def pool10 : Array CpInfo := pool [(1, .class_ 2), (0, u "java/lang/String"), (1, .class_ 6), (1, u "java/lang/Object"), (0, u "<init>"), (0, u "()V"), (0, .methodref 1 10), (0, .nameAndType 11 12), (0, u "checkIndex"), (0, u "(II)V"), (1, .class_ 16), (1, u "java/lang/StringLatin1"), (21, .methodref 39 40), (0, .class_ 41), (0, .nameAndType 42 43), (0, u "java/lang/Math"), (0, u "min"), (0, u "(II)I"), (9, u "([BI)C"), (34, .methodref 14 89), (0, .nameAndType 90 91), (0, u "canEncode"), (0, u "(I)Z"), (0, .methodref 39 93), (0, .nameAndType 94 43), (0, u "max"), (0, .methodref 14 96), (0, .nameAndType 97 98), (0, u "indexOfChar"), (0, u "([BIII)I"), (2, u "indexOf"), (19, u "$assertionsDisabled"), (0, u "Z"), (98, .class_ 223), (1, u "java/lang/StringLatin1$LinesSpliterator"), (28, u "charAt"), (137, .class_ 391), (0, u "java/lang/StringLatin1$CharsSpliterator")] 3

def k10m0 : Method := { name := "<init>", desc := "()V", sig := { parameters := [], returnType := none }, accessFlags := 0, code := none }
def k10c1 : Code := { maxStack := 2, maxLocals := 2, code := jdk_43_method_2_code, exceptionTable := #[], attributes := #[] }
def k10m1 : Method := { name := "charAt", desc := "([BI)C", sig := { parameters := [(.array .byte), .int], returnType := some .char }, accessFlags := 9, code := some k10c1 }
def k10c2 : Code := { maxStack := 2, maxLocals := 1, code := jdk_43_method_4_code, exceptionTable := #[], attributes := #[] }
def k10m2 : Method := { name := "canEncode", desc := "(I)Z", sig := { parameters := [.int], returnType := some .boolean }, accessFlags := 9, code := some k10c2 }
def k10c3 : Code := { maxStack := 4, maxLocals := 4, code := jdk_43_method_22_code, exceptionTable := #[], attributes := #[] }
def k10m3 : Method := { name := "indexOf", desc := "([BIII)I", sig := { parameters := [(.array .byte), .int, .int, .int], returnType := some .int }, accessFlags := 9, code := some k10c3 }
def k10c4 : Code := { maxStack := 2, maxLocals := 6, code := jdk_43_method_23_code, exceptionTable := #[], attributes := #[] }
def k10m4 : Method := { name := "indexOfChar", desc := "([BIII)I", sig := { parameters := [(.array .byte), .int, .int, .int], returnType := some .int }, accessFlags := 10, code := some k10c4 }
/-- java/lang/StringLatin1 -/
def k10 : Class := { plain "java/lang/StringLatin1" (some 0) with
  accessFlags := 48
  interfaces := #[]
  cf := some (fileOf pool10 14 #[.nestMembers #[390, 221]] #[{ accessFlags := 0, nameIndex := 7, descriptorIndex := 8, attributes := #[] }, { accessFlags := 9, nameIndex := 252, descriptorIndex := 53, attributes := #[] }, { accessFlags := 9, nameIndex := 90, descriptorIndex := 91, attributes := #[] }, { accessFlags := 9, nameIndex := 101, descriptorIndex := 98, attributes := #[] }, { accessFlags := 10, nameIndex := 97, descriptorIndex := 98, attributes := #[] }] 48 4 #[] #[{ accessFlags := 4120, nameIndex := 121, descriptorIndex := 122, attributes := #[] }])
  fields := #[{ name := "$assertionsDisabled", type := .boolean, accessFlags := 4120, slot := 0, constantValue := 0 }]
  methods := #[k10m0, k10m1, k10m2, k10m3, k10m4]
  instanceTypes := #[]
  staticTypes := #[.boolean]
  resolved := Array.replicate 395 none
  statics := none }

def pool11 : Array CpInfo := pool [(2, .class_ 4), (1, u "java/lang/Object"), (0, u "<init>"), (0, u "()V"), (17, .class_ 26), (1, u "jdk/internal/util/Preconditions"), (6, u "checkIndex"), (21, .class_ 56), (0, u "jdk/internal/util/Preconditions$4"), (57, .class_ 115), (0, u "jdk/internal/util/Preconditions$1"), (7, u "SIOOBE_FORMATTER"), (0, u "Ljava/util/function/BiFunction;"), (0, .class_ 126), (0, u "jdk/internal/util/Preconditions$2"), (3, u "AIOOBE_FORMATTER"), (0, .class_ 132), (0, u "jdk/internal/util/Preconditions$3"), (3, u "IOOBE_FORMATTER"), (41, u "(IILjava/util/function/BiFunction;)I")] 15

def k11m0 : Method := { name := "<init>", desc := "()V", sig := { parameters := [], returnType := none }, accessFlags := 1, code := none }
def k11c1 : Code := { maxStack := 3, maxLocals := 3, code := jdk_41_method_11_code, exceptionTable := #[], attributes := #[] }
def k11m1 : Method := { name := "checkIndex", desc := "(IILjava/util/function/BiFunction;)I", sig := { parameters := [.int, .int, (.object "java/util/function/BiFunction")], returnType := some .int }, accessFlags := 9, code := some k11c1 }
/-- jdk/internal/util/Preconditions -/
def k11 : Class := { plain "jdk/internal/util/Preconditions" (some 0) with
  accessFlags := 33
  interfaces := #[]
  cf := some (fileOf pool11 24 #[.nestMembers #[55, 131, 125, 114]] #[{ accessFlags := 1, nameIndex := 5, descriptorIndex := 6, attributes := #[] }, { accessFlags := 9, nameIndex := 33, descriptorIndex := 178, attributes := #[] }] 33 2 #[] #[{ accessFlags := 25, nameIndex := 123, descriptorIndex := 124, attributes := #[] }, { accessFlags := 25, nameIndex := 130, descriptorIndex := 124, attributes := #[] }, { accessFlags := 25, nameIndex := 136, descriptorIndex := 124, attributes := #[] }])
  fields := #[{ name := "SIOOBE_FORMATTER", type := (.object "java/util/function/BiFunction"), accessFlags := 25, slot := 0, constantValue := 0 }, { name := "AIOOBE_FORMATTER", type := (.object "java/util/function/BiFunction"), accessFlags := 25, slot := 1, constantValue := 0 }, { name := "IOOBE_FORMATTER", type := (.object "java/util/function/BiFunction"), accessFlags := 25, slot := 2, constantValue := 0 }]
  methods := #[k11m0, k11m1]
  instanceTypes := #[]
  staticTypes := #[(.object "java/util/function/BiFunction"), (.object "java/util/function/BiFunction"), (.object "java/util/function/BiFunction")]
  resolved := Array.replicate 194 none
  statics := some 1 }

def pool12 : Array CpInfo := pool [(3, .methodref 4 5), (0, .class_ 6), (0, .nameAndType 7 8), (0, u "java/lang/Object"), (0, u "<init>"), (0, u "()V"), (7, .class_ 17), (0, u "com/example/needlewright/needlewright/Automaton"), (0, .integer 2147483648), (0, .fieldref 16 20), (0, .nameAndType 21 22), (0, u "units"), (0, u "[I"), (0, .fieldref 16 24), (0, .nameAndType 25 22), (0, u "borders"), (0, .methodref 16 27), (0, .nameAndType 28 8), (0, u "fillBorders"), (0, .methodref 16 30), (0, .nameAndType 31 32), (0, u "length"), (0, u "()I"), (0, .methodref 16 34), (0, .nameAndType 35 36), (0, u "fallBack"), (0, u "(II)I"), (0, u "BEYOND"), (0, u "I"), (1, u "([I)V")] 6

def k12c0 : Code := { maxStack := 3, maxLocals := 2, code := prog_3_method_1_code, exceptionTable := #[], attributes := #[] }
def k12m0 : Method := { name := "<init>", desc := "([I)V", sig := { parameters := [(.array .int)], returnType := none }, accessFlags := 0, code := some k12c0 }
def k12c1 : Code := { maxStack := 2, maxLocals := 1, code := prog_3_method_2_code, exceptionTable := #[], attributes := #[] }
def k12m1 : Method := { name := "length", desc := "()I", sig := { parameters := [], returnType := some .int }, accessFlags := 0, code := some k12c1 }
def k12c2 : Code := { maxStack := 2, maxLocals := 3, code := prog_3_method_3_code, exceptionTable := #[], attributes := #[] }
def k12m2 : Method := { name := "fallBack", desc := "(II)I", sig := { parameters := [.int, .int], returnType := some .int }, accessFlags := 0, code := some k12c2 }
def k12c3 : Code := { maxStack := 4, maxLocals := 3, code := prog_3_method_4_code, exceptionTable := #[], attributes := #[] }
def k12m3 : Method := { name := "fillBorders", desc := "()V", sig := { parameters := [], returnType := none }, accessFlags := 2, code := some k12c3 }
/-- com/example/needlewright/needlewright/Automaton -/
def k12 : Class := { plain "com/example/needlewright/needlewright/Automaton" (some 0) with
  accessFlags := 48
  interfaces := #[]
  cf := some (fileOf pool12 16 #[] #[{ accessFlags := 0, nameIndex := 7, descriptorIndex := 40, attributes := #[] }, { accessFlags := 0, nameIndex := 31, descriptorIndex := 32, attributes := #[] }, { accessFlags := 0, nameIndex := 35, descriptorIndex := 36, attributes := #[] }, { accessFlags := 2, nameIndex := 28, descriptorIndex := 8, attributes := #[] }] 48 4 #[] #[{ accessFlags := 26, nameIndex := 37, descriptorIndex := 38, attributes := #[] }, { accessFlags := 16, nameIndex := 21, descriptorIndex := 22, attributes := #[] }, { accessFlags := 18, nameIndex := 25, descriptorIndex := 22, attributes := #[] }])
  fields := #[{ name := "BEYOND", type := .int, accessFlags := 26, slot := 0, constantValue := 0 }, { name := "units", type := (.array .int), accessFlags := 16, slot := 0, constantValue := 0 }, { name := "borders", type := (.array .int), accessFlags := 18, slot := 1, constantValue := 0 }]
  methods := #[k12m0, k12m1, k12m2, k12m3]
  instanceTypes := #[(.array .int), (.array .int)]
  staticTypes := #[.int]
  resolved := Array.replicate 47 none
  statics := none }

def pool13 : Array CpInfo := pool [(1, .class_ 2), (0, u "java/lang/Math"), (1, .class_ 6), (1, u "java/lang/Object"), (0, u "<init>"), (0, u "()V"), (89, .class_ 100), (1, u "java/lang/Math$RandomNumberGeneratorHolder"), (71, u "negativeZeroFloatBits"), (0, u "J"), (2, u "negativeZeroDoubleBits"), (21, u "max"), (2, u "min"), (43, u "$assertionsDisabled"), (0, u "Z"), (88, u "(II)I"), (2, u "twoToTheDoubleScaleDown"), (0, u "D"), (4, u "twoToTheDoubleScaleUp"), (9, u "E"), (3, u "PI"), (2, u "TAU"), (2, u "DEGREES_TO_RADIANS"), (0, u "RADIANS_TO_DEGREES")] 94

def k13m0 : Method := { name := "<init>", desc := "()V", sig := { parameters := [], returnType := none }, accessFlags := 2, code := none }
def k13c1 : Code := { maxStack := 2, maxLocals := 2, code := jdk_29_method_65_code, exceptionTable := #[], attributes := #[] }
def k13m1 : Method := { name := "max", desc := "(II)I", sig := { parameters := [.int, .int], returnType := some .int }, accessFlags := 9, code := some k13c1 }
def k13c2 : Code := { maxStack := 2, maxLocals := 2, code := jdk_29_method_69_code, exceptionTable := #[], attributes := #[] }
def k13m2 : Method := { name := "min", desc := "(II)I", sig := { parameters := [.int, .int], returnType := some .int }, accessFlags := 9, code := some k13c2 }
/-- java/lang/Math -/
def k13 : Class := { plain "java/lang/Math" (some 0) with
  accessFlags := 49
  interfaces := #[]
  cf := some (fileOf pool13 1 #[.nestMembers #[98]] #[{ accessFlags := 2, nameIndex := 7, descriptorIndex := 8, attributes := #[] }, { accessFlags := 9, nameIndex := 198, descriptorIndex := 335, attributes := #[] }, { accessFlags := 9, nameIndex := 201, descriptorIndex := 335, attributes := #[] }] 49 4 #[] #[{ accessFlags := 25, nameIndex := 354, descriptorIndex := 339, attributes := #[] }, { accessFlags := 25, nameIndex := 358, descriptorIndex := 339, attributes := #[] }, { accessFlags := 25, nameIndex := 361, descriptorIndex := 339, attributes := #[] }, { accessFlags := 26, nameIndex := 364, descriptorIndex := 339, attributes := #[] }, { accessFlags := 26, nameIndex := 365, descriptorIndex := 339, attributes := #[] }, { accessFlags := 26, nameIndex := 172, descriptorIndex := 173, attributes := #[] }, { accessFlags := 26, nameIndex := 176, descriptorIndex := 173, attributes := #[] }, { accessFlags := 8, nameIndex := 344, descriptorIndex := 339, attributes := #[] }, { accessFlags := 8, nameIndex := 338, descriptorIndex := 339, attributes := #[] }, { accessFlags := 4120, nameIndex := 245, descriptorIndex := 246, attributes := #[] }])
  fields := #[{ name := "E", type := .double, accessFlags := 25, slot := 0, constantValue := 0 }, { name := "PI", type := .double, accessFlags := 25, slot := 1, constantValue := 0 }, { name := "TAU", type := .double, accessFlags := 25, slot := 2, constantValue := 0 }, { name := "DEGREES_TO_RADIANS", type := .double, accessFlags := 26, slot := 3, constantValue := 0 }, { name := "RADIANS_TO_DEGREES", type := .double, accessFlags := 26, slot := 4, constantValue := 0 }, { name := "negativeZeroFloatBits", type := .long, accessFlags := 26, slot := 5, constantValue := 0 }, { name := "negativeZeroDoubleBits", type := .long, accessFlags := 26, slot := 6, constantValue := 0 }, { name := "twoToTheDoubleScaleUp", type := .double, accessFlags := 8, slot := 7, constantValue := 0 }, { name := "twoToTheDoubleScaleDown", type := .double, accessFlags := 8, slot := 8, constantValue := 0 }, { name := "$assertionsDisabled", type := .boolean, accessFlags := 4120, slot := 9, constantValue := 0 }]
  methods := #[k13m0, k13m1, k13m2]
  instanceTypes := #[]
  staticTypes := #[.double, .double, .double, .double, .double, .long, .long, .double, .double, .boolean]
  resolved := Array.replicate 460 none
  statics := none }

def pool14 : Array CpInfo := pool [(9, u "<init>"), (6, .class_ 18), (1, u "java/lang/Object"), (0, u "()V"), (1, .class_ 23), (1, u "jdk/internal/util/ArraysSupport"), (0, u "LOG2_ARRAY_LONG_INDEX_SCALE"), (0, u "I"), (2, u "U"), (0, u "Ljdk/internal/misc/Unsafe;"), (8, u "BIG_ENDIAN"), (0, u "Z"), (8, u "LOG2_BYTE_BIT_SIZE"), (4, u "LOG2_ARRAY_INT_INDEX_SCALE"), (54, u "JLA"), (0, u "Ljdk/internal/access/JavaLangAccess;"), (11, u "LOG2_ARRAY_BOOLEAN_INDEX_SCALE"), (9, u "LOG2_ARRAY_BYTE_INDEX_SCALE"), (5, u "LOG2_ARRAY_CHAR_INDEX_SCALE"), (5, u "LOG2_ARRAY_SHORT_INDEX_SCALE"), (18, u "LOG2_ARRAY_FLOAT_INDEX_SCALE"), (24, u "LOG2_ARRAY_DOUBLE_INDEX_SCALE"), (89, u "T_BOOLEAN"), (2, u "T_CHAR"), (1, u "T_FLOAT"), (1, u "T_DOUBLE"), (1, u "T_BYTE"), (1, u "T_SHORT"), (1, u "T_INT"), (1, u "T_LONG"), (1, u "SOFT_MAX_ARRAY_LENGTH")] 83

def k14m0 : Method := { name := "<init>", desc := "()V", sig := { parameters := [], returnType := none }, accessFlags := 2, code := none }
/-- jdk/internal/util/ArraysSupport -/
def k14 : Class := { plain "jdk/internal/util/ArraysSupport" (some 0) with
  accessFlags := 33
  interfaces := #[]
  cf := some (fileOf pool14 21 #[] #[{ accessFlags := 2, nameIndex := 9, descriptorIndex := 19, attributes := #[] }] 33 16 #[] #[{ accessFlags := 24, nameIndex := 28, descriptorIndex := 29, attributes := #[] }, { accessFlags := 26, nameIndex := 38, descriptorIndex := 39, attributes := #[] }, { accessFlags := 25, nameIndex := 121, descriptorIndex := 25, attributes := #[] }, { accessFlags := 25, nameIndex := 131, descriptorIndex := 25, attributes := #[] }, { accessFlags := 25, nameIndex := 137, descriptorIndex := 25, attributes := #[] }, { accessFlags := 25, nameIndex := 143, descriptorIndex := 25, attributes := #[] }, { accessFlags := 25, nameIndex := 53, descriptorIndex := 25, attributes := #[] }, { accessFlags := 25, nameIndex := 24, descriptorIndex := 25, attributes := #[] }, { accessFlags := 25, nameIndex := 162, descriptorIndex := 25, attributes := #[] }, { accessFlags := 25, nameIndex := 187, descriptorIndex := 25, attributes := #[] }, { accessFlags := 26, nameIndex := 48, descriptorIndex := 25, attributes := #[] }, { accessFlags := 25, nameIndex := 277, descriptorIndex := 25, attributes := #[] }, { accessFlags := 25, nameIndex := 280, descriptorIndex := 25, attributes := #[] }, { accessFlags := 25, nameIndex := 282, descriptorIndex := 25, attributes := #[] }, { accessFlags := 25, nameIndex := 284, descriptorIndex := 25, attributes := #[] }, { accessFlags := 25, nameIndex := 286, descriptorIndex := 25, attributes := #[] }, { accessFlags := 25, nameIndex := 288, descriptorIndex := 25, attributes := #[] }, { accessFlags := 25, nameIndex := 290, descriptorIndex := 25, attributes := #[] }, { accessFlags := 25, nameIndex := 292, descriptorIndex := 25, attributes := #[] }, { accessFlags := 26, nameIndex := 108, descriptorIndex := 109, attributes := #[] }, { accessFlags := 25, nameIndex := 294, descriptorIndex := 25, attributes := #[] }])
  fields := #[{ name := "U", type := (.object "jdk/internal/misc/Unsafe"), accessFlags := 24, slot := 0, constantValue := 0 }, { name := "BIG_ENDIAN", type := .boolean, accessFlags := 26, slot := 1, constantValue := 0 }, { name := "LOG2_ARRAY_BOOLEAN_INDEX_SCALE", type := .int, accessFlags := 25, slot := 2, constantValue := 0 }, { name := "LOG2_ARRAY_BYTE_INDEX_SCALE", type := .int, accessFlags := 25, slot := 3, constantValue := 0 }, { name := "LOG2_ARRAY_CHAR_INDEX_SCALE", type := .int, accessFlags := 25, slot := 4, constantValue := 0 }, { name := "LOG2_ARRAY_SHORT_INDEX_SCALE", type := .int, accessFlags := 25, slot := 5, constantValue := 0 }, { name := "LOG2_ARRAY_INT_INDEX_SCALE", type := .int, accessFlags := 25, slot := 6, constantValue := 0 }, { name := "LOG2_ARRAY_LONG_INDEX_SCALE", type := .int, accessFlags := 25, slot := 7, constantValue := 0 }, { name := "LOG2_ARRAY_FLOAT_INDEX_SCALE", type := .int, accessFlags := 25, slot := 8, constantValue := 0 }, { name := "LOG2_ARRAY_DOUBLE_INDEX_SCALE", type := .int, accessFlags := 25, slot := 9, constantValue := 0 }, { name := "LOG2_BYTE_BIT_SIZE", type := .int, accessFlags := 26, slot := 10, constantValue := 0 }, { name := "T_BOOLEAN", type := .int, accessFlags := 25, slot := 11, constantValue := 0 }, { name := "T_CHAR", type := .int, accessFlags := 25, slot := 12, constantValue := 0 }, { name := "T_FLOAT", type := .int, accessFlags := 25, slot := 13, constantValue := 0 }, { name := "T_DOUBLE", type := .int, accessFlags := 25, slot := 14, constantValue := 0 }, { name := "T_BYTE", type := .int, accessFlags := 25, slot := 15, constantValue := 0 }, { name := "T_SHORT", type := .int, accessFlags := 25, slot := 16, constantValue := 0 }, { name := "T_INT", type := .int, accessFlags := 25, slot := 17, constantValue := 0 }, { name := "T_LONG", type := .int, accessFlags := 25, slot := 18, constantValue := 0 }, { name := "JLA", type := (.object "jdk/internal/access/JavaLangAccess"), accessFlags := 26, slot := 19, constantValue := 0 }, { name := "SOFT_MAX_ARRAY_LENGTH", type := .int, accessFlags := 25, slot := 20, constantValue := 0 }]
  methods := #[k14m0]
  instanceTypes := #[]
  staticTypes := #[(.object "jdk/internal/misc/Unsafe"), .boolean, .int, .int, .int, .int, .int, .int, .int, .int, .int, .int, .int, .int, .int, .int, .int, .int, .int, (.object "jdk/internal/access/JavaLangAccess"), .int]
  resolved := Array.replicate 378 none
  statics := none }

def pool15 : Array CpInfo := pool [(1, u "java/lang/Cloneable"), (0, .class_ 1), (0, u "java/lang/Object"), (0, .class_ 3)] 3

/-- java/lang/Cloneable -/
def k15 : Class := { plain "java/lang/Cloneable" (some 0) with
  accessFlags := 1537
  interfaces := #[]
  cf := some (fileOf pool15 2 #[] #[] 1537 4 #[] #[])
  fields := #[]
  methods := #[]
  instanceTypes := #[]
  staticTypes := #[]
  resolved := Array.replicate 8 none
  statics := none }

/-- the primitive byte -/
def k16 : Class := { plain "byte" none with kind := .primitive 'B', accessFlags := 0x411 }
/-- [B -/
def k17 : Class := { plain "[B" (some 0) with kind := .array 16 .byte, interfaces := #[15, 2], accessFlags := 1041 }

/-- the primitive char -/
def k18 : Class := { plain "char" none with kind := .primitive 'C', accessFlags := 0x411 }
/-- [C -/
def k19 : Class := { plain "[C" (some 0) with kind := .array 18 .char, interfaces := #[15, 2], accessFlags := 1041 }

/-- the primitive int -/
def k20 : Class := { plain "int" none with kind := .primitive 'I', accessFlags := 0x411 }
/-- [I -/
def k21 : Class := { plain "[I" (some 0) with kind := .array 20 .int, interfaces := #[15, 2], accessFlags := 1041 }

def heap : Heap := #[{ cls := 7, slots := #[.long 0, .int 1, .null, .int 0, .null, .int 0, .int 0], vm := .statics 7 },
  { cls := 11, slots := #[.null, .null, .null], vm := .statics 11 }]
def classes : Array Class := #[k0, k1, k2, k3, k4, k5, k6, k7, k8, k9, k10, k11, k12, k13, k14, k15, k16, k17, k18, k19, k20, k21]
def interned : List (Array UInt16 × Addr) := []
def slotsUsed : Nat := 10
def theMethod : MethodId := ⟨1, 1⟩
def args0 : Array Value := #[.int 6382179, .long 7017280452245743464, .int 0, .int 34, .int 1]
def aboutOver (below : List Frame) : State where
  vm := { classes := classes, interned := interned.toArray }
  heap := heap
  slotsUsed := slotsUsed
  threads := #[{ frames := .invoking theMethod args0 :: below }]
def below0 : List Frame := [.native { method := ⟨0, 0⟩, args := #[] }]
def about1 : State := aboutOver below0
def p0 : Program := .bare "" "" ""
def e0 : Env := launch0.env 0 0 0
theorem w_frames : about1.frames = Frame.invoking theMethod args0 :: below0 := rfl
set_option maxRecDepth 65536 in
theorem w_args : argsFit about1.vm theMethod args0 = true := by decide +kernel
set_option maxRecDepth 65536 in
theorem w_heap : heapFits about1 = true := by decide +kernel
set_option maxRecDepth 65536 in
theorem w_runnable : about1.curStatus? = some .runnable := by decide +kernel
set_option maxRecDepth 65536 in
theorem w_alone : about1.alone = true := by decide +kernel
set_option maxRecDepth 65536 in
theorem w_named : about1.methodNamed? x = some theMethod := by decide +kernel
set_option maxRecDepth 65536 in
theorem w_hears : about1.hears theMethod below0 = true := by decide +kernel
set_option maxRecDepth 65536 in
theorem w_ripe : about1.ripe theMethod args0 below0 = true := by decide +kernel
theorem w_running : about1.status = .running := rfl
set_option maxRecDepth 65536 in
theorem w_room : about1.hasRoom e0.platform room_1 = true :=
  launch0.hasRoom_least _ room_1 (by decide +kernel) (by decide +kernel) (by decide +kernel) (by decide +kernel) (by decide +kernel) (by decide +kernel)
theorem allAtoms_all (ts : List Jvm.Cond) (a : Array Jvm.Value) (st : Jvm.State) : (allAtoms ts).before a st = ts.all (fun c => c.before a st) := by
  induction ts with
  | nil => rfl
  | cons c t ih =>
    show (Jvm.Cond.and c (allAtoms t)).before a st = _
    rw [Jvm.Cond.before_and, ih, List.all_cons]
def words1 : List Jvm.Cond := Jvm.Cond.code x code maxLocals ret :: tables_1
/-- a 'code' word, met by the world's own term for the bytes: nothing is compared byte by byte -/
theorem code_word {y : MethodName} {bytes : ByteArray} {mx : Nat} {rt : Option FieldType} {a : Array Value} {s : State} {m : MethodId} {meth : Method} {c : Code} (h1 : s.methodNamed? y = some m) (h2 : s.vm.method? m = some meth) (h3 : meth.code = some c) (h4 : c.code = bytes)
    (h5 : (c.maxLocals == mx && c.exceptionTable.isEmpty && decide (c.maxStack ≤ mostOperands) && decide (meth.sig.returnType = rt) && !meth.locks && decide (parseMethodDescriptor y.desc = some meth.sig)) = true) : (Jvm.Cond.code y bytes mx rt).before a s = true := by
  simp only [Bool.and_eq_true, beq_iff_eq, Bool.not_eq_true', decide_eq_true_eq] at h5
  obtain ⟨⟨⟨⟨⟨g1, g2⟩, g3⟩, g4⟩, g5⟩, g6⟩ := h5
  simp [Cond.before, Cond.holds, Cond.value, h1, h2, h3, h4, g1, g2, g3, g4, g5, g6]
def isCode : Jvm.Cond → Bool
  | .code _ _ _ _ => true
  | _ => false
theorem all_split {L : List Jvm.Cond} {P : Jvm.Cond → Bool} (h1 : L.all (fun c => isCode c || P c) = true) (h2 : ∀ c ∈ L.filter isCode, P c = true) : L.all P = true := by
  refine List.all_eq_true.mpr fun c hc => ?_
  have h := List.all_eq_true.mp h1 c hc
  rcases Bool.eq_false_or_eq_true (isCode c) with hi | hi
  · exact h2 c (List.mem_filter.mpr ⟨hc, hi⟩)
  · simpa [hi] using h
set_option maxRecDepth 65536 in
theorem w_c0 : (Jvm.Cond.code x code maxLocals ret).before args0 about1 = true := code_word (m := ⟨1, 1⟩) (meth := k1m1) (c := k1c1) (by decide +kernel) rfl rfl rfl (by decide +kernel)
set_option maxRecDepth 65536 in
theorem w_c1 : (Jvm.Cond.code ({ cls := "com/example/needlewright/needlewright/CharNeedleIndexInPinLaw", name := "ch", desc := "(JIZ)C" } : Jvm.MethodName) method_3_code (5 : Nat) (Option.some Jvm.ClassFile.FieldType.char)).before args0 about1 = true := code_word (m := ⟨1, 2⟩) (meth := k1m2) (c := k1c2) (by decide +kernel) rfl rfl rfl (by decide +kernel)
set_option maxRecDepth 65536 in
theorem w_c2 : (Jvm.Cond.code ({ cls := "com/example/needlewright/needlewright/CharNeedleIndexInPinLaw", name := "make", desc := "(CCCCCCCCI)Ljava/lang/String;" } : Jvm.MethodName) method_4_code (9 : Nat) (Option.some (Jvm.ClassFile.FieldType.object "java/lang/String"))).before args0 about1 = true := code_word (m := ⟨1, 3⟩) (meth := k1m3) (c := k1c3) (by decide +kernel) rfl rfl rfl (by decide +kernel)
set_option maxRecDepth 65536 in
theorem w_c3 : (Jvm.Cond.code ({ cls := "java/lang/String", name := "<init>", desc := "([C)V" } : Jvm.MethodName) jdk_42_method_3_code (2 : Nat) (Option.none : Option Jvm.ClassFile.FieldType)).before args0 about1 = true := code_word (m := ⟨7, 1⟩) (meth := k7m1) (c := k7c1) (by decide +kernel) rfl rfl rfl (by decide +kernel)
set_option maxRecDepth 65536 in
theorem w_c4 : (Jvm.Cond.code ({ cls := "java/lang/String", name := "<init>", desc := "([CIILjava/lang/Void;)V" } : Jvm.MethodName) jdk_42_method_149_code (6 : Nat) (Option.none : Option Jvm.ClassFile.FieldType)).before args0 about1 = true := code_word (m := ⟨7, 5⟩) (meth := k7m5) (c := k7c5) (by decide +kernel) rfl rfl rfl (by decide +kernel)
set_option maxRecDepth 65536 in
theorem w_c5 : (Jvm.Cond.code ({ cls := "java/lang/Object", name := "<init>", desc := "()V" } : Jvm.MethodName) object_method_1_code (1 : Nat) (Option.none : Option Jvm.ClassFile.FieldType)).before args0 about1 = true := code_word (m := ⟨0, 0⟩) (meth := k0m0) (c := k0c0) (by decide +kernel) rfl rfl rfl (by decide +kernel)
set_option maxRecDepth 65536 in
theorem w_c6 : (Jvm.Cond.code ({ cls := "java/lang/StringUTF16", name := "compress", desc := "([CII)[B" } : Jvm.MethodName) jdk_52_method_16_code (6 : Nat) (Option.some (Jvm.ClassFile.FieldType.array Jvm.ClassFile.FieldType.byte))).before args0 about1 = true := code_word (m := ⟨8, 2⟩) (meth := k8m2) (c := k8c2) (by decide +kernel) rfl rfl rfl (by decide +kernel)
set_option maxRecDepth 65536 in
theorem w_c7 : (Jvm.Cond.code ({ cls := "java/lang/StringUTF16", name := "compress", desc := "([CI[BII)I" } : Jvm.MethodName) jdk_52_method_21_code (7 : Nat) (Option.some Jvm.ClassFile.FieldType.int)).before args0 about1 = true := code_word (m := ⟨8, 3⟩) (meth := k8m3) (c := k8c3) (by decide +kernel) rfl rfl rfl (by decide +kernel)
set_option maxRecDepth 65536 in
theorem w_c8 : (Jvm.Cond.code ({ cls := "java/lang/StringUTF16", name := "coderFromArrayLen", desc := "([BI)B" } : Jvm.MethodName) jdk_52_method_15_code (2 : Nat) (Option.some Jvm.ClassFile.FieldType.byte)).before args0 about1 = true := code_word (m := ⟨8, 1⟩) (meth := k8m1) (c := k8c1) (by decide +kernel) rfl rfl rfl (by decide +kernel)
set_option maxRecDepth 65536 in
theorem w_c9 : (Jvm.Cond.code ({ cls := "com/example/needlewright/needlewright/CharNeedle", name := "<init>", desc := "(Ljava/lang/String;)V" } : Jvm.MethodName) prog_6_method_1_code (4 : Nat) (Option.none : Option Jvm.ClassFile.FieldType)).before args0 about1 = true := code_word (m := ⟨9, 0⟩) (meth := k9m0) (c := k9c0) (by decide +kernel) rfl rfl rfl (by decide +kernel)
set_option maxRecDepth 65536 in
theorem w_c10 : (Jvm.Cond.code ({ cls := "java/lang/String", name := "length", desc := "()I" } : Jvm.MethodName) jdk_42_method_54_code (1 : Nat) (Option.some Jvm.ClassFile.FieldType.int)).before args0 about1 = true := code_word (m := ⟨7, 2⟩) (meth := k7m2) (c := k7c2) (by decide +kernel) rfl rfl rfl (by decide +kernel)
set_option maxRecDepth 65536 in
theorem w_c11 : (Jvm.Cond.code ({ cls := "java/lang/String", name := "coder", desc := "()B" } : Jvm.MethodName) jdk_42_method_152_code (1 : Nat) (Option.some Jvm.ClassFile.FieldType.byte)).before args0 about1 = true := code_word (m := ⟨7, 6⟩) (meth := k7m6) (c := k7c6) (by decide +kernel) rfl rfl rfl (by decide +kernel)
set_option maxRecDepth 65536 in
theorem w_c12 : (Jvm.Cond.code ({ cls := "java/lang/String", name := "charAt", desc := "(I)C" } : Jvm.MethodName) jdk_42_method_56_code (2 : Nat) (Option.some Jvm.ClassFile.FieldType.char)).before args0 about1 = true := code_word (m := ⟨7, 3⟩) (meth := k7m3) (c := k7c3) (by decide +kernel) rfl rfl rfl (by decide +kernel)
set_option maxRecDepth 65536 in
theorem w_c13 : (Jvm.Cond.code ({ cls := "java/lang/String", name := "isLatin1", desc := "()Z" } : Jvm.MethodName) jdk_42_method_154_code (1 : Nat) (Option.some Jvm.ClassFile.FieldType.boolean)).before args0 about1 = true := code_word (m := ⟨7, 7⟩) (meth := k7m7) (c := k7c7) (by decide +kernel) rfl rfl rfl (by decide +kernel)
set_option maxRecDepth 65536 in
theorem w_c14 : (Jvm.Cond.code ({ cls := "java/lang/StringLatin1", name := "charAt", desc := "([BI)C" } : Jvm.MethodName) jdk_43_method_2_code (2 : Nat) (Option.some Jvm.ClassFile.FieldType.char)).before args0 about1 = true := code_word (m := ⟨10, 1⟩) (meth := k10m1) (c := k10c1) (by decide +kernel) rfl rfl rfl (by decide +kernel)
set_option maxRecDepth 65536 in
theorem w_c15 : (Jvm.Cond.code ({ cls := "java/lang/String", name := "checkIndex", desc := "(II)V" } : Jvm.MethodName) jdk_42_method_155_code (2 : Nat) (Option.none : Option Jvm.ClassFile.FieldType)).before args0 about1 = true := code_word (m := ⟨7, 8⟩) (meth := k7m8) (c := k7c8) (by decide +kernel) rfl rfl rfl (by decide +kernel)
set_option maxRecDepth 65536 in
theorem w_c16 : (Jvm.Cond.code ({ cls := "jdk/internal/util/Preconditions", name := "checkIndex", desc := "(IILjava/util/function/BiFunction;)I" } : Jvm.MethodName) jdk_41_method_11_code (3 : Nat) (Option.some Jvm.ClassFile.FieldType.int)).before args0 about1 = true := code_word (m := ⟨11, 1⟩) (meth := k11m1) (c := k11c1) (by decide +kernel) rfl rfl rfl (by decide +kernel)
set_option maxRecDepth 65536 in
theorem w_c17 : (Jvm.Cond.code ({ cls := "com/example/needlewright/needlewright/Automaton", name := "<init>", desc := "([I)V" } : Jvm.MethodName) prog_3_method_1_code (2 : Nat) (Option.none : Option Jvm.ClassFile.FieldType)).before args0 about1 = true := code_word (m := ⟨12, 0⟩) (meth := k12m0) (c := k12c0) (by decide +kernel) rfl rfl rfl (by decide +kernel)
set_option maxRecDepth 65536 in
theorem w_c18 : (Jvm.Cond.code ({ cls := "com/example/needlewright/needlewright/Automaton", name := "fillBorders", desc := "()V" } : Jvm.MethodName) prog_3_method_4_code (3 : Nat) (Option.none : Option Jvm.ClassFile.FieldType)).before args0 about1 = true := code_word (m := ⟨12, 3⟩) (meth := k12m3) (c := k12c3) (by decide +kernel) rfl rfl rfl (by decide +kernel)
set_option maxRecDepth 65536 in
theorem w_c19 : (Jvm.Cond.code ({ cls := "com/example/needlewright/needlewright/Automaton", name := "length", desc := "()I" } : Jvm.MethodName) prog_3_method_2_code (1 : Nat) (Option.some Jvm.ClassFile.FieldType.int)).before args0 about1 = true := code_word (m := ⟨12, 1⟩) (meth := k12m1) (c := k12c1) (by decide +kernel) rfl rfl rfl (by decide +kernel)
set_option maxRecDepth 65536 in
theorem w_c20 : (Jvm.Cond.code ({ cls := "com/example/needlewright/needlewright/CharNeedle", name := "indexIn", desc := "(Ljava/lang/CharSequence;I)I" } : Jvm.MethodName) prog_6_method_4_code (4 : Nat) (Option.some Jvm.ClassFile.FieldType.int)).before args0 about1 = true := code_word (m := ⟨9, 1⟩) (meth := k9m1) (c := k9c1) (by decide +kernel) rfl rfl rfl (by decide +kernel)
set_option maxRecDepth 65536 in
theorem w_c21 : (Jvm.Cond.code ({ cls := "java/lang/Math", name := "max", desc := "(II)I" } : Jvm.MethodName) jdk_29_method_65_code (2 : Nat) (Option.some Jvm.ClassFile.FieldType.int)).before args0 about1 = true := code_word (m := ⟨13, 1⟩) (meth := k13m1) (c := k13c1) (by decide +kernel) rfl rfl rfl (by decide +kernel)
set_option maxRecDepth 65536 in
theorem w_c22 : (Jvm.Cond.code ({ cls := "com/example/needlewright/needlewright/CharNeedle", name := "nextEnd", desc := "(Ljava/lang/CharSequence;II)I" } : Jvm.MethodName) prog_6_method_6_code (11 : Nat) (Option.some Jvm.ClassFile.FieldType.int)).before args0 about1 = true := code_word (m := ⟨9, 2⟩) (meth := k9m2) (c := k9c2) (by decide +kernel) rfl rfl rfl (by decide +kernel)
set_option maxRecDepth 65536 in
theorem w_c23 : (Jvm.Cond.code ({ cls := "com/example/needlewright/needlewright/CharNeedleIndexInPinLaw", name := "reference", desc := "(Ljava/lang/String;Ljava/lang/String;I)I" } : Jvm.MethodName) method_6_code (4 : Nat) (Option.some Jvm.ClassFile.FieldType.int)).before args0 about1 = true := code_word (m := ⟨1, 5⟩) (meth := k1m5) (c := k1c5) (by decide +kernel) rfl rfl rfl (by decide +kernel)
set_option maxRecDepth 65536 in
theorem w_c24 : (Jvm.Cond.code ({ cls := "com/example/needlewright/needlewright/CharNeedleIndexInPinLaw", name := "at", desc := "(Ljava/lang/String;Ljava/lang/String;I)Z" } : Jvm.MethodName) method_5_code (4 : Nat) (Option.some Jvm.ClassFile.FieldType.boolean)).before args0 about1 = true := code_word (m := ⟨1, 4⟩) (meth := k1m4) (c := k1c4) (by decide +kernel) rfl rfl rfl (by decide +kernel)
set_option maxRecDepth 65536 in
theorem w_c25 : (Jvm.Cond.code ({ cls := "com/example/needlewright/needlewright/Automaton", name := "fallBack", desc := "(II)I" } : Jvm.MethodName) prog_3_method_3_code (3 : Nat) (Option.some Jvm.ClassFile.FieldType.int)).before args0 about1 = true := code_word (m := ⟨12, 2⟩) (meth := k12m2) (c := k12c2) (by decide +kernel) rfl rfl rfl (by decide +kernel)
set_option maxRecDepth 65536 in
theorem w_c26 : (Jvm.Cond.code ({ cls := "java/lang/String", name := "indexOf", desc := "(II)I" } : Jvm.MethodName) jdk_42_method_80_code (3 : Nat) (Option.some Jvm.ClassFile.FieldType.int)).before args0 about1 = true := code_word (m := ⟨7, 4⟩) (meth := k7m4) (c := k7c4) (by decide +kernel) rfl rfl rfl (by decide +kernel)
set_option maxRecDepth 65536 in
theorem w_c27 : (Jvm.Cond.code ({ cls := "java/lang/StringLatin1", name := "indexOf", desc := "([BIII)I" } : Jvm.MethodName) jdk_43_method_22_code (4 : Nat) (Option.some Jvm.ClassFile.FieldType.int)).before args0 about1 = true := code_word (m := ⟨10, 3⟩) (meth := k10m3) (c := k10c3) (by decide +kernel) rfl rfl rfl (by decide +kernel)
set_option maxRecDepth 65536 in
theorem w_c28 : (Jvm.Cond.code ({ cls := "java/lang/StringLatin1", name := "canEncode", desc := "(I)Z" } : Jvm.MethodName) jdk_43_method_4_code (1 : Nat) (Option.some Jvm.ClassFile.FieldType.boolean)).before args0 about1 = true := code_word (m := ⟨10, 2⟩) (meth := k10m2) (c := k10c2) (by decide +kernel) rfl rfl rfl (by decide +kernel)
set_option maxRecDepth 65536 in
theorem w_c29 : (Jvm.Cond.code ({ cls := "java/lang/Math", name := "min", desc := "(II)I" } : Jvm.MethodName) jdk_29_method_69_code (2 : Nat) (Option.some Jvm.ClassFile.FieldType.int)).before args0 about1 = true := code_word (m := ⟨13, 2⟩) (meth := k13m2) (c := k13c2) (by decide +kernel) rfl rfl rfl (by decide +kernel)
set_option maxRecDepth 65536 in
theorem w_c30 : (Jvm.Cond.code ({ cls := "java/lang/StringLatin1", name := "indexOfChar", desc := "([BIII)I" } : Jvm.MethodName) jdk_43_method_23_code (6 : Nat) (Option.some Jvm.ClassFile.FieldType.int)).before args0 about1 = true := code_word (m := ⟨10, 4⟩) (meth := k10m4) (c := k10c4) (by decide +kernel) rfl rfl rfl (by decide +kernel)
def codes1 : List Jvm.Cond := [Jvm.Cond.code x code maxLocals ret, Jvm.Cond.code ({ cls := "com/example/needlewright/needlewright/CharNeedleIndexInPinLaw", name := "ch", desc := "(JIZ)C" } : Jvm.MethodName) method_3_code (5 : Nat) (Option.some Jvm.ClassFile.FieldType.char), Jvm.Cond.code ({ cls := "com/example/needlewright/needlewright/CharNeedleIndexInPinLaw", name := "make", desc := "(CCCCCCCCI)Ljava/lang/String;" } : Jvm.MethodName) method_4_code (9 : Nat) (Option.some (Jvm.ClassFile.FieldType.object "java/lang/String")), Jvm.Cond.code ({ cls := "java/lang/String", name := "<init>", desc := "([C)V" } : Jvm.MethodName) jdk_42_method_3_code (2 : Nat) (Option.none : Option Jvm.ClassFile.FieldType), Jvm.Cond.code ({ cls := "java/lang/String", name := "<init>", desc := "([CIILjava/lang/Void;)V" } : Jvm.MethodName) jdk_42_method_149_code (6 : Nat) (Option.none : Option Jvm.ClassFile.FieldType), Jvm.Cond.code ({ cls := "java/lang/Object", name := "<init>", desc := "()V" } : Jvm.MethodName) object_method_1_code (1 : Nat) (Option.none : Option Jvm.ClassFile.FieldType), Jvm.Cond.code ({ cls := "java/lang/StringUTF16", name := "compress", desc := "([CII)[B" } : Jvm.MethodName) jdk_52_method_16_code (6 : Nat) (Option.some (Jvm.ClassFile.FieldType.array Jvm.ClassFile.FieldType.byte)), Jvm.Cond.code ({ cls := "java/lang/StringUTF16", name := "compress", desc := "([CI[BII)I" } : Jvm.MethodName) jdk_52_method_21_code (7 : Nat) (Option.some Jvm.ClassFile.FieldType.int), Jvm.Cond.code ({ cls := "java/lang/StringUTF16", name := "coderFromArrayLen", desc := "([BI)B" } : Jvm.MethodName) jdk_52_method_15_code (2 : Nat) (Option.some Jvm.ClassFile.FieldType.byte), Jvm.Cond.code ({ cls := "com/example/needlewright/needlewright/CharNeedle", name := "<init>", desc := "(Ljava/lang/String;)V" } : Jvm.MethodName) prog_6_method_1_code (4 : Nat) (Option.none : Option Jvm.ClassFile.FieldType), Jvm.Cond.code ({ cls := "java/lang/String", name := "length", desc := "()I" } : Jvm.MethodName) jdk_42_method_54_code (1 : Nat) (Option.some Jvm.ClassFile.FieldType.int), Jvm.Cond.code ({ cls := "java/lang/String", name := "coder", desc := "()B" } : Jvm.MethodName) jdk_42_method_152_code (1 : Nat) (Option.some Jvm.ClassFile.FieldType.byte), Jvm.Cond.code ({ cls := "java/lang/String", name := "charAt", desc := "(I)C" } : Jvm.MethodName) jdk_42_method_56_code (2 : Nat) (Option.some Jvm.ClassFile.FieldType.char), Jvm.Cond.code ({ cls := "java/lang/String", name := "isLatin1", desc := "()Z" } : Jvm.MethodName) jdk_42_method_154_code (1 : Nat) (Option.some Jvm.ClassFile.FieldType.boolean), Jvm.Cond.code ({ cls := "java/lang/StringLatin1", name := "charAt", desc := "([BI)C" } : Jvm.MethodName) jdk_43_method_2_code (2 : Nat) (Option.some Jvm.ClassFile.FieldType.char), Jvm.Cond.code ({ cls := "java/lang/String", name := "checkIndex", desc := "(II)V" } : Jvm.MethodName) jdk_42_method_155_code (2 : Nat) (Option.none : Option Jvm.ClassFile.FieldType), Jvm.Cond.code ({ cls := "jdk/internal/util/Preconditions", name := "checkIndex", desc := "(IILjava/util/function/BiFunction;)I" } : Jvm.MethodName) jdk_41_method_11_code (3 : Nat) (Option.some Jvm.ClassFile.FieldType.int), Jvm.Cond.code ({ cls := "com/example/needlewright/needlewright/Automaton", name := "<init>", desc := "([I)V" } : Jvm.MethodName) prog_3_method_1_code (2 : Nat) (Option.none : Option Jvm.ClassFile.FieldType), Jvm.Cond.code ({ cls := "com/example/needlewright/needlewright/Automaton", name := "fillBorders", desc := "()V" } : Jvm.MethodName) prog_3_method_4_code (3 : Nat) (Option.none : Option Jvm.ClassFile.FieldType), Jvm.Cond.code ({ cls := "com/example/needlewright/needlewright/Automaton", name := "length", desc := "()I" } : Jvm.MethodName) prog_3_method_2_code (1 : Nat) (Option.some Jvm.ClassFile.FieldType.int), Jvm.Cond.code ({ cls := "com/example/needlewright/needlewright/CharNeedle", name := "indexIn", desc := "(Ljava/lang/CharSequence;I)I" } : Jvm.MethodName) prog_6_method_4_code (4 : Nat) (Option.some Jvm.ClassFile.FieldType.int), Jvm.Cond.code ({ cls := "java/lang/Math", name := "max", desc := "(II)I" } : Jvm.MethodName) jdk_29_method_65_code (2 : Nat) (Option.some Jvm.ClassFile.FieldType.int), Jvm.Cond.code ({ cls := "com/example/needlewright/needlewright/CharNeedle", name := "nextEnd", desc := "(Ljava/lang/CharSequence;II)I" } : Jvm.MethodName) prog_6_method_6_code (11 : Nat) (Option.some Jvm.ClassFile.FieldType.int), Jvm.Cond.code ({ cls := "com/example/needlewright/needlewright/CharNeedleIndexInPinLaw", name := "reference", desc := "(Ljava/lang/String;Ljava/lang/String;I)I" } : Jvm.MethodName) method_6_code (4 : Nat) (Option.some Jvm.ClassFile.FieldType.int), Jvm.Cond.code ({ cls := "com/example/needlewright/needlewright/CharNeedleIndexInPinLaw", name := "at", desc := "(Ljava/lang/String;Ljava/lang/String;I)Z" } : Jvm.MethodName) method_5_code (4 : Nat) (Option.some Jvm.ClassFile.FieldType.boolean), Jvm.Cond.code ({ cls := "com/example/needlewright/needlewright/Automaton", name := "fallBack", desc := "(II)I" } : Jvm.MethodName) prog_3_method_3_code (3 : Nat) (Option.some Jvm.ClassFile.FieldType.int), Jvm.Cond.code ({ cls := "java/lang/String", name := "indexOf", desc := "(II)I" } : Jvm.MethodName) jdk_42_method_80_code (3 : Nat) (Option.some Jvm.ClassFile.FieldType.int), Jvm.Cond.code ({ cls := "java/lang/StringLatin1", name := "indexOf", desc := "([BIII)I" } : Jvm.MethodName) jdk_43_method_22_code (4 : Nat) (Option.some Jvm.ClassFile.FieldType.int), Jvm.Cond.code ({ cls := "java/lang/StringLatin1", name := "canEncode", desc := "(I)Z" } : Jvm.MethodName) jdk_43_method_4_code (1 : Nat) (Option.some Jvm.ClassFile.FieldType.boolean), Jvm.Cond.code ({ cls := "java/lang/Math", name := "min", desc := "(II)I" } : Jvm.MethodName) jdk_29_method_69_code (2 : Nat) (Option.some Jvm.ClassFile.FieldType.int), Jvm.Cond.code ({ cls := "java/lang/StringLatin1", name := "indexOfChar", desc := "([BIII)I" } : Jvm.MethodName) jdk_43_method_23_code (6 : Nat) (Option.some Jvm.ClassFile.FieldType.int)]
set_option maxRecDepth 65536 in
theorem codes_eq : words1.filter isCode = codes1 := rfl
theorem w_codes : ∀ c ∈ words1.filter isCode, c.before args0 about1 = true := by
  rw [codes_eq]
  intro c hc
  simp only [codes1, List.mem_cons, List.not_mem_nil, or_false] at hc
  rcases hc with rfl | rfl | rfl | rfl | rfl | rfl | rfl | rfl | rfl | rfl | rfl | rfl | rfl | rfl | rfl | rfl | rfl | rfl | rfl | rfl | rfl | rfl | rfl | rfl | rfl | rfl | rfl | rfl | rfl | rfl | rfl
  · exact w_c0
  · exact w_c1
  · exact w_c2
  · exact w_c3
  · exact w_c4
  · exact w_c5
  · exact w_c6
  · exact w_c7
  · exact w_c8
  · exact w_c9
  · exact w_c10
  · exact w_c11
  · exact w_c12
  · exact w_c13
  · exact w_c14
  · exact w_c15
  · exact w_c16
  · exact w_c17
  · exact w_c18
  · exact w_c19
  · exact w_c20
  · exact w_c21
  · exact w_c22
  · exact w_c23
  · exact w_c24
  · exact w_c25
  · exact w_c26
  · exact w_c27
  · exact w_c28
  · exact w_c29
  · exact w_c30
set_option maxRecDepth 65536 in
theorem w_t1 : (words1.take 24).all (fun c => isCode c || c.before args0 about1) = true := by decide +kernel
set_option maxRecDepth 65536 in
theorem w_t2 : ((words1.drop 24).take 24).all (fun c => isCode c || c.before args0 about1) = true := by decide +kernel
set_option maxRecDepth 65536 in
theorem w_t3 : (((words1.drop 24).drop 24).take 24).all (fun c => isCode c || c.before args0 about1) = true := by decide +kernel
set_option maxRecDepth 65536 in
theorem w_t4 : ((((words1.drop 24).drop 24).drop 24).take 24).all (fun c => isCode c || c.before args0 about1) = true := by decide +kernel
set_option maxRecDepth 65536 in
theorem w_t5 : (((((words1.drop 24).drop 24).drop 24).drop 24).take 24).all (fun c => isCode c || c.before args0 about1) = true := by decide +kernel
set_option maxRecDepth 65536 in
theorem w_t6 : ((((((words1.drop 24).drop 24).drop 24).drop 24).drop 24).take 24).all (fun c => isCode c || c.before args0 about1) = true := by decide +kernel
set_option maxRecDepth 65536 in
theorem w_t7 : ((((((words1.drop 24).drop 24).drop 24).drop 24).drop 24).drop 24).all (fun c => isCode c || c.before args0 about1) = true := by decide +kernel
theorem w_tables : (allAtoms (Jvm.Cond.code x code maxLocals ret :: tables_1)).before args0 about1 = true := by
  rw [allAtoms_all]
  show words1.all (fun c => c.before args0 about1) = true
  refine all_split ?_ w_codes
  rw [← List.take_append_drop 24 words1, List.all_append, w_t1, ← List.take_append_drop 24 (words1.drop 24), List.all_append, w_t2, ← List.take_append_drop 24 ((words1.drop 24).drop 24), List.all_append, w_t3, ← List.take_append_drop 24 (((words1.drop 24).drop 24).drop 24), List.all_append, w_t4, ← List.take_append_drop 24 ((((words1.drop 24).drop 24).drop 24).drop 24), List.all_append, w_t5, ← List.take_append_drop 24 (((((words1.drop 24).drop 24).drop 24).drop 24).drop 24), List.all_append, w_t6, w_t7]
  rfl
set_option maxRecDepth 65536 in
theorem w_rest : rest_1_c.before args0 about1 = true := by decide +kernel
set_option maxRecDepth 65536 in
theorem w_case : (Jvm.Cond.and given_1 narrow_1).before args0 about1 = true := by decide +kernel
set_option maxRecDepth 65536 in
theorem w_consts : constsHeld consts_1 about1 := Jvm.Lit.constsHeldB_iff.mp (by decide +kernel)
theorem w_applies : (headSpec (Jvm.Cond.code x code maxLocals ret :: tables_1) room_1).applies x e0.platform about1 = true :=
  (Spec.applies_iff w_frames).mpr ⟨w_running, w_runnable, w_alone, w_named, w_hears, w_ripe, w_room, w_tables⟩
theorem atStart : AtStart classFile x code maxLocals ret World_1 tables_1 room_1 Calls_1 rest_1 Pre_1 launch0 p0 e0 about1 theMethod args0 below0 :=
  ⟨lists_1, trivial, launch0.admits_env _ _ _, launch0.least_env, fairChoices_fair.cas, fairChoices_fair.clock, w_frames, w_args, w_heap, w_applies, ⟨w_consts, trivial⟩, w_rest, w_case⟩
end start1
theorem witness_1 : WitnessClaimed_1 := ⟨start1.p0, start1.e0, start1.about1, start1.theMethod, start1.args0, start1.below0, start1.atStart⟩
end Jvm.Pilot.@@N@@
