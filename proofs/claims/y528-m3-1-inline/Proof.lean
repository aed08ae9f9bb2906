import JvmDerived
import JvmDerived.Pilot.@@N@@Statement
import JvmDerived.Pilot.@@N@@Code
set_option linter.unusedVariables false
set_option linter.unusedSimpArgs false
namespace Jvm.RoadKit
open Sem ClassFile Op Lib Jvm.Stand Jvm.Free Jvm.LawKit
section Own
variable {p : Program} {l : Launch} {e : Env} {R : Room} {s : State} {m : MethodId} {args : Array Value} {below : List Frame} {meth : Method} {c : Code} {T : State} {Z : State} {a0 : Array Value} {h : Heap} {cells slots n0 rc rs : Nat} {bytes : ByteArray} {own : String} {ret : Option FieldType} {maxL : Nat} {P : Option Value → Heap → Prop} {Ls : Array Slot} {pc pc' : Nat} {st : List Value} {Ed : Outcome → State → List Loc → Nat → Nat → Prop} {EL : List (String × Nat)}
def Cx (p : Program) (s : State) (m : MethodId) (meth : Method) (c : Code) (Z : State) (bytes : ByteArray) (own : String) (ret : Option FieldType) (maxL : Nat) : Prop :=
  p.tables.exec = Jvm.exec ∧ Z.Warmed39 s.vm ∧ c.code = bytes ∧ s.vm.findClass own = some m.cls ∧ c.maxLocals = maxL ∧ meth.locks = false ∧ meth.sig.returnType = ret
def On (p : Program) (l : Launch) (e : Env) (R : Room) (s : State) (m : MethodId) (args : Array Value) (below : List Frame) (meth : Method) (c : Code) (n0 : Nat) (T : State) (h : Heap) (cells slots : Nat) : Prop :=
  ∃ locs, Stand p l e R s m args below meth c T locs cells slots ∧ T.heap = h ∧ Fr n0 locs ∧ n0 ≤ h.size
def Go (p : Program) (e : Env) (below : List Frame) (E : Outcome → State → List Loc → Nat → Nat → Prop) (n0 rc rs : Nat) (P : Option Value → Heap → Prop) (T : State) (g : JFrame) : Prop :=
  ∃ s₂ o, Steps p.tables e below (T.setTop g) s₂ ∧ s₂.status = .running ∧ Ended s₂ below o ∧ ∃ v L, o = .returned v ∧ (P v s₂.heap ∧ Fr n0 L) ∧ E o s₂ L rc rs
def Con (l : Launch) (Z : State) (y : MethodName) (bytes : ByteArray) (maxL : Nat) (ret : Option FieldType) (rm : Room) (as' : Array Value) (h0 : Heap) (n0 : Nat) (P : Option Value → Heap → Prop) : Prop :=
  ∀ ws, MetFree l y (head1 (Cond.code y bytes maxL ret :: ws) rm) (fun a U => a = as' ∧ Z.Warmed39 U.vm ∧ U.heap = h0) (fun _ _ _ _ _ => True) (fun _ U o U' => ∃ v L, o = .returned v ∧ (P v U'.heap ∧ Fr n0 L) ∧ FrameEnd U o U' L rm.cells rm.slots)
theorem Go.of {T' : State} {g g' : JFrame} (st : ∀ t, Steps p.tables e below (T'.setTop g') t → Steps p.tables e below (T.setTop g) t) (k : Go p e below Ed n0 rc rs P T' g') : Go p e below Ed n0 rc rs P T g := by
  obtain ⟨s₂, o, h1, h2⟩ := k
  exact ⟨s₂, o, st _ h1, h2⟩
theorem Go.tr {T' : State} {g g' : JFrame} (st : Steps p.tables e below (T.setTop g) (T'.setTop g')) (k : Go p e below Ed n0 rc rs P T' g') : Go p e below Ed n0 rc rs P T g :=
  Go.of (fun _ q => st.trans q) k
theorem Go.imp {P' : Option Value → Heap → Prop} {g : JFrame} (k : Go p e below Ed n0 rc rs P' T g) (hi : ∀ v h, P' v h → P v h) : Go p e below Ed n0 rc rs P T g := by
  obtain ⟨s₂, o, h1, h2, h3, v, L, h4, ⟨h5, h6⟩, h7⟩ := k
  exact ⟨s₂, o, h1, h2, h3, v, L, h4, ⟨hi _ _ h5, h6⟩, h7⟩
theorem Con.enter {y : MethodName} {rm : Room} {as' : Array Value} {h0 : Heap} (hpl : plainFor y = true) (hz : n0 ≤ h0.size)
    (body : ∀ p e s m below meth c T, Cx p s m meth c Z bytes y.cls ret maxL → meth.name = y.name → On p l e rm s m as' below meth c n0 T h0 0 0 → Go p e below (FrameEnd s) n0 rm.cells rm.slots P T (entryFrame m as' maxL)) :
    Con l Z y bytes maxL ret rm as' h0 n0 P := by
  intro ws
  refine MetFree.of_bodySF hpl hisR ?_
  intro p e s m args below meth c s₁ Bd hml0 hP hK
  obtain ⟨rfl, hZ, hh⟩ := hP
  have X0 := Stand.of_body Bd
  have e0 : s₁.heap = h0 := by rw [← hh, Bd.state]; rfl
  exact body p e s m below meth c s₁ ⟨Bd.exec, hZ, Bd.bytes, findClass_of_methodNamed Bd.named, hml0, BodyLoose.notSynchronized Bd, Bd.returns⟩ (name_of_methodNamed Bd.named Bd.method).1 ⟨[], X0, e0, Fr.nil n0, hz⟩
theorem On.sz (X : On p l e R s m args below meth c n0 T h cells slots) : n0 ≤ h.size := X.elim fun _ q => q.2.2.2
theorem Go.cast {g g' : JFrame} (q : g = g') (k : Go p e below Ed n0 rc rs P T g') : Go p e below Ed n0 rc rs P T g := q ▸ k
theorem Con.back {y : MethodName} {rm : Room} {as' : Array Value} {W : Nat} {P' : Option Value → Heap → Prop} {cb : ByteArray} {cm : Nat} {cr : Option FieldType} (K : Con l Z y cb cm cr rm as' h n0 P') (hZ : Z.Warmed39 s.vm) (wc : (Cond.code y cb cm cr).before a0 Z = true) (wz : (Cond.initialized y.cls).before a0 Z = true) (hf : rm.frames + 1 ≤ R.frames) (hl : W + (cm + 11) + rm.locals ≤ R.locals) :
    Back l R p e below s args y 3 W (fun A a => a = as' ∧ A.U.heap = h ∧ A.cells + rm.cells ≤ R.cells ∧ A.slots + rm.slots ≤ R.slots)
      (fun A _ v B => ∃ L, (P' v B.U.heap ∧ Fr n0 L) ∧ B.locs = A.locs ++ L ∧ B.cells = A.cells + rm.cells ∧ B.slots = A.slots + rm.slots) :=
  backOf (Q := fun v h L => P' v h ∧ Fr n0 L) (K []) hZ wc wz hf hl
theorem Go.iadd (C : Cx p s m meth c Z bytes own ret maxL) (X : On p l e R s m args below meth c n0 T h cells slots) {x y : Int32} (hd : decode bytes pc = .ok (.iadd, 1))  (hp : pc + 1 = pc') (k : Go p e below Ed n0 rc rs P T (mkF m pc' Ls (.int (x + y) :: st))) : Go p e below Ed n0 rc rs P T (mkF m pc Ls (.int y :: .int x :: st)) := by
  obtain ⟨locs, X, eT, N, hn⟩ := X; obtain ⟨hx, hZ, hby, hown, hml, hlk, hrt⟩ := C
  subst hp; exact Go.of (fun t q => XS.iadd X.here hx rfl (hb hby hd) rfl q) k
theorem Go.isub (C : Cx p s m meth c Z bytes own ret maxL) (X : On p l e R s m args below meth c n0 T h cells slots) {x y : Int32} (hd : decode bytes pc = .ok (.isub, 1))  (hp : pc + 1 = pc') (k : Go p e below Ed n0 rc rs P T (mkF m pc' Ls (.int (x - y) :: st))) : Go p e below Ed n0 rc rs P T (mkF m pc Ls (.int y :: .int x :: st)) := by
  obtain ⟨locs, X, eT, N, hn⟩ := X; obtain ⟨hx, hZ, hby, hown, hml, hlk, hrt⟩ := C
  subst hp; exact Go.of (fun t q => XS.isub X.here hx rfl (hb hby hd) rfl q) k
theorem Go.imul (C : Cx p s m meth c Z bytes own ret maxL) (X : On p l e R s m args below meth c n0 T h cells slots) {x y : Int32} (hd : decode bytes pc = .ok (.imul, 1))  (hp : pc + 1 = pc') (k : Go p e below Ed n0 rc rs P T (mkF m pc' Ls (.int (x * y) :: st))) : Go p e below Ed n0 rc rs P T (mkF m pc Ls (.int y :: .int x :: st)) := by
  obtain ⟨locs, X, eT, N, hn⟩ := X; obtain ⟨hx, hZ, hby, hown, hml, hlk, hrt⟩ := C
  subst hp; exact Go.of (fun t q => XS.imul X.here hx rfl (hb hby hd) rfl q) k
theorem Go.iand (C : Cx p s m meth c Z bytes own ret maxL) (X : On p l e R s m args below meth c n0 T h cells slots) {x y : Int32} (hd : decode bytes pc = .ok (.iand, 1))  (hp : pc + 1 = pc') (k : Go p e below Ed n0 rc rs P T (mkF m pc' Ls (.int (x &&& y) :: st))) : Go p e below Ed n0 rc rs P T (mkF m pc Ls (.int y :: .int x :: st)) := by
  obtain ⟨locs, X, eT, N, hn⟩ := X; obtain ⟨hx, hZ, hby, hown, hml, hlk, hrt⟩ := C
  subst hp; exact Go.of (fun t q => XS.iand X.here hx rfl (hb hby hd) rfl q) k
theorem Go.ior (C : Cx p s m meth c Z bytes own ret maxL) (X : On p l e R s m args below meth c n0 T h cells slots) {x y : Int32} (hd : decode bytes pc = .ok (.ior, 1))  (hp : pc + 1 = pc') (k : Go p e below Ed n0 rc rs P T (mkF m pc' Ls (.int (x ||| y) :: st))) : Go p e below Ed n0 rc rs P T (mkF m pc Ls (.int y :: .int x :: st)) := by
  obtain ⟨locs, X, eT, N, hn⟩ := X; obtain ⟨hx, hZ, hby, hown, hml, hlk, hrt⟩ := C
  subst hp; exact Go.of (fun t q => XS.ior X.here hx rfl (hb hby hd) rfl q) k
theorem Go.ixor (C : Cx p s m meth c Z bytes own ret maxL) (X : On p l e R s m args below meth c n0 T h cells slots) {x y : Int32} (hd : decode bytes pc = .ok (.ixor, 1))  (hp : pc + 1 = pc') (k : Go p e below Ed n0 rc rs P T (mkF m pc' Ls (.int (x ^^^ y) :: st))) : Go p e below Ed n0 rc rs P T (mkF m pc Ls (.int y :: .int x :: st)) := by
  obtain ⟨locs, X, eT, N, hn⟩ := X; obtain ⟨hx, hZ, hby, hown, hml, hlk, hrt⟩ := C
  subst hp; exact Go.of (fun t q => XS.ixor X.here hx rfl (hb hby hd) rfl q) k
theorem Go.ishl (C : Cx p s m meth c Z bytes own ret maxL) (X : On p l e R s m args below meth c n0 T h cells slots) {x y : Int32} (hd : decode bytes pc = .ok (.ishl, 1))  (hp : pc + 1 = pc') (k : Go p e below Ed n0 rc rs P T (mkF m pc' Ls (.int (x <<< (y &&& 31)) :: st))) : Go p e below Ed n0 rc rs P T (mkF m pc Ls (.int y :: .int x :: st)) := by
  obtain ⟨locs, X, eT, N, hn⟩ := X; obtain ⟨hx, hZ, hby, hown, hml, hlk, hrt⟩ := C
  subst hp; exact Go.of (fun t q => XS.ishl X.here hx rfl (hb hby hd) rfl q) k
theorem Go.ishr (C : Cx p s m meth c Z bytes own ret maxL) (X : On p l e R s m args below meth c n0 T h cells slots) {x y : Int32} (hd : decode bytes pc = .ok (.ishr, 1))  (hp : pc + 1 = pc') (k : Go p e below Ed n0 rc rs P T (mkF m pc' Ls (.int (x >>> (y &&& 31)) :: st))) : Go p e below Ed n0 rc rs P T (mkF m pc Ls (.int y :: .int x :: st)) := by
  obtain ⟨locs, X, eT, N, hn⟩ := X; obtain ⟨hx, hZ, hby, hown, hml, hlk, hrt⟩ := C
  subst hp; exact Go.of (fun t q => XS.ishr X.here hx rfl (hb hby hd) rfl q) k
theorem Go.iushr (C : Cx p s m meth c Z bytes own ret maxL) (X : On p l e R s m args below meth c n0 T h cells slots) {x y : Int32} (hd : decode bytes pc = .ok (.iushr, 1))  (hp : pc + 1 = pc') (k : Go p e below Ed n0 rc rs P T (mkF m pc' Ls (.int ((x.toUInt32 >>> (y &&& 31).toUInt32).toInt32) :: st))) : Go p e below Ed n0 rc rs P T (mkF m pc Ls (.int y :: .int x :: st)) := by
  obtain ⟨locs, X, eT, N, hn⟩ := X; obtain ⟨hx, hZ, hby, hown, hml, hlk, hrt⟩ := C
  subst hp; exact Go.of (fun t q => XS.iushr X.here hx rfl (hb hby hd) rfl q) k
theorem Go.ladd (C : Cx p s m meth c Z bytes own ret maxL) (X : On p l e R s m args below meth c n0 T h cells slots) {x y : Int64} (hd : decode bytes pc = .ok (.ladd, 1))  (hp : pc + 1 = pc') (k : Go p e below Ed n0 rc rs P T (mkF m pc' Ls (.long (x + y) :: st))) : Go p e below Ed n0 rc rs P T (mkF m pc Ls (.long y :: .long x :: st)) := by
  obtain ⟨locs, X, eT, N, hn⟩ := X; obtain ⟨hx, hZ, hby, hown, hml, hlk, hrt⟩ := C
  subst hp; exact Go.of (fun t q => XS.ladd X.here hx rfl (hb hby hd) rfl q) k
theorem Go.lsub (C : Cx p s m meth c Z bytes own ret maxL) (X : On p l e R s m args below meth c n0 T h cells slots) {x y : Int64} (hd : decode bytes pc = .ok (.lsub, 1))  (hp : pc + 1 = pc') (k : Go p e below Ed n0 rc rs P T (mkF m pc' Ls (.long (x - y) :: st))) : Go p e below Ed n0 rc rs P T (mkF m pc Ls (.long y :: .long x :: st)) := by
  obtain ⟨locs, X, eT, N, hn⟩ := X; obtain ⟨hx, hZ, hby, hown, hml, hlk, hrt⟩ := C
  subst hp; exact Go.of (fun t q => XS.lsub X.here hx rfl (hb hby hd) rfl q) k
theorem Go.lmul (C : Cx p s m meth c Z bytes own ret maxL) (X : On p l e R s m args below meth c n0 T h cells slots) {x y : Int64} (hd : decode bytes pc = .ok (.lmul, 1))  (hp : pc + 1 = pc') (k : Go p e below Ed n0 rc rs P T (mkF m pc' Ls (.long (x * y) :: st))) : Go p e below Ed n0 rc rs P T (mkF m pc Ls (.long y :: .long x :: st)) := by
  obtain ⟨locs, X, eT, N, hn⟩ := X; obtain ⟨hx, hZ, hby, hown, hml, hlk, hrt⟩ := C
  subst hp; exact Go.of (fun t q => XS.lmul X.here hx rfl (hb hby hd) rfl q) k
theorem Go.land (C : Cx p s m meth c Z bytes own ret maxL) (X : On p l e R s m args below meth c n0 T h cells slots) {x y : Int64} (hd : decode bytes pc = .ok (.land, 1))  (hp : pc + 1 = pc') (k : Go p e below Ed n0 rc rs P T (mkF m pc' Ls (.long (x &&& y) :: st))) : Go p e below Ed n0 rc rs P T (mkF m pc Ls (.long y :: .long x :: st)) := by
  obtain ⟨locs, X, eT, N, hn⟩ := X; obtain ⟨hx, hZ, hby, hown, hml, hlk, hrt⟩ := C
  subst hp; exact Go.of (fun t q => XS.land X.here hx rfl (hb hby hd) rfl q) k
theorem Go.lor (C : Cx p s m meth c Z bytes own ret maxL) (X : On p l e R s m args below meth c n0 T h cells slots) {x y : Int64} (hd : decode bytes pc = .ok (.lor, 1))  (hp : pc + 1 = pc') (k : Go p e below Ed n0 rc rs P T (mkF m pc' Ls (.long (x ||| y) :: st))) : Go p e below Ed n0 rc rs P T (mkF m pc Ls (.long y :: .long x :: st)) := by
  obtain ⟨locs, X, eT, N, hn⟩ := X; obtain ⟨hx, hZ, hby, hown, hml, hlk, hrt⟩ := C
  subst hp; exact Go.of (fun t q => XS.lor X.here hx rfl (hb hby hd) rfl q) k
theorem Go.lxor (C : Cx p s m meth c Z bytes own ret maxL) (X : On p l e R s m args below meth c n0 T h cells slots) {x y : Int64} (hd : decode bytes pc = .ok (.lxor, 1))  (hp : pc + 1 = pc') (k : Go p e below Ed n0 rc rs P T (mkF m pc' Ls (.long (x ^^^ y) :: st))) : Go p e below Ed n0 rc rs P T (mkF m pc Ls (.long y :: .long x :: st)) := by
  obtain ⟨locs, X, eT, N, hn⟩ := X; obtain ⟨hx, hZ, hby, hown, hml, hlk, hrt⟩ := C
  subst hp; exact Go.of (fun t q => XS.lxor X.here hx rfl (hb hby hd) rfl q) k
theorem Go.lshl (C : Cx p s m meth c Z bytes own ret maxL) (X : On p l e R s m args below meth c n0 T h cells slots) {x : Int64} {y : Int32} (hd : decode bytes pc = .ok (.lshl, 1))  (hp : pc + 1 = pc') (k : Go p e below Ed n0 rc rs P T (mkF m pc' Ls (.long (x <<< (y &&& 0x3f).toInt64) :: st))) : Go p e below Ed n0 rc rs P T (mkF m pc Ls (.int y :: .long x :: st)) := by
  obtain ⟨locs, X, eT, N, hn⟩ := X; obtain ⟨hx, hZ, hby, hown, hml, hlk, hrt⟩ := C
  subst hp; exact Go.of (fun t q => XS.lshl X.here hx rfl (hb hby hd) rfl q) k
theorem Go.lshr (C : Cx p s m meth c Z bytes own ret maxL) (X : On p l e R s m args below meth c n0 T h cells slots) {x : Int64} {y : Int32} (hd : decode bytes pc = .ok (.lshr, 1))  (hp : pc + 1 = pc') (k : Go p e below Ed n0 rc rs P T (mkF m pc' Ls (.long (x >>> (y &&& 0x3f).toInt64) :: st))) : Go p e below Ed n0 rc rs P T (mkF m pc Ls (.int y :: .long x :: st)) := by
  obtain ⟨locs, X, eT, N, hn⟩ := X; obtain ⟨hx, hZ, hby, hown, hml, hlk, hrt⟩ := C
  subst hp; exact Go.of (fun t q => XS.lshr X.here hx rfl (hb hby hd) rfl q) k
theorem Go.lushr (C : Cx p s m meth c Z bytes own ret maxL) (X : On p l e R s m args below meth c n0 T h cells slots) {x : Int64} {y : Int32} (hd : decode bytes pc = .ok (.lushr, 1))  (hp : pc + 1 = pc') (k : Go p e below Ed n0 rc rs P T (mkF m pc' Ls (.long ((x.toUInt64 >>> (y &&& 0x3f).toInt64.toUInt64).toInt64) :: st))) : Go p e below Ed n0 rc rs P T (mkF m pc Ls (.int y :: .long x :: st)) := by
  obtain ⟨locs, X, eT, N, hn⟩ := X; obtain ⟨hx, hZ, hby, hown, hml, hlk, hrt⟩ := C
  subst hp; exact Go.of (fun t q => XS.lushr X.here hx rfl (hb hby hd) rfl q) k
theorem Go.i2l (C : Cx p s m meth c Z bytes own ret maxL) (X : On p l e R s m args below meth c n0 T h cells slots) {x : Int32} (hd : decode bytes pc = .ok (.i2l, 1))  (hp : pc + 1 = pc') (k : Go p e below Ed n0 rc rs P T (mkF m pc' Ls (.long (x.toInt64) :: st))) : Go p e below Ed n0 rc rs P T (mkF m pc Ls (.int x :: st)) := by
  obtain ⟨locs, X, eT, N, hn⟩ := X; obtain ⟨hx, hZ, hby, hown, hml, hlk, hrt⟩ := C
  subst hp; exact Go.of (fun t q => XS.i2l X.here hx rfl (hb hby hd) rfl q) k
theorem Go.l2i (C : Cx p s m meth c Z bytes own ret maxL) (X : On p l e R s m args below meth c n0 T h cells slots) {x : Int64} (hd : decode bytes pc = .ok (.l2i, 1))  (hp : pc + 1 = pc') (k : Go p e below Ed n0 rc rs P T (mkF m pc' Ls (.int (x.toInt32) :: st))) : Go p e below Ed n0 rc rs P T (mkF m pc Ls (.long x :: st)) := by
  obtain ⟨locs, X, eT, N, hn⟩ := X; obtain ⟨hx, hZ, hby, hown, hml, hlk, hrt⟩ := C
  subst hp; exact Go.of (fun t q => XS.l2i X.here hx rfl (hb hby hd) rfl q) k
theorem Go.i2b (C : Cx p s m meth c Z bytes own ret maxL) (X : On p l e R s m args below meth c n0 T h cells slots) {x : Int32} (hd : decode bytes pc = .ok (.i2b, 1))  (hp : pc + 1 = pc') (k : Go p e below Ed n0 rc rs P T (mkF m pc' Ls (.int (x.toInt8.toInt32) :: st))) : Go p e below Ed n0 rc rs P T (mkF m pc Ls (.int x :: st)) := by
  obtain ⟨locs, X, eT, N, hn⟩ := X; obtain ⟨hx, hZ, hby, hown, hml, hlk, hrt⟩ := C
  subst hp; exact Go.of (fun t q => XS.i2b X.here hx rfl (hb hby hd) rfl q) k
theorem Go.i2s (C : Cx p s m meth c Z bytes own ret maxL) (X : On p l e R s m args below meth c n0 T h cells slots) {x : Int32} (hd : decode bytes pc = .ok (.i2s, 1))  (hp : pc + 1 = pc') (k : Go p e below Ed n0 rc rs P T (mkF m pc' Ls (.int (x.toInt16.toInt32) :: st))) : Go p e below Ed n0 rc rs P T (mkF m pc Ls (.int x :: st)) := by
  obtain ⟨locs, X, eT, N, hn⟩ := X; obtain ⟨hx, hZ, hby, hown, hml, hlk, hrt⟩ := C
  subst hp; exact Go.of (fun t q => XS.i2s X.here hx rfl (hb hby hd) rfl q) k
theorem Go.i2c (C : Cx p s m meth c Z bytes own ret maxL) (X : On p l e R s m args below meth c n0 T h cells slots) {x : Int32} (hd : decode bytes pc = .ok (.i2c, 1))  (hp : pc + 1 = pc') (k : Go p e below Ed n0 rc rs P T (mkF m pc' Ls (.int (x.toUInt32.toUInt16.toUInt32.toInt32) :: st))) : Go p e below Ed n0 rc rs P T (mkF m pc Ls (.int x :: st)) := by
  obtain ⟨locs, X, eT, N, hn⟩ := X; obtain ⟨hx, hZ, hby, hown, hml, hlk, hrt⟩ := C
  subst hp; exact Go.of (fun t q => XS.i2c X.here hx rfl (hb hby hd) rfl q) k
theorem Go.lneg (C : Cx p s m meth c Z bytes own ret maxL) (X : On p l e R s m args below meth c n0 T h cells slots) {x : Int64} (hd : decode bytes pc = .ok (.lneg, 1))  (hp : pc + 1 = pc') (k : Go p e below Ed n0 rc rs P T (mkF m pc' Ls (.long (-x) :: st))) : Go p e below Ed n0 rc rs P T (mkF m pc Ls (.long x :: st)) := by
  obtain ⟨locs, X, eT, N, hn⟩ := X; obtain ⟨hx, hZ, hby, hown, hml, hlk, hrt⟩ := C
  subst hp; exact Go.of (fun t q => XS.lneg X.here hx rfl (hb hby hd) rfl q) k
theorem Go.ineg (C : Cx p s m meth c Z bytes own ret maxL) (X : On p l e R s m args below meth c n0 T h cells slots) {x : Int32} (hd : decode bytes pc = .ok (.ineg, 1))  (hp : pc + 1 = pc') (k : Go p e below Ed n0 rc rs P T (mkF m pc' Ls (.int (-x) :: st))) : Go p e below Ed n0 rc rs P T (mkF m pc Ls (.int x :: st)) := by
  obtain ⟨locs, X, eT, N, hn⟩ := X; obtain ⟨hx, hZ, hby, hown, hml, hlk, hrt⟩ := C
  subst hp; exact Go.of (fun t q => XS.ineg X.here hx rfl (hb hby hd) rfl q) k
theorem Go.idiv (C : Cx p s m meth c Z bytes own ret maxL) (X : On p l e R s m args below meth c n0 T h cells slots) {x y : Int32} (hd : decode bytes pc = .ok (.idiv, 1)) (hy : y ≠ 0) (hp : pc + 1 = pc') (k : Go p e below Ed n0 rc rs P T (mkF m pc' Ls (.int (x / y) :: st))) : Go p e below Ed n0 rc rs P T (mkF m pc Ls (.int y :: .int x :: st)) := by
  obtain ⟨locs, X, eT, N, hn⟩ := X; obtain ⟨hx, hZ, hby, hown, hml, hlk, hrt⟩ := C
  subst hp; exact Go.of (fun t q => XS.idiv X.here hx rfl (hb hby hd) rfl hy q) k
theorem Go.ldiv (C : Cx p s m meth c Z bytes own ret maxL) (X : On p l e R s m args below meth c n0 T h cells slots) {x y : Int64} (hd : decode bytes pc = .ok (.ldiv, 1)) (hy : y ≠ 0) (hp : pc + 1 = pc') (k : Go p e below Ed n0 rc rs P T (mkF m pc' Ls (.long (x / y) :: st))) : Go p e below Ed n0 rc rs P T (mkF m pc Ls (.long y :: .long x :: st)) := by
  obtain ⟨locs, X, eT, N, hn⟩ := X; obtain ⟨hx, hZ, hby, hown, hml, hlk, hrt⟩ := C
  subst hp; exact Go.of (fun t q => XS.ldiv X.here hx rfl (hb hby hd) rfl hy q) k
theorem Go.irem (C : Cx p s m meth c Z bytes own ret maxL) (X : On p l e R s m args below meth c n0 T h cells slots) {x y : Int32} (hd : decode bytes pc = .ok (.irem, 1)) (hy : y ≠ 0) (hp : pc + 1 = pc') (k : Go p e below Ed n0 rc rs P T (mkF m pc' Ls (.int (x % y) :: st))) : Go p e below Ed n0 rc rs P T (mkF m pc Ls (.int y :: .int x :: st)) := by
  obtain ⟨locs, X, eT, N, hn⟩ := X; obtain ⟨hx, hZ, hby, hown, hml, hlk, hrt⟩ := C
  subst hp; exact Go.of (fun t q => iremM X hx rfl (hb hby hd) rfl hy q) k
theorem Go.lrem (C : Cx p s m meth c Z bytes own ret maxL) (X : On p l e R s m args below meth c n0 T h cells slots) {x y : Int64} (hd : decode bytes pc = .ok (.lrem, 1)) (hy : y ≠ 0) (hp : pc + 1 = pc') (k : Go p e below Ed n0 rc rs P T (mkF m pc' Ls (.long (x % y) :: st))) : Go p e below Ed n0 rc rs P T (mkF m pc Ls (.long y :: .long x :: st)) := by
  obtain ⟨locs, X, eT, N, hn⟩ := X; obtain ⟨hx, hZ, hby, hown, hml, hlk, hrt⟩ := C
  subst hp; rw [← lrem_mod] at k; exact Go.of (fun t q => XS.lrem X.here hx rfl (hb hby hd) rfl hy q) k
theorem Go.lcmp (C : Cx p s m meth c Z bytes own ret maxL) (X : On p l e R s m args below meth c n0 T h cells slots) {x y : Int64} (hd : decode bytes pc = .ok (.lcmp, 1))  (hp : pc + 1 = pc') (k : Go p e below Ed n0 rc rs P T (mkF m pc' Ls (.int (lcmpW x y) :: st))) : Go p e below Ed n0 rc rs P T (mkF m pc Ls (.long y :: .long x :: st)) := by
  obtain ⟨locs, X, eT, N, hn⟩ := X; obtain ⟨hx, hZ, hby, hown, hml, hlk, hrt⟩ := C
  subst hp; exact Go.of (fun t q => XS.lcmp X.here hx rfl (hb hby hd) rfl q) k
theorem Go.dup (C : Cx p s m meth c Z bytes own ret maxL) (X : On p l e R s m args below meth c n0 T h cells slots) {v : Value} (hd : decode bytes pc = .ok (.dup, 1)) (hc : v.category = 1) (hp : pc + 1 = pc') (k : Go p e below Ed n0 rc rs P T (mkF m pc' Ls (v :: v :: st))) : Go p e below Ed n0 rc rs P T (mkF m pc Ls (v :: st)) := by
  obtain ⟨locs, X, eT, N, hn⟩ := X; obtain ⟨hx, hZ, hby, hown, hml, hlk, hrt⟩ := C
  subst hp; exact Go.of (fun t q => XS.dup X.here hx rfl (hb hby hd) rfl hc q) k
theorem Go.pop (C : Cx p s m meth c Z bytes own ret maxL) (X : On p l e R s m args below meth c n0 T h cells slots) {v : Value} (hd : decode bytes pc = .ok (.pop, 1)) (hc : v.category = 1) (hp : pc + 1 = pc') (k : Go p e below Ed n0 rc rs P T (mkF m pc' Ls st)) : Go p e below Ed n0 rc rs P T (mkF m pc Ls (v :: st)) := by
  obtain ⟨locs, X, eT, N, hn⟩ := X; obtain ⟨hx, hZ, hby, hown, hml, hlk, hrt⟩ := C
  subst hp; exact Go.of (fun t q => XS.pop X.here hx rfl (hb hby hd) rfl hc q) k
theorem Go.dup_x1 (C : Cx p s m meth c Z bytes own ret maxL) (X : On p l e R s m args below meth c n0 T h cells slots) {v u : Value} (hd : decode bytes pc = .ok (.dup_x1, 1)) (hc : v.category = 1) (hc2 : u.category = 1) (hp : pc + 1 = pc') (k : Go p e below Ed n0 rc rs P T (mkF m pc' Ls (v :: u :: v :: st))) : Go p e below Ed n0 rc rs P T (mkF m pc Ls (v :: u :: st)) := by
  obtain ⟨locs, X, eT, N, hn⟩ := X; obtain ⟨hx, hZ, hby, hown, hml, hlk, hrt⟩ := C
  subst hp; exact Go.of (fun t q => XS.dupX1 X.here hx rfl (hb hby hd) rfl hc hc2 q) k
theorem Go.dup2 (C : Cx p s m meth c Z bytes own ret maxL) (X : On p l e R s m args below meth c n0 T h cells slots) {v u : Value} (hd : decode bytes pc = .ok (.dup2, 1)) (hc : v.category = 1) (hc2 : u.category = 1) (hp : pc + 1 = pc') (k : Go p e below Ed n0 rc rs P T (mkF m pc' Ls (v :: u :: v :: u :: st))) : Go p e below Ed n0 rc rs P T (mkF m pc Ls (v :: u :: st)) := by
  obtain ⟨locs, X, eT, N, hn⟩ := X; obtain ⟨hx, hZ, hby, hown, hml, hlk, hrt⟩ := C
  subst hp; exact Go.of (fun t q => Jvm.Free.XT.dup2 X.here hx rfl (hb hby hd) rfl hc hc2 q) k
theorem Go.dup2L (C : Cx p s m meth c Z bytes own ret maxL) (X : On p l e R s m args below meth c n0 T h cells slots) {x : Int64} (hd : decode bytes pc = .ok (.dup2, 1))  (hp : pc + 1 = pc') (k : Go p e below Ed n0 rc rs P T (mkF m pc' Ls (.long x :: .long x :: st))) : Go p e below Ed n0 rc rs P T (mkF m pc Ls (.long x :: st)) := by
  obtain ⟨locs, X, eT, N, hn⟩ := X; obtain ⟨hx, hZ, hby, hown, hml, hlk, hrt⟩ := C
  subst hp; exact Go.of (fun t q => Jvm.Free.XT.dup2L X.here hx rfl (hb hby hd) rfl q) k
theorem Go.iconst (C : Cx p s m meth c Z bytes own ret maxL) (X : On p l e R s m args below meth c n0 T h cells slots) {i : Int} {v : Int32} (hd : decode bytes pc = .ok (.iconst i, 1)) (hv : Int32.ofInt i = v) (hp : pc + 1 = pc') (k : Go p e below Ed n0 rc rs P T (mkF m pc' Ls (.int v :: st))) : Go p e below Ed n0 rc rs P T (mkF m pc Ls st) := by
  obtain ⟨locs, X, eT, N, hn⟩ := X; obtain ⟨hx, hZ, hby, hown, hml, hlk, hrt⟩ := C
  subst hp hv; exact Go.of (fun t q => XS.iconst X.here hx rfl (hb hby hd) q) k
theorem Go.bipush (C : Cx p s m meth c Z bytes own ret maxL) (X : On p l e R s m args below meth c n0 T h cells slots) {i : Int} {v : Int32} (hd : decode bytes pc = .ok (.bipush i, 2)) (hv : (Int8.ofInt i).toInt32 = v) (hp : pc + 2 = pc') (k : Go p e below Ed n0 rc rs P T (mkF m pc' Ls (.int v :: st))) : Go p e below Ed n0 rc rs P T (mkF m pc Ls st) := by
  obtain ⟨locs, X, eT, N, hn⟩ := X; obtain ⟨hx, hZ, hby, hown, hml, hlk, hrt⟩ := C
  subst hp hv; exact Go.of (fun t q => XS.bipush X.here hx rfl (hb hby hd) q) k
theorem Go.sipush (C : Cx p s m meth c Z bytes own ret maxL) (X : On p l e R s m args below meth c n0 T h cells slots) {i : Int} {v : Int32} (hd : decode bytes pc = .ok (.sipush i, 3)) (hv : (Int16.ofInt i).toInt32 = v) (hp : pc + 3 = pc') (k : Go p e below Ed n0 rc rs P T (mkF m pc' Ls (.int v :: st))) : Go p e below Ed n0 rc rs P T (mkF m pc Ls st) := by
  obtain ⟨locs, X, eT, N, hn⟩ := X; obtain ⟨hx, hZ, hby, hown, hml, hlk, hrt⟩ := C
  subst hp hv; exact Go.of (fun t q => XS.sipush X.here hx rfl (hb hby hd) q) k
theorem Go.lconst (C : Cx p s m meth c Z bytes own ret maxL) (X : On p l e R s m args below meth c n0 T h cells slots) {i : Fin 2} {v : Int64} (hd : decode bytes pc = .ok (.lconst i, 1)) (hv : Int64.ofNat i = v) (hp : pc + 1 = pc') (k : Go p e below Ed n0 rc rs P T (mkF m pc' Ls (.long v :: st))) : Go p e below Ed n0 rc rs P T (mkF m pc Ls st) := by
  obtain ⟨locs, X, eT, N, hn⟩ := X; obtain ⟨hx, hZ, hby, hown, hml, hlk, hrt⟩ := C
  subst hp hv; exact Go.of (fun t q => XS.lconst X.here hx rfl (hb hby hd) q) k
theorem Go.aconst_null (C : Cx p s m meth c Z bytes own ret maxL) (X : On p l e R s m args below meth c n0 T h cells slots)  (hd : decode bytes pc = .ok (.aconst_null, 1))  (hp : pc + 1 = pc') (k : Go p e below Ed n0 rc rs P T (mkF m pc' Ls (.null :: st))) : Go p e below Ed n0 rc rs P T (mkF m pc Ls st) := by
  obtain ⟨locs, X, eT, N, hn⟩ := X; obtain ⟨hx, hZ, hby, hown, hml, hlk, hrt⟩ := C
  subst hp; exact Go.of (fun t q => XS.aconstNull X.here hx rfl (hb hby hd)  q) k
theorem Go.ldc (C : Cx p s m meth c Z bytes own ret maxL) (X : On p l e R s m args below meth c n0 T h cells slots) {i : Nat} {v : Int32} (hc : (Cond.constant own i v).before a0 Z = true) (hd : decode bytes pc = .ok (.ldc i, 2)) (hp : pc + 2 = pc') (k : Go p e below Ed n0 rc rs P T (mkF m pc' Ls (.int v :: st))) : Go p e below Ed n0 rc rs P T (mkF m pc Ls st) := by
  obtain ⟨locs, X, eT, N, hn⟩ := X; obtain ⟨hx, hZ, hby, hown, hml, hlk, hrt⟩ := C
  subst hp; exact Go.of (X.ldcInt hx hown (mvT hZ hc) (g := mkF m pc Ls st) rfl (hb hby hd)) k
theorem Go.ldc2 (C : Cx p s m meth c Z bytes own ret maxL) (X : On p l e R s m args below meth c n0 T h cells slots) {i : Nat} {v : Int64} (hc : (Cond.constantLong own i v).before a0 Z = true) (hd : decode bytes pc = .ok (.ldc2_w i, 3)) (hp : pc + 3 = pc') (k : Go p e below Ed n0 rc rs P T (mkF m pc' Ls (.long v :: st))) : Go p e below Ed n0 rc rs P T (mkF m pc Ls st) := by
  obtain ⟨locs, X, eT, N, hn⟩ := X; obtain ⟨hx, hZ, hby, hown, hml, hlk, hrt⟩ := C
  subst hp; exact Go.of (X.ldc2Long hx hown (mvT hZ hc) (g := mkF m pc Ls st) rfl (hb hby hd)) k
theorem Go.iload (C : Cx p s m meth c Z bytes own ret maxL) (X : On p l e R s m args below meth c n0 T h cells slots) {i : Nat} {v : Int32} (hd : decode bytes pc = .ok (.iload i, 2)) (hl : Ls[i]? = some (.val (.int v))) (hp : pc + 2 = pc') (k : Go p e below Ed n0 rc rs P T (mkF m pc' Ls (.int v :: st))) : Go p e below Ed n0 rc rs P T (mkF m pc Ls st) := by
  obtain ⟨locs, X, eT, N, hn⟩ := X; obtain ⟨hx, hZ, hby, hown, hml, hlk, hrt⟩ := C
  subst hp; exact Go.of (fun t q => XS.iload X.here hx rfl (hb hby hd) hl q) k
theorem Go.iloadN (C : Cx p s m meth c Z bytes own ret maxL) (X : On p l e R s m args below meth c n0 T h cells slots) {i : Fin 4} {v : Int32} (hd : decode bytes pc = .ok (.iload_n i, 1)) (hl : Ls[i.val]? = some (.val (.int v))) (hp : pc + 1 = pc') (k : Go p e below Ed n0 rc rs P T (mkF m pc' Ls (.int v :: st))) : Go p e below Ed n0 rc rs P T (mkF m pc Ls st) := by
  obtain ⟨locs, X, eT, N, hn⟩ := X; obtain ⟨hx, hZ, hby, hown, hml, hlk, hrt⟩ := C
  subst hp; exact Go.of (fun t q => XS.iloadN X.here hx rfl (hb hby hd) hl q) k
theorem Go.istore (C : Cx p s m meth c Z bytes own ret maxL) (X : On p l e R s m args below meth c n0 T h cells slots) {i : Nat} {v : Int32} {Ls' : Array Slot} (hd : decode bytes pc = .ok (.istore i, 2)) (hl : storeLocals Ls i (.int v) = some Ls') (hp : pc + 2 = pc') (k : Go p e below Ed n0 rc rs P T (mkF m pc' Ls' st)) : Go p e below Ed n0 rc rs P T (mkF m pc Ls (.int v :: st)) := by
  obtain ⟨locs, X, eT, N, hn⟩ := X; obtain ⟨hx, hZ, hby, hown, hml, hlk, hrt⟩ := C
  subst hp; exact Go.of (fun t q => XS.istore X.here hx rfl (hb hby hd) rfl hl q) k
theorem Go.istoreN (C : Cx p s m meth c Z bytes own ret maxL) (X : On p l e R s m args below meth c n0 T h cells slots) {i : Fin 4} {v : Int32} {Ls' : Array Slot} (hd : decode bytes pc = .ok (.istore_n i, 1)) (hl : storeLocals Ls i.val (.int v) = some Ls') (hp : pc + 1 = pc') (k : Go p e below Ed n0 rc rs P T (mkF m pc' Ls' st)) : Go p e below Ed n0 rc rs P T (mkF m pc Ls (.int v :: st)) := by
  obtain ⟨locs, X, eT, N, hn⟩ := X; obtain ⟨hx, hZ, hby, hown, hml, hlk, hrt⟩ := C
  subst hp; exact Go.of (fun t q => XS.istoreN X.here hx rfl (hb hby hd) rfl hl q) k
theorem Go.lload (C : Cx p s m meth c Z bytes own ret maxL) (X : On p l e R s m args below meth c n0 T h cells slots) {i : Nat} {v : Int64} (hd : decode bytes pc = .ok (.lload i, 2)) (hl : Ls[i]? = some (.val (.long v))) (hp : pc + 2 = pc') (k : Go p e below Ed n0 rc rs P T (mkF m pc' Ls (.long v :: st))) : Go p e below Ed n0 rc rs P T (mkF m pc Ls st) := by
  obtain ⟨locs, X, eT, N, hn⟩ := X; obtain ⟨hx, hZ, hby, hown, hml, hlk, hrt⟩ := C
  subst hp; exact Go.of (fun t q => XS.lload X.here hx rfl (hb hby hd) hl q) k
theorem Go.lloadN (C : Cx p s m meth c Z bytes own ret maxL) (X : On p l e R s m args below meth c n0 T h cells slots) {i : Fin 4} {v : Int64} (hd : decode bytes pc = .ok (.lload_n i, 1)) (hl : Ls[i.val]? = some (.val (.long v))) (hp : pc + 1 = pc') (k : Go p e below Ed n0 rc rs P T (mkF m pc' Ls (.long v :: st))) : Go p e below Ed n0 rc rs P T (mkF m pc Ls st) := by
  obtain ⟨locs, X, eT, N, hn⟩ := X; obtain ⟨hx, hZ, hby, hown, hml, hlk, hrt⟩ := C
  subst hp; exact Go.of (fun t q => XS.lloadN X.here hx rfl (hb hby hd) hl q) k
theorem Go.lstore (C : Cx p s m meth c Z bytes own ret maxL) (X : On p l e R s m args below meth c n0 T h cells slots) {i : Nat} {v : Int64} {Ls' : Array Slot} (hd : decode bytes pc = .ok (.lstore i, 2)) (hl : storeLocals Ls i (.long v) = some Ls') (hp : pc + 2 = pc') (k : Go p e below Ed n0 rc rs P T (mkF m pc' Ls' st)) : Go p e below Ed n0 rc rs P T (mkF m pc Ls (.long v :: st)) := by
  obtain ⟨locs, X, eT, N, hn⟩ := X; obtain ⟨hx, hZ, hby, hown, hml, hlk, hrt⟩ := C
  subst hp; exact Go.of (fun t q => XS.lstore X.here hx rfl (hb hby hd) rfl hl q) k
theorem Go.lstoreN (C : Cx p s m meth c Z bytes own ret maxL) (X : On p l e R s m args below meth c n0 T h cells slots) {i : Fin 4} {v : Int64} {Ls' : Array Slot} (hd : decode bytes pc = .ok (.lstore_n i, 1)) (hl : storeLocals Ls i.val (.long v) = some Ls') (hp : pc + 1 = pc') (k : Go p e below Ed n0 rc rs P T (mkF m pc' Ls' st)) : Go p e below Ed n0 rc rs P T (mkF m pc Ls (.long v :: st)) := by
  obtain ⟨locs, X, eT, N, hn⟩ := X; obtain ⟨hx, hZ, hby, hown, hml, hlk, hrt⟩ := C
  subst hp; exact Go.of (fun t q => XS.lstoreN X.here hx rfl (hb hby hd) rfl hl q) k
theorem Go.aload (C : Cx p s m meth c Z bytes own ret maxL) (X : On p l e R s m args below meth c n0 T h cells slots) {i : Nat} {v : Value} (hd : decode bytes pc = .ok (.aload i, 2)) (hl : Ls[i]? = some (.val v)) (hv : v.isRef = true) (hp : pc + 2 = pc') (k : Go p e below Ed n0 rc rs P T (mkF m pc' Ls (v :: st))) : Go p e below Ed n0 rc rs P T (mkF m pc Ls st) := by
  obtain ⟨locs, X, eT, N, hn⟩ := X; obtain ⟨hx, hZ, hby, hown, hml, hlk, hrt⟩ := C
  subst hp; exact Go.of (fun t q => XS.aload X.here hx rfl (hb hby hd) hl hv q) k
theorem Go.aloadN (C : Cx p s m meth c Z bytes own ret maxL) (X : On p l e R s m args below meth c n0 T h cells slots) {i : Fin 4} {v : Value} (hd : decode bytes pc = .ok (.aload_n i, 1)) (hl : Ls[i.val]? = some (.val v)) (hv : v.isRef = true) (hp : pc + 1 = pc') (k : Go p e below Ed n0 rc rs P T (mkF m pc' Ls (v :: st))) : Go p e below Ed n0 rc rs P T (mkF m pc Ls st) := by
  obtain ⟨locs, X, eT, N, hn⟩ := X; obtain ⟨hx, hZ, hby, hown, hml, hlk, hrt⟩ := C
  subst hp; exact Go.of (fun t q => XS.aloadN X.here hx rfl (hb hby hd) hl hv q) k
theorem Go.astore (C : Cx p s m meth c Z bytes own ret maxL) (X : On p l e R s m args below meth c n0 T h cells slots) {i : Nat} {v : Value} {Ls' : Array Slot} (hd : decode bytes pc = .ok (.astore i, 2)) (hv : v.isRef = true) (hl : storeLocals Ls i v = some Ls') (hp : pc + 2 = pc') (k : Go p e below Ed n0 rc rs P T (mkF m pc' Ls' st)) : Go p e below Ed n0 rc rs P T (mkF m pc Ls (v :: st)) := by
  obtain ⟨locs, X, eT, N, hn⟩ := X; obtain ⟨hx, hZ, hby, hown, hml, hlk, hrt⟩ := C
  subst hp; exact Go.of (fun t q => XS.astore X.here hx rfl (hb hby hd) rfl hv hl q) k
theorem Go.astoreN (C : Cx p s m meth c Z bytes own ret maxL) (X : On p l e R s m args below meth c n0 T h cells slots) {i : Fin 4} {v : Value} {Ls' : Array Slot} (hd : decode bytes pc = .ok (.astore_n i, 1)) (hv : v.isRef = true) (hl : storeLocals Ls i.val v = some Ls') (hp : pc + 1 = pc') (k : Go p e below Ed n0 rc rs P T (mkF m pc' Ls' st)) : Go p e below Ed n0 rc rs P T (mkF m pc Ls (v :: st)) := by
  obtain ⟨locs, X, eT, N, hn⟩ := X; obtain ⟨hx, hZ, hby, hown, hml, hlk, hrt⟩ := C
  subst hp; exact Go.of (fun t q => XS.astoreN X.here hx rfl (hb hby hd) rfl hv hl q) k
theorem Go.iinc (C : Cx p s m meth c Z bytes own ret maxL) (X : On p l e R s m args below meth c n0 T h cells slots) {i : Nat} {d : Int} {v v' : Int32} {Ls' : Array Slot} (hd : decode bytes pc = .ok (.iinc i d, 3)) (hl : Ls[i]? = some (.val (.int v))) (hv : v + Int32.ofInt d = v') (hl' : storeLocals Ls i (.int v') = some Ls') (hp : pc + 3 = pc') (k : Go p e below Ed n0 rc rs P T (mkF m pc' Ls' st)) : Go p e below Ed n0 rc rs P T (mkF m pc Ls st) := by
  obtain ⟨locs, X, eT, N, hn⟩ := X; obtain ⟨hx, hZ, hby, hown, hml, hlk, hrt⟩ := C
  subst hp hv; exact Go.of (fun t q => XS.iinc X.here hx rfl (hb hby hd) hl hl' q) k
theorem Go.goto (C : Cx p s m meth c Z bytes own ret maxL) (X : On p l e R s m args below meth c n0 T h cells slots) {o : Int} (hd : decode bytes pc = .ok (.goto o, 3)) (ho : 0 ≤ (pc : Int) + o) (hp : ((pc : Int) + o).toNat = pc') (k : Go p e below Ed n0 rc rs P T (mkF m pc' Ls st)) : Go p e below Ed n0 rc rs P T (mkF m pc Ls st) := by
  obtain ⟨locs, X, eT, N, hn⟩ := X; obtain ⟨hx, hZ, hby, hown, hml, hlk, hrt⟩ := C
  exact Go.of (fun t q => XS.goto X.here hx rfl (pc0 := pc) rfl (hb hby hd) ho hp q) k
theorem Go.ifYes (C : Cx p s m meth c Z bytes own ret maxL) (X : On p l e R s m args below meth c n0 T h cells slots) {o : Int} {cd : ClassFile.Cond} {x : Int32} (hd : decode bytes pc = .ok (.ifCond cd o, 3)) (hc : ifCond.holds cd x = true) (ho : 0 ≤ (pc : Int) + o) (hp : ((pc : Int) + o).toNat = pc') (k : Go p e below Ed n0 rc rs P T (mkF m pc' Ls st)) : Go p e below Ed n0 rc rs P T (mkF m pc Ls (.int x :: st)) := by
  obtain ⟨locs, X, eT, N, hn⟩ := X; obtain ⟨hx, hZ, hby, hown, hml, hlk, hrt⟩ := C
  exact Go.of (fun t q => XS.ifYes X.here hx rfl (pc0 := pc) rfl (hb hby hd) rfl hc ho hp q) k
theorem Go.ifNo (C : Cx p s m meth c Z bytes own ret maxL) (X : On p l e R s m args below meth c n0 T h cells slots) {o : Int} {cd : ClassFile.Cond} {x : Int32} (hd : decode bytes pc = .ok (.ifCond cd o, 3)) (hc : ifCond.holds cd x = false) (hp : pc + 3 = pc') (k : Go p e below Ed n0 rc rs P T (mkF m pc' Ls st)) : Go p e below Ed n0 rc rs P T (mkF m pc Ls (.int x :: st)) := by
  obtain ⟨locs, X, eT, N, hn⟩ := X; obtain ⟨hx, hZ, hby, hown, hml, hlk, hrt⟩ := C
  subst hp; exact Go.of (fun t q => XS.ifNo X.here hx rfl (hb hby hd) rfl hc q) k
theorem Go.icmpYes (C : Cx p s m meth c Z bytes own ret maxL) (X : On p l e R s m args below meth c n0 T h cells slots) {o : Int} {cd : ClassFile.Cond} {x y : Int32} (hd : decode bytes pc = .ok (.if_icmp cd o, 3)) (hc : if_icmp.holds cd x y = true) (ho : 0 ≤ (pc : Int) + o) (hp : ((pc : Int) + o).toNat = pc') (k : Go p e below Ed n0 rc rs P T (mkF m pc' Ls st)) : Go p e below Ed n0 rc rs P T (mkF m pc Ls (.int y :: .int x :: st)) := by
  obtain ⟨locs, X, eT, N, hn⟩ := X; obtain ⟨hx, hZ, hby, hown, hml, hlk, hrt⟩ := C
  exact Go.of (fun t q => XS.icmpYes X.here hx rfl (pc0 := pc) rfl (hb hby hd) rfl hc ho hp q) k
theorem Go.icmpNo (C : Cx p s m meth c Z bytes own ret maxL) (X : On p l e R s m args below meth c n0 T h cells slots) {o : Int} {cd : ClassFile.Cond} {x y : Int32} (hd : decode bytes pc = .ok (.if_icmp cd o, 3)) (hc : if_icmp.holds cd x y = false) (hp : pc + 3 = pc') (k : Go p e below Ed n0 rc rs P T (mkF m pc' Ls st)) : Go p e below Ed n0 rc rs P T (mkF m pc Ls (.int y :: .int x :: st)) := by
  obtain ⟨locs, X, eT, N, hn⟩ := X; obtain ⟨hx, hZ, hby, hown, hml, hlk, hrt⟩ := C
  subst hp; exact Go.of (fun t q => XS.icmpNo X.here hx rfl (hb hby hd) rfl hc q) k
theorem Go.acmpYes (C : Cx p s m meth c Z bytes own ret maxL) (X : On p l e R s m args below meth c n0 T h cells slots) {o : Int} {cd : ClassFile.ACond} {a b : Addr} (hd : decode bytes pc = .ok (.if_acmp cd o, 3)) (hc : if_acmp.holds cd (some a) (some b) = true) (ho : 0 ≤ (pc : Int) + o) (hp : ((pc : Int) + o).toNat = pc') (k : Go p e below Ed n0 rc rs P T (mkF m pc' Ls st)) : Go p e below Ed n0 rc rs P T (mkF m pc Ls (.ref b :: .ref a :: st)) := by
  obtain ⟨locs, X, eT, N, hn⟩ := X; obtain ⟨hx, hZ, hby, hown, hml, hlk, hrt⟩ := C
  exact Go.of (fun t q => XS.acmpYes X.here hx rfl (pc0 := pc) rfl (hb hby hd) rfl hc ho hp q) k
theorem Go.acmpNo (C : Cx p s m meth c Z bytes own ret maxL) (X : On p l e R s m args below meth c n0 T h cells slots) {o : Int} {cd : ClassFile.ACond} {a b : Addr} (hd : decode bytes pc = .ok (.if_acmp cd o, 3)) (hc : if_acmp.holds cd (some a) (some b) = false) (hp : pc + 3 = pc') (k : Go p e below Ed n0 rc rs P T (mkF m pc' Ls st)) : Go p e below Ed n0 rc rs P T (mkF m pc Ls (.ref b :: .ref a :: st)) := by
  obtain ⟨locs, X, eT, N, hn⟩ := X; obtain ⟨hx, hZ, hby, hown, hml, hlk, hrt⟩ := C
  subst hp; exact Go.of (fun t q => XS.acmpNo X.here hx rfl (hb hby hd) rfl hc q) k
theorem Go.acmpV (C : Cx p s m meth c Z bytes own ret maxL) (X : On p l e R s m args below meth c n0 T h cells slots) {o : Int} {cd : ClassFile.ACond} {u v : Value} {same : Bool} (hd : decode bytes pc = .ok (.if_acmp cd o, 3)) (h1 : u.isRef = true) (h2 : v.isRef = true) (hq : decide (u = v) = same) (ho : 0 ≤ (pc : Int) + o) (hp : pc' = if acV cd same = true then ((pc : Int) + o).toNat else pc + 3) (k : Go p e below Ed n0 rc rs P T (mkF m pc' Ls st)) : Go p e below Ed n0 rc rs P T (mkF m pc Ls (v :: u :: st)) := by
  obtain ⟨locs, X, eT, N, hn⟩ := X; obtain ⟨hx, hZ, hby, hown, hml, hlk, hrt⟩ := C
  exact Go.of (fun t q => acmp X hx rfl h1 h2 (pc0 := pc) rfl (hb hby hd) rfl hq ho hp q) k
theorem Go.ifnullYes (C : Cx p s m meth c Z bytes own ret maxL) (X : On p l e R s m args below meth c n0 T h cells slots) {o : Int} (hd : decode bytes pc = .ok (.ifnull o, 3)) (ho : 0 ≤ (pc : Int) + o) (hp : ((pc : Int) + o).toNat = pc') (k : Go p e below Ed n0 rc rs P T (mkF m pc' Ls st)) : Go p e below Ed n0 rc rs P T (mkF m pc Ls (.null :: st)) := by
  obtain ⟨locs, X, eT, N, hn⟩ := X; obtain ⟨hx, hZ, hby, hown, hml, hlk, hrt⟩ := C
  exact Go.of (fun t q => XS.ifnullYes X.here hx rfl (pc0 := pc) rfl (hb hby hd) rfl ho hp q) k
theorem Go.ifnullNo (C : Cx p s m meth c Z bytes own ret maxL) (X : On p l e R s m args below meth c n0 T h cells slots) {o : Int} {a : Addr} (hd : decode bytes pc = .ok (.ifnull o, 3)) (hp : pc + 3 = pc') (k : Go p e below Ed n0 rc rs P T (mkF m pc' Ls st)) : Go p e below Ed n0 rc rs P T (mkF m pc Ls (.ref a :: st)) := by
  obtain ⟨locs, X, eT, N, hn⟩ := X; obtain ⟨hx, hZ, hby, hown, hml, hlk, hrt⟩ := C
  subst hp; exact Go.of (fun t q => XS.ifnullNo X.here hx rfl (hb hby hd) rfl q) k
theorem Go.ifnonnullYes (C : Cx p s m meth c Z bytes own ret maxL) (X : On p l e R s m args below meth c n0 T h cells slots) {o : Int} {a : Addr} (hd : decode bytes pc = .ok (.ifnonnull o, 3)) (ho : 0 ≤ (pc : Int) + o) (hp : ((pc : Int) + o).toNat = pc') (k : Go p e below Ed n0 rc rs P T (mkF m pc' Ls st)) : Go p e below Ed n0 rc rs P T (mkF m pc Ls (.ref a :: st)) := by
  obtain ⟨locs, X, eT, N, hn⟩ := X; obtain ⟨hx, hZ, hby, hown, hml, hlk, hrt⟩ := C
  exact Go.of (fun t q => XS.ifnonnullYes X.here hx rfl (pc0 := pc) rfl (hb hby hd) rfl ho hp q) k
theorem Go.ifnonnullNo (C : Cx p s m meth c Z bytes own ret maxL) (X : On p l e R s m args below meth c n0 T h cells slots) {o : Int} (hd : decode bytes pc = .ok (.ifnonnull o, 3)) (hp : pc + 3 = pc') (k : Go p e below Ed n0 rc rs P T (mkF m pc' Ls st)) : Go p e below Ed n0 rc rs P T (mkF m pc Ls (.null :: st)) := by
  obtain ⟨locs, X, eT, N, hn⟩ := X; obtain ⟨hx, hZ, hby, hown, hml, hlk, hrt⟩ := C
  subst hp; exact Go.of (fun t q => XS.ifnonnullNo X.here hx rfl (hb hby hd) rfl q) k
theorem Go.lswHit (C : Cx p s m meth c Z bytes own ret maxL) (X : On p l e R s m args below meth c n0 T h cells slots) {dflt : Int} {pairs : Array (Int × Int)} {len : Nat} {x : Int32} {a off : Int} (hd : decode bytes pc = .ok (.lookupswitch dflt pairs, len)) (hs : (pairs.toList.zip (pairs.toList.drop 1)).all (fun (a, next) => a.1 < next.1) = true) (hf : pairs.find? (·.1 == x.toInt) = some (a, off)) (ho : 0 ≤ (pc : Int) + off) (hp : ((pc : Int) + off).toNat = pc') (k : Go p e below Ed n0 rc rs P T (mkF m pc' Ls st)) : Go p e below Ed n0 rc rs P T (mkF m pc Ls (.int x :: st)) := by
  obtain ⟨locs, X, eT, N, hn⟩ := X; obtain ⟨hx, hZ, hby, hown, hml, hlk, hrt⟩ := C
  subst hp; exact Go.of (fun t q => X.lookupswitchHit hx (g := mkF m pc Ls (.int x :: st)) rfl rfl (hb hby hd) hs hf ho t q) k
theorem Go.lswMiss (C : Cx p s m meth c Z bytes own ret maxL) (X : On p l e R s m args below meth c n0 T h cells slots) {dflt : Int} {pairs : Array (Int × Int)} {len : Nat} {x : Int32} (hd : decode bytes pc = .ok (.lookupswitch dflt pairs, len)) (hs : (pairs.toList.zip (pairs.toList.drop 1)).all (fun (a, next) => a.1 < next.1) = true) (hf : pairs.find? (·.1 == x.toInt) = none) (ho : 0 ≤ (pc : Int) + dflt) (hp : ((pc : Int) + dflt).toNat = pc') (k : Go p e below Ed n0 rc rs P T (mkF m pc' Ls st)) : Go p e below Ed n0 rc rs P T (mkF m pc Ls (.int x :: st)) := by
  obtain ⟨locs, X, eT, N, hn⟩ := X; obtain ⟨hx, hZ, hby, hown, hml, hlk, hrt⟩ := C
  subst hp; exact Go.of (fun t q => X.lookupswitchMiss hx (g := mkF m pc Ls (.int x :: st)) rfl rfl (hb hby hd) hs hf ho t q) k
theorem Go.retV  (C : Cx p s m meth c Z bytes own none maxL) (X : On p l e R s m args below meth c n0 T h cells slots) (hd : decode bytes pc = .ok (.return_, 1)) (hq : P none h) (hc : cells ≤ rc) (hs : slots ≤ rs) : Go p e below (FrameEnd s) n0 rc rs P T (mkF m pc Ls []) := by
  obtain ⟨locs, X, eT, N, hn⟩ := X; obtain ⟨hx, hZ, hby, hown, hml, hlk, hrt⟩ := C
  obtain ⟨fs, hr, hrun, hended, hW, hsame⟩ := X.leave (v := none) (fun _ => rfl) hlk
  refine ⟨_, _, ?_, hrun, hended, _, _, rfl, ⟨?_, N⟩, ⟨_, rfl⟩, hW, hsame.mono hc hs⟩
  · exact X.returnOut hx hrt (hb hby hd) hr
  · show P _ T.heap; rw [eT]; exact hq
theorem own_retS {locs : List Loc} (X : Stand p l e R s m args below meth c T locs cells slots) (hx : p.tables.exec = Jvm.exec) {z z' : Int32} {t : FieldType} {rest : List Value} (hret : meth.sig.returnType = some t) (hn : narrow t (.int z) = .int z') (hd : decode c.code pc = .ok (.ireturn, 1)) {fs : List Frame}
    (hl : ∀ (f : JFrame) (acts : List Action), f.method = m → f.locked = none → f.entered = [] → (doReturn e (T.setTop f) acts (some (.int z'))).1 = T.setFrames fs) : Steps p.tables e below (T.setTop (mkF m pc Ls (.int z :: rest))) (T.setFrames fs) := by
  have hm' : T.vm.method? m = some meth := X.method'
  show Steps p.tables e below (T.setTop { method := m, pc := pc, locals := Ls, stack := _ :: rest, locked := none }) _
  jvm_step X.here [X.here.top, hx, hd, hm', hret, hn]
  first | (intro acts; rw [hl _ acts rfl rfl rfl]) | rw [hl _ _ rfl rfl rfl]
  exact Steps.refl _
theorem Go.retZ {t : FieldType} (C : Cx p s m meth c Z bytes own (some t) maxL) (X : On p l e R s m args below meth c n0 T h cells slots) {z z' : Int32} (hz : narrow t (.int z) = .int z') (hd : decode bytes pc = .ok (.ireturn, 1)) (hq : P (some (.int z')) h) (hc : cells ≤ rc) (hs : slots ≤ rs) : Go p e below (FrameEnd s) n0 rc rs P T (mkF m pc Ls (.int z :: st)) := by
  obtain ⟨locs, X, eT, N, hn⟩ := X; obtain ⟨hx, hZ, hby, hown, hml, hlk, hrt⟩ := C
  obtain ⟨fs, hr, hrun, hended, hW, hsame⟩ := X.leave (v := (some (.int z'))) (fun h => by rw [hrt] at h; cases h) hlk
  refine ⟨_, _, ?_, hrun, hended, _, _, rfl, ⟨?_, N⟩, ⟨_, rfl⟩, hW, hsame.mono hc hs⟩
  · exact own_retS X hx hrt hz (hb hby hd) hr
  · show P _ T.heap; rw [eT]; exact hq
theorem Go.retI  (C : Cx p s m meth c Z bytes own (some .int) maxL) (X : On p l e R s m args below meth c n0 T h cells slots) {z : Int32} (hd : decode bytes pc = .ok (.ireturn, 1)) (hq : P (some (.int z)) h) (hc : cells ≤ rc) (hs : slots ≤ rs) : Go p e below (FrameEnd s) n0 rc rs P T (mkF m pc Ls (.int z :: st)) := by
  obtain ⟨locs, X, eT, N, hn⟩ := X; obtain ⟨hx, hZ, hby, hown, hml, hlk, hrt⟩ := C
  obtain ⟨fs, hr, hrun, hended, hW, hsame⟩ := X.leave (v := (some (.int z))) (fun h => by rw [hrt] at h; cases h) hlk
  refine ⟨_, _, ?_, hrun, hended, _, _, rfl, ⟨?_, N⟩, ⟨_, rfl⟩, hW, hsame.mono hc hs⟩
  · exact own_retS X hx hrt rfl (hb hby hd) hr
  · show P _ T.heap; rw [eT]; exact hq
theorem Go.retL  (C : Cx p s m meth c Z bytes own (some .long) maxL) (X : On p l e R s m args below meth c n0 T h cells slots) {z : Int64} (hd : decode bytes pc = .ok (.lreturn, 1)) (hq : P (some (.long z)) h) (hc : cells ≤ rc) (hs : slots ≤ rs) : Go p e below (FrameEnd s) n0 rc rs P T (mkF m pc Ls (.long z :: st)) := by
  obtain ⟨locs, X, eT, N, hn⟩ := X; obtain ⟨hx, hZ, hby, hown, hml, hlk, hrt⟩ := C
  obtain ⟨fs, hr, hrun, hended, hW, hsame⟩ := X.leave (v := (some (.long z))) (fun h => by rw [hrt] at h; cases h) hlk
  refine ⟨_, _, ?_, hrun, hended, _, _, rfl, ⟨?_, N⟩, ⟨_, rfl⟩, hW, hsame.mono hc hs⟩
  · jvm_step X.here [X.here.top, hx, (hb hby hd), X.method', hrt, narrow]
    first | (intro acts; rw [hr _ acts rfl rfl rfl]) | rw [hr _ _ rfl rfl rfl]
    exact Steps.refl _
  · show P _ T.heap; rw [eT]; exact hq
theorem Go.retA {cn : String} (C : Cx p s m meth c Z bytes own (some (.object cn)) maxL) (X : On p l e R s m args below meth c n0 T h cells slots) {z : Value} (hz : z.isRef = true) (hd : decode bytes pc = .ok (.areturn, 1)) (hq : P (some z) h) (hc : cells ≤ rc) (hs : slots ≤ rs) : Go p e below (FrameEnd s) n0 rc rs P T (mkF m pc Ls (z :: st)) := by
  obtain ⟨locs, X, eT, N, hn⟩ := X; obtain ⟨hx, hZ, hby, hown, hml, hlk, hrt⟩ := C
  obtain ⟨fs, hr, hrun, hended, hW, hsame⟩ := X.leave (v := (some z)) (fun h => by rw [hrt] at h; cases h) hlk
  refine ⟨_, _, ?_, hrun, hended, _, _, rfl, ⟨?_, N⟩, ⟨_, rfl⟩, hW, hsame.mono hc hs⟩
  · rcases ref_cases hz with rfl | ⟨a, rfl⟩ <;>
    · jvm_step X.here [X.here.top, hx, (hb hby hd), X.method', hrt, Value.isRef, FieldType.isReference]
      first | (intro acts; rw [hr _ acts rfl rfl rfl]) | rw [hr _ _ rfl rfl rfl]
      exact Steps.refl _
  · show P _ T.heap; rw [eT]; exact hq
theorem Go.retAA {ct : FieldType} (C : Cx p s m meth c Z bytes own (some (.array ct)) maxL) (X : On p l e R s m args below meth c n0 T h cells slots) {z : Value} (hz : z.isRef = true) (hd : decode bytes pc = .ok (.areturn, 1)) (hq : P (some z) h) (hc : cells ≤ rc) (hs : slots ≤ rs) : Go p e below (FrameEnd s) n0 rc rs P T (mkF m pc Ls (z :: st)) := by
  obtain ⟨locs, X, eT, N, hn⟩ := X; obtain ⟨hx, hZ, hby, hown, hml, hlk, hrt⟩ := C
  obtain ⟨fs, hr, hrun, hended, hW, hsame⟩ := X.leave (v := (some z)) (fun h => by rw [hrt] at h; cases h) hlk
  refine ⟨_, _, ?_, hrun, hended, _, _, rfl, ⟨?_, N⟩, ⟨_, rfl⟩, hW, hsame.mono hc hs⟩
  · rcases ref_cases hz with rfl | ⟨a, rfl⟩ <;>
    · jvm_step X.here [X.here.top, hx, (hb hby hd), X.method', hrt, Value.isRef, FieldType.isReference]
      first | (intro acts; rw [hr _ acts rfl rfl rfl]) | rw [hr _ _ rfl rfl rfl]
      exact Steps.refl _
  · show P _ T.heap; rw [eT]; exact hq
theorem Go.getF (C : Cx p s m meth c Z bytes own ret maxL) (X : On p l e R s m args below meth c n0 T h cells slots) {R0 O n d host : String} {i : Nat} {a : Addr} {v : Value} (w : (Cond.fieldLink own i R0 n d).before a0 Z = true ∨ (Cond.fieldLinkNest own i R0 n d host).before a0 Z = true) (via : Via Z R0 O n d) (F : Fld Z h a O n d v) (hd : decode bytes pc = .ok (.getfield i, 3)) (hp : pc + 3 = pc')
    (k : ∀ T', On p l e R s m args below meth c n0 T' h cells slots → Go p e below Ed n0 rc rs P T' (mkF m pc' Ls (v :: st))) : Go p e below Ed n0 rc rs P T (mkF m pc Ls (.ref a :: st)) := by
  obtain ⟨locs, X, eT, N, hn⟩ := X; obtain ⟨hx, hZ, hby, hown, hml, hlk, hrt⟩ := C; subst hp
  obtain ⟨T', X', e', st'⟩ := RoadKit.getF X hx hZ hown w via eT F (g := mkF m pc Ls (.ref a :: st)) rfl rfl (hb hby hd)
  exact Go.of st' (k T' ⟨locs, X', e', N, hn⟩)
theorem Go.getS (C : Cx p s m meth c Z bytes own ret maxL) (X : On p l e R s m args below meth c n0 T h cells slots) {R0 O n d : String} {i : Nat} {v : Value} (w : (Cond.fieldLink own i R0 n d).before a0 Z = true) (via : Via Z R0 O n d) (F : Sta Z h O n d v) (hd : decode bytes pc = .ok (.getstatic i, 3)) (hp : pc + 3 = pc')
    (k : ∀ T', On p l e R s m args below meth c n0 T' h cells slots → Go p e below Ed n0 rc rs P T' (mkF m pc' Ls (v :: st))) : Go p e below Ed n0 rc rs P T (mkF m pc Ls st) := by
  obtain ⟨locs, X, eT, N, hn⟩ := X; obtain ⟨hx, hZ, hby, hown, hml, hlk, hrt⟩ := C; subst hp
  obtain ⟨T', X', e', st'⟩ := RoadKit.getS X hx hZ (host := "") hown w via eT F (g := mkF m pc Ls st) rfl (hb hby hd)
  exact Go.of st' (k T' ⟨locs, X', e', N, hn⟩)
theorem Go.putF (C : Cx p s m meth c Z bytes own ret maxL) (X : On p l e R s m args below meth c n0 T h cells slots) {R0 O n d host K : String} {i kk : Nat} {ty : FieldType} {a : Addr} {v old : Value} (w : (Cond.fieldLink own i R0 n d).before a0 Z = true ∨ (Cond.fieldLinkNest own i R0 n d host).before a0 Z = true) (via : Via Z R0 O n d) (F : Fld Z h a O n d old) (E : Exa Z h a K) (L : (Cond.lays K O n d).before a0 Z = true ∨ ((Cond.laysFinal K O n d).before a0 Z = true ∧ own = O ∧ meth.name = "<init>")) (wi : (Cond.instantiable K kk).before a0 Z = true) (ha : n0 ≤ a) (hty : parseFieldDescriptor d = some ty) (hn : narrow ty v = v) (hf : fits ty v = true) (hd : decode bytes pc = .ok (.putfield i, 3)) (hp : pc + 3 = pc')
    (k : ∀ T' h', On p l e R s m args below meth c n0 T' h' cells slots → Wr h h' a (slotOf Z O n d) v → Go p e below Ed n0 rc rs P T' (mkF m pc' Ls st)) : Go p e below Ed n0 rc rs P T (mkF m pc Ls (v :: .ref a :: st)) := by
  obtain ⟨locs, X, eT, N, hz⟩ := X; obtain ⟨hx, hZ, hby, hown, hml, hlk, hrt⟩ := C; subst hp
  obtain ⟨T', h', X', e', W, st'⟩ := RoadKit.putF X hx hZ hown w via eT F E L wi hty hn hf (g := mkF m pc Ls (v :: .ref a :: st)) rfl rfl (hb hby hd)
  exact Go.of st' (k T' h' ⟨_, X', e', Fr.snoc X' N ha, by rw [W.size]; exact hz⟩ W)
theorem Go.putFN (C : Cx p s m meth c Z bytes own ret maxL) (X : On p l e R s m args below meth c n0 T h cells slots) {R0 O n d K : String} {i kk : Nat} {ty : FieldType} {a : Addr} {v v' old : Value} (w : (Cond.fieldLink own i R0 n d).before a0 Z = true) (via : Via Z R0 O n d) (F : Fld Z h a O n d old) (E : Exa Z h a K) (L : (Cond.lays K O n d).before a0 Z = true ∨ ((Cond.laysFinal K O n d).before a0 Z = true ∧ own = O ∧ meth.name = "<init>")) (wi : (Cond.instantiable K kk).before a0 Z = true) (ha : n0 ≤ a) (hty : parseFieldDescriptor d = some ty) (hn : narrow ty v = v') (hf : fits ty v' = true) (hd : decode bytes pc = .ok (.putfield i, 3)) (hp : pc + 3 = pc')
    (k : ∀ T' h', On p l e R s m args below meth c n0 T' h' cells slots → Wr h h' a (slotOf Z O n d) v' → Go p e below Ed n0 rc rs P T' (mkF m pc' Ls st)) : Go p e below Ed n0 rc rs P T (mkF m pc Ls (v :: .ref a :: st)) := by
  obtain ⟨locs, X, eT, N, hz⟩ := X; obtain ⟨hx, hZ, hby, hown, hml, hlk, hrt⟩ := C; subst hp
  obtain ⟨T', h', X', e', W, st'⟩ := RoadKit.putFN X hx hZ hown w via eT F E L wi hty hn hf (g := mkF m pc Ls (v :: .ref a :: st)) rfl rfl (hb hby hd)
  exact Go.of st' (k T' h' ⟨_, X', e', Fr.snoc X' N ha, by rw [W.size]; exact hz⟩ W)
theorem Go.newO (C : Cx p s m meth c Z bytes own ret maxL) (X : On p l e R s m args below meth c n0 T h cells slots) {K : String} {i kk : Nat} (w : (Cond.classLink own i K).before a0 Z = true) (wi : (Cond.instantiable K kk).before a0 Z = true) (wz : (Cond.initialized K).before a0 Z = true) (hd : decode bytes pc = .ok (.new i, 3)) (hc : cells + 1 ≤ R.cells) (hl : slots + kk ≤ R.slots) (hp : pc + 3 = pc')
    (k : ∀ T' h' a, On p l e R s m args below meth c n0 T' h' (cells + 1) (slots + kk) → a = h.size → Ext h h' → Exa Z h' a K → (∀ {O nm d : String} {ty : FieldType}, Laid Z a0 K O nm d → parseFieldDescriptor d = some ty → Fld Z h' a O nm d (defaultValue ty)) → n0 ≤ a → Go p e below Ed n0 rc rs P T' (mkF m pc' Ls (.ref a :: st))) : Go p e below Ed n0 rc rs P T (mkF m pc Ls st) := by
  obtain ⟨locs, X, eT, N, hz⟩ := X; obtain ⟨hx, hZ, hby, hown, hml, hlk, hrt⟩ := C; subst hp
  obtain ⟨T', h', X', e', E, A, D, -, st'⟩ := RoadKit.newO X hx hZ hown w wi wz eT (g := mkF m pc Ls st) rfl (hb hby hd) hc hl
  exact Go.of st' (k T' h' h.size ⟨_, X', e', N, Nat.le_trans hz E.1⟩ rfl E A D hz)
theorem Go.initO (C : Cx p s m meth c Z bytes own ret maxL) (X : On p l e R s m args below meth c n0 T h cells slots) {a : Addr} (hI : ∀ locs, Stand p l e R s m args below meth c T locs cells slots → T.heap = h → ∃ T', Stand p l e R s m args below meth c T' locs cells slots ∧ T'.heap = h ∧ ∀ target, Steps p.tables e below (T'.setTop (mkF m (pc + 3) Ls st)) target → Steps p.tables e below (T.setTop (mkF m pc Ls (.ref a :: st))) target) (hp : pc + 3 = pc')
    (k : ∀ T', On p l e R s m args below meth c n0 T' h cells slots → Go p e below Ed n0 rc rs P T' (mkF m pc' Ls st)) : Go p e below Ed n0 rc rs P T (mkF m pc Ls (.ref a :: st)) := by
  obtain ⟨locs, X, eT, N, hz⟩ := X; subst hp
  obtain ⟨T', X', e', st'⟩ := hI locs X eT
  exact Go.of st' (k T' ⟨_, X', e', N, hz⟩)
theorem Go.castY (C : Cx p s m meth c Z bytes own ret maxL) (X : On p l e R s m args below meth c n0 T h cells slots) {K : String} {i : Nat} {a : Addr} (w : (Cond.classLink own i K).before a0 Z = true) (F : Ins Z h a K true) (hd : decode bytes pc = .ok (.checkcast i, 3)) (hp : pc + 3 = pc')
    (k : ∀ T', On p l e R s m args below meth c n0 T' h cells slots → Go p e below Ed n0 rc rs P T' (mkF m pc' Ls (.ref a :: st))) : Go p e below Ed n0 rc rs P T (mkF m pc Ls (.ref a :: st)) := by
  obtain ⟨locs, X, eT, N, hn⟩ := X; obtain ⟨hx, hZ, hby, hown, hml, hlk, hrt⟩ := C; subst hp
  obtain ⟨T', X', e', st'⟩ := RoadKit.castY X hx hZ hown w eT F (g := mkF m pc Ls (.ref a :: st)) rfl rfl (hb hby hd)
  exact Go.of st' (k T' ⟨locs, X', e', N, hn⟩)
theorem Go.instY (C : Cx p s m meth c Z bytes own ret maxL) (X : On p l e R s m args below meth c n0 T h cells slots) {K : String} {i : Nat} {a : Addr} (w : (Cond.classLink own i K).before a0 Z = true) (F : Ins Z h a K true) (hd : decode bytes pc = .ok (.instanceof i, 3)) (hp : pc + 3 = pc')
    (k : ∀ T', On p l e R s m args below meth c n0 T' h cells slots → Go p e below Ed n0 rc rs P T' (mkF m pc' Ls (.int 1 :: st))) : Go p e below Ed n0 rc rs P T (mkF m pc Ls (.ref a :: st)) := by
  obtain ⟨locs, X, eT, N, hn⟩ := X; obtain ⟨hx, hZ, hby, hown, hml, hlk, hrt⟩ := C; subst hp
  obtain ⟨T', X', e', st'⟩ := RoadKit.instY X hx hZ hown w eT F (g := mkF m pc Ls (.ref a :: st)) rfl rfl (hb hby hd)
  exact Go.of st' (k T' ⟨locs, X', e', N, hn⟩)
def AI (Z : State) (h : Heap) (a : Addr) (ty : FieldType) (n : Nat) (f : Nat → Int32) : Prop := ∃ cl : Cell, Arr Z h a cl ty ∧ cl.slots.size = n ∧ n < 2 ^ 31 ∧ ∀ i, i < n → cl.slots[i]? = some (.int (f i))
def AJ (Z : State) (h : Heap) (a : Addr) (n : Nat) (f : Nat → Int64) : Prop := ∃ cl : Cell, Arr Z h a cl .long ∧ cl.slots.size = n ∧ n < 2 ^ 31 ∧ ∀ i, i < n → cl.slots[i]? = some (.long (f i))
theorem clamp_of {j : Int32} {i : Nat} (hj : j.toInt = (i : Int)) : j.toNatClampNeg = i := by
  show j.toInt.toNat = i
  omega
theorem in_of {j : Int32} {i n : Nat} (hj : j.toInt = (i : Int)) (hi : i < n) {sz : Nat} (hs : sz = n) : ¬ (j < 0 ∨ sz ≤ j.toNatClampNeg) := by
  rw [clamp_of hj]
  intro q
  rcases q with q | q
  · rw [Int32.lt_iff_toInt_lt] at q
    have : (0 : Int32).toInt = 0 := rfl
    omega
  · omega
theorem len32 {z : Int32} {n : Nat} (hz : z.toInt = (n : Int)) : n.toInt32 = z := by
  apply Int32.toInt_inj.mp
  rw [hz]
  have h2 : z.toInt < 2147483648 := z.toInt_lt
  rw [hz] at h2
  exact Int32.toInt_ofNat_of_lt (by omega)
section AFacts
variable {h' : Heap} {a b : Addr} {ty : FieldType} {n sl : Nat} {f : Nat → Int32} {g : Nat → Int64} {v : Value} {ws : List Addr}
theorem AI.lt (F : AI Z h a ty n f) : a < h.size := by obtain ⟨c, A, -⟩ := F; exact A.lt
theorem AI.ext (F : AI Z h a ty n f) (E : Ext h h') : AI Z h' a ty n f := by obtain ⟨c, A, r⟩ := F; exact ⟨c, A.ext E, r⟩
theorem AI.other (F : AI Z h b ty n f) (W : Wr h h' a sl v) (q : b ≠ a) : AI Z h' b ty n f := by obtain ⟨c, A, r⟩ := F; exact ⟨c, A.other W q, r⟩
theorem AI.keep (F : AI Z h a ty n f) (K : Keep h h' ws) (q : a ∉ ws) : AI Z h' a ty n f := by obtain ⟨c, A, r⟩ := F; exact ⟨c, ⟨K.2.1 a c A.1 q, A.2⟩, r⟩
theorem AI.congr {f' : Nat → Int32} (F : AI Z h a ty n f) (q : ∀ i, i < n → f i = f' i) : AI Z h a ty n f' := by
  obtain ⟨c, A, r1, r2, r3⟩ := F; exact ⟨c, A, r1, r2, fun i hi => by rw [r3 i hi, q i hi]⟩
theorem AI.bound (F : AI Z h a ty n f) : n < 2 ^ 31 := by obtain ⟨c, A, r1, r2, r3⟩ := F; exact r2
theorem AI.set {i : Nat} {x : Int32} (F : AI Z h a ty n f) (W : Wr h h' a i (.int x)) : AI Z h' a ty n (fun k => if k = i then x else f k) := by
  obtain ⟨c, A, r1, r2, r3⟩ := F
  refine ⟨_, A.same W, by rw [sz_set]; exact r1, r2, fun k hk => ?_⟩
  by_cases q : k = i
  · subst q; simp [Cell.setSlot, r1, hk]
  · simp only [Cell.setSlot, if_neg q]
    rw [Array.getElem?_setIfInBounds_ne (fun e => q e.symm)]
    exact r3 k hk
theorem AI.new {k : ClassId} {z : Int32} {n : Nat} (hz : z.toInt = (n : Int)) (ht : defaultValue ty = .int 0) (A : Arr Z h a (newA k ty z) ty) : AI Z h a ty n (fun _ => 0) := by
  have h2 : z.toInt < 2147483648 := z.toInt_lt
  refine ⟨_, A, by rw [sz_new, clamp_of hz], by omega, fun i hi => ?_⟩
  simp [newA, clamp_of hz, hi, ht]
theorem AJ.lt (F : AJ Z h a n g) : a < h.size := by obtain ⟨c, A, -⟩ := F; exact A.lt
theorem AJ.ext (F : AJ Z h a n g) (E : Ext h h') : AJ Z h' a n g := by obtain ⟨c, A, r⟩ := F; exact ⟨c, A.ext E, r⟩
theorem AJ.other (F : AJ Z h b n g) (W : Wr h h' a sl v) (q : b ≠ a) : AJ Z h' b n g := by obtain ⟨c, A, r⟩ := F; exact ⟨c, A.other W q, r⟩
theorem AJ.keep (F : AJ Z h a n g) (K : Keep h h' ws) (q : a ∉ ws) : AJ Z h' a n g := by obtain ⟨c, A, r⟩ := F; exact ⟨c, ⟨K.2.1 a c A.1 q, A.2⟩, r⟩
theorem AJ.congr {g' : Nat → Int64} (F : AJ Z h a n g) (q : ∀ i, i < n → g i = g' i) : AJ Z h a n g' := by
  obtain ⟨c, A, r1, r2, r3⟩ := F; exact ⟨c, A, r1, r2, fun i hi => by rw [r3 i hi, q i hi]⟩
theorem AJ.set {i : Nat} {x : Int64} (F : AJ Z h a n g) (W : Wr h h' a i (.long x)) : AJ Z h' a n (fun k => if k = i then x else g k) := by
  obtain ⟨c, A, r1, r2, r3⟩ := F
  refine ⟨_, A.same W, by rw [sz_set]; exact r1, r2, fun k hk => ?_⟩
  by_cases q : k = i
  · subst q; simp [Cell.setSlot, r1, hk]
  · simp only [Cell.setSlot, if_neg q]
    rw [Array.getElem?_setIfInBounds_ne (fun e => q e.symm)]
    exact r3 k hk
theorem AJ.new {k : ClassId} {z : Int32} {n : Nat} (hz : z.toInt = (n : Int)) (A : Arr Z h a (newA k .long z) .long) : AJ Z h a n (fun _ => 0) := by
  have h2 : z.toInt < 2147483648 := z.toInt_lt
  refine ⟨_, A, by rw [sz_new, clamp_of hz], by omega, fun i hi => ?_⟩
  simp [newA, clamp_of hz, hi, defaultValue]
end AFacts
theorem Go.newP (C : Cx p s m meth c Z bytes own ret maxL) (X : On p l e R s m args below meth c n0 T h cells slots) {aty : ArrayType} {z : Int32} {nn cap : Nat} (w : (Cond.arrayClass (newarray.typeOf aty)).before a0 Z = true) (hd : decode bytes pc = .ok (.newarray aty, 2)) (hz : z.toInt = (nn : Int)) (hcap : nn ≤ cap) (hbig : cap * 8 ≤ 536870912) (hc : cells + 1 ≤ R.cells) (hl : slots + cap ≤ R.slots) (hp : pc + 2 = pc')
    (k : ∀ T' h' a cA, On p l e R s m args below meth c n0 T' h' (cells + 1) (slots + cap) → a = h.size → Ext h h' → Arr Z h' a (newA cA (newarray.typeOf aty) z) (newarray.typeOf aty) → n0 ≤ a → Go p e below Ed n0 rc rs P T' (mkF m pc' Ls (.ref a :: st))) : Go p e below Ed n0 rc rs P T (mkF m pc Ls (.int z :: st)) := by
  obtain ⟨locs, X, eT, N, hn⟩ := X; obtain ⟨hx, hZ, hby, hown, hml, hlk, hrt⟩ := C; subst hp
  obtain ⟨T', h', cA, X', e', E, A, st'⟩ := RoadKit.newP X hx hZ w eT (g := mkF m pc Ls (.int z :: st)) rfl (hb hby hd) rfl (by rw [Int32.lt_iff_toInt_lt]; have : (0 : Int32).toInt = 0 := rfl; omega) (cap := cap) (by rw [clamp_of hz]; exact hcap) hbig hc hl
  exact Go.of st' (k T' h' h.size cA ⟨_, X', e', N, Nat.le_trans hn E.1⟩ rfl E A hn)
theorem Go.alenI (C : Cx p s m meth c Z bytes own ret maxL) (X : On p l e R s m args below meth c n0 T h cells slots) {a : Addr} {ty : FieldType} {n : Nat} {f : Nat → Int32} {z : Int32} (A : AI Z h a ty n f) (hz : z.toInt = (n : Int)) (hd : decode bytes pc = .ok (.arraylength, 1)) (hp : pc + 1 = pc') (k : Go p e below Ed n0 rc rs P T (mkF m pc' Ls (.int z :: st))) : Go p e below Ed n0 rc rs P T (mkF m pc Ls (.ref a :: st)) := by
  obtain ⟨locs, X, eT, N, hn⟩ := X; obtain ⟨hx, hZ, hby, hown, hml, hlk, hrt⟩ := C; subst hp
  obtain ⟨cl, A, r1, r2, r3⟩ := A
  refine Go.of (fun t q => X.arraylength hx (by rw [eT]; exact A.1) (State.isArrayOf_alike hZ.alike A.2.1) (g := mkF m pc Ls (.ref a :: st)) rfl rfl (hb hby hd) t ?_) k
  rw [r1, len32 hz]; exact q
theorem Go.alenJ (C : Cx p s m meth c Z bytes own ret maxL) (X : On p l e R s m args below meth c n0 T h cells slots) {a : Addr} {n : Nat} {f : Nat → Int64} {z : Int32} (A : AJ Z h a n f) (hz : z.toInt = (n : Int)) (hd : decode bytes pc = .ok (.arraylength, 1)) (hp : pc + 1 = pc') (k : Go p e below Ed n0 rc rs P T (mkF m pc' Ls (.int z :: st))) : Go p e below Ed n0 rc rs P T (mkF m pc Ls (.ref a :: st)) := by
  obtain ⟨locs, X, eT, N, hn⟩ := X; obtain ⟨hx, hZ, hby, hown, hml, hlk, hrt⟩ := C; subst hp
  obtain ⟨cl, A, r1, r2, r3⟩ := A
  refine Go.of (fun t q => X.arraylength hx (by rw [eT]; exact A.1) (State.isArrayOf_alike hZ.alike A.2.1) (g := mkF m pc Ls (.ref a :: st)) rfl rfl (hb hby hd) t ?_) k
  rw [r1, len32 hz]; exact q
theorem Go.iaload (C : Cx p s m meth c Z bytes own ret maxL) (X : On p l e R s m args below meth c n0 T h cells slots) {a : Addr} {n : Nat} {f : Nat → Int32} {j : Int32} {i : Nat} {w : Int32} (A : AI Z h a .int n f) (hj : j.toInt = (i : Int)) (hi : i < n) (hw : f i = w) (hd : decode bytes pc = .ok (.iaload, 1)) (hp : pc + 1 = pc') (k : Go p e below Ed n0 rc rs P T (mkF m pc' Ls (.int w :: st))) : Go p e below Ed n0 rc rs P T (mkF m pc Ls (.int j :: .ref a :: st)) := by
  obtain ⟨locs, X, eT, N, hn⟩ := X; obtain ⟨hx, hZ, hby, hown, hml, hlk, hrt⟩ := C; subst hp hw
  obtain ⟨cl, A, r1, r2, r3⟩ := A
  exact Go.of (fun t q => X.iaload hx (j := j) (v := .int (f i)) (by rw [eT]; exact A.1) (State.isArrayOf_alike hZ.alike A.2.1) A.2.2 (in_of hj hi r1) (by rw [clamp_of hj]; exact r3 i hi) (g := mkF m pc Ls (.int j :: .ref a :: st)) rfl rfl (hb hby hd) t q) k
theorem Go.baload (C : Cx p s m meth c Z bytes own ret maxL) (X : On p l e R s m args below meth c n0 T h cells slots) {a : Addr} {n : Nat} {f : Nat → Int32} {j : Int32} {i : Nat} {w : Int32} (A : AI Z h a .byte n f) (hj : j.toInt = (i : Int)) (hi : i < n) (hw : f i = w) (hd : decode bytes pc = .ok (.baload, 1)) (hp : pc + 1 = pc') (k : Go p e below Ed n0 rc rs P T (mkF m pc' Ls (.int w :: st))) : Go p e below Ed n0 rc rs P T (mkF m pc Ls (.int j :: .ref a :: st)) := by
  obtain ⟨locs, X, eT, N, hn⟩ := X; obtain ⟨hx, hZ, hby, hown, hml, hlk, hrt⟩ := C; subst hp hw
  obtain ⟨cl, A, r1, r2, r3⟩ := A
  exact Go.of (fun t q => X.baloadBytes hx (j := j) (v := .int (f i)) (by rw [eT]; exact A.1) (State.isArrayOf_alike hZ.alike A.2.1) A.2.2 (in_of hj hi r1) (by rw [clamp_of hj]; exact r3 i hi) (g := mkF m pc Ls (.int j :: .ref a :: st)) rfl rfl (hb hby hd) t q) k
theorem Go.zaload (C : Cx p s m meth c Z bytes own ret maxL) (X : On p l e R s m args below meth c n0 T h cells slots) {a : Addr} {n : Nat} {f : Nat → Int32} {j : Int32} {i : Nat} {w : Int32} (A : AI Z h a .boolean n f) (hj : j.toInt = (i : Int)) (hi : i < n) (hw : f i = w) (hd : decode bytes pc = .ok (.baload, 1)) (hp : pc + 1 = pc') (k : Go p e below Ed n0 rc rs P T (mkF m pc' Ls (.int w :: st))) : Go p e below Ed n0 rc rs P T (mkF m pc Ls (.int j :: .ref a :: st)) := by
  obtain ⟨locs, X, eT, N, hn⟩ := X; obtain ⟨hx, hZ, hby, hown, hml, hlk, hrt⟩ := C; subst hp hw
  obtain ⟨cl, A, r1, r2, r3⟩ := A
  exact Go.of (fun t q => X.baloadBooleans hx (j := j) (v := .int (f i)) (by rw [eT]; exact A.1) (State.isArrayOf_alike hZ.alike A.2.1) A.2.2 (in_of hj hi r1) (by rw [clamp_of hj]; exact r3 i hi) (g := mkF m pc Ls (.int j :: .ref a :: st)) rfl rfl (hb hby hd) t q) k
theorem Go.caload (C : Cx p s m meth c Z bytes own ret maxL) (X : On p l e R s m args below meth c n0 T h cells slots) {a : Addr} {n : Nat} {f : Nat → Int32} {j : Int32} {i : Nat} {w : Int32} (A : AI Z h a .char n f) (hj : j.toInt = (i : Int)) (hi : i < n) (hw : f i = w) (hd : decode bytes pc = .ok (.caload, 1)) (hp : pc + 1 = pc') (k : Go p e below Ed n0 rc rs P T (mkF m pc' Ls (.int w :: st))) : Go p e below Ed n0 rc rs P T (mkF m pc Ls (.int j :: .ref a :: st)) := by
  obtain ⟨locs, X, eT, N, hn⟩ := X; obtain ⟨hx, hZ, hby, hown, hml, hlk, hrt⟩ := C; subst hp hw
  obtain ⟨cl, A, r1, r2, r3⟩ := A
  exact Go.of (fun t q => X.caload hx (j := j) (v := .int (f i)) (by rw [eT]; exact A.1) (State.isArrayOf_alike hZ.alike A.2.1) A.2.2 (in_of hj hi r1) (by rw [clamp_of hj]; exact r3 i hi) (g := mkF m pc Ls (.int j :: .ref a :: st)) rfl rfl (hb hby hd) t q) k
theorem Go.laload (C : Cx p s m meth c Z bytes own ret maxL) (X : On p l e R s m args below meth c n0 T h cells slots) {a : Addr} {n : Nat} {f : Nat → Int64} {j : Int32} {i : Nat} {w : Int64} (A : AJ Z h a n f) (hj : j.toInt = (i : Int)) (hi : i < n) (hw : f i = w) (hd : decode bytes pc = .ok (.laload, 1)) (hp : pc + 1 = pc') (k : Go p e below Ed n0 rc rs P T (mkF m pc' Ls (.long w :: st))) : Go p e below Ed n0 rc rs P T (mkF m pc Ls (.int j :: .ref a :: st)) := by
  obtain ⟨locs, X, eT, N, hn⟩ := X; obtain ⟨hx, hZ, hby, hown, hml, hlk, hrt⟩ := C; subst hp hw
  obtain ⟨cl, A, r1, r2, r3⟩ := A
  exact Go.of (fun t q => X.laload hx (j := j) (v := .long (f i)) (by rw [eT]; exact A.1) (State.isArrayOf_alike hZ.alike A.2.1) A.2.2 (in_of hj hi r1) (by rw [clamp_of hj]; exact r3 i hi) (g := mkF m pc Ls (.int j :: .ref a :: st)) rfl rfl (hb hby hd) t q) k
theorem Go.iastore (C : Cx p s m meth c Z bytes own ret maxL) (X : On p l e R s m args below meth c n0 T h cells slots) {a : Addr} {n : Nat} {f : Nat → Int32} {j x x' : Int32} {i : Nat} (A : AI Z h a .int n f) (hj : j.toInt = (i : Int)) (hi : i < n) (hv : x = x') (ha : n0 ≤ a) (hd : decode bytes pc = .ok (.iastore, 1)) (hp : pc + 1 = pc')
    (k : ∀ T' h', On p l e R s m args below meth c n0 T' h' cells slots → Wr h h' a i (.int x') → AI Z h' a .int n (fun q => if q = i then x' else f q) → Go p e below Ed n0 rc rs P T' (mkF m pc' Ls st)) : Go p e below Ed n0 rc rs P T (mkF m pc Ls (.int x :: .int j :: .ref a :: st)) := by
  obtain ⟨locs, X, eT, N, hn⟩ := X; obtain ⟨hx, hZ, hby, hown, hml, hlk, hrt⟩ := C; subst hp hv
  obtain ⟨cl, A', r1, r2, r3⟩ := id A
  obtain ⟨T', h', X', e', W, st'⟩ := RoadKit.stI X hx hZ eT A' (in_of hj hi r1) (g := mkF m pc Ls (.int x :: .int j :: .ref a :: st)) rfl rfl (hb hby hd)
  have N' := Fr.snoc X' N ha
  rw [clamp_of hj] at W
  exact Go.of st' (k T' h' ⟨_, X', e', N', by rw [W.size]; exact hn⟩ W (A.set W))
theorem Go.bastore (C : Cx p s m meth c Z bytes own ret maxL) (X : On p l e R s m args below meth c n0 T h cells slots) {a : Addr} {n : Nat} {f : Nat → Int32} {j x x' : Int32} {i : Nat} (A : AI Z h a .byte n f) (hj : j.toInt = (i : Int)) (hi : i < n) (hv : nar .byte x = x') (ha : n0 ≤ a) (hd : decode bytes pc = .ok (.bastore, 1)) (hp : pc + 1 = pc')
    (k : ∀ T' h', On p l e R s m args below meth c n0 T' h' cells slots → Wr h h' a i (.int x') → AI Z h' a .byte n (fun q => if q = i then x' else f q) → Go p e below Ed n0 rc rs P T' (mkF m pc' Ls st)) : Go p e below Ed n0 rc rs P T (mkF m pc Ls (.int x :: .int j :: .ref a :: st)) := by
  obtain ⟨locs, X, eT, N, hn⟩ := X; obtain ⟨hx, hZ, hby, hown, hml, hlk, hrt⟩ := C; subst hp hv
  obtain ⟨cl, A', r1, r2, r3⟩ := id A
  obtain ⟨T', h', X', e', W, st'⟩ := RoadKit.stB X hx hZ eT A' (in_of hj hi r1) (g := mkF m pc Ls (.int x :: .int j :: .ref a :: st)) rfl rfl (hb hby hd)
  have N' := Fr.snoc X' N ha
  rw [clamp_of hj] at W
  exact Go.of st' (k T' h' ⟨_, X', e', N', by rw [W.size]; exact hn⟩ W (A.set W))
theorem Go.castore (C : Cx p s m meth c Z bytes own ret maxL) (X : On p l e R s m args below meth c n0 T h cells slots) {a : Addr} {n : Nat} {f : Nat → Int32} {j x x' : Int32} {i : Nat} (A : AI Z h a .char n f) (hj : j.toInt = (i : Int)) (hi : i < n) (hv : nar .char x = x') (ha : n0 ≤ a) (hd : decode bytes pc = .ok (.castore, 1)) (hp : pc + 1 = pc')
    (k : ∀ T' h', On p l e R s m args below meth c n0 T' h' cells slots → Wr h h' a i (.int x') → AI Z h' a .char n (fun q => if q = i then x' else f q) → Go p e below Ed n0 rc rs P T' (mkF m pc' Ls st)) : Go p e below Ed n0 rc rs P T (mkF m pc Ls (.int x :: .int j :: .ref a :: st)) := by
  obtain ⟨locs, X, eT, N, hn⟩ := X; obtain ⟨hx, hZ, hby, hown, hml, hlk, hrt⟩ := C; subst hp hv
  obtain ⟨cl, A', r1, r2, r3⟩ := id A
  obtain ⟨T', h', X', e', W, st'⟩ := RoadKit.stC X hx hZ eT A' (in_of hj hi r1) (g := mkF m pc Ls (.int x :: .int j :: .ref a :: st)) rfl rfl (hb hby hd)
  have N' := Fr.snoc X' N ha
  rw [clamp_of hj] at W
  exact Go.of st' (k T' h' ⟨_, X', e', N', by rw [W.size]; exact hn⟩ W (A.set W))
theorem Go.zastore (C : Cx p s m meth c Z bytes own ret maxL) (X : On p l e R s m args below meth c n0 T h cells slots) {a : Addr} {n : Nat} {f : Nat → Int32} {j x x' : Int32} {i : Nat} (A : AI Z h a .boolean n f) (hj : j.toInt = (i : Int)) (hi : i < n) (hv : nar .boolean x = x') (ha : n0 ≤ a) (hd : decode bytes pc = .ok (.bastore, 1)) (hp : pc + 1 = pc')
    (k : ∀ T' h', On p l e R s m args below meth c n0 T' h' cells slots → Wr h h' a i (.int x') → AI Z h' a .boolean n (fun q => if q = i then x' else f q) → Go p e below Ed n0 rc rs P T' (mkF m pc' Ls st)) : Go p e below Ed n0 rc rs P T (mkF m pc Ls (.int x :: .int j :: .ref a :: st)) := by
  obtain ⟨locs, X, eT, N, hn⟩ := X; obtain ⟨hx, hZ, hby, hown, hml, hlk, hrt⟩ := C; subst hp hv
  obtain ⟨cl, A', r1, r2, r3⟩ := id A
  obtain ⟨T', h', X', e', W, st'⟩ := RoadKit.stZ X hx hZ eT A' (in_of hj hi r1) (g := mkF m pc Ls (.int x :: .int j :: .ref a :: st)) rfl rfl (hb hby hd)
  have N' := Fr.snoc X' N ha
  rw [clamp_of hj] at W
  exact Go.of st' (k T' h' ⟨_, X', e', N', by rw [W.size]; exact hn⟩ W (A.set W))
theorem Go.lastore (C : Cx p s m meth c Z bytes own ret maxL) (X : On p l e R s m args below meth c n0 T h cells slots) {a : Addr} {n : Nat} {f : Nat → Int64} {j : Int32} {x : Int64} {i : Nat} (A : AJ Z h a n f) (hj : j.toInt = (i : Int)) (hi : i < n) (ha : n0 ≤ a) (hd : decode bytes pc = .ok (.lastore, 1)) (hp : pc + 1 = pc')
    (k : ∀ T' h', On p l e R s m args below meth c n0 T' h' cells slots → Wr h h' a i (.long x) → AJ Z h' a n (fun q => if q = i then x else f q) → Go p e below Ed n0 rc rs P T' (mkF m pc' Ls st)) : Go p e below Ed n0 rc rs P T (mkF m pc Ls (.long x :: .int j :: .ref a :: st)) := by
  obtain ⟨locs, X, eT, N, hn⟩ := X; obtain ⟨hx, hZ, hby, hown, hml, hlk, hrt⟩ := C; subst hp
  obtain ⟨cl, A', r1, r2, r3⟩ := id A
  obtain ⟨T', h', X', e', W, st'⟩ := RoadKit.stJ X hx hZ eT A' (in_of hj hi r1) (g := mkF m pc Ls (.long x :: .int j :: .ref a :: st)) rfl rfl (hb hby hd)
  have N' := Fr.snoc X' N ha
  rw [clamp_of hj] at W
  exact Go.of st' (k T' h' ⟨_, X', e', N', by rw [W.size]; exact hn⟩ W (A.set W))
def AR (Z : State) (h : Heap) (a : Addr) (ty : FieldType) (n : Nat) (f : Nat → Value) : Prop := ∃ cl : Cell, Arr Z h a cl ty ∧ cl.slots.size = n ∧ n < 2 ^ 31 ∧ (∀ i, i < n → cl.slots[i]? = some (f i)) ∧ FitC Z cl
theorem AR.lt {a : Addr} {ty : FieldType} {n : Nat} {f : Nat → Value} (F : AR Z h a ty n f) : a < h.size := by obtain ⟨c, A, -⟩ := F; exact A.lt
theorem AR.ext {h' : Heap} {a : Addr} {ty : FieldType} {n : Nat} {f : Nat → Value} (F : AR Z h a ty n f) (E : Ext h h') : AR Z h' a ty n f := by obtain ⟨c, A, r⟩ := F; exact ⟨c, A.ext E, r⟩
theorem AR.other {h' : Heap} {a b : Addr} {sl : Nat} {v : Value} {ty : FieldType} {n : Nat} {f : Nat → Value} (F : AR Z h b ty n f) (W : Wr h h' a sl v) (q : b ≠ a) : AR Z h' b ty n f := by obtain ⟨c, A, r⟩ := F; exact ⟨c, A.other W q, r⟩
theorem AR.keep {h' : Heap} {a : Addr} {ws : List Addr} {ty : FieldType} {n : Nat} {f : Nat → Value} (F : AR Z h a ty n f) (K : Keep h h' ws) (q : a ∉ ws) : AR Z h' a ty n f := by obtain ⟨c, A, r⟩ := F; exact ⟨c, ⟨K.2.1 a c A.1 q, A.2⟩, r⟩
theorem Go.alenR (C : Cx p s m meth c Z bytes own ret maxL) (X : On p l e R s m args below meth c n0 T h cells slots) {a : Addr} {ty : FieldType} {n : Nat} {f : Nat → Value} {z : Int32} (A : AR Z h a ty n f) (hz : z.toInt = (n : Int)) (hd : decode bytes pc = .ok (.arraylength, 1)) (hp : pc + 1 = pc') (k : Go p e below Ed n0 rc rs P T (mkF m pc' Ls (.int z :: st))) : Go p e below Ed n0 rc rs P T (mkF m pc Ls (.ref a :: st)) := by
  obtain ⟨locs, X, eT, N, hn⟩ := X; obtain ⟨hx, hZ, hby, hown, hml, hlk, hrt⟩ := C; subst hp
  obtain ⟨cl, A, r1, r2, r3⟩ := A
  refine Go.of (fun t q => X.arraylength hx (by rw [eT]; exact A.1) (State.isArrayOf_alike hZ.alike A.2.1) (g := mkF m pc Ls (.ref a :: st)) rfl rfl (hb hby hd) t ?_) k
  rw [r1, len32 hz]; exact q
theorem Go.aaload (C : Cx p s m meth c Z bytes own ret maxL) (X : On p l e R s m args below meth c n0 T h cells slots) {a : Addr} {ty : FieldType} {n : Nat} {f : Nat → Value} {j : Int32} {i : Nat} {w : Value} (A : AR Z h a ty n f) (hty : ty.isReference = true) (hj : j.toInt = (i : Int)) (hi : i < n) (hw : f i = w) (hd : decode bytes pc = .ok (.aaload, 1)) (hp : pc + 1 = pc') (k : Go p e below Ed n0 rc rs P T (mkF m pc' Ls (w :: st))) : Go p e below Ed n0 rc rs P T (mkF m pc Ls (.int j :: .ref a :: st)) := by
  obtain ⟨locs, X, eT, N, hn⟩ := X; obtain ⟨hx, hZ, hby, hown, hml, hlk, hrt⟩ := C; subst hp hw
  obtain ⟨cl, A, r1, r2, r3, r4⟩ := A
  exact Go.of (fun t q => X.aaload hx (j := j) (v := f i) (by rw [eT]; exact A.1) (State.isArrayOf_alike hZ.alike A.2.1) hty A.2.2 (in_of hj hi r1) (by rw [clamp_of hj]; exact r3 i hi) (g := mkF m pc Ls (.int j :: .ref a :: st)) rfl rfl (hb hby hd) t q) k
theorem Go.cloneA (C : Cx p s m meth c Z bytes own ret maxL) (X : On p l e R s m args below meth c n0 T h cells slots) {ad : String} {i : Nat} {a : Addr} {ty : FieldType} {n W cap : Nat} {f : Nat → Value}
    (w1 : (Cond.methodLink own i ⟨ad, "clone", "()Ljava/lang/Object;"⟩).before a0 Z = true) (w2 : (Cond.sameMethod ad "java/lang/Object" "clone" "()Ljava/lang/Object;").before a0 Z = true) (w3 : (Cond.native ⟨"java/lang/Object", "clone", "()Ljava/lang/Object;"⟩).before a0 Z = true)
    (w4 : (Cond.instanceMethod ⟨"java/lang/Object", "clone", "()Ljava/lang/Object;"⟩).before a0 Z = true) (w5 : (Cond.selects ad ⟨ad, "clone", "()Ljava/lang/Object;"⟩ ⟨"java/lang/Object", "clone", "()Ljava/lang/Object;"⟩).before a0 Z = true) (w6 : (Cond.castable ad "java/lang/Cloneable").before a0 Z = true)
    (A : AR Z h a ty n f) (E : Exa Z h a ad) (hsz : Ls.size = maxL) (hd : decode bytes pc = .ok (.invokevirtual i, 3)) (hf : 1 ≤ R.frames) (hW : (st.map fun v => v.category).sum ≤ W) (hl : W + 14 ≤ R.locals) (hcap : n ≤ cap) (hc : cells + 1 ≤ R.cells) (hsl : slots + cap ≤ R.slots) (hp : pc + 3 = pc')
    (k : ∀ T' h' b, On p l e R s m args below meth c n0 T' h' (cells + 1) (slots + cap) → b = h.size → Ext h h' → AR Z h' b ty n f → Exa Z h' b ad → n0 ≤ b → Go p e below Ed n0 rc rs P T' (mkF m pc' Ls (.ref b :: st))) : Go p e below Ed n0 rc rs P T (mkF m pc Ls (.ref a :: st)) := by
  obtain ⟨locs, X, eT, N, hn⟩ := X; obtain ⟨hx, hZ, hby, hown, hml, hlk, hrt⟩ := C; subst hp
  obtain ⟨cl, A, r1, r2, r3, r4⟩ := A
  obtain ⟨T', h', X', e', ex, A', E', st'⟩ := RoadKit.cloneA X hx hZ hown w1 w2 w3 w4 w5 w6 eT A E r4 (g := mkF m pc Ls (.ref a :: st)) rfl (by rw [hml]; exact hsz) rfl (hb hby hd) hf (W := W) (cap := cap) (by simpa using hW) hl (by rw [r1]; exact hcap) hc hsl
  exact Go.of st' (k T' h' h.size ⟨_, X', e', N, Nat.le_trans hn ex.1⟩ rfl ex ⟨cloneOf cl, A', r1, r2, r3, r4⟩ E' hn)
theorem Go.callS (C : Cx p s m meth c Z bytes own ret maxL) (X : On p l e R s m args below meth c n0 T h cells slots) {y : MethodName} {cb : ByteArray} {cm : Nat} {cr : Option FieldType} {rm : Room} {as' : Array Value} {P' : Option Value → Heap → Prop} {i W : Nat} {argsL rest : List Value} (K : Con l Z y cb cm cr rm as' h n0 P') (w1 : (Cond.methodLink own i y).before a0 Z = true) (w2 : (Cond.static y).before a0 Z = true) (w3 : (Cond.initialized y.cls).before a0 Z = true) (w4 : (Cond.code y cb cm cr).before a0 Z = true) (hy : y.cls ≠ "java/lang/invoke/MethodHandle" ∧ y.cls ≠ "java/lang/invoke/VarHandle")
    (has : argsL.toArray = as') (hst : st = argsL.reverse ++ rest) (hlen : ∀ sig, parseMethodDescriptor y.desc = some sig → argsL.length = sig.parameters.length) (hsz : Ls.size = maxL) (hW : (rest.map fun v => v.category).sum ≤ W) (hf : rm.frames + 1 ≤ R.frames) (hlo : W + (cm + 11) + rm.locals ≤ R.locals) (hce : cells + rm.cells ≤ R.cells) (hsl : slots + rm.slots ≤ R.slots) (hd : decode bytes pc = .ok (.invokestatic i, 3)) (hp : pc + 3 = pc')
    (hgrow : ∀ v h', P' v h' → h.size ≤ h'.size)
    (k : ∀ T' h' v, On p l e R s m args below meth c n0 T' h' (cells + rm.cells) (slots + rm.slots) → P' v h' → Go p e below Ed n0 rc rs P T' (mkF m pc' Ls (v.toList ++ rest))) : Go p e below Ed n0 rc rs P T (mkF m pc Ls st) := by
  obtain ⟨locs, X, eT, N, hn⟩ := X; obtain ⟨hx, hZ, hby, hown, hml, hlk, hrt⟩ := C; subst hp has hst
  obtain ⟨v, _, ⟨T', L', k', n'⟩, -, X', ⟨Lc, hQ, l', y', z'⟩, st'⟩ := Jvm.LawKit.callS X hx (y := y) hown (mvT hZ w1) (mvT hZ w2) (mvT hZ w3) (mvT hZ w4) hy (K.back (W := W) hZ w4 w3 hf hlo) (g := mkF m pc Ls (argsL.reverse ++ rest)) rfl (by rw [hml]; exact hsz) (argsL := argsL) (rest := rest) hlen rfl (by simpa using hW) (hb hby hd) (fun _ _ => ⟨rfl, eT, hce, hsl⟩)
  dsimp only [Pt.U, Pt.locs, Pt.cells, Pt.slots] at X' l' y' z' st' hQ
  subst l' y' z'
  exact Go.of st' (k T' _ v ⟨_, X', rfl, Fr.app N hQ.2, Nat.le_trans hn (hgrow _ _ hQ.1)⟩ hQ.1)
theorem Go.callI (C : Cx p s m meth c Z bytes own ret maxL) (X : On p l e R s m args below meth c n0 T h cells slots) {y : MethodName} {cb : ByteArray} {cm : Nat} {cr : Option FieldType} {rm : Room} {as' : Array Value} {P' : Option Value → Heap → Prop} {i W : Nat} {argsL rest : List Value} (K : Con l Z y cb cm cr rm as' h n0 P') {a : Addr} (hy1 : y.name = "<init>") (hcr : cr = none) (w1 : (Cond.methodLink own i y).before a0 Z = true) (w2 : (Cond.instanceMethod y).before a0 Z = true) (w3 : (Cond.initialized y.cls).before a0 Z = true) (w4 : (Cond.code y cb cm cr).before a0 Z = true) (hy : y.cls ≠ "java/lang/invoke/MethodHandle" ∧ y.cls ≠ "java/lang/invoke/VarHandle")
    (has : (.ref a :: argsL).toArray = as') (hst : st = argsL.reverse ++ .ref a :: rest) (hlen : ∀ sig, parseMethodDescriptor y.desc = some sig → argsL.length = sig.parameters.length) (hsz : Ls.size = maxL) (hW : (rest.map fun v => v.category).sum ≤ W) (hf : rm.frames + 1 ≤ R.frames) (hlo : W + (cm + 11) + rm.locals ≤ R.locals) (hce : cells + rm.cells ≤ R.cells) (hsl : slots + rm.slots ≤ R.slots) (hd : decode bytes pc = .ok (.invokespecial i, 3)) (hp : pc + 3 = pc')
    (hgrow : ∀ v h', P' v h' → h.size ≤ h'.size)
    (k : ∀ T' h' v, On p l e R s m args below meth c n0 T' h' (cells + rm.cells) (slots + rm.slots) → P' v h' → Go p e below Ed n0 rc rs P T' (mkF m pc' Ls (v.toList ++ rest))) : Go p e below Ed n0 rc rs P T (mkF m pc Ls st) := by
  obtain ⟨locs, X, eT, N, hn⟩ := X; obtain ⟨hx, hZ, hby, hown, hml, hlk, hrt⟩ := C; subst hp has hst hcr
  obtain ⟨v, _, ⟨T', L', k', n'⟩, -, X', ⟨Lc, hQ, l', y', z'⟩, st'⟩ := X.specialBack hx (y := y) hy1 hown (mvT hZ w1) (mvT hZ w2) (mvT hZ w4) hy (K.back (W := W) hZ w4 w3 hf hlo) (g := mkF m pc Ls (argsL.reverse ++ .ref a :: rest)) rfl (by rw [hml]; exact hsz) (Steps.refl _) (a := a) (argsL := argsL) (rest := rest) hlen rfl (by simpa using hW) (hb hby hd) (fun _ _ => ⟨rfl, eT, hce, hsl⟩)
  dsimp only [Pt.U, Pt.locs, Pt.cells, Pt.slots] at X' l' y' z' st' hQ
  subst l' y' z'
  exact Go.tr st' (k T' _ v ⟨_, X', rfl, Fr.app N hQ.2, Nat.le_trans hn (hgrow _ _ hQ.1)⟩ hQ.1)
theorem Go.callV (C : Cx p s m meth c Z bytes own ret maxL) (X : On p l e R s m args below meth c n0 T h cells slots) {y : MethodName} {cb : ByteArray} {cm : Nat} {cr : Option FieldType} {rm : Room} {as' : Array Value} {P' : Option Value → Heap → Prop} {i W : Nat} {argsL rest : List Value} (K : Con l Z y cb cm cr rm as' h n0 P') {y0 : MethodName} {a : Addr} {Ck : String} (E : Exa Z h a Ck) (nf : NotFace s y0) (w1 : (Cond.methodLink own i y0).before a0 Z = true) (w2 : (Cond.declares y0).before a0 Z = true) (w5 : (Cond.selects Ck y0 y).before a0 Z = true) (w6 : (Cond.instanceMethod y).before a0 Z = true) (w3 : (Cond.initialized y.cls).before a0 Z = true) (w4 : (Cond.code y cb cm cr).before a0 Z = true) (hy : y0.cls ≠ "java/lang/invoke/MethodHandle" ∧ y0.cls ≠ "java/lang/invoke/VarHandle")
    (has : (.ref a :: argsL).toArray = as') (hst : st = argsL.reverse ++ .ref a :: rest) (hlen : ∀ sig, parseMethodDescriptor y0.desc = some sig → argsL.length = sig.parameters.length) (hsz : Ls.size = maxL) (hW : (rest.map fun v => v.category).sum ≤ W) (hf : rm.frames + 1 ≤ R.frames) (hlo : W + (cm + 11) + rm.locals ≤ R.locals) (hce : cells + rm.cells ≤ R.cells) (hsl : slots + rm.slots ≤ R.slots) (hd : decode bytes pc = .ok (.invokevirtual i, 3)) (hp : pc + 3 = pc')
    (hgrow : ∀ v h', P' v h' → h.size ≤ h'.size)
    (k : ∀ T' h' v, On p l e R s m args below meth c n0 T' h' (cells + rm.cells) (slots + rm.slots) → P' v h' → Go p e below Ed n0 rc rs P T' (mkF m pc' Ls (v.toList ++ rest))) : Go p e below Ed n0 rc rs P T (mkF m pc Ls st) := by
  obtain ⟨locs, X, eT, N, hn⟩ := X; obtain ⟨hx, hZ, hby, hown, hml, hlk, hrt⟩ := C; subst hp has hst
  obtain ⟨cq, kq, qa, qb, qc⟩ := isOf hZ eT E
  obtain ⟨v, _, ⟨T', L', k', n'⟩, -, X', ⟨Lc, hQ, l', y', z'⟩, st'⟩ := X.virtualBack hx (y := y0) (z := y) hown (mvT hZ w1) (mvT hZ w2) nf (mvT hZ w5) (mvT hZ w6) hy (K.back (W := W) hZ w4 w3 hf hlo) qa qc (g := mkF m pc Ls (argsL.reverse ++ .ref a :: rest)) rfl (by rw [hml]; exact hsz) (Steps.refl _) (argsL := argsL) (rest := rest) hlen rfl (by simpa using hW) (hb hby hd) (fun _ _ => ⟨rfl, eT, hce, hsl⟩)
  dsimp only [Pt.U, Pt.locs, Pt.cells, Pt.slots] at X' l' y' z' st' hQ
  subst l' y' z'
  exact Go.tr st' (k T' _ v ⟨_, X', rfl, Fr.app N hQ.2, Nat.le_trans hn (hgrow _ _ hQ.1)⟩ hQ.1)
theorem own_selp {y : MethodName} {kk : Nat} (hZ : Z.Warmed39 s.vm) (wi : (Cond.instantiable y.cls kk).before a0 Z = true) (w2 : (Cond.instanceMethod y).before a0 Z = true) (w6 : (Cond.privateMethod y).before a0 Z = true) (hy : y.cls ≠ "java/lang/invoke/MethodHandle" ∧ y.cls ≠ "java/lang/invoke/VarHandle") : (Cond.selects y.cls y y).before args s = true := by
  have wi' : (Cond.instantiable y.cls kk).before args s = true := mvT hZ wi
  obtain ⟨c2, k2, i1, i2, i3, i4, -⟩ := Cond.instantiable_spec wi'
  exact Jvm.Stand.selects_self_of_private i1 i2 (by simp only [Bool.or_eq_false_iff] at i4; exact i4.1) (Cond.privateMethod_at (mvP hZ w6 (args := #[]))) (mvT hZ w2) hy
theorem Go.callP (C : Cx p s m meth c Z bytes own ret maxL) (X : On p l e R s m args below meth c n0 T h cells slots) {y : MethodName} {cb : ByteArray} {cm : Nat} {cr : Option FieldType} {rm : Room} {as' : Array Value} {P' : Option Value → Heap → Prop} {i W : Nat} {argsL rest : List Value} (K : Con l Z y cb cm cr rm as' h n0 P') {a : Addr} {Ck : String} (E : Exa Z h a Ck) (w1 : (Cond.methodLink own i y).before a0 Z = true) (w2 : (Cond.instanceMethod y).before a0 Z = true) {kk : Nat} (w5 : (Cond.instantiable y.cls kk).before a0 Z = true) (w6 : (Cond.privateMethod y).before a0 Z = true) (w3 : (Cond.initialized y.cls).before a0 Z = true) (w4 : (Cond.code y cb cm cr).before a0 Z = true) (hy : y.cls ≠ "java/lang/invoke/MethodHandle" ∧ y.cls ≠ "java/lang/invoke/VarHandle")
    (has : (.ref a :: argsL).toArray = as') (hst : st = argsL.reverse ++ .ref a :: rest) (hlen : ∀ sig, parseMethodDescriptor y.desc = some sig → argsL.length = sig.parameters.length) (hsz : Ls.size = maxL) (hW : (rest.map fun v => v.category).sum ≤ W) (hf : rm.frames + 1 ≤ R.frames) (hlo : W + (cm + 11) + rm.locals ≤ R.locals) (hce : cells + rm.cells ≤ R.cells) (hsl : slots + rm.slots ≤ R.slots) (hd : decode bytes pc = .ok (.invokevirtual i, 3)) (hp : pc + 3 = pc')
    (hgrow : ∀ v h', P' v h' → h.size ≤ h'.size)
    (k : ∀ T' h' v, On p l e R s m args below meth c n0 T' h' (cells + rm.cells) (slots + rm.slots) → P' v h' → Go p e below Ed n0 rc rs P T' (mkF m pc' Ls (v.toList ++ rest))) : Go p e below Ed n0 rc rs P T (mkF m pc Ls st) := by
  obtain ⟨locs, X, eT, N, hn⟩ := X; obtain ⟨hx, hZ, hby, hown, hml, hlk, hrt⟩ := C; subst hp has hst
  obtain ⟨cq, qa, qb⟩ := E.cell
  obtain ⟨v, _, ⟨T', L', k', n'⟩, -, X', ⟨Lc, hQ, l', y', z'⟩, st'⟩ := X.privateBack hx (y := y) hown (mvT hZ w1) (mvT hZ w2) (own_selp hZ w5 w2 w6 hy) (Cond.privateMethod_at (mvP hZ w6 (args := #[]))) (mvT hZ w4) hy (K.back (W := W) hZ w4 w3 hf hlo) (g := mkF m pc Ls (argsL.reverse ++ .ref a :: rest)) rfl (by rw [hml]; exact hsz) (Steps.refl _) (a := a) (by rw [eT]; exact qa) qb (argsL := argsL) (rest := rest) hlen rfl (by simpa using hW) (hb hby hd) (fun _ _ => ⟨rfl, eT, hce, hsl⟩)
  dsimp only [Pt.U, Pt.locs, Pt.cells, Pt.slots] at X' l' y' z' st' hQ
  subst l' y' z'
  exact Go.tr st' (k T' _ v ⟨_, X', rfl, Fr.app N hQ.2, Nat.le_trans hn (hgrow _ _ hQ.1)⟩ hQ.1)
end Own
end Jvm.RoadKit
namespace Jvm.RoadKit
open Sem ClassFile Op Lib Jvm.Stand Jvm.Free Jvm.LawKit
section OwnW
variable {p : Program} {l : Launch} {e : Env} {R : Room} {s : State} {m : MethodId} {args : Array Value} {below : List Frame} {meth : Method} {c : Code} {T : State} {Z : State} {a0 : Array Value} {h : Heap} {cells slots n0 rc rs : Nat} {bytes : ByteArray} {own : String} {ret : Option FieldType} {maxL : Nat} {P : Option Value → Heap → Prop} {Ls : Array Slot} {pc pc' : Nat} {st : List Value} {EL : List (String × Nat)}
theorem Go.wide {g : JFrame} (k : Go p e below (FrameEnd s) n0 rc rs P T g) : Go p e below (ReturnedEndW s) n0 rc rs P T g := by
  obtain ⟨s₂, o, h1, h2, h3, v, L, h4, h5, h6, h7, h8⟩ := k
  exact ⟨s₂, o, h1, h2, h3, v, L, h4, h5, ReturnedEndW.of_narrow h6 h7 h8⟩
theorem Go.rebase {g : JFrame} {vm1 : Vm} {kk : Nat} (hS : s.Since vm1 kk) (k : Go p e below (ReturnedEndW (s.setVm vm1)) n0 rc rs (fun v hv => P v hv ∧ kk ≤ hv.size) T g) : Go p e below (ReturnedEndW s) n0 rc rs P T g := by
  obtain ⟨s₂, o, h1, h2, h3, v, L, h4, ⟨⟨h5, h5'⟩, h6⟩, r1, r2, r3, r4⟩ := k
  have q := hS.trans (vm₂ := s₂.vm) (n₂ := s₂.heap.size) ⟨r2, r3⟩ h5'
  exact ⟨s₂, o, h1, h2, h3, v, L, h4, ⟨h5, h6⟩, r1, q.1, q.2, r4.setVm s.vm⟩
def ConW (l : Launch) (Z : State) (y : MethodName) (bytes : ByteArray) (maxL : Nat) (ret : Option FieldType) (rm : Room) (as' : Array Value) (h0 : Heap) (n0 : Nat) (EL : List (String × Nat)) (P : Option Value → Heap → Prop) : Prop :=
  ∀ ws, MetFree l y (head1 (Cond.code y bytes maxL ret :: ws) rm) (fun a U => a = as' ∧ Z.Warmed39 U.vm ∧ U.heap = h0 ∧ CHv Z EL U.vm h0) (fun _ _ _ _ _ => True) (fun _ U o U' => ∃ v L, o = .returned v ∧ (P v U'.heap ∧ Fr n0 L) ∧ ReturnedEndW U o U' L rm.cells rm.slots)
theorem ConW.enter {y : MethodName} {rm : Room} {as' : Array Value} {h0 : Heap} (hpl : plainFor y = true) (hz : n0 ≤ h0.size)
    (body : ∀ p e s m below meth c T, Cx p s m meth c Z bytes y.cls ret maxL → meth.name = y.name → On p l e rm s m as' below meth c n0 T h0 0 0 → CHv Z EL s.vm h0 → Go p e below (ReturnedEndW s) n0 rm.cells rm.slots P T (entryFrame m as' maxL)) :
    ConW l Z y bytes maxL ret rm as' h0 n0 EL P := by
  intro ws
  refine MetFree.of_bodySF hpl hisR ?_
  intro p e s m args below meth c s₁ Bd hml0 hP hK
  obtain ⟨rfl, hZ, hh, hH⟩ := hP
  have X0 := Stand.of_body Bd
  have e0 : s₁.heap = h0 := by rw [← hh, Bd.state]; rfl
  exact body p e s m below meth c s₁ ⟨Bd.exec, hZ, Bd.bytes, findClass_of_methodNamed Bd.named, hml0, BodyLoose.notSynchronized Bd, Bd.returns⟩ (name_of_methodNamed Bd.named Bd.method).1 ⟨[], X0, e0, Fr.nil n0, hz⟩ hH
theorem ConW.back {y : MethodName} {rm : Room} {as' : Array Value} {W : Nat} {P' : Option Value → Heap → Prop} {cb : ByteArray} {cm : Nat} {cr : Option FieldType} (K : ConW l Z y cb cm cr rm as' h n0 EL P') (hZ : Z.Warmed39 s.vm) (wc : (Cond.code y cb cm cr).before a0 Z = true) (wz : (Cond.initialized y.cls).before a0 Z = true) (hf : rm.frames + 1 ≤ R.frames) (hl : W + (cm + 11) + rm.locals ≤ R.locals) (hEL : EW Z a0 EL) (H : CHv Z EL s.vm h) :
    BackS l R p e below s args y 3 W (fun A a => a = as' ∧ A.U.heap = h ∧ A.cells + rm.cells ≤ R.cells ∧ A.slots + rm.slots ≤ R.slots)
      (fun A _ v B => ∃ L, (P' v B.U.heap ∧ Fr n0 L) ∧ B.locs = A.locs ++ L ∧ B.cells = A.cells + rm.cells ∧ B.slots = A.slots + rm.slots) := by
  refine BackS.of_freeW (bytes := cb) (maxL := cm) (ret := cr) (E := fun _ _ o t L k n => k = rm.cells ∧ n = rm.slots ∧ ∃ v, o = .returned v ∧ (P' v t.heap ∧ Fr n0 L)) (K []) hf hl ?_ ?_ (fun _ _ _ _ _ _ _ _ _ => trivial) ?_ ?_
  · intro m meth c A a Y hp
    have hU : Z.Warmed39 A.U.vm := wtrans hZ Y.warmed
    exact ⟨by show (Cond.and _ .tt).before a A.U = true; rw [Cond.before_and, mv hU wc]; rfl, mv hU wc, mv hU wz, hp.2.2.1, hp.2.2.2⟩
  · intro m meth c A a g mk Y hp
    exact ⟨hp.1, wtrans hZ Y.warmed, hp.2.1, (CHv.at (s := s) (vm0 := s.vm) Y hZ hEL H).1⟩
  · rintro _ _ _ _ ⟨v, L, h1, h2, h3⟩
    exact ⟨L, _, _, h3, rfl, rfl, v, h1, h2⟩
  · rintro m meth c A a g mk v t L k n Y hp - - ⟨e1, e2, v', e3, e4⟩
    cases e3; subst e1 e2
    exact ⟨L, e4, rfl, rfl, rfl⟩
theorem Go.callSW (C : Cx p s m meth c Z bytes own ret maxL) (X : On p l e R s m args below meth c n0 T h cells slots) {y : MethodName} {cb : ByteArray} {cm : Nat} {cr : Option FieldType} {rm : Room} {as' : Array Value} {P' : Option Value → Heap → Prop} {i W : Nat} {argsL rest : List Value} (K : ConW l Z y cb cm cr rm as' h n0 EL P') (hEL : EW Z a0 EL) (H : CHv Z EL s.vm h) (w1 : (Cond.methodLink own i y).before a0 Z = true) (w2 : (Cond.static y).before a0 Z = true) (w3 : (Cond.initialized y.cls).before a0 Z = true) (w4 : (Cond.code y cb cm cr).before a0 Z = true) (hy : y.cls ≠ "java/lang/invoke/MethodHandle" ∧ y.cls ≠ "java/lang/invoke/VarHandle")
    (has : argsL.toArray = as') (hst : st = argsL.reverse ++ rest) (hlen : ∀ sig, parseMethodDescriptor y.desc = some sig → argsL.length = sig.parameters.length) (hsz : Ls.size = maxL) (hW : (rest.map fun v => v.category).sum ≤ W) (hf : rm.frames + 1 ≤ R.frames) (hlo : W + (cm + 11) + rm.locals ≤ R.locals) (hce : cells + rm.cells ≤ R.cells) (hsl : slots + rm.slots ≤ R.slots) (hd : decode bytes pc = .ok (.invokestatic i, 3)) (hp : pc + 3 = pc')
    (k : ∀ T' h' v, On p l e R (s.setVm T'.vm) m args below meth c n0 T' h' (cells + rm.cells) (slots + rm.slots) → Cx p (s.setVm T'.vm) m meth c Z bytes own ret maxL → P' v h' → Go p e below (ReturnedEndW (s.setVm T'.vm)) n0 rc rs (fun v hv => P v hv ∧ h'.size ≤ hv.size) T' (mkF m pc' Ls (v.toList ++ rest))) : Go p e below (ReturnedEndW s) n0 rc rs P T (mkF m pc Ls st) := by
  obtain ⟨locs, X, eT, N, hn⟩ := X; obtain ⟨hx, hZ, hby, hown, hml, hlk, hrt⟩ := C; subst hp has hst
  obtain ⟨v, _, ⟨T', L', k', n'⟩, -, X', hS', hg', ⟨Lc, hQ, l', y', z'⟩, st'⟩ := callSS X hx (y := y) hown (mvT hZ w1) (mvT hZ w2) (mvT hZ w3) (mvT hZ w4) hy (K.back (W := W) hZ w4 w3 hf hlo hEL H) (g := mkF m pc Ls (argsL.reverse ++ rest)) rfl (by rw [hml]; exact hsz) (argsL := argsL) (rest := rest) hlen rfl (by simpa using hW) (hb hby hd) (fun _ _ => ⟨rfl, eT, hce, hsl⟩)
  dsimp only [Pt.U, Pt.locs, Pt.cells, Pt.slots] at X' hS' l' y' z' st' hQ hg'
  subst l' y' z'
  exact Go.tr st' (Go.rebase hS' (k T' _ v ⟨_, X', rfl, Fr.app N hQ.2, Nat.le_trans hn (by rw [← eT]; exact hg')⟩ ⟨hx, State.Warmed39.trans hZ hS'.1, hby, (hS'.1.alike.findClass _ _).trans hown, hml, hlk, hrt⟩ hQ.1))
theorem Go.callIW (C : Cx p s m meth c Z bytes own ret maxL) (X : On p l e R s m args below meth c n0 T h cells slots) {y : MethodName} {cb : ByteArray} {cm : Nat} {cr : Option FieldType} {rm : Room} {as' : Array Value} {P' : Option Value → Heap → Prop} {i W : Nat} {argsL rest : List Value} (K : ConW l Z y cb cm cr rm as' h n0 EL P') {a : Addr} (hEL : EW Z a0 EL) (H : CHv Z EL s.vm h) (hy1 : y.name = "<init>") (hcr : cr = none) (w1 : (Cond.methodLink own i y).before a0 Z = true) (w2 : (Cond.instanceMethod y).before a0 Z = true) (w3 : (Cond.initialized y.cls).before a0 Z = true) (w4 : (Cond.code y cb cm cr).before a0 Z = true) (hy : y.cls ≠ "java/lang/invoke/MethodHandle" ∧ y.cls ≠ "java/lang/invoke/VarHandle")
    (has : (.ref a :: argsL).toArray = as') (hst : st = argsL.reverse ++ .ref a :: rest) (hlen : ∀ sig, parseMethodDescriptor y.desc = some sig → argsL.length = sig.parameters.length) (hsz : Ls.size = maxL) (hW : (rest.map fun v => v.category).sum ≤ W) (hf : rm.frames + 1 ≤ R.frames) (hlo : W + (cm + 11) + rm.locals ≤ R.locals) (hce : cells + rm.cells ≤ R.cells) (hsl : slots + rm.slots ≤ R.slots) (hd : decode bytes pc = .ok (.invokespecial i, 3)) (hp : pc + 3 = pc')
    (k : ∀ T' h' v, On p l e R (s.setVm T'.vm) m args below meth c n0 T' h' (cells + rm.cells) (slots + rm.slots) → Cx p (s.setVm T'.vm) m meth c Z bytes own ret maxL → P' v h' → Go p e below (ReturnedEndW (s.setVm T'.vm)) n0 rc rs (fun v hv => P v hv ∧ h'.size ≤ hv.size) T' (mkF m pc' Ls (v.toList ++ rest))) : Go p e below (ReturnedEndW s) n0 rc rs P T (mkF m pc Ls st) := by
  obtain ⟨locs, X, eT, N, hn⟩ := X; obtain ⟨hx, hZ, hby, hown, hml, hlk, hrt⟩ := C; subst hp has hst hcr
  obtain ⟨v, _, ⟨T', L', k', n'⟩, -, X', hS', hg', ⟨Lc, hQ, l', y', z'⟩, st'⟩ := X.specialBackS hx (y := y) hy1 hown (mvT hZ w1) (mvT hZ w2) (mvT hZ w4) hy (K.back (W := W) hZ w4 w3 hf hlo hEL H) (g := mkF m pc Ls (argsL.reverse ++ .ref a :: rest)) rfl (by rw [hml]; exact hsz) (Steps.refl _) (a := a) (argsL := argsL) (rest := rest) hlen rfl (by simpa using hW) (hb hby hd) (fun _ _ => ⟨rfl, eT, hce, hsl⟩)
  dsimp only [Pt.U, Pt.locs, Pt.cells, Pt.slots] at X' hS' l' y' z' st' hQ hg'
  subst l' y' z'
  exact Go.tr st' (Go.rebase hS' (k T' _ v ⟨_, X', rfl, Fr.app N hQ.2, Nat.le_trans hn (by rw [← eT]; exact hg')⟩ ⟨hx, State.Warmed39.trans hZ hS'.1, hby, (hS'.1.alike.findClass _ _).trans hown, hml, hlk, hrt⟩ hQ.1))
theorem Go.callVW (C : Cx p s m meth c Z bytes own ret maxL) (X : On p l e R s m args below meth c n0 T h cells slots) {y : MethodName} {cb : ByteArray} {cm : Nat} {cr : Option FieldType} {rm : Room} {as' : Array Value} {P' : Option Value → Heap → Prop} {i W : Nat} {argsL rest : List Value} (K : ConW l Z y cb cm cr rm as' h n0 EL P') {y0 : MethodName} {a : Addr} {Ck : String} (hEL : EW Z a0 EL) (H : CHv Z EL s.vm h) (E : Exa Z h a Ck) (nf : NotFace s y0) (w1 : (Cond.methodLink own i y0).before a0 Z = true) (w2 : (Cond.declares y0).before a0 Z = true) (w5 : (Cond.selects Ck y0 y).before a0 Z = true) (w6 : (Cond.instanceMethod y).before a0 Z = true) (w3 : (Cond.initialized y.cls).before a0 Z = true) (w4 : (Cond.code y cb cm cr).before a0 Z = true) (hy : y0.cls ≠ "java/lang/invoke/MethodHandle" ∧ y0.cls ≠ "java/lang/invoke/VarHandle")
    (has : (.ref a :: argsL).toArray = as') (hst : st = argsL.reverse ++ .ref a :: rest) (hlen : ∀ sig, parseMethodDescriptor y0.desc = some sig → argsL.length = sig.parameters.length) (hsz : Ls.size = maxL) (hW : (rest.map fun v => v.category).sum ≤ W) (hf : rm.frames + 1 ≤ R.frames) (hlo : W + (cm + 11) + rm.locals ≤ R.locals) (hce : cells + rm.cells ≤ R.cells) (hsl : slots + rm.slots ≤ R.slots) (hd : decode bytes pc = .ok (.invokevirtual i, 3)) (hp : pc + 3 = pc')
    (k : ∀ T' h' v, On p l e R (s.setVm T'.vm) m args below meth c n0 T' h' (cells + rm.cells) (slots + rm.slots) → Cx p (s.setVm T'.vm) m meth c Z bytes own ret maxL → P' v h' → Go p e below (ReturnedEndW (s.setVm T'.vm)) n0 rc rs (fun v hv => P v hv ∧ h'.size ≤ hv.size) T' (mkF m pc' Ls (v.toList ++ rest))) : Go p e below (ReturnedEndW s) n0 rc rs P T (mkF m pc Ls st) := by
  obtain ⟨locs, X, eT, N, hn⟩ := X; obtain ⟨hx, hZ, hby, hown, hml, hlk, hrt⟩ := C; subst hp has hst
  obtain ⟨cq, kq, qa, qb, qc⟩ := isOf hZ eT E
  obtain ⟨v, _, ⟨T', L', k', n'⟩, -, X', hS', hg', ⟨Lc, hQ, l', y', z'⟩, st'⟩ := X.virtualBackS hx (y := y0) (z := y) hown (mvT hZ w1) (mvT hZ w2) nf (mvT hZ w5) (mvT hZ w6) hy (K.back (W := W) hZ w4 w3 hf hlo hEL H) qa qc (g := mkF m pc Ls (argsL.reverse ++ .ref a :: rest)) rfl (by rw [hml]; exact hsz) (Steps.refl _) (argsL := argsL) (rest := rest) hlen rfl (by simpa using hW) (hb hby hd) (fun _ _ => ⟨rfl, eT, hce, hsl⟩)
  dsimp only [Pt.U, Pt.locs, Pt.cells, Pt.slots] at X' hS' l' y' z' st' hQ hg'
  subst l' y' z'
  exact Go.tr st' (Go.rebase hS' (k T' _ v ⟨_, X', rfl, Fr.app N hQ.2, Nat.le_trans hn (by rw [← eT]; exact hg')⟩ ⟨hx, State.Warmed39.trans hZ hS'.1, hby, (hS'.1.alike.findClass _ _).trans hown, hml, hlk, hrt⟩ hQ.1))
theorem AI.ofArv {b : Addr} {k : ClassId} {z : Int32} {vs : List Value} {d : Value} {f : Nat → Int32} (A : Arv Z h b k .byte z vs d) (hl : z.toNatClampNeg = vs.length) (hf : ∀ i, i < vs.length → vs[i]? = some (.int (f i))) : AI Z h b .byte vs.length f := by
  obtain ⟨cl, A1, -, A3, A4, A5, -⟩ := A
  have h2 : z.toInt < 2147483648 := z.toInt_lt
  have h3 : z.toNatClampNeg = z.toInt.toNat := rfl
  refine ⟨cl, A1, by rw [A3, hl], by omega, fun i hi => ?_⟩
  have q := A5 i (by rw [A3, hl]; exact hi)
  rw [q]
  simp [hf i hi]
theorem Go.ldcW (C : Cx p s m meth c Z bytes own ret maxL) (X : On p l e R s m args below meth c n0 T h cells slots) {text : String} {i n : Nat} {z : Int32} {vs : List Value} {f : Nat → Int32} (hEL : EW Z a0 EL) (H : CHv Z EL s.vm h) (hmem : (own, i) ∈ EL) (w : (Cond.stringLink own i text).before a0 Z = true) (wS : ∀ a ∈ Bundle.stringAtoms, a.before a0 Z = true)
    (ht : (∀ c ∈ text.toList, c.toNat < 256) ∧ text.toList.map (fun c => Value.int (Jvm.Lit.byteI c.toNat.toUInt16)) = vs) (hz : ¬ z < 0) (hl : z.toNatClampNeg = vs.length) (hf : ∀ i, i < vs.length → vs[i]? = some (.int (f i))) (hd : decode bytes pc = .ok (.ldc i, 2)) (hn4 : 4 * text.toList.length ≤ n) (hbig : n ≤ 536870912) (hc : cells + 2 ≤ R.cells) (hsl : slots + (n + 4) ≤ R.slots) (hp : pc + 2 = pc')
    (k : ∀ T' h' a b, On p l e R (s.setVm T'.vm) m args below meth c n0 T' h' (cells + 2) (slots + (n + 4)) → Cx p (s.setVm T'.vm) m meth c Z bytes own ret maxL → Ext h h' → Exa Z h' a "java/lang/String" → Fld Z h' a "java/lang/String" "coder" "B" (.int 0) → Fld Z h' a "java/lang/String" "value" "[B" (.ref b) → AI Z h' b .byte vs.length f → CHv Z EL T'.vm h' → Lit (s.setVm T'.vm) own i a → (∀ (x : Addr) (K : String) (kn : Nat), Exa Z h' x K → (Cond.instantiable K kn).before a0 Z = true → x ≠ b) → Go p e below (ReturnedEndW (s.setVm T'.vm)) n0 rc rs (fun v hv => P v hv ∧ h'.size ≤ hv.size) T' (mkF m pc' Ls (.ref a :: st))) : Go p e below (ReturnedEndW s) n0 rc rs P T (mkF m pc Ls st) := by
  obtain ⟨locs, X, eT, N, hn⟩ := X; obtain ⟨hx, hZ, hby, hown, hml, hlk, hrt⟩ := C; subst hp
  obtain ⟨a, T', h', k1, b, kk, X', e', E', hS', hk', hZ', hown', r1, r2, r3, r4, -, -, r5, r6, -, st'⟩ := ldcCH (s := s) (vm0 := s.vm) X hx hZ hown w wS eT (k0 := h.size) ((State.WarmedH.refl s).since _) (Nat.le_refl _) hEL hmem H ht hz hl (g := mkF m pc Ls st) rfl (hb hby hd) hn4 hbig hc hsl
  have q := k T' h' a b ⟨_, X', e', N, Nat.le_trans hn E'.1⟩ ⟨hx, hZ', hby, hown', hml, hlk, hrt⟩ E' r1 r2 r3 (AI.ofArv r4 hl hf) r5.1 r6 (fun x K kn Ex wi => Exa.neArv Ex r4 wi)
  exact Go.of st' (Go.rebase hS' (Go.imp q fun v hv q => ⟨q.1, Nat.le_trans hk' q.2⟩))
theorem Go.ldcA (C : Cx p s m meth c Z bytes own ret maxL) (X : On p l e R s m args below meth c n0 T h cells slots) {text : String} {i : Nat} {a : Addr} (w : (Cond.stringLink own i text).before a0 Z = true) (L : Lit s own i a) (hd : decode bytes pc = .ok (.ldc i, 2)) (hp : pc + 2 = pc') (k : Go p e below (ReturnedEndW s) n0 rc rs P T (mkF m pc' Ls (.ref a :: st))) : Go p e below (ReturnedEndW s) n0 rc rs P T (mkF m pc Ls st) := by
  obtain ⟨locs, X, eT, N, hn⟩ := X; obtain ⟨hx, hZ, hby, hown, hml, hlk, hrt⟩ := C; subst hp
  exact Go.of (ldcAgain (s := s) (vm0 := s.vm) X hx hZ hown w L (g := mkF m pc Ls st) rfl (hb hby hd)) k
theorem Con.back5 {y : MethodName} {rm : Room} {as' : Array Value} {W : Nat} {P' : Option Value → Heap → Prop} {cb : ByteArray} {cm : Nat} {cr : Option FieldType} (K : Con l Z y cb cm cr rm as' h n0 P') (hZ : Z.Warmed39 s.vm) (wc : (Cond.code y cb cm cr).before a0 Z = true) (wz : (Cond.initialized y.cls).before a0 Z = true) (hf : rm.frames + 1 ≤ R.frames) (hl : W + (cm + 11) + rm.locals ≤ R.locals) :
    Back l R p e below s args y 5 W (fun A a => a = as' ∧ A.U.heap = h ∧ A.cells + rm.cells ≤ R.cells ∧ A.slots + rm.slots ≤ R.slots)
      (fun A _ v B => ∃ L, (P' v B.U.heap ∧ Fr n0 L) ∧ B.locs = A.locs ++ L ∧ B.cells = A.cells + rm.cells ∧ B.slots = A.slots + rm.slots) :=
  backOf (Q := fun v h L => P' v h ∧ Fr n0 L) (K []) hZ wc wz hf hl
theorem Go.callF {Ed : Outcome → State → List Loc → Nat → Nat → Prop} (C : Cx p s m meth c Z bytes own ret maxL) (X : On p l e R s m args below meth c n0 T h cells slots) {y : MethodName} {cb : ByteArray} {cm : Nat} {cr : Option FieldType} {rm : Room} {as' : Array Value} {P' : Option Value → Heap → Prop} {i W : Nat} {argsL rest : List Value} (K : Con l Z y cb cm cr rm as' h n0 P') {y0 : MethodName} {a : Addr} {Ck : String} {cnt : Nat} (Ex : Exa Z h a Ck) (w1 : (Cond.methodLink own i y0).before a0 Z = true) (w2 : (Cond.declares y0).before a0 Z = true) (w7 : (Cond.interfaceMethod y0.cls y0.cls y0.name y0.desc).before a0 Z = true) (hfa : ((Cond.interfaceMethod y0.cls y0.cls y0.name y0.desc).onTables && (Cond.interfaceMethod y0.cls y0.cls y0.name y0.desc).keepsFace) = true) (w5 : (Cond.selects Ck y0 y).before a0 Z = true) (w6 : (Cond.instanceMethod y).before a0 Z = true) (w8 : (Cond.publicMethod y).before a0 Z = true) (w9 : (Cond.unhidden Ck y0.name y0.desc).before a0 Z = true) (w10 : (Cond.castable Ck y0.cls).before a0 Z = true) (w3 : (Cond.initialized y.cls).before a0 Z = true) (w4 : (Cond.code y cb cm cr).before a0 Z = true) (hy : y0.cls ≠ "java/lang/invoke/MethodHandle" ∧ y0.cls ≠ "java/lang/invoke/VarHandle")
    (has : (.ref a :: argsL).toArray = as') (hst : st = argsL.reverse ++ .ref a :: rest) (hlen : ∀ sig, parseMethodDescriptor y0.desc = some sig → argsL.length = sig.parameters.length) (hsz : Ls.size = maxL) (hW : (rest.map fun v => v.category).sum ≤ W) (hf : rm.frames + 1 ≤ R.frames) (hlo : W + (cm + 11) + rm.locals ≤ R.locals) (hce : cells + rm.cells ≤ R.cells) (hsl : slots + rm.slots ≤ R.slots) (hd : decode bytes pc = .ok (.invokeinterface i cnt, 5)) (hp : pc + 5 = pc')
    (hgrow : ∀ v h', P' v h' → h.size ≤ h'.size)
    (k : ∀ T' h' v, On p l e R s m args below meth c n0 T' h' (cells + rm.cells) (slots + rm.slots) → P' v h' → Go p e below Ed n0 rc rs P T' (mkF m pc' Ls (v.toList ++ rest))) : Go p e below Ed n0 rc rs P T (mkF m pc Ls st) := by
  obtain ⟨locs, X, eT, N, hn⟩ := X; obtain ⟨hx, hZ, hby, hown, hml, hlk, hrt⟩ := C; subst hp has hst
  obtain ⟨cq, kq, qa, qb, qc⟩ := isOf hZ eT Ex
  obtain ⟨v, _, ⟨T', L', k', n'⟩, -, X', ⟨Lc, hQ, l', y', z'⟩, st'⟩ := X.interfaceBack hx (xi := y0) (y := y) hown (mvT hZ w1) (mvT hZ w2) (mvT hZ w7 hfa) (mvT hZ w5) (mvT hZ w6) (mvT hZ w8) (mvT hZ w9) (mvT hZ w10) hy (K.back5 (W := W) hZ w4 w3 hf hlo) qa qb qc (g := mkF m pc Ls (argsL.reverse ++ .ref a :: rest)) rfl (by rw [hml]; exact hsz) (Steps.refl _) (argsL := argsL) (rest := rest) hlen rfl (by simpa using hW) (hb hby hd) (fun _ _ => ⟨rfl, eT, hce, hsl⟩)
  dsimp only [Pt.U, Pt.locs, Pt.cells, Pt.slots] at X' l' y' z' st' hQ
  subst l' y' z'
  exact Go.tr st' (k T' _ v ⟨_, X', rfl, Fr.app N hQ.2, Nat.le_trans hn (hgrow _ _ hQ.1)⟩ hQ.1)
end OwnW
end Jvm.RoadKit
namespace Jvm.RoadKit
theorem own_iadd {x y : Int32} (h1 : -2147483648 ≤ x.toInt + y.toInt) (h2 : x.toInt + y.toInt < 2147483648) : (x + y).toInt = x.toInt + y.toInt := by
  have h3 := c_iadd x y; have h4 := rng32 (x + y); omega
theorem own_isub {x y : Int32} (h1 : -2147483648 ≤ x.toInt - y.toInt) (h2 : x.toInt - y.toInt < 2147483648) : (x - y).toInt = x.toInt - y.toInt := by
  have h3 := c_isub x y; have h4 := rng32 (x - y); omega
theorem own_imul {x y : Int32} (h1 : -2147483648 ≤ x.toInt * y.toInt) (h2 : x.toInt * y.toInt < 2147483648) : (x * y).toInt = x.toInt * y.toInt := by
  have h3 := c_imul x y; have h4 := rng32 (x * y); omega
theorem own_ladd {x y : Int64} (h1 : -9223372036854775808 ≤ x.toInt + y.toInt) (h2 : x.toInt + y.toInt < 9223372036854775808) : (x + y).toInt = x.toInt + y.toInt := by
  have h3 := c_ladd x y; have h4 := rng64 (x + y); omega
theorem own_lsub {x y : Int64} (h1 : -9223372036854775808 ≤ x.toInt - y.toInt) (h2 : x.toInt - y.toInt < 9223372036854775808) : (x - y).toInt = x.toInt - y.toInt := by
  have h3 := c_lsub x y; have h4 := rng64 (x - y); omega
theorem own_lmul {x y : Int64} (h1 : -9223372036854775808 ≤ x.toInt * y.toInt) (h2 : x.toInt * y.toInt < 9223372036854775808) : (x * y).toInt = x.toInt * y.toInt := by
  have h3 := c_lmul x y; have h4 := rng64 (x * y); omega
theorem own_ilt {x y : Int32} : x < y ↔ x.toInt < y.toInt := Int32.lt_iff_toInt_lt
theorem own_jlt {x y : Int64} : x < y ↔ x.toInt < y.toInt := Int64.lt_iff_toInt_lt
theorem own_ieq {x y : Int32} : x = y ↔ x.toInt = y.toInt := Int32.toInt_inj.symm
theorem own_jeq {x y : Int64} : x = y ↔ x.toInt = y.toInt := Int64.toInt_inj.symm
theorem own_nilt {x y : Int32} (h : ¬ x < y) : ¬ x.toInt < y.toInt := fun q => h (own_ilt.mpr q)
theorem own_njlt {x y : Int64} (h : ¬ x < y) : ¬ x.toInt < y.toInt := fun q => h (own_jlt.mpr q)
theorem own_nieq {x y : Int32} (h : ¬ x = y) : ¬ x.toInt = y.toInt := fun q => h (own_ieq.mpr q)
theorem own_njeq {x y : Int64} (h : ¬ x = y) : ¬ x.toInt = y.toInt := fun q => h (own_jeq.mpr q)
theorem own_inc {x y : Int32} (h : x < y) : (x + (1 : Int32)).toInt = x.toInt + 1 := by
  rw [own_ilt] at h
  have h1 := rng32 x; have h2 := rng32 y
  have e : (1 : Int32).toInt = 1 := rfl
  rw [own_iadd (by omega) (by omega), e]
theorem own_dec {x y : Int32} (h : y < x) : (x + (-1 : Int32)).toInt = x.toInt - 1 := by
  rw [own_ilt] at h
  have h1 := rng32 x; have h2 := rng32 y
  have e : (-1 : Int32).toInt = -1 := rfl
  rw [own_iadd (by omega) (by omega), e]; omega
theorem own_nat32 {x : Int32} {n : Nat} (h : x.toInt = (n : Int)) : x = Int32.ofNat n := by
  apply Int32.toInt_inj.mp
  have := rng32 x
  rw [Int32.toInt_ofNat_of_lt (by omega), h]
theorem own_pos31 (x : Int32) : 0 ≤ (x &&& (2147483647 : Int32)).toInt := by
  have h := c_mask x 2147483647 31 (by decide) (by decide)
  rw [h]; exact Int.emod_nonneg _ (by decide)
theorem own_mod (x : Int32) (k : Int32) (d : Int) (hk : k.toInt = d) (hd : 0 < d) : ((x &&& (2147483647 : Int32)) % k).toInt = (x &&& (2147483647 : Int32)).toInt % d ∧ 0 ≤ ((x &&& (2147483647 : Int32)) % k).toInt ∧ ((x &&& (2147483647 : Int32)) % k).toInt < d := by
  have h := (c_irem (x &&& (2147483647 : Int32)) k d hk).1 (own_pos31 x)
  exact ⟨h, by rw [h]; exact Int.emod_nonneg _ (by omega), by rw [h]; exact Int.emod_lt_of_pos _ hd⟩
theorem own_upd {R : Int32 → Prop} {f : Nat → Int32} {x : Int32} {i : Nat} (h : ∀ q, R (f q)) (hx : R x) : ∀ q, R ((fun q => if q = i then x else f q) q) := fun q => by
  by_cases e : q = i
  · simp only [if_pos e]; exact hx
  · simp only [if_neg e]; exact h q
theorem own_i2b (x : Int32) : -128 ≤ (x.toInt8.toInt32).toInt ∧ (x.toInt8.toInt32).toInt ≤ 127 := by have := c_i2b x; omega
theorem own_b2 (x : Int32) : x.toInt8.toInt32.toInt8.toInt32 = x.toInt8.toInt32 := by rw [Int8.toInt8_toInt32]
theorem own_and3 (x : Int32) : x &&& (3 : Int32) = 0 ∨ x &&& (3 : Int32) = 1 ∨ x &&& (3 : Int32) = 2 ∨ x &&& (3 : Int32) = 3 := by
  have h := c_mask x 3 2 (by decide) (by decide)
  have z0 : (0 : Int32).toInt = 0 := rfl
  have z1 : (1 : Int32).toInt = 1 := rfl
  have z2 : (2 : Int32).toInt = 2 := rfl
  have z3 : (3 : Int32).toInt = 3 := rfl
  have h1 : ((2 ^ 2 : Nat) : Int) = 4 := rfl
  rw [h1] at h
  rw [own_ieq, own_ieq, own_ieq, own_ieq, z0, z1, z2, z3]
  omega
theorem own_and1 (x : Int32) : x &&& (1 : Int32) = 0 ∨ x &&& (1 : Int32) = 1 := by
  have h := c_mask x 1 1 (by decide) (by decide)
  have z0 : (0 : Int32).toInt = 0 := rfl
  have z1 : (1 : Int32).toInt = 1 := rfl
  have h1 : ((2 ^ 1 : Nat) : Int) = 2 := rfl
  rw [h1] at h
  rw [own_ieq, own_ieq, z0, z1]
  omega
end Jvm.RoadKit
namespace Jvm.RoadKit
open Sem ClassFile Op Lib Jvm.Stand Jvm.Free Jvm.LawKit
section OwnB
variable {p : Program} {l : Launch} {e : Env} {R : Room} {s : State} {m : MethodId} {args : Array Value} {below : List Frame} {meth : Method} {c : Code} {T : State} {Z : State} {a0 : Array Value} {h : Heap} {cells slots n0 rc rs : Nat} {bytes : ByteArray} {own : String} {ret : Option FieldType} {maxL : Nat} {P : Option Value → Heap → Prop} {Ls : Array Slot} {pc pc' : Nat} {st : List Value}
theorem Go.acopyB {Ed : Outcome → State → List Loc → Nat → Nat → Prop} (C : Cx p s m meth c Z bytes own ret maxL) (X : On p l e R s m args below meth c n0 T h cells slots) {i : Nat} {a b : Addr} {n1 n2 o q n W : Nat} {f g : Nat → Int32} {jo jq jn : Int32} {rest : List Value} (w1 : (Cond.methodLink own i (⟨"java/lang/System", "arraycopy", "(Ljava/lang/Object;ILjava/lang/Object;II)V"⟩ : MethodName)).before a0 Z = true) (w2 : (Cond.native (⟨"java/lang/System", "arraycopy", "(Ljava/lang/Object;ILjava/lang/Object;II)V"⟩ : MethodName)).before a0 Z = true) (w3 : (Cond.static (⟨"java/lang/System", "arraycopy", "(Ljava/lang/Object;ILjava/lang/Object;II)V"⟩ : MethodName)).before a0 Z = true) (w4 : (Cond.initialized "java/lang/System").before a0 Z = true)
    (A : AI Z h a .byte n1 f) (B : AI Z h b .byte n2 g) (ho : jo.toInt = (o : Int)) (hq : jq.toInt = (q : Int)) (hn : jn.toInt = (n : Int)) (h4 : o + n ≤ n1) (h5 : q + n ≤ n2) (hft : ∀ j, j < n → fits .byte (.int (f (o + j))) = true) (hb0 : n0 ≤ b) (hsz : Ls.size = maxL) (hW : (rest.map fun v => v.category).sum ≤ W) (hf : 1 ≤ R.frames) (hlo : W + 40 ≤ R.locals) (hd : decode bytes pc = .ok (.invokestatic i, 3)) (hp : pc + 3 = pc')
    (k : ∀ T' h', On p l e R s m args below meth c n0 T' h' cells slots → Keep h h' [b] → AI Z h' b .byte n2 (fun j => if q ≤ j ∧ j < q + n then f (o + (j - q)) else g j) → Go p e below Ed n0 rc rs P T' (mkF m pc' Ls rest)) : Go p e below Ed n0 rc rs P T (mkF m pc Ls (.int jn :: .int jq :: .ref b :: .int jo :: .ref a :: rest)) := by
  obtain ⟨locs, X, eT, N, hz⟩ := X; obtain ⟨hx, hZ, hby, hown, hml, hlk, hrt⟩ := C; subst hp
  obtain ⟨ca, A1, r1, r2, r3⟩ := A
  obtain ⟨cb, B1, s1, s2, s3⟩ := B
  have hT : Z.Warmed39 T.vm := wtrans hZ X.warmed
  obtain ⟨T', B', X', hP, e1, e2, e3, e4, st'⟩ := X.acopy hx hown (index := i) (fun w hw => by
      simp only [Jvm.Free.XT.acW, List.mem_cons, List.not_mem_nil, or_false] at hw
      rcases hw with rfl | rfl | rfl | rfl
      · exact mvT hZ w1
      · exact mvT hZ w2
      · exact mvT hZ w3
      · exact mvT hZ w4)
    (ts := .byte) (t := .byte) (a := a) (b := b) (A := ca) (B := cb) ⟨by rw [eT]; exact A1.1, State.isArrayOf_alike hT.alike A1.2.1, A1.2.2, by omega⟩ ⟨by rw [eT]; exact B1.1, State.isArrayOf_alike hT.alike B1.2.1, B1.2.2, by omega⟩ rfl (own_nat32 ho) (own_nat32 hq) (own_nat32 hn) (by omega) (by omega)
    (fun j hj => ⟨by rw [Array.getD_eq_getD_getElem?, r3 _ (by omega)]; exact hft j hj, fun z => by cases z⟩)
    (g := mkF m pc Ls (.int jn :: .int jq :: .ref b :: .int jo :: .ref a :: rest)) rfl (by rw [hml]; exact hsz) (rest := rest) rfl (hb hby hd) (W := W) (by simpa using hW) hf hlo
  subst eT
  refine Go.of st' (k T' T'.heap ⟨_, X', rfl, N.app fun y hy => ?_, by rw [hP.2.2]; exact hz⟩ ⟨by rw [hP.2.2]; exact Nat.le_refl _, fun x cl hx' hn' => ?_, fun x cl hx' => ?_⟩ ⟨B', ⟨hP.1, ?_, by rw [e2]; exact B1.2.2⟩, by rw [e3]; exact s1, s2, fun j hj => ?_⟩)
  · simp only [copyLocs, List.mem_map] at hy
    obtain ⟨_, -, rfl⟩ := hy
    exact hb0
  · rw [hP.2.1 x (fun z => hn' (by rw [z]; exact List.mem_singleton.mpr rfl))]; exact hx'
  · by_cases z : x = b
    · subst z
      cases hx'.symm.trans B1.1
      exact ⟨B', hP.1, e1, e2, e3⟩
    · exact ⟨cl, by rw [hP.2.1 x z]; exact hx', rfl, rfl, rfl⟩
  · obtain ⟨o1, kk, o2, o3⟩ := B1.2.1
    exact ⟨by rw [e2]; exact o1, kk, by rw [e1]; exact o2, o3⟩
  · rw [e4]
    by_cases z : q ≤ j ∧ j < q + n
    · rw [if_pos z]; simp only [if_pos z]
      rw [Array.getD_eq_getD_getElem?, r3 _ (by omega)]; rfl
    · rw [if_neg z]; simp only [if_neg z]
      exact s3 j hj
theorem Go.callU {Ed : Outcome → State → List Loc → Nat → Nat → Prop} (C : Cx p s m meth c Z bytes own ret maxL) (X : On p l e R s m args below meth c n0 T h cells slots) {y : MethodName} {cb : ByteArray} {cm : Nat} {cr : Option FieldType} {rm : Room} {as' : Array Value} {P' : Option Value → Heap → Prop} {i W : Nat} {argsL rest : List Value} (K : Con l Z y cb cm cr rm as' h n0 P') {a : Addr} {Ck : String} (F : Ins Z h a Ck true) (hn1 : y.name ≠ "<init>") (w1 : (Cond.methodLink own i y).before a0 Z = true) (w2 : (Cond.sameMethod y.cls y.cls y.name y.desc).before a0 Z = true) (w5 : (Cond.instanceMethod y).before a0 Z = true) (w6 : (Cond.superclass own y.cls).before a0 Z = true) (w3 : (Cond.initialized y.cls).before a0 Z = true) (w4 : (Cond.code y cb cm cr).before a0 Z = true)
    (has : (.ref a :: argsL).toArray = as') (hst : st = argsL.reverse ++ .ref a :: rest) (hlen : ∀ sig, parseMethodDescriptor y.desc = some sig → argsL.length = sig.parameters.length) (hsz : Ls.size = maxL) (hW : (rest.map fun v => v.category).sum ≤ W) (hf : rm.frames + 1 ≤ R.frames) (hlo : W + (cm + 11) + rm.locals ≤ R.locals) (hce : cells + rm.cells ≤ R.cells) (hsl : slots + rm.slots ≤ R.slots) (hd : decode bytes pc = .ok (.invokespecial i, 3)) (hp : pc + 3 = pc')
    (hgrow : ∀ v h', P' v h' → h.size ≤ h'.size)
    (k : ∀ T' h' v, On p l e R s m args below meth c n0 T' h' (cells + rm.cells) (slots + rm.slots) → P' v h' → Go p e below Ed n0 rc rs P T' (mkF m pc' Ls (v.toList ++ rest))) : Go p e below Ed n0 rc rs P T (mkF m pc Ls st) := by
  obtain ⟨locs, X, eT, N, hn⟩ := X; obtain ⟨hx, hZ, hby, hown, hml, hlk, hrt⟩ := C; subst hp has hst
  obtain ⟨v, _, ⟨T', L', k', n'⟩, -, X', ⟨Lc, hQ, l', y', z'⟩, st'⟩ := superBack X hx hZ hown w1 w2 w5 w6 hn1 (K.back (W := W) hZ w4 w3 hf hlo) eT F (g := mkF m pc Ls (argsL.reverse ++ .ref a :: rest)) rfl (by rw [hml]; exact hsz) w4 (argsL := argsL) (rest := rest) hlen rfl (by simpa using hW) (hb hby hd) (fun _ _ => ⟨rfl, eT, hce, hsl⟩)
  dsimp only [Pt.U, Pt.locs, Pt.cells, Pt.slots] at X' l' y' z' st' hQ
  subst l' y' z'
  exact Go.tr st' (k T' _ v ⟨_, X', rfl, Fr.app N hQ.2, Nat.le_trans hn (hgrow _ _ hQ.1)⟩ hQ.1)
theorem own_noface {Ck : String} {z : MethodName} (w : (Cond.selects Ck z z).before a0 Z = true) : ∃ (cc : ClassId) (kk : Class), Z.vm.findClass z.cls = some cc ∧ Z.vm.classes[cc]? = some kk ∧ kk.isInterface = false := by
  obtain ⟨c2, r2, m2, -, -, q3, -, kP, hkP, hkPi⟩ := Cond.selects_spec w
  exact ⟨m2.cls, kP, findClass_of_methodNamed q3, hkP, hkPi⟩
theorem own_nface {Ck : String} {y z : MethodName} (hc : z.cls = y.cls) (w : (Cond.selects Ck z z).before args s = true) : NotFace s y := fun r0 h0 => by
  obtain ⟨c2, r2, m2, -, -, q3, -, kP, hkP, hkPi⟩ := Cond.selects_spec w
  have a := findClass_of_methodNamed q3
  have b := findClass_of_methodNamed h0
  rw [hc] at a
  have e : m2.cls = r0.cls := Option.some.inj (a.symm.trans b)
  exact ⟨kP, by rw [← e]; exact hkP, hkPi⟩
theorem own_same {Ck : String} {y z : MethodName} (hc : z.cls = y.cls) (w : (Cond.selects Ck z z).before a0 Z = true) (w2 : (Cond.instanceMethod y).before a0 Z = true) (hy : y.cls ≠ "java/lang/invoke/MethodHandle" ∧ y.cls ≠ "java/lang/invoke/VarHandle") : (Cond.sameMethod y.cls y.cls y.name y.desc).before a0 Z = true := by
  obtain ⟨cc, kk, h1, h2, h3⟩ := own_noface w
  rw [hc] at h1
  obtain ⟨mk, methM, hnamed, hmethM, -, -⟩ := Cond.instanceMethod_spec w2
  have hfound := State.methodFound?_of_named hnamed hy
  have hnamed' : Z.methodNamed? ⟨y.cls, y.name, y.desc⟩ = some mk := hnamed
  simp only [Cond.before, Cond.holds, Cond.value, h1, hfound, hnamed', h2]
  simp; exact h3
theorem own_selq {Ck : String} {y : MethodName} (hZ : Z.Warmed39 s.vm) (w : (Cond.selects Ck y y).before a0 Z = true) (w2 : (Cond.instanceMethod y).before a0 Z = true) (w6 : (Cond.privateMethod y).before a0 Z = true) (hy : y.cls ≠ "java/lang/invoke/MethodHandle" ∧ y.cls ≠ "java/lang/invoke/VarHandle") : (Cond.selects y.cls y y).before args s = true := by
  obtain ⟨c2, r2, m2, -, -, q3, -, kP, hkP, hkPi⟩ := Cond.selects_spec (mvT (args := args) hZ w)
  exact Jvm.Stand.selects_self_of_private (findClass_of_methodNamed q3) hkP hkPi (Cond.privateMethod_at (mvP hZ w6 (args := #[]))) (mvT hZ w2) hy
theorem Go.callQ {Ed : Outcome → State → List Loc → Nat → Nat → Prop} (C : Cx p s m meth c Z bytes own ret maxL) (X : On p l e R s m args below meth c n0 T h cells slots) {y : MethodName} {cb : ByteArray} {cm : Nat} {cr : Option FieldType} {rm : Room} {as' : Array Value} {P' : Option Value → Heap → Prop} {i W : Nat} {argsL rest : List Value} (K : Con l Z y cb cm cr rm as' h n0 P') {a : Addr} {Ck : String} (E : Exa Z h a Ck) (w1 : (Cond.methodLink own i y).before a0 Z = true) (w2 : (Cond.instanceMethod y).before a0 Z = true) (w5 : (Cond.selects Ck y y).before a0 Z = true) (w6 : (Cond.privateMethod y).before a0 Z = true) (w3 : (Cond.initialized y.cls).before a0 Z = true) (w4 : (Cond.code y cb cm cr).before a0 Z = true) (hy : y.cls ≠ "java/lang/invoke/MethodHandle" ∧ y.cls ≠ "java/lang/invoke/VarHandle")
    (has : (.ref a :: argsL).toArray = as') (hst : st = argsL.reverse ++ .ref a :: rest) (hlen : ∀ sig, parseMethodDescriptor y.desc = some sig → argsL.length = sig.parameters.length) (hsz : Ls.size = maxL) (hW : (rest.map fun v => v.category).sum ≤ W) (hf : rm.frames + 1 ≤ R.frames) (hlo : W + (cm + 11) + rm.locals ≤ R.locals) (hce : cells + rm.cells ≤ R.cells) (hsl : slots + rm.slots ≤ R.slots) (hd : decode bytes pc = .ok (.invokevirtual i, 3)) (hp : pc + 3 = pc')
    (hgrow : ∀ v h', P' v h' → h.size ≤ h'.size)
    (k : ∀ T' h' v, On p l e R s m args below meth c n0 T' h' (cells + rm.cells) (slots + rm.slots) → P' v h' → Go p e below Ed n0 rc rs P T' (mkF m pc' Ls (v.toList ++ rest))) : Go p e below Ed n0 rc rs P T (mkF m pc Ls st) := by
  obtain ⟨locs, X, eT, N, hn⟩ := X; obtain ⟨hx, hZ, hby, hown, hml, hlk, hrt⟩ := C; subst hp has hst
  obtain ⟨cq, qa, qb⟩ := E.cell
  obtain ⟨v, _, ⟨T', L', k', n'⟩, -, X', ⟨Lc, hQ, l', y', z'⟩, st'⟩ := X.privateBack hx (y := y) hown (mvT hZ w1) (mvT hZ w2) (own_selq hZ w5 w2 w6 hy) (Cond.privateMethod_at (mvP hZ w6 (args := #[]))) (mvT hZ w4) hy (K.back (W := W) hZ w4 w3 hf hlo) (g := mkF m pc Ls (argsL.reverse ++ .ref a :: rest)) rfl (by rw [hml]; exact hsz) (Steps.refl _) (a := a) (by rw [eT]; exact qa) qb (argsL := argsL) (rest := rest) hlen rfl (by simpa using hW) (hb hby hd) (fun _ _ => ⟨rfl, eT, hce, hsl⟩)
  dsimp only [Pt.U, Pt.locs, Pt.cells, Pt.slots] at X' l' y' z' st' hQ
  subst l' y' z'
  exact Go.tr st' (k T' _ v ⟨_, X', rfl, Fr.app N hQ.2, Nat.le_trans hn (hgrow _ _ hQ.1)⟩ hQ.1)
theorem Go.ldcB {EL : List (String × Nat)} (C : Cx p s m meth c Z bytes own ret maxL) (X : On p l e R s m args below meth c n0 T h cells slots) {text : String} {i n : Nat} {z : Int32} {vs : List Value} {f : Nat → Int32} (hEL : EW Z a0 EL) (H : CHv Z EL s.vm h) (hmem : (own, i) ∈ EL) (w : (Cond.stringLink own i text).before a0 Z = true) (wS : ∀ a ∈ Bundle.stringAtoms, a.before a0 Z = true)
    (ht : (∀ c ∈ text.toList, c.toNat < 256) ∧ text.toList.map (fun c => Value.int (Jvm.Lit.byteI c.toNat.toUInt16)) = vs) (hz : ¬ z < 0) (hl : z.toNatClampNeg = vs.length) (hf : ∀ i, i < vs.length → vs[i]? = some (.int (f i))) (hd : decode bytes pc = .ok (.ldc i, 2)) (hn4 : 4 * text.toList.length ≤ n) (hbig : n ≤ 536870912) (hc : cells + 2 ≤ R.cells) (hsl : slots + (n + 4) ≤ R.slots) (hp : pc + 2 = pc')
    (k : ∀ T' h' a b, On p l e R (s.setVm T'.vm) m args below meth c n0 T' h' (cells + 2) (slots + (n + 4)) → Cx p (s.setVm T'.vm) m meth c Z bytes own ret maxL → Ext h h' → Exa Z h' a "java/lang/String" → Fld Z h' a "java/lang/String" "coder" "B" (.int 0) → Fld Z h' a "java/lang/String" "value" "[B" (.ref b) → AI Z h' b .byte vs.length f → CHv Z EL T'.vm h' → Lit (s.setVm T'.vm) own i a → (∀ (x : Addr) (K : String) (kn : Nat), Exa Z h' x K → (Cond.instantiable K kn).before a0 Z = true → x ≠ b) → (∀ x : Addr, x < h.size → Safe Z EL s.vm h x → x ≠ a ∧ x ≠ b) → Go p e below (ReturnedEndW (s.setVm T'.vm)) n0 rc rs (fun v hv => P v hv ∧ h'.size ≤ hv.size) T' (mkF m pc' Ls (.ref a :: st))) : Go p e below (ReturnedEndW s) n0 rc rs P T (mkF m pc Ls st) := by
  obtain ⟨locs, X, eT, N, hn⟩ := X; obtain ⟨hx, hZ, hby, hown, hml, hlk, hrt⟩ := C; subst hp
  obtain ⟨a, T', h', k1, b, kk, X', e', E', hS', hk', hZ', hown', r1, r2, r3, r4, -, -, r5, r6, r7, st'⟩ := ldcCH (s := s) (vm0 := s.vm) X hx hZ hown w wS eT (k0 := h.size) ((State.WarmedH.refl s).since _) (Nat.le_refl _) hEL hmem H ht hz hl (g := mkF m pc Ls st) rfl (hb hby hd) hn4 hbig hc hsl
  have q := k T' h' a b ⟨_, X', e', N, Nat.le_trans hn E'.1⟩ ⟨hx, hZ', hby, hown', hml, hlk, hrt⟩ E' r1 r2 r3 (AI.ofArv r4 hl hf) r5.1 r6 (fun x K kn Ex wi => Exa.neArv Ex r4 wi) (fun x hx S => r7 x (r5.safe hx S))
  exact Go.of st' (Go.rebase hS' (Go.imp q fun v hv q => ⟨q.1, Nat.le_trans hk' q.2⟩))
end OwnB
end Jvm.RoadKit
namespace Jvm.Pilot.@@N@@
open Jvm Jvm.ClassFile Sem Op Lib Jvm.Free Jvm.Stand Jvm.LawKit Jvm.RoadKit Bundle Jvm.Pilot.@@N@@.Jvm.D
theorem own_w {Z : State} {a0 : Array Value} {d : Jvm.Cond} (hw : ∀ d ∈ tables_1, d.before a0 Z = true) (i : Nat) (h : tables_1[i]? = some d) : d.before a0 Z = true := hw _ (List.mem_of_getElem? h)
theorem own_ew {Z : State} {a0 : Array Value} (hw : ∀ d ∈ tables_1, d.before a0 Z = true) : EW Z a0 consts_1 := EW.cons (own_w hw 121 rfl) (by decide) (EW.cons (own_w hw 251 rfl) (by decide) (EW.nil))
theorem own_sA {Z : State} {a0 : Array Value} (hw : ∀ d ∈ tables_1, d.before a0 Z = true) : ∀ a ∈ Bundle.stringAtoms, a.before a0 Z = true := fun c hc => hw c (by simpa using (List.all_eq_true.mp (by decide +kernel : (Bundle.stringAtoms.all fun c => tables_1.contains c) = true)) c hc)
theorem own_one {x : Int32} : ∀ i, i < [Value.int x].length → [Value.int x][i]? = some (.int ((fun _ => x) i)) := fun i hi => by
  obtain rfl : i = 0 := (by simpa using hi)
  rfl
def own_c8 (x : Int32) : Int32 := x &&& (255 : Int32)
theorem own_c8e (x : Int32) : (x &&& (255 : Int32)).toUInt32.toUInt16.toUInt32.toInt32 = own_c8 x := i2c_mask x
theorem own_c8n (x : Int32) : (own_c8 x).toUInt32.toUInt16.toUInt32.toInt32 = own_c8 x := i2c_mask x
theorem own_c8v (x : Int32) : (own_c8 x).toInt = x.toInt % 256 := c_mask x 255 8 (by decide) (by decide)
theorem own_c8r (x : Int32) : 0 ≤ (own_c8 x).toInt ∧ (own_c8 x).toInt ≤ 255 := by rw [own_c8v]; omega
theorem own_c8b {x y : Int32} (hx : -128 ≤ x.toInt ∧ x.toInt ≤ 127) : x = (own_c8 y).toInt8.toInt32 ↔ own_c8 x = own_c8 y := by
  have h := c_i2b (own_c8 y); have h2 := own_c8v y
  rw [own_ieq, own_ieq, own_c8v x, own_c8v y]; omega
theorem own_shr0 (z : Int32) : z >>> ((0 : Int32) &&& 31) = z := by
  rw [show ((0 : Int32) &&& 31) = 0 by decide]; exact Int32.shiftRight_zero
def own_bt (x : Int32) : Prop := -128 ≤ x.toInt ∧ x.toInt ≤ 127
theorem own_bt0 : ∀ q : Nat, own_bt ((fun _ => (0 : Int32)) q) := fun _ => (show -128 ≤ (0 : Int32).toInt ∧ (0 : Int32).toInt ≤ 127 from ⟨by decide, by decide⟩)
theorem own_c8d (x : Int32) : ((x &&& (255 : Int32)).toUInt32.toUInt16.toUInt32.toInt32).toUInt32.toUInt16.toUInt32.toInt32 = own_c8 x := by
  rw [i2c_mask, i2c_mask]; rfl
theorem own_self0 (z : Int32) : (((z - z).toUInt32 >>> ((31 : Int32) &&& 31).toUInt32).toInt32).toInt8.toInt32 = 0 := by
  rw [Int32.sub_self]; decide
theorem own_pn0 : plainName "java/lang/String" = true := by first | (simp [plainName, overriddenIn]; done) | decide +kernel
theorem own_ef_rm_il (m : MethodId) (x0 : Addr) : entryFrame m #[(.ref x0)] 1 = mkF m 0 #[.val (.ref x0)] [] := by first | (simp [entryFrame, mkF, argsToLocals, Value.category]; done) | rfl
theorem d40_0 : decode jdk_42_method_154_code 0 = .ok (.getstatic 38, 3) := by decide +kernel
theorem d40_3 : decode jdk_42_method_154_code 3 = .ok (.ifCond .eq 14, 3) := by decide +kernel
theorem d40_6 : decode jdk_42_method_154_code 6 = .ok (.aload_n 0, 1) := by decide +kernel
theorem d40_7 : decode jdk_42_method_154_code 7 = .ok (.getfield 15, 3) := by decide +kernel
theorem d40_10 : decode jdk_42_method_154_code 10 = .ok (.ifCond .ne 7, 3) := by decide +kernel
theorem d40_13 : decode jdk_42_method_154_code 13 = .ok (.iconst 1, 1) := by decide +kernel
theorem d40_14 : decode jdk_42_method_154_code 14 = .ok (.goto 4, 3) := by decide +kernel
theorem d40_18 : decode jdk_42_method_154_code 18 = .ok (.ireturn, 1) := by decide +kernel
set_option maxRecDepth 65536 in
set_option maxHeartbeats 40000000 in
theorem rm_il (l : Launch) (Z : State) (a0 : Array Value) (hw : ∀ d ∈ tables_1, d.before a0 Z = true) (a : Addr) (cs : Int32) (h0 : Heap) (n0 : Nat) (Z0 : n0 ≤ h0.size) (f0 : Old Z n0 h0) (f1 : Sta Z Z.heap "java/lang/String" "COMPACT_STRINGS" "Z" (.int cs)) (f2 : Fld Z h0 a "java/lang/String" "coder" "B" (.int (0 : Int32))) (hcs : ¬ cs = (0 : Int32)) :
    Con l Z (⟨"java/lang/String", "isLatin1", "()Z"⟩ : MethodName) jdk_42_method_154_code 1 (some .boolean) ({ frames := 0, cells := 0, slots := 0, locals := 0 } : Room) #[(.ref a)] h0 n0 (fun rv hv => rv = some (.int (1 : Int32)) ∧ h0 = hv) := by
  refine Con.enter (plainFor_of_name own_pn0) Z0 ?_
  intro p e s m below meth c T0 C hnm X0
  refine Go.cast (own_ef_rm_il m a) ?_
  refine Go.getS C X0 (pc' := 3) (own_w hw 14 rfl) Via.refl (f1.ext f0.2) d40_0 rfl (fun T1 X1 => ?_)
  refine Go.ifNo C X1 (pc' := 6) d40_3 ((if0 _ _).trans (feq hcs).1) rfl ?_
  refine Go.aloadN C X1 (pc' := 7) d40_6 rfl rfl rfl ?_
  refine Go.getF C X1 (pc' := 10) (host := "") (Or.inl (own_w hw 26 rfl)) Via.refl f2 d40_7 rfl (fun T2 X2 => ?_)
  refine Go.ifNo C X2 (pc' := 13) d40_10 ((if0 _ _).trans (teq (by decide)).2) rfl ?_
  refine Go.iconst C X2 (pc' := 14) (v := (1 : Int32)) d40_13 rfl rfl ?_
  refine Go.goto C X2 (pc' := 18) d40_14 (by decide) (by decide) ?_
  exact Go.retZ (t := .boolean) C X2 (z' := (1 : Int32)) (by decide) d40_18 ⟨rfl, rfl⟩ (by decide) (by decide)
theorem own_ef_rm_cd (m : MethodId) (x0 : Addr) : entryFrame m #[(.ref x0)] 1 = mkF m 0 #[.val (.ref x0)] [] := by first | (simp [entryFrame, mkF, argsToLocals, Value.category]; done) | rfl
theorem d16_0 : decode jdk_42_method_152_code 0 = .ok (.getstatic 38, 3) := by decide +kernel
theorem d16_3 : decode jdk_42_method_152_code 3 = .ok (.ifCond .eq 10, 3) := by decide +kernel
theorem d16_6 : decode jdk_42_method_152_code 6 = .ok (.aload_n 0, 1) := by decide +kernel
theorem d16_7 : decode jdk_42_method_152_code 7 = .ok (.getfield 15, 3) := by decide +kernel
theorem d16_10 : decode jdk_42_method_152_code 10 = .ok (.goto 4, 3) := by decide +kernel
theorem d16_14 : decode jdk_42_method_152_code 14 = .ok (.ireturn, 1) := by decide +kernel
set_option maxRecDepth 65536 in
set_option maxHeartbeats 40000000 in
theorem rm_cd (l : Launch) (Z : State) (a0 : Array Value) (hw : ∀ d ∈ tables_1, d.before a0 Z = true) (a : Addr) (cs : Int32) (h0 : Heap) (n0 : Nat) (Z0 : n0 ≤ h0.size) (f0 : Old Z n0 h0) (f1 : Sta Z Z.heap "java/lang/String" "COMPACT_STRINGS" "Z" (.int cs)) (f2 : Fld Z h0 a "java/lang/String" "coder" "B" (.int (0 : Int32))) (hcs : ¬ cs = (0 : Int32)) :
    Con l Z (⟨"java/lang/String", "coder", "()B"⟩ : MethodName) jdk_42_method_152_code 1 (some .byte) ({ frames := 0, cells := 0, slots := 0, locals := 0 } : Room) #[(.ref a)] h0 n0 (fun rv hv => rv = some (.int (0 : Int32)) ∧ h0 = hv) := by
  refine Con.enter (plainFor_of_name own_pn0) Z0 ?_
  intro p e s m below meth c T0 C hnm X0
  refine Go.cast (own_ef_rm_cd m a) ?_
  refine Go.getS C X0 (pc' := 3) (own_w hw 14 rfl) Via.refl (f1.ext f0.2) d16_0 rfl (fun T3 X3 => ?_)
  refine Go.ifNo C X3 (pc' := 6) d16_3 ((if0 _ _).trans (feq hcs).1) rfl ?_
  refine Go.aloadN C X3 (pc' := 7) d16_6 rfl rfl rfl ?_
  refine Go.getF C X3 (pc' := 10) (host := "") (Or.inl (own_w hw 26 rfl)) Via.refl f2 d16_7 rfl (fun T4 X4 => ?_)
  refine Go.goto C X4 (pc' := 14) d16_10 (by decide) (by decide) ?_
  exact Go.retZ (t := .byte) C X4 (z' := (0 : Int32)) (by decide) d16_14 ⟨rfl, rfl⟩ (by decide) (by decide)
theorem own_ef_rm_ln (m : MethodId) (x0 : Addr) : entryFrame m #[(.ref x0)] 1 = mkF m 0 #[.val (.ref x0)] [] := by first | (simp [entryFrame, mkF, argsToLocals, Value.category]; done) | rfl
theorem d15_0 : decode jdk_42_method_54_code 0 = .ok (.aload_n 0, 1) := by decide +kernel
theorem d15_1 : decode jdk_42_method_54_code 1 = .ok (.getfield 9, 3) := by decide +kernel
theorem d15_4 : decode jdk_42_method_54_code 4 = .ok (.arraylength, 1) := by decide +kernel
theorem d15_5 : decode jdk_42_method_54_code 5 = .ok (.aload_n 0, 1) := by decide +kernel
theorem d15_6 : decode jdk_42_method_54_code 6 = .ok (.invokevirtual 335, 3) := by decide +kernel
theorem own_pd0 : parseMethodDescriptor "()B" = some ⟨[], some .byte⟩ := by decide +kernel
theorem d15_9 : decode jdk_42_method_54_code 9 = .ok (.ishr, 1) := by decide +kernel
theorem d15_10 : decode jdk_42_method_54_code 10 = .ok (.ireturn, 1) := by decide +kernel
set_option maxRecDepth 65536 in
set_option maxHeartbeats 40000000 in
theorem rm_ln (l : Launch) (Z : State) (a0 : Array Value) (hw : ∀ d ∈ tables_1, d.before a0 Z = true) (a : Addr) (b : Addr) (n : Nat) (f : Nat → Int32) (z : Int32) (cs : Int32) (h0 : Heap) (n0 : Nat) (Z0 : n0 ≤ h0.size) (f0 : Old Z n0 h0) (f1 : Sta Z Z.heap "java/lang/String" "COMPACT_STRINGS" "Z" (.int cs)) (f2 : Exa Z h0 a "java/lang/String") (f3 : Fld Z h0 a "java/lang/String" "value" "[B" (.ref b)) (f4 : Fld Z h0 a "java/lang/String" "coder" "B" (.int (0 : Int32))) (f5 : AI Z h0 b .byte n f) (hcs : ¬ cs = (0 : Int32)) (hz : z.toInt = (n : Int)) :
    Con l Z (⟨"java/lang/String", "length", "()I"⟩ : MethodName) jdk_42_method_54_code 1 (some .int) ({ frames := 1, cells := 0, slots := 0, locals := 13 } : Room) #[(.ref a)] h0 n0 (fun rv hv => rv = some (.int z) ∧ h0 = hv) := by
  refine Con.enter (plainFor_of_name own_pn0) Z0 ?_
  intro p e s m below meth c T0 C hnm X0
  refine Go.cast (own_ef_rm_ln m a) ?_
  refine Go.aloadN C X0 (pc' := 1) d15_0 rfl rfl rfl ?_
  refine Go.getF C X0 (pc' := 4) (host := "") (Or.inl (own_w hw 28 rfl)) Via.refl f3 d15_1 rfl (fun T5 X5 => ?_)
  refine Go.alenI C X5 (pc' := 5) (z := z) f5 hz d15_4 rfl ?_
  refine Go.aloadN C X5 (pc' := 6) d15_5 rfl rfl rfl ?_
  refine Go.callV C X5 (pc' := 9) (W := 1) (argsL := []) (rest := [(.int z)]) (a := a) (rm_cd l Z a0 hw a cs h0 n0 X5.sz f0 f1 f4 hcs) f2 (notFace_of_selects (args := #[]) (mvT C.2.1 (own_w hw 92 rfl))) (own_w hw 89 rfl) (own_w hw 90 rfl) (own_w hw 92 rfl) (own_w hw 91 rfl) (own_w hw 2 rfl) (own_w hw 93 rfl) (by decide) rfl rfl (lenOf own_pd0 rfl) rfl (Nat.le_of_eq rfl) (by decide) (by decide) (by decide) (by decide) d15_6 rfl (fun _ _ q => Nat.le_of_eq (congrArg Array.size q.2)) (fun T6 h6 v6 X6 P6 => ?_)
  obtain ⟨rfl, rfl⟩ := P6
  show Go p e below _ n0 _ _ _ T6 (mkF m 9 #[.val (.ref a)] [(.int (0 : Int32)), (.int z)])
  refine Go.ishr C X6 (pc' := 10) d15_9 rfl ?_
  exact Go.retI C X6 d15_10 ⟨(by rw [own_shr0]), rfl⟩ (by decide) (by decide)
theorem own_pn1 : plainName "jdk/internal/util/Preconditions" = true := by first | (simp [plainName, overriddenIn]; done) | decide +kernel
theorem own_ef_rm_pc (m : MethodId) (x0 : Int32) (x1 : Int32) (x2 : Value) (hrx2 : x2.isRef = true) : entryFrame m #[(.int x0), (.int x1), x2] 3 = mkF m 0 #[.val (.int x0), .val (.int x1), .val x2] [] := by rcases ref_cases hrx2 with rfl | ⟨ax2, rfl⟩ <;> rfl
theorem d43_0 : decode jdk_41_method_11_code 0 = .ok (.iload_n 0, 1) := by decide +kernel
theorem d43_1 : decode jdk_41_method_11_code 1 = .ok (.ifCond .lt 8, 3) := by decide +kernel
theorem d43_4 : decode jdk_41_method_11_code 4 = .ok (.iload_n 0, 1) := by decide +kernel
theorem d43_5 : decode jdk_41_method_11_code 5 = .ok (.iload_n 1, 1) := by decide +kernel
theorem d43_6 : decode jdk_41_method_11_code 6 = .ok (.if_icmp .lt 10, 3) := by decide +kernel
theorem d43_16 : decode jdk_41_method_11_code 16 = .ok (.iload_n 0, 1) := by decide +kernel
theorem d43_17 : decode jdk_41_method_11_code 17 = .ok (.ireturn, 1) := by decide +kernel
set_option maxRecDepth 65536 in
set_option maxHeartbeats 40000000 in
theorem rm_pc (l : Launch) (Z : State) (a0 : Array Value) (hw : ∀ d ∈ tables_1, d.before a0 Z = true) (y0 : Int32) (y1 : Int32) (sf : Value)  (h0 : Heap) (n0 : Nat) (Z0 : n0 ≤ h0.size) (hsf : sf.isRef = true) (hlo : ¬ y0 < (0 : Int32)) (hhi : y0 < y1) :
    Con l Z (⟨"jdk/internal/util/Preconditions", "checkIndex", "(IILjava/util/function/BiFunction;)I"⟩ : MethodName) jdk_41_method_11_code 3 (some .int) ({ frames := 0, cells := 0, slots := 0, locals := 0 } : Room) #[(.int y0), (.int y1), sf] h0 n0 (fun rv hv => rv = some (.int y0) ∧ h0 = hv) := by
  refine Con.enter (plainFor_of_name own_pn1) Z0 ?_
  intro p e s m below meth c T0 C hnm X0
  refine Go.cast (own_ef_rm_pc m y0 y1 sf hsf) ?_
  refine Go.iloadN C X0 (pc' := 1) d43_0 rfl rfl ?_
  refine Go.ifNo C X0 (pc' := 4) d43_1 ((if0 _ _).trans (flt hlo).1) rfl ?_
  refine Go.iloadN C X0 (pc' := 5) d43_4 rfl rfl ?_
  refine Go.iloadN C X0 (pc' := 6) d43_5 rfl rfl ?_
  refine Go.icmpYes C X0 (pc' := 16) d43_6 (tlt hhi).1 (by decide) (by decide) ?_
  refine Go.iloadN C X0 (pc' := 17) d43_16 rfl rfl ?_
  exact Go.retI C X0 d43_17 ⟨rfl, rfl⟩ (by decide) (by decide)
theorem own_ef_rm_ci (m : MethodId) (x0 : Int32) (x1 : Int32) : entryFrame m #[(.int x0), (.int x1)] 2 = mkF m 0 #[.val (.int x0), .val (.int x1)] [] := by first | (simp [entryFrame, mkF, argsToLocals, Value.category]; done) | rfl
theorem d42_0 : decode jdk_42_method_155_code 0 = .ok (.iload_n 0, 1) := by decide +kernel
theorem d42_1 : decode jdk_42_method_155_code 1 = .ok (.iload_n 1, 1) := by decide +kernel
theorem d42_2 : decode jdk_42_method_155_code 2 = .ok (.getstatic 1053, 3) := by decide +kernel
theorem d42_5 : decode jdk_42_method_155_code 5 = .ok (.invokestatic 1059, 3) := by decide +kernel
theorem own_pd1 : parseMethodDescriptor "(IILjava/util/function/BiFunction;)I" = some ⟨[.int, .int, (.object "java/util/function/BiFunction")], some .int⟩ := by decide +kernel
theorem d42_8 : decode jdk_42_method_155_code 8 = .ok (.pop, 1) := by decide +kernel
theorem d42_9 : decode jdk_42_method_155_code 9 = .ok (.return_, 1) := by decide +kernel
set_option maxRecDepth 65536 in
set_option maxHeartbeats 40000000 in
theorem rm_ci (l : Launch) (Z : State) (a0 : Array Value) (hw : ∀ d ∈ tables_1, d.before a0 Z = true) (y0 : Int32) (y1 : Int32) (sf : Value) (h0 : Heap) (n0 : Nat) (Z0 : n0 ≤ h0.size) (f0 : Old Z n0 h0) (f1 : Sta Z Z.heap "jdk/internal/util/Preconditions" "SIOOBE_FORMATTER" "Ljava/util/function/BiFunction;" sf) (hsf : sf.isRef = true) (hlo : ¬ y0 < (0 : Int32)) (hhi : y0 < y1) :
    Con l Z (⟨"java/lang/String", "checkIndex", "(II)V"⟩ : MethodName) jdk_42_method_155_code 2 none ({ frames := 1, cells := 0, slots := 0, locals := 14 } : Room) #[(.int y0), (.int y1)] h0 n0 (fun rv hv => rv = none ∧ h0 = hv) := by
  refine Con.enter (plainFor_of_name own_pn0) Z0 ?_
  intro p e s m below meth c T0 C hnm X0
  refine Go.cast (own_ef_rm_ci m y0 y1) ?_
  refine Go.iloadN C X0 (pc' := 1) d42_0 rfl rfl ?_
  refine Go.iloadN C X0 (pc' := 2) d42_1 rfl rfl ?_
  refine Go.getS C X0 (pc' := 5) (own_w hw 216 rfl) Via.refl (f1.ext f0.2) d42_2 rfl (fun T7 X7 => ?_)
  refine Go.callS C X7 (pc' := 8) (W := 0) (argsL := [(.int y0), (.int y1), sf]) (rest := []) (rm_pc l Z a0 hw y0 y1 sf  h0 n0 X7.sz hsf hlo hhi) (own_w hw 218 rfl) (own_w hw 219 rfl) (own_w hw 217 rfl) (own_w hw 220 rfl) (by decide) rfl rfl (lenOf own_pd1 rfl) rfl (Nat.le_of_eq rfl) (by decide) (by decide) (by decide) (by decide) d42_5 rfl (fun _ _ q => Nat.le_of_eq (congrArg Array.size q.2)) (fun T8 h8 v8 X8 P8 => ?_)
  obtain ⟨rfl, rfl⟩ := P8
  show Go p e below _ n0 _ _ _ T8 (mkF m 8 #[.val (.int y0), .val (.int y1)] [(.int y0)])
  refine Go.pop C X8 (pc' := 9) d42_8 rfl rfl ?_
  exact Go.retV C X8 d42_9 ⟨rfl, rfl⟩ (by decide) (by decide)
theorem own_pn2 : plainName "java/lang/StringLatin1" = true := by first | (simp [plainName, overriddenIn]; done) | decide +kernel
theorem own_ef_rm_lc (m : MethodId) (x0 : Addr) (x1 : Int32) : entryFrame m #[(.ref x0), (.int x1)] 2 = mkF m 0 #[.val (.ref x0), .val (.int x1)] [] := by first | (simp [entryFrame, mkF, argsToLocals, Value.category]; done) | rfl
theorem d41_0 : decode jdk_43_method_2_code 0 = .ok (.iload_n 1, 1) := by decide +kernel
theorem d41_1 : decode jdk_43_method_2_code 1 = .ok (.aload_n 0, 1) := by decide +kernel
theorem d41_2 : decode jdk_43_method_2_code 2 = .ok (.arraylength, 1) := by decide +kernel
theorem d41_3 : decode jdk_43_method_2_code 3 = .ok (.invokestatic 9, 3) := by decide +kernel
theorem own_pd2 : parseMethodDescriptor "(II)V" = some ⟨[.int, .int], none⟩ := by decide +kernel
theorem d41_6 : decode jdk_43_method_2_code 6 = .ok (.aload_n 0, 1) := by decide +kernel
theorem d41_7 : decode jdk_43_method_2_code 7 = .ok (.iload_n 1, 1) := by decide +kernel
theorem d41_8 : decode jdk_43_method_2_code 8 = .ok (.baload, 1) := by decide +kernel
theorem d41_9 : decode jdk_43_method_2_code 9 = .ok (.sipush 255, 3) := by decide +kernel
theorem d41_12 : decode jdk_43_method_2_code 12 = .ok (.iand, 1) := by decide +kernel
theorem d41_13 : decode jdk_43_method_2_code 13 = .ok (.i2c, 1) := by decide +kernel
theorem d41_14 : decode jdk_43_method_2_code 14 = .ok (.ireturn, 1) := by decide +kernel
set_option maxRecDepth 65536 in
set_option maxHeartbeats 40000000 in
theorem rm_lc (l : Launch) (Z : State) (a0 : Array Value) (hw : ∀ d ∈ tables_1, d.before a0 Z = true) (b : Addr) (j : Int32) (n : Nat) (f : Nat → Int32) (z : Int32) (i : Nat) (sf : Value) (h0 : Heap) (n0 : Nat) (Z0 : n0 ≤ h0.size) (f0 : Old Z n0 h0) (f1 : Sta Z Z.heap "jdk/internal/util/Preconditions" "SIOOBE_FORMATTER" "Ljava/util/function/BiFunction;" sf) (f2 : AI Z h0 b .byte n f) (hsf : sf.isRef = true) (hz : z.toInt = (n : Int)) (hj : j.toInt = (i : Int)) (hi : i < n) :
    Con l Z (⟨"java/lang/StringLatin1", "charAt", "([BI)C"⟩ : MethodName) jdk_43_method_2_code 2 (some .char) ({ frames := 2, cells := 0, slots := 0, locals := 27 } : Room) #[(.ref b), (.int j)] h0 n0 (fun rv hv => rv = some (.int (own_c8 (f i))) ∧ h0 = hv) := by
  refine Con.enter (plainFor_of_name own_pn2) Z0 ?_
  intro p e s m below meth c T0 C hnm X0
  refine Go.cast (own_ef_rm_lc m b j) ?_
  refine Go.iloadN C X0 (pc' := 1) d41_0 rfl rfl ?_
  refine Go.aloadN C X0 (pc' := 2) d41_1 rfl rfl rfl ?_
  refine Go.alenI C X0 (pc' := 3) (z := z) f2 hz d41_2 rfl ?_
  refine Go.callS C X0 (pc' := 6) (W := 0) (argsL := [(.int j), (.int z)]) (rest := []) (rm_ci l Z a0 hw j z sf h0 n0 X0.sz f0 f1 hsf (fun q => by have := own_ilt.mp q; have e : (0 : Int32).toInt = 0 := rfl; omega) (own_ilt.mpr (by omega))) (own_w hw 213 rfl) (own_w hw 214 rfl) (own_w hw 2 rfl) (own_w hw 215 rfl) (by decide) rfl rfl (lenOf own_pd2 rfl) rfl (Nat.le_of_eq rfl) (by decide) (by decide) (by decide) (by decide) d41_3 rfl (fun _ _ q => Nat.le_of_eq (congrArg Array.size q.2)) (fun T9 h9 v9 X9 P9 => ?_)
  obtain ⟨rfl, rfl⟩ := P9
  show Go p e below _ n0 _ _ _ T9 (mkF m 6 #[.val (.ref b), .val (.int j)] [])
  refine Go.aloadN C X9 (pc' := 7) d41_6 rfl rfl rfl ?_
  refine Go.iloadN C X9 (pc' := 8) d41_7 rfl rfl ?_
  refine Go.baload C X9 (pc' := 9) (i := i) (w := (f i)) f2 hj hi rfl d41_8 rfl ?_
  refine Go.sipush C X9 (pc' := 12) (v := (255 : Int32)) d41_9 rfl rfl ?_
  refine Go.iand C X9 (pc' := 13) d41_12 rfl ?_
  refine Go.i2c C X9 (pc' := 14) d41_13 rfl ?_
  exact Go.retZ (t := .char) C X9 (z' := (own_c8 (f i))) (congrArg Value.int (own_c8d (f i))) d41_14 ⟨rfl, rfl⟩ (by decide) (by decide)
theorem own_ef_rm_ca (m : MethodId) (x0 : Addr) (x1 : Int32) : entryFrame m #[(.ref x0), (.int x1)] 2 = mkF m 0 #[.val (.ref x0), .val (.int x1)] [] := by first | (simp [entryFrame, mkF, argsToLocals, Value.category]; done) | rfl
theorem d39_0 : decode jdk_42_method_56_code 0 = .ok (.aload_n 0, 1) := by decide +kernel
theorem d39_1 : decode jdk_42_method_56_code 1 = .ok (.invokevirtual 492, 3) := by decide +kernel
theorem own_pd3 : parseMethodDescriptor "()Z" = some ⟨[], some .boolean⟩ := by decide +kernel
theorem d39_4 : decode jdk_42_method_56_code 4 = .ok (.ifCond .eq 12, 3) := by decide +kernel
theorem d39_7 : decode jdk_42_method_56_code 7 = .ok (.aload_n 0, 1) := by decide +kernel
theorem d39_8 : decode jdk_42_method_56_code 8 = .ok (.getfield 9, 3) := by decide +kernel
theorem d39_11 : decode jdk_42_method_56_code 11 = .ok (.iload_n 1, 1) := by decide +kernel
theorem d39_12 : decode jdk_42_method_56_code 12 = .ok (.invokestatic 495, 3) := by decide +kernel
theorem own_pd4 : parseMethodDescriptor "([BI)C" = some ⟨[(.array .byte), .int], some .char⟩ := by decide +kernel
theorem d39_15 : decode jdk_42_method_56_code 15 = .ok (.ireturn, 1) := by decide +kernel
set_option maxRecDepth 65536 in
set_option maxHeartbeats 40000000 in
theorem rm_ca (l : Launch) (Z : State) (a0 : Array Value) (hw : ∀ d ∈ tables_1, d.before a0 Z = true) (a : Addr) (j : Int32) (b : Addr) (n : Nat) (f : Nat → Int32) (z : Int32) (i : Nat) (cs : Int32) (sf : Value) (h0 : Heap) (n0 : Nat) (Z0 : n0 ≤ h0.size) (f0 : Old Z n0 h0) (f1 : Sta Z Z.heap "java/lang/String" "COMPACT_STRINGS" "Z" (.int cs)) (f2 : Sta Z Z.heap "jdk/internal/util/Preconditions" "SIOOBE_FORMATTER" "Ljava/util/function/BiFunction;" sf) (f3 : Exa Z h0 a "java/lang/String") (f4 : Fld Z h0 a "java/lang/String" "value" "[B" (.ref b)) (f5 : Fld Z h0 a "java/lang/String" "coder" "B" (.int (0 : Int32))) (f6 : AI Z h0 b .byte n f) (hcs : ¬ cs = (0 : Int32)) (hsf : sf.isRef = true) (hz : z.toInt = (n : Int)) (hj : j.toInt = (i : Int)) (hi : i < n) :
    Con l Z (⟨"java/lang/String", "charAt", "(I)C"⟩ : MethodName) jdk_42_method_56_code 2 (some .char) ({ frames := 3, cells := 0, slots := 0, locals := 40 } : Room) #[(.ref a), (.int j)] h0 n0 (fun rv hv => rv = some (.int (own_c8 (f i))) ∧ h0 = hv) := by
  refine Con.enter (plainFor_of_name own_pn0) Z0 ?_
  intro p e s m below meth c T0 C hnm X0
  refine Go.cast (own_ef_rm_ca m a j) ?_
  refine Go.aloadN C X0 (pc' := 1) d39_0 rfl rfl rfl ?_
  refine Go.callV C X0 (pc' := 4) (W := 0) (argsL := []) (rest := []) (a := a) (rm_il l Z a0 hw a cs h0 n0 X0.sz f0 f1 f5 hcs) f3 (notFace_of_selects (args := #[]) (mvT C.2.1 (own_w hw 207 rfl))) (own_w hw 204 rfl) (own_w hw 205 rfl) (own_w hw 207 rfl) (own_w hw 206 rfl) (own_w hw 2 rfl) (own_w hw 208 rfl) (by decide) rfl rfl (lenOf own_pd3 rfl) rfl (Nat.le_of_eq rfl) (by decide) (by decide) (by decide) (by decide) d39_1 rfl (fun _ _ q => Nat.le_of_eq (congrArg Array.size q.2)) (fun T10 h10 v10 X10 P10 => ?_)
  obtain ⟨rfl, rfl⟩ := P10
  show Go p e below _ n0 _ _ _ T10 (mkF m 4 #[.val (.ref a), .val (.int j)] [(.int (1 : Int32))])
  refine Go.ifNo C X10 (pc' := 7) d39_4 ((if0 _ _).trans (feq (by decide)).1) rfl ?_
  refine Go.aloadN C X10 (pc' := 8) d39_7 rfl rfl rfl ?_
  refine Go.getF C X10 (pc' := 11) (host := "") (Or.inl (own_w hw 28 rfl)) Via.refl f4 d39_8 rfl (fun T11 X11 => ?_)
  refine Go.iloadN C X11 (pc' := 12) d39_11 rfl rfl ?_
  refine Go.callS C X11 (pc' := 15) (W := 0) (argsL := [(.ref b), (.int j)]) (rest := []) (rm_lc l Z a0 hw b j n f z i sf h0 n0 X11.sz f0 f2 f6 hsf hz hj hi) (own_w hw 209 rfl) (own_w hw 210 rfl) (own_w hw 211 rfl) (own_w hw 212 rfl) (by decide) rfl rfl (lenOf own_pd4 rfl) rfl (Nat.le_of_eq rfl) (by decide) (by decide) (by decide) (by decide) d39_12 rfl (fun _ _ q => Nat.le_of_eq (congrArg Array.size q.2)) (fun T12 h12 v12 X12 P12 => ?_)
  obtain ⟨rfl, rfl⟩ := P12
  show Go p e below _ n0 _ _ _ T12 (mkF m 15 #[.val (.ref a), .val (.int j)] [(.int (own_c8 (f i)))])
  exact Go.retZ (t := .char) C X12 (z' := (own_c8 (f i))) (congrArg Value.int (own_c8n (f i))) d39_15 ⟨rfl, rfl⟩ (by decide) (by decide)
theorem own_up1 {x : Int32} {i : Nat} (h : x.toInt = (i : Int)) (hi : i < 100) : (x + (1 : Int32)).toInt = ((i + 1 : Nat) : Int) := by
  have e : (1 : Int32).toInt = 1 := rfl
  rw [own_iadd (by omega) (by omega), h, e]; omega
theorem own_pn3 : plainName "java/lang/StringUTF16" = true := by first | (simp [plainName, overriddenIn]; done) | decide +kernel
theorem own_ef_rm_cl (m : MethodId) (x0 : Addr) (x1 : Int32) (x2 : Addr) (x3 : Int32) (x4 : Int32) : entryFrame m #[(.ref x0), (.int x1), (.ref x2), (.int x3), (.int x4)] 7 = mkF m 0 #[.val (.ref x0), .val (.int x1), .val (.ref x2), .val (.int x3), .val (.int x4), .unset, .unset] [] := by first | (simp [entryFrame, mkF, argsToLocals, Value.category]; done) | rfl
theorem d5_0 : decode jdk_52_method_21_code 0 = .ok (.iconst 0, 1) := by decide +kernel
theorem d5_1 : decode jdk_52_method_21_code 1 = .ok (.istore 5, 2) := by decide +kernel
theorem d5_3 : decode jdk_52_method_21_code 3 = .ok (.iload 5, 2) := by decide +kernel
theorem d5_5 : decode jdk_52_method_21_code 5 = .ok (.iload 4, 2) := by decide +kernel
theorem d5_7 : decode jdk_52_method_21_code 7 = .ok (.if_icmp .ge 37, 3) := by decide +kernel
theorem d5_10 : decode jdk_52_method_21_code 10 = .ok (.aload_n 0, 1) := by decide +kernel
theorem d5_11 : decode jdk_52_method_21_code 11 = .ok (.iload_n 1, 1) := by decide +kernel
theorem d5_12 : decode jdk_52_method_21_code 12 = .ok (.caload, 1) := by decide +kernel
theorem d5_13 : decode jdk_52_method_21_code 13 = .ok (.istore 6, 2) := by decide +kernel
theorem d5_15 : decode jdk_52_method_21_code 15 = .ok (.iload 6, 2) := by decide +kernel
theorem d5_17 : decode jdk_52_method_21_code 17 = .ok (.sipush 255, 3) := by decide +kernel
theorem d5_20 : decode jdk_52_method_21_code 20 = .ok (.if_icmp .le 6, 3) := by decide +kernel
theorem d5_26 : decode jdk_52_method_21_code 26 = .ok (.aload_n 2, 1) := by decide +kernel
theorem d5_27 : decode jdk_52_method_21_code 27 = .ok (.iload_n 3, 1) := by decide +kernel
theorem d5_28 : decode jdk_52_method_21_code 28 = .ok (.iload 6, 2) := by decide +kernel
theorem d5_30 : decode jdk_52_method_21_code 30 = .ok (.i2b, 1) := by decide +kernel
theorem d5_31 : decode jdk_52_method_21_code 31 = .ok (.bastore, 1) := by decide +kernel
theorem d5_32 : decode jdk_52_method_21_code 32 = .ok (.iinc 1 1, 3) := by decide +kernel
theorem d5_35 : decode jdk_52_method_21_code 35 = .ok (.iinc 3 1, 3) := by decide +kernel
theorem d5_38 : decode jdk_52_method_21_code 38 = .ok (.iinc 5 1, 3) := by decide +kernel
theorem d5_41 : decode jdk_52_method_21_code 41 = .ok (.goto (-38), 3) := by decide +kernel
theorem d5_44 : decode jdk_52_method_21_code 44 = .ok (.iload 4, 2) := by decide +kernel
theorem d5_46 : decode jdk_52_method_21_code 46 = .ok (.ireturn, 1) := by decide +kernel
set_option maxRecDepth 65536 in
set_option maxHeartbeats 40000000 in
theorem rm_cl (l : Launch) (Z : State) (a0 : Array Value) (hw : ∀ d ∈ tables_1, d.before a0 Z = true) (sa : Addr) (o1 : Int32) (da : Addr) (o3 : Int32) (ln : Int32) (n : Nat) (cf : Nat → Int32) (h0 : Heap) (n0 : Nat) (Z0 : n0 ≤ h0.size) (f0 : AI Z h0 sa .char n cf) (f1 : AI Z h0 da .byte n (fun _ => 0)) (f2 : n0 ≤ da) (f3 : sa ≠ da) (ho1 : o1.toInt = ((0 : Nat) : Int)) (ho3 : o3.toInt = ((0 : Nat) : Int)) (hl : ln.toInt = (n : Int)) (hn : n ≤ 2) (hcf : ∀ q, ¬ (255 : Int32) < cf q) :
    Con l Z (⟨"java/lang/StringUTF16", "compress", "([CI[BII)I"⟩ : MethodName) jdk_52_method_21_code 7 (some .int) ({ frames := 0, cells := 0, slots := 0, locals := 0 } : Room) #[(.ref sa), (.int o1), (.ref da), (.int o3), (.int ln)] h0 n0 (fun rv hv => ∃ f1 : Nat → Int32, rv = some (.int ln) ∧ Keep h0 hv [da] ∧ AI Z hv da .byte n f1 ∧ (∀ q, own_bt (f1 q))) := by
  refine Con.enter (plainFor_of_name own_pn3) Z0 ?_
  intro p e s m below meth c T0 C hnm X0
  refine Go.cast (own_ef_rm_cl m sa o1 da o3 ln) ?_
  refine Go.iconst C X0 (pc' := 1) (v := (0 : Int32)) d5_0 rfl rfl ?_
  refine Go.istore C X0 (pc' := 3) (Ls' := #[.val (.ref sa), .val (.int o1), .val (.ref da), .val (.int o3), .val (.int ln), .val (.int (0 : Int32)), .unset]) d5_1 rfl rfl ?_
  have Cut3 : ∀ (fuel : Nat) (T_3 : State) (h_3 : Heap) (ii : Nat) (g : Nat → Int32) (u1 : Int32) (u3 : Int32) (u5 : Int32) (s6 : Slot), (n - ii) < fuel → (u1.toInt = (ii : Int)) → (u3.toInt = (ii : Int)) → (u5.toInt = (ii : Int)) → (ii ≤ n) → (∀ q, own_bt (g q)) → (s6 = .unset ∨ ∃ w : Int32, s6 = .val (.int w)) → On p l e ({ frames := 0, cells := 0, slots := 0, locals := 0 } : Room) s m #[(.ref sa), (.int o1), (.ref da), (.int o3), (.int ln)] below meth c n0 T_3 h_3 0 0 → Keep h0 h_3 [da] → AI Z h_3 sa .char n cf → AI Z h_3 da .byte n g → Go p e below (FrameEnd s) n0 (({ frames := 0, cells := 0, slots := 0, locals := 0 } : Room)).cells (({ frames := 0, cells := 0, slots := 0, locals := 0 } : Room)).slots (fun rv hv => ∃ f1 : Nat → Int32, rv = some (.int ln) ∧ Keep h0 hv [da] ∧ AI Z hv da .byte n f1 ∧ (∀ q, own_bt (f1 q))) T_3 (mkF m 3 #[.val (.ref sa), .val (.int u1), .val (.ref da), .val (.int u3), .val (.int ln), .val (.int u5), s6] []) := by
    intro fuel
    induction fuel with
    | zero => intro T_3 h_3 ii g u1 u3 u5 s6 hM_3 h1 h3 h5 hle hg hs6 X_3 K_3 G3_0 G3_1; exact absurd hM_3 (Nat.not_lt_zero _)
    | succ fuel ih_3 =>
      intro T_3 h_3 ii g u1 u3 u5 s6 hM_3 h1 h3 h5 hle hg hs6 X_3 K_3 G3_0 G3_1
      refine Go.iload C X_3 (pc' := 5) d5_3 rfl rfl ?_
      refine Go.iload C X_3 (pc' := 7) d5_5 rfl rfl ?_
      by_cases c13 : u5 < ln
      · refine Go.icmpNo C X_3 (pc' := 10) d5_7 (tlt c13).2.1 rfl ?_
        refine Go.aloadN C X_3 (pc' := 11) d5_10 rfl rfl rfl ?_
        refine Go.iloadN C X_3 (pc' := 12) d5_11 rfl rfl ?_
        refine Go.caload C X_3 (pc' := 13) (i := ii) (w := (cf ii)) G3_0 h1 (show ii < n by have := own_ilt.mp c13; omega) rfl d5_12 rfl ?_
        refine Go.istore C X_3 (pc' := 15) (Ls' := #[.val (.ref sa), .val (.int u1), .val (.ref da), .val (.int u3), .val (.int ln), .val (.int u5), .val (.int (cf ii))]) d5_13 (by rcases hs6 with rfl | ⟨w, rfl⟩ <;> rfl) rfl ?_
        refine Go.iload C X_3 (pc' := 17) d5_15 rfl rfl ?_
        refine Go.sipush C X_3 (pc' := 20) (v := (255 : Int32)) d5_17 rfl rfl ?_
        refine Go.icmpYes C X_3 (pc' := 26) d5_20 (flt (hcf ii)).2.2.2 (by decide) (by decide) ?_
        refine Go.aloadN C X_3 (pc' := 27) d5_26 rfl rfl rfl ?_
        refine Go.iloadN C X_3 (pc' := 28) d5_27 rfl rfl ?_
        refine Go.iload C X_3 (pc' := 30) d5_28 rfl rfl ?_
        refine Go.i2b C X_3 (pc' := 31) d5_30 rfl ?_
        refine Go.bastore C X_3 (pc' := 32) (i := ii) (x' := ((cf ii).toInt8.toInt32)) G3_1 h3 (show ii < n by have := own_ilt.mp c13; omega) (own_b2 _) f2 d5_31 rfl (fun T14 h14 X14 W14 A14 => ?_)
        have K15 : Keep h0 h14 [da] := K_3.wr W14 (Or.inl (List.mem_of_getElem? (i := 0) rfl))
        have A16 := G3_0.other W14 f3
        refine Go.iinc C X14 (pc' := 35) (Ls' := #[.val (.ref sa), .val (.int (u1 + (1 : Int32))), .val (.ref da), .val (.int u3), .val (.int ln), .val (.int u5), .val (.int (cf ii))]) (v' := (u1 + (1 : Int32))) d5_32 rfl rfl rfl rfl ?_
        refine Go.iinc C X14 (pc' := 38) (Ls' := #[.val (.ref sa), .val (.int (u1 + (1 : Int32))), .val (.ref da), .val (.int (u3 + (1 : Int32))), .val (.int ln), .val (.int u5), .val (.int (cf ii))]) (v' := (u3 + (1 : Int32))) d5_35 rfl rfl rfl rfl ?_
        refine Go.iinc C X14 (pc' := 41) (Ls' := #[.val (.ref sa), .val (.int (u1 + (1 : Int32))), .val (.ref da), .val (.int (u3 + (1 : Int32))), .val (.int ln), .val (.int (u5 + (1 : Int32))), .val (.int (cf ii))]) (v' := (u5 + (1 : Int32))) d5_38 rfl rfl rfl rfl ?_
        refine Go.goto C X14 (pc' := 3) d5_41 (by decide) (by decide) ?_
        exact ih_3 T14 h14 (ii + 1) (fun q => if q = ii then ((cf ii).toInt8.toInt32) else g q) (u1 + (1 : Int32)) (u3 + (1 : Int32)) (u5 + (1 : Int32)) (.val (.int (cf ii))) (by have := (show ii < n by have := own_ilt.mp c13; omega); omega) (own_up1 h1 (by omega)) (own_up1 h3 (by omega)) (own_up1 h5 (by omega)) (by have := (show ii < n by have := own_ilt.mp c13; omega); omega) (own_upd (R := own_bt) hg (own_i2b _)) (Or.inr ⟨_, rfl⟩) X14 K15 A16 A14
      · refine Go.icmpYes C X_3 (pc' := 44) d5_7 (flt c13).2.1 (by decide) (by decide) ?_
        refine Go.iload C X_3 (pc' := 46) d5_44 rfl rfl ?_
        exact Go.retI C X_3 d5_46 ⟨g, rfl, K_3, G3_1, hg⟩ (by decide) (by decide)
  exact Cut3 (_) T0 h0 0 (fun _ => 0) o1 o3 (0 : Int32) (.unset) (Nat.lt_succ_self _) ho1 ho3 rfl (Nat.zero_le _) (fun _ => by unfold own_bt; decide) (Or.inl rfl) X0 (Keep.refl h0 [da]) f0 f1
theorem own_ef_rm_cm (m : MethodId) (x0 : Addr) (x1 : Int32) (x2 : Int32) : entryFrame m #[(.ref x0), (.int x1), (.int x2)] 6 = mkF m 0 #[.val (.ref x0), .val (.int x1), .val (.int x2), .unset, .unset, .unset] [] := by first | (simp [entryFrame, mkF, argsToLocals, Value.category]; done) | rfl
theorem d4_0 : decode jdk_52_method_16_code 0 = .ok (.iload_n 2, 1) := by decide +kernel
theorem d4_1 : decode jdk_52_method_16_code 1 = .ok (.newarray .byte, 2) := by decide +kernel
theorem d4_3 : decode jdk_52_method_16_code 3 = .ok (.astore_n 3, 1) := by decide +kernel
theorem d4_4 : decode jdk_52_method_16_code 4 = .ok (.aload_n 0, 1) := by decide +kernel
theorem d4_5 : decode jdk_52_method_16_code 5 = .ok (.iload_n 1, 1) := by decide +kernel
theorem d4_6 : decode jdk_52_method_16_code 6 = .ok (.aload_n 3, 1) := by decide +kernel
theorem d4_7 : decode jdk_52_method_16_code 7 = .ok (.iconst 0, 1) := by decide +kernel
theorem d4_8 : decode jdk_52_method_16_code 8 = .ok (.iload_n 2, 1) := by decide +kernel
theorem d4_9 : decode jdk_52_method_16_code 9 = .ok (.invokestatic 115, 3) := by decide +kernel
theorem own_pd5 : parseMethodDescriptor "([CI[BII)I" = some ⟨[(.array .char), .int, (.array .byte), .int, .int], some .int⟩ := by decide +kernel
theorem d4_12 : decode jdk_52_method_16_code 12 = .ok (.istore 4, 2) := by decide +kernel
theorem d4_14 : decode jdk_52_method_16_code 14 = .ok (.iload 4, 2) := by decide +kernel
theorem d4_16 : decode jdk_52_method_16_code 16 = .ok (.iload_n 2, 1) := by decide +kernel
theorem d4_17 : decode jdk_52_method_16_code 17 = .ok (.if_icmp .eq 40, 3) := by decide +kernel
theorem d4_57 : decode jdk_52_method_16_code 57 = .ok (.aload_n 3, 1) := by decide +kernel
theorem d4_58 : decode jdk_52_method_16_code 58 = .ok (.areturn, 1) := by decide +kernel
set_option maxRecDepth 65536 in
set_option maxHeartbeats 40000000 in
theorem rm_cm (l : Launch) (Z : State) (a0 : Array Value) (hw : ∀ d ∈ tables_1, d.before a0 Z = true) (sa : Addr) (o1 : Int32) (ln : Int32) (n : Nat) (cf : Nat → Int32) (h0 : Heap) (n0 : Nat) (Z0 : n0 ≤ h0.size) (f0 : AI Z h0 sa .char n cf) (ho1 : o1.toInt = ((0 : Nat) : Int)) (hl : ln.toInt = (n : Int)) (hn : n ≤ 2) (hcf : ∀ q, ¬ (255 : Int32) < cf q) :
    Con l Z (⟨"java/lang/StringUTF16", "compress", "([CII)[B"⟩ : MethodName) jdk_52_method_16_code 6 (some (.array .byte)) ({ frames := 1, cells := 1, slots := 2, locals := 18 } : Room) #[(.ref sa), (.int o1), (.int ln)] h0 n0 (fun rv hv => ∃ t : Addr, ∃ f1 : Nat → Int32, rv = some (.ref t) ∧ h0.size ≤ t ∧ Keep h0 hv [] ∧ AI Z hv t .byte n f1 ∧ (∀ q, own_bt (f1 q))) := by
  refine Con.enter (plainFor_of_name own_pn3) Z0 ?_
  intro p e s m below meth c T0 C hnm X0
  refine Go.cast (own_ef_rm_cm m sa o1 ln) ?_
  refine Go.iloadN C X0 (pc' := 1) d4_0 rfl rfl ?_
  refine Go.newP C X0 (pc' := 3) (nn := n) (cap := 2) (own_w hw 19 rfl) d4_1 hl hn (by decide) (by decide) (by decide) rfl (fun T17 h17 b17 k17 X17 g17 E17 Ar17 N17 => ?_)
  have ne_sa_b17 : sa ≠ b17 := Nat.ne_of_lt (Nat.lt_of_lt_of_eq f0.lt g17.symm)
  have Q17 : h0.size ≤ b17 := Nat.le_trans (Keep.refl h0 []).1 (Nat.le_of_eq g17.symm)
  have K18 : Keep h0 h17 [] := (Keep.refl h0 []).ext E17
  have A19 := f0.ext E17
  have A17 : AI Z h17 b17 .byte n (fun _ => 0) := AI.new hl rfl Ar17
  refine Go.astoreN C X17 (pc' := 4) (Ls' := #[.val (.ref sa), .val (.int o1), .val (.int ln), .val (.ref b17), .unset, .unset]) d4_3 rfl rfl rfl ?_
  refine Go.aloadN C X17 (pc' := 5) d4_4 rfl rfl rfl ?_
  refine Go.iloadN C X17 (pc' := 6) d4_5 rfl rfl ?_
  refine Go.aloadN C X17 (pc' := 7) d4_6 rfl rfl rfl ?_
  refine Go.iconst C X17 (pc' := 8) (v := (0 : Int32)) d4_7 rfl rfl ?_
  refine Go.iloadN C X17 (pc' := 9) d4_8 rfl rfl ?_
  refine Go.callS C X17 (pc' := 12) (W := 0) (argsL := [(.ref sa), (.int o1), (.ref b17), (.int (0 : Int32)), (.int ln)]) (rest := []) (rm_cl l Z a0 hw sa o1 b17 (0 : Int32) ln n cf h17 n0 X17.sz A19 A17 N17 ne_sa_b17 ho1 rfl hl hn hcf) (own_w hw 20 rfl) (own_w hw 21 rfl) (own_w hw 17 rfl) (own_w hw 22 rfl) (by decide) rfl rfl (lenOf own_pd5 rfl) rfl (Nat.le_of_eq rfl) (by decide) (by decide) (by decide) (by decide) d4_9 rfl (fun _ _ q => by obtain ⟨_, _, K, _⟩ := q; exact K.1) (fun T20 h20 v20 X20 P20 => ?_)
  obtain ⟨f120, rfl, K20, O20_0, Y20_0⟩ := P20
  have K21 : Keep h0 h20 [] := K18.trans K20 (allS (Or.inr Q17) all0)
  have A22 := A19.keep K20 (ninS ne_sa_b17 nin0)
  show Go p e below _ n0 _ _ _ T20 (mkF m 12 #[.val (.ref sa), .val (.int o1), .val (.int ln), .val (.ref b17), .unset, .unset] [(.int ln)])
  refine Go.istore C X20 (pc' := 14) (Ls' := #[.val (.ref sa), .val (.int o1), .val (.int ln), .val (.ref b17), .val (.int ln), .unset]) d4_12 rfl rfl ?_
  refine Go.iload C X20 (pc' := 16) d4_14 rfl rfl ?_
  refine Go.iloadN C X20 (pc' := 17) d4_16 rfl rfl ?_
  refine Go.icmpYes C X20 (pc' := 57) d4_17 (teq rfl).1 (by decide) (by decide) ?_
  refine Go.aloadN C X20 (pc' := 58) d4_57 rfl rfl rfl ?_
  exact Go.retAA C X20 rfl d4_58 ⟨b17, f120, rfl, Q17, K21, O20_0, Y20_0⟩ (by decide) (by decide)
theorem own_ef_rm_cf (m : MethodId) (x0 : Addr) (x1 : Int32) : entryFrame m #[(.ref x0), (.int x1)] 2 = mkF m 0 #[.val (.ref x0), .val (.int x1)] [] := by first | (simp [entryFrame, mkF, argsToLocals, Value.category]; done) | rfl
theorem d6_0 : decode jdk_52_method_15_code 0 = .ok (.iload_n 1, 1) := by decide +kernel
theorem d6_1 : decode jdk_52_method_15_code 1 = .ok (.aload_n 0, 1) := by decide +kernel
theorem d6_2 : decode jdk_52_method_15_code 2 = .ok (.arraylength, 1) := by decide +kernel
theorem d6_3 : decode jdk_52_method_15_code 3 = .ok (.isub, 1) := by decide +kernel
theorem d6_4 : decode jdk_52_method_15_code 4 = .ok (.bipush 31, 2) := by decide +kernel
theorem d6_6 : decode jdk_52_method_15_code 6 = .ok (.iushr, 1) := by decide +kernel
theorem d6_7 : decode jdk_52_method_15_code 7 = .ok (.i2b, 1) := by decide +kernel
theorem d6_8 : decode jdk_52_method_15_code 8 = .ok (.ireturn, 1) := by decide +kernel
set_option maxRecDepth 65536 in
set_option maxHeartbeats 40000000 in
theorem rm_cf (l : Launch) (Z : State) (a0 : Array Value) (hw : ∀ d ∈ tables_1, d.before a0 Z = true) (b : Addr) (z : Int32) (n : Nat) (f : Nat → Int32) (h0 : Heap) (n0 : Nat) (Z0 : n0 ≤ h0.size) (f0 : AI Z h0 b .byte n f) (hz : z.toInt = (n : Int)) :
    Con l Z (⟨"java/lang/StringUTF16", "coderFromArrayLen", "([BI)B"⟩ : MethodName) jdk_52_method_15_code 2 (some .byte) ({ frames := 0, cells := 0, slots := 0, locals := 0 } : Room) #[(.ref b), (.int z)] h0 n0 (fun rv hv => rv = some (.int (0 : Int32)) ∧ h0 = hv) := by
  refine Con.enter (plainFor_of_name own_pn3) Z0 ?_
  intro p e s m below meth c T0 C hnm X0
  refine Go.cast (own_ef_rm_cf m b z) ?_
  refine Go.iloadN C X0 (pc' := 1) d6_0 rfl rfl ?_
  refine Go.aloadN C X0 (pc' := 2) d6_1 rfl rfl rfl ?_
  refine Go.alenI C X0 (pc' := 3) (z := z) f0 hz d6_2 rfl ?_
  refine Go.isub C X0 (pc' := 4) d6_3 rfl ?_
  refine Go.bipush C X0 (pc' := 6) (v := (31 : Int32)) d6_4 rfl rfl ?_
  refine Go.iushr C X0 (pc' := 7) d6_6 rfl ?_
  refine Go.i2b C X0 (pc' := 8) d6_7 rfl ?_
  exact Go.retZ (t := .byte) C X0 (z' := (0 : Int32)) (by rw [own_self0]; rfl) d6_8 ⟨rfl, rfl⟩ (by decide) (by decide)
theorem own_ef_rm_sv (m : MethodId) (x0 : Addr) (x1 : Addr) (x2 : Int32) (x3 : Int32) (x4 : Value) (hrx4 : x4.isRef = true) : entryFrame m #[(.ref x0), (.ref x1), (.int x2), (.int x3), x4] 6 = mkF m 0 #[.val (.ref x0), .val (.ref x1), .val (.int x2), .val (.int x3), .val x4, .unset] [] := by rcases ref_cases hrx4 with rfl | ⟨ax4, rfl⟩ <;> rfl
theorem d2_0 : decode jdk_42_method_149_code 0 = .ok (.aload_n 0, 1) := by decide +kernel
theorem d2_1 : decode jdk_42_method_149_code 1 = .ok (.invokespecial 1, 3) := by decide +kernel
theorem d2_4 : decode jdk_42_method_149_code 4 = .ok (.iload_n 3, 1) := by decide +kernel
theorem d2_5 : decode jdk_42_method_149_code 5 = .ok (.ifCond .ne 22, 3) := by decide +kernel
theorem d2_27 : decode jdk_42_method_149_code 27 = .ok (.getstatic 38, 3) := by decide +kernel
theorem d2_30 : decode jdk_42_method_149_code 30 = .ok (.ifCond .eq 28, 3) := by decide +kernel
theorem d2_33 : decode jdk_42_method_149_code 33 = .ok (.aload_n 1, 1) := by decide +kernel
theorem d2_34 : decode jdk_42_method_149_code 34 = .ok (.iload_n 2, 1) := by decide +kernel
theorem d2_35 : decode jdk_42_method_149_code 35 = .ok (.iload_n 3, 1) := by decide +kernel
theorem d2_36 : decode jdk_42_method_149_code 36 = .ok (.invokestatic 177, 3) := by decide +kernel
theorem own_pd6 : parseMethodDescriptor "([CII)[B" = some ⟨[(.array .char), .int, .int], some (.array .byte)⟩ := by decide +kernel
theorem d2_39 : decode jdk_42_method_149_code 39 = .ok (.astore 5, 2) := by decide +kernel
theorem d2_41 : decode jdk_42_method_149_code 41 = .ok (.aload_n 0, 1) := by decide +kernel
theorem d2_42 : decode jdk_42_method_149_code 42 = .ok (.aload 5, 2) := by decide +kernel
theorem d2_44 : decode jdk_42_method_149_code 44 = .ok (.iload_n 3, 1) := by decide +kernel
theorem d2_45 : decode jdk_42_method_149_code 45 = .ok (.invokestatic 47, 3) := by decide +kernel
theorem own_pd7 : parseMethodDescriptor "([BI)B" = some ⟨[(.array .byte), .int], some .byte⟩ := by decide +kernel
theorem d2_48 : decode jdk_42_method_149_code 48 = .ok (.putfield 15, 3) := by decide +kernel
theorem d2_51 : decode jdk_42_method_149_code 51 = .ok (.aload_n 0, 1) := by decide +kernel
theorem d2_52 : decode jdk_42_method_149_code 52 = .ok (.aload 5, 2) := by decide +kernel
theorem d2_54 : decode jdk_42_method_149_code 54 = .ok (.putfield 9, 3) := by decide +kernel
theorem d2_57 : decode jdk_42_method_149_code 57 = .ok (.return_, 1) := by decide +kernel
set_option maxRecDepth 65536 in
set_option maxHeartbeats 40000000 in
theorem rm_sv (l : Launch) (Z : State) (a0 : Array Value) (hw : ∀ d ∈ tables_1, d.before a0 Z = true) (a : Addr) (sa : Addr) (o1 : Int32) (ln : Int32) (vd : Value) (n : Nat) (cf : Nat → Int32) (cs : Int32) (h0 : Heap) (n0 : Nat) (Z0 : n0 ≤ h0.size) (f0 : Old Z n0 h0) (f1 : Sta Z Z.heap "java/lang/String" "COMPACT_STRINGS" "Z" (.int cs)) (f2 : Exa Z h0 a "java/lang/String") (f3 : Fld Z h0 a "java/lang/String" "value" "[B" .null) (f4 : Fld Z h0 a "java/lang/String" "coder" "B" (.int (0 : Int32))) (f5 : n0 ≤ a) (f6 : AI Z h0 sa .char n cf) (f7 : a ≠ sa) (hcs : ¬ cs = (0 : Int32)) (hvd : vd.isRef = true) (ho1 : o1.toInt = ((0 : Nat) : Int)) (hl : ln.toInt = (n : Int)) (h1 : 1 ≤ n) (hn : n ≤ 2) (hcf : ∀ q, ¬ (255 : Int32) < cf q) :
    Con l Z (⟨"java/lang/String", "<init>", "([CIILjava/lang/Void;)V"⟩ : MethodName) jdk_42_method_149_code 6 none ({ frames := 2, cells := 1, slots := 2, locals := 35 } : Room) #[(.ref a), (.ref sa), (.int o1), (.int ln), vd] h0 n0 (fun rv hv => ∃ t : Addr, ∃ f1 : Nat → Int32, rv = none ∧ h0.size ≤ t ∧ Keep h0 hv [a] ∧ Exa Z hv a "java/lang/String" ∧ Fld Z hv a "java/lang/String" "value" "[B" (.ref t) ∧ Fld Z hv a "java/lang/String" "coder" "B" (.int (0 : Int32)) ∧ AI Z hv t .byte n f1 ∧ a ≠ t ∧ (∀ q, own_bt (f1 q))) := by
  refine Con.enter (plainFor_of_name own_pn0) Z0 ?_
  intro p e s m below meth c T0 C hnm X0
  refine Go.cast (own_ef_rm_sv m a sa o1 ln vd hvd) ?_
  refine Go.aloadN C X0 (pc' := 1) d2_0 rfl rfl rfl ?_
  refine Go.initO C X0 (pc' := 4) (fun locs X eT => RoadKit.initO X C.1 C.2.1 C.2.2.2.1 (own_w hw 11 rfl) (own_w hw 12 rfl) (own_w hw 13 rfl) eT (g := (mkF m 1 #[.val (.ref a), .val (.ref sa), .val (.int o1), .val (.int ln), .val vd, .unset] [(.ref a)])) rfl (by rw [C.2.2.2.2.1]; rfl) rfl (hb C.2.2.1 d2_1) (by decide) (W := 0) (by show 2 * 0 + _ ≤ _; exact Nat.le_of_eq rfl) (by decide)) rfl (fun T23 X23 => ?_)
  refine Go.iloadN C X23 (pc' := 5) d2_4 rfl rfl ?_
  refine Go.ifYes C X23 (pc' := 27) d2_5 ((if0 _ _).trans (feq (fun q => by have := own_ieq.mp q; have e : (0 : Int32).toInt = 0 := rfl; omega)).2) (by decide) (by decide) ?_
  refine Go.getS C X23 (pc' := 30) (own_w hw 14 rfl) Via.refl (f1.ext f0.2) d2_27 rfl (fun T24 X24 => ?_)
  refine Go.ifNo C X24 (pc' := 33) d2_30 ((if0 _ _).trans (feq hcs).1) rfl ?_
  refine Go.aloadN C X24 (pc' := 34) d2_33 rfl rfl rfl ?_
  refine Go.iloadN C X24 (pc' := 35) d2_34 rfl rfl ?_
  refine Go.iloadN C X24 (pc' := 36) d2_35 rfl rfl ?_
  refine Go.callS C X24 (pc' := 39) (W := 0) (argsL := [(.ref sa), (.int o1), (.int ln)]) (rest := []) (rm_cm l Z a0 hw sa o1 ln n cf h0 n0 X24.sz f6 ho1 hl hn hcf) (own_w hw 15 rfl) (own_w hw 16 rfl) (own_w hw 17 rfl) (own_w hw 18 rfl) (by decide) rfl rfl (lenOf own_pd6 rfl) rfl (Nat.le_of_eq rfl) (by decide) (by decide) (by decide) (by decide) d2_36 rfl (fun _ _ q => by obtain ⟨_, _, _, _, K, _⟩ := q; exact K.1) (fun T25 h25 v25 X25 P25 => ?_)
  obtain ⟨t25, f125, rfl, D25_t, K25, O25_0, Y25_0⟩ := P25
  have ne_a_t25 : a ≠ t25 := Nat.ne_of_lt (Nat.lt_of_lt_of_le f2.lt D25_t)
  have ne_sa_t25 : sa ≠ t25 := Nat.ne_of_lt (Nat.lt_of_lt_of_le f6.lt D25_t)
  have N_t25 : n0 ≤ t25 := Nat.le_trans X24.sz D25_t
  have Q_t25 : h0.size ≤ t25 := Nat.le_trans (Keep.refl h0 [a]).1 D25_t
  have K26 : Keep h0 h25 [a] := (Keep.refl h0 [a]).trans K25 all0
  have O27 : Old Z n0 h25 := f0.keep K25 all0
  have E28 := f2.keep K25
  have F29 := f3.keep K25 nin0
  have F30 := f4.keep K25 nin0
  have A31 := f6.keep K25 nin0
  show Go p e below _ n0 _ _ _ T25 (mkF m 39 #[.val (.ref a), .val (.ref sa), .val (.int o1), .val (.int ln), .val vd, .unset] [(.ref t25)])
  refine Go.astore C X25 (pc' := 41) (Ls' := #[.val (.ref a), .val (.ref sa), .val (.int o1), .val (.int ln), .val vd, .val (.ref t25)]) d2_39 rfl rfl rfl ?_
  refine Go.aloadN C X25 (pc' := 42) d2_41 rfl rfl rfl ?_
  refine Go.aload C X25 (pc' := 44) d2_42 rfl rfl rfl ?_
  refine Go.iloadN C X25 (pc' := 45) d2_44 rfl rfl ?_
  refine Go.callS C X25 (pc' := 48) (W := 1) (argsL := [(.ref t25), (.int ln)]) (rest := [(.ref a)]) (rm_cf l Z a0 hw t25 ln n f125 h25 n0 X25.sz O25_0 hl) (own_w hw 23 rfl) (own_w hw 24 rfl) (own_w hw 17 rfl) (own_w hw 25 rfl) (by decide) rfl rfl (lenOf own_pd7 rfl) rfl (Nat.le_of_eq rfl) (by decide) (by decide) (by decide) (by decide) d2_45 rfl (fun _ _ q => Nat.le_of_eq (congrArg Array.size q.2)) (fun T32 h32 v32 X32 P32 => ?_)
  obtain ⟨rfl, rfl⟩ := P32
  show Go p e below _ n0 _ _ _ T32 (mkF m 48 #[.val (.ref a), .val (.ref sa), .val (.int o1), .val (.int ln), .val vd, .val (.ref t25)] [(.int (0 : Int32)), (.ref a)])
  refine Go.putFN C X32 (pc' := 51) (own_w hw 26 rfl) Via.refl F30 E28 (Or.inr ⟨(own_w hw 27 rfl), rfl, hnm⟩) (own_w hw 1 rfl) f5 (ty := .byte) (v' := (.int (0 : Int32))) (by decide) (by decide) (by decide) d2_48 rfl (fun T33 h33 X33 W33 => ?_)
  have Fw33 := F30.same W33
  have K34 : Keep h0 h33 [a] := K26.wr W33 (Or.inl (List.mem_of_getElem? (i := 0) rfl))
  have O35 : Old Z n0 h33 := O27.wr W33 f5
  have E36 := E28.wr W33
  have F37 := F29.other W33 (Or.inr (slot_ne (Or.inr (own_w hw 29 rfl)) (Or.inr (own_w hw 27 rfl)) (by decide) (t := (.array .byte)) (t' := .byte) (by decide) (by decide)))
  have A38 := A31.other W33 (Ne.symm f7)
  have A39 := O25_0.other W33 (Ne.symm ne_a_t25)
  refine Go.aloadN C X33 (pc' := 52) d2_51 rfl rfl rfl ?_
  refine Go.aload C X33 (pc' := 54) d2_52 rfl rfl rfl ?_
  refine Go.putF C X33 (pc' := 57) (host := "") (Or.inl (own_w hw 28 rfl)) Via.refl F37 E36 (Or.inr ⟨(own_w hw 29 rfl), rfl, hnm⟩) (own_w hw 1 rfl) f5 (ty := (.array .byte)) (by decide) rfl rfl d2_54 rfl (fun T40 h40 X40 W40 => ?_)
  have Fw40 := F37.same W40
  have K41 : Keep h0 h40 [a] := K34.wr W40 (Or.inl (List.mem_of_getElem? (i := 0) rfl))
  have O42 : Old Z n0 h40 := O35.wr W40 f5
  have E43 := E36.wr W40
  have A44 := A38.other W40 (Ne.symm f7)
  have A45 := A39.other W40 (Ne.symm ne_a_t25)
  have F46 := Fw33.other W40 (Or.inr (slot_ne (Or.inr (own_w hw 27 rfl)) (Or.inr (own_w hw 29 rfl)) (by decide) (t := .byte) (t' := (.array .byte)) (by decide) (by decide)))
  exact Go.retV C X40 d2_57 ⟨t25, f125, rfl, Q_t25, K41, E43, Fw40, F46, A45, ne_a_t25, Y25_0⟩ (by decide) (by decide)
theorem own_ef_rm_sc (m : MethodId) (x0 : Addr) (x1 : Addr) : entryFrame m #[(.ref x0), (.ref x1)] 2 = mkF m 0 #[.val (.ref x0), .val (.ref x1)] [] := by first | (simp [entryFrame, mkF, argsToLocals, Value.category]; done) | rfl
theorem d1_0 : decode jdk_42_method_3_code 0 = .ok (.aload_n 0, 1) := by decide +kernel
theorem d1_1 : decode jdk_42_method_3_code 1 = .ok (.aload_n 1, 1) := by decide +kernel
theorem d1_2 : decode jdk_42_method_3_code 2 = .ok (.iconst 0, 1) := by decide +kernel
theorem d1_3 : decode jdk_42_method_3_code 3 = .ok (.aload_n 1, 1) := by decide +kernel
theorem d1_4 : decode jdk_42_method_3_code 4 = .ok (.arraylength, 1) := by decide +kernel
theorem d1_5 : decode jdk_42_method_3_code 5 = .ok (.aconst_null, 1) := by decide +kernel
theorem d1_6 : decode jdk_42_method_3_code 6 = .ok (.invokespecial 27, 3) := by decide +kernel
theorem own_pd8 : parseMethodDescriptor "([CIILjava/lang/Void;)V" = some ⟨[(.array .char), .int, .int, (.object "java/lang/Void")], none⟩ := by decide +kernel
theorem d1_9 : decode jdk_42_method_3_code 9 = .ok (.return_, 1) := by decide +kernel
set_option maxRecDepth 65536 in
set_option maxHeartbeats 40000000 in
theorem rm_sc (l : Launch) (Z : State) (a0 : Array Value) (hw : ∀ d ∈ tables_1, d.before a0 Z = true) (a : Addr) (sa : Addr) (n : Nat) (cf : Nat → Int32) (z : Int32) (cs : Int32) (h0 : Heap) (n0 : Nat) (Z0 : n0 ≤ h0.size) (f0 : Old Z n0 h0) (f1 : Sta Z Z.heap "java/lang/String" "COMPACT_STRINGS" "Z" (.int cs)) (f2 : Exa Z h0 a "java/lang/String") (f3 : Fld Z h0 a "java/lang/String" "value" "[B" .null) (f4 : Fld Z h0 a "java/lang/String" "coder" "B" (.int (0 : Int32))) (f5 : n0 ≤ a) (f6 : AI Z h0 sa .char n cf) (f7 : a ≠ sa) (hcs : ¬ cs = (0 : Int32)) (hz : z.toInt = (n : Int)) (h1 : 1 ≤ n) (hn : n ≤ 2) (hcf : ∀ q, ¬ (255 : Int32) < cf q) :
    Con l Z (⟨"java/lang/String", "<init>", "([C)V"⟩ : MethodName) jdk_42_method_3_code 2 none ({ frames := 3, cells := 1, slots := 2, locals := 52 } : Room) #[(.ref a), (.ref sa)] h0 n0 (fun rv hv => ∃ t : Addr, ∃ f1 : Nat → Int32, rv = none ∧ h0.size ≤ t ∧ Keep h0 hv [a] ∧ Exa Z hv a "java/lang/String" ∧ Fld Z hv a "java/lang/String" "value" "[B" (.ref t) ∧ Fld Z hv a "java/lang/String" "coder" "B" (.int (0 : Int32)) ∧ AI Z hv t .byte n f1 ∧ a ≠ t ∧ (∀ q, own_bt (f1 q))) := by
  refine Con.enter (plainFor_of_name own_pn0) Z0 ?_
  intro p e s m below meth c T0 C hnm X0
  refine Go.cast (own_ef_rm_sc m a sa) ?_
  refine Go.aloadN C X0 (pc' := 1) d1_0 rfl rfl rfl ?_
  refine Go.aloadN C X0 (pc' := 2) d1_1 rfl rfl rfl ?_
  refine Go.iconst C X0 (pc' := 3) (v := (0 : Int32)) d1_2 rfl rfl ?_
  refine Go.aloadN C X0 (pc' := 4) d1_3 rfl rfl rfl ?_
  refine Go.alenI C X0 (pc' := 5) (z := z) f6 hz d1_4 rfl ?_
  refine Go.aconst_null C X0 (pc' := 6) d1_5 rfl ?_
  refine Go.callI C X0 (pc' := 9) (W := 0) (argsL := [(.ref sa), (.int (0 : Int32)), (.int z), .null]) (rest := []) (a := a) (rm_sv l Z a0 hw a sa (0 : Int32) z (.null) n cf cs h0 n0 X0.sz f0 f1 f2 f3 f4 f5 f6 f7 hcs rfl rfl hz h1 hn hcf) rfl rfl (own_w hw 7 rfl) (own_w hw 8 rfl) (own_w hw 2 rfl) (own_w hw 10 rfl) (by decide) rfl rfl (lenOf own_pd8 rfl) rfl (Nat.le_of_eq rfl) (by decide) (by decide) (by decide) (by decide) d1_6 rfl (fun _ _ q => by obtain ⟨_, _, _, _, K, _⟩ := q; exact K.1) (fun T47 h47 v47 X47 P47 => ?_)
  obtain ⟨t47, f147, rfl, D47_t, K47, O47_0, O47_1, O47_2, O47_3, O47_4, Y47_0⟩ := P47
  have ne_a_t47 : a ≠ t47 := Nat.ne_of_lt (Nat.lt_of_lt_of_le f2.lt D47_t)
  have ne_sa_t47 : sa ≠ t47 := Nat.ne_of_lt (Nat.lt_of_lt_of_le f6.lt D47_t)
  have N_t47 : n0 ≤ t47 := Nat.le_trans X0.sz D47_t
  have Q_t47 : h0.size ≤ t47 := Nat.le_trans (Keep.refl h0 [a]).1 D47_t
  have K48 : Keep h0 h47 [a] := (Keep.refl h0 [a]).trans K47 (allS (Or.inl (List.mem_of_getElem? (i := 0) rfl)) all0)
  have O49 : Old Z n0 h47 := f0.keep K47 (allS f5 all0)
  have E50 := f2.keep K47
  have A51 := f6.keep K47 (ninS (Ne.symm f7) nin0)
  show Go p e below _ n0 _ _ _ T47 (mkF m 9 #[.val (.ref a), .val (.ref sa)] [])
  exact Go.retV C X47 d1_9 ⟨t47, f147, rfl, Q_t47, K48, O47_0, O47_1, O47_2, O47_3, O47_4, Y47_0⟩ (by decide) (by decide)
theorem own_pn4 : plainName "java/lang/AbstractStringBuilder" = true := by first | (simp [plainName, overriddenIn]; done) | decide +kernel
theorem own_ef_rm_ai (m : MethodId) (x0 : Addr) (x1 : Int32) : entryFrame m #[(.ref x0), (.int x1)] 2 = mkF m 0 #[.val (.ref x0), .val (.int x1)] [] := by first | (simp [entryFrame, mkF, argsToLocals, Value.category]; done) | rfl
theorem d12_0 : decode jdk_68_method_2_code 0 = .ok (.aload_n 0, 1) := by decide +kernel
theorem d12_1 : decode jdk_68_method_2_code 1 = .ok (.invokespecial 3, 3) := by decide +kernel
theorem d12_4 : decode jdk_68_method_2_code 4 = .ok (.getstatic 18, 3) := by decide +kernel
theorem d12_7 : decode jdk_68_method_2_code 7 = .ok (.ifCond .eq 18, 3) := by decide +kernel
theorem d12_10 : decode jdk_68_method_2_code 10 = .ok (.aload_n 0, 1) := by decide +kernel
theorem d12_11 : decode jdk_68_method_2_code 11 = .ok (.iload_n 1, 1) := by decide +kernel
theorem d12_12 : decode jdk_68_method_2_code 12 = .ok (.newarray .byte, 2) := by decide +kernel
theorem d12_14 : decode jdk_68_method_2_code 14 = .ok (.putfield 15, 3) := by decide +kernel
theorem d12_17 : decode jdk_68_method_2_code 17 = .ok (.aload_n 0, 1) := by decide +kernel
theorem d12_18 : decode jdk_68_method_2_code 18 = .ok (.iconst 0, 1) := by decide +kernel
theorem d12_19 : decode jdk_68_method_2_code 19 = .ok (.putfield 22, 3) := by decide +kernel
theorem d12_22 : decode jdk_68_method_2_code 22 = .ok (.goto 16, 3) := by decide +kernel
theorem d12_38 : decode jdk_68_method_2_code 38 = .ok (.return_, 1) := by decide +kernel
set_option maxRecDepth 65536 in
set_option maxHeartbeats 40000000 in
theorem rm_ai (l : Launch) (Z : State) (a0 : Array Value) (hw : ∀ d ∈ tables_1, d.before a0 Z = true) (a : Addr) (z : Int32) (cs : Int32) (h0 : Heap) (n0 : Nat) (Z0 : n0 ≤ h0.size) (f0 : Old Z n0 h0) (f1 : Sta Z Z.heap "java/lang/String" "COMPACT_STRINGS" "Z" (.int cs)) (f2 : Exa Z h0 a "java/lang/StringBuilder") (f3 : Fld Z h0 a "java/lang/AbstractStringBuilder" "value" "[B" .null) (f4 : Fld Z h0 a "java/lang/AbstractStringBuilder" "coder" "B" (.int (0 : Int32))) (f5 : Fld Z h0 a "java/lang/AbstractStringBuilder" "count" "I" (.int (0 : Int32))) (f6 : n0 ≤ a) (hcs : ¬ cs = (0 : Int32)) (hz : z = (16 : Int32)) :
    Con l Z (⟨"java/lang/AbstractStringBuilder", "<init>", "(I)V"⟩ : MethodName) jdk_68_method_2_code 2 none ({ frames := 1, cells := 1, slots := 16, locals := 12 } : Room) #[(.ref a), (.int z)] h0 n0 (fun rv hv => ∃ t : Addr, rv = none ∧ h0.size ≤ t ∧ Keep h0 hv [a] ∧ Exa Z hv a "java/lang/StringBuilder" ∧ Fld Z hv a "java/lang/AbstractStringBuilder" "value" "[B" (.ref t) ∧ Fld Z hv a "java/lang/AbstractStringBuilder" "coder" "B" (.int (0 : Int32)) ∧ Fld Z hv a "java/lang/AbstractStringBuilder" "count" "I" (.int (0 : Int32)) ∧ AI Z hv t .byte 16 (fun _ => 0) ∧ a ≠ t) := by
  refine Con.enter (plainFor_of_name own_pn4) Z0 ?_
  intro p e s m below meth c T0 C hnm X0
  refine Go.cast (own_ef_rm_ai m a z) ?_
  refine Go.aloadN C X0 (pc' := 1) d12_0 rfl rfl rfl ?_
  refine Go.initO C X0 (pc' := 4) (fun locs X eT => RoadKit.initO X C.1 C.2.1 C.2.2.2.1 (own_w hw 68 rfl) (own_w hw 12 rfl) (own_w hw 13 rfl) eT (g := (mkF m 1 #[.val (.ref a), .val (.int z)] [(.ref a)])) rfl (by rw [C.2.2.2.2.1]; rfl) rfl (hb C.2.2.1 d12_1) (by decide) (W := 0) (by show 2 * 0 + _ ≤ _; exact Nat.le_of_eq rfl) (by decide)) rfl (fun T52 X52 => ?_)
  refine Go.getS C X52 (pc' := 7) (own_w hw 69 rfl) Via.refl (f1.ext f0.2) d12_4 rfl (fun T53 X53 => ?_)
  refine Go.ifNo C X53 (pc' := 10) d12_7 ((if0 _ _).trans (feq hcs).1) rfl ?_
  refine Go.aloadN C X53 (pc' := 11) d12_10 rfl rfl rfl ?_
  refine Go.iloadN C X53 (pc' := 12) d12_11 rfl rfl ?_
  refine Go.newP C X53 (pc' := 14) (nn := 16) (cap := 16) (own_w hw 19 rfl) d12_12 (by rw [hz]; rfl) (by decide) (by decide) (by decide) (by decide) rfl (fun T54 h54 b54 k54 X54 g54 E54 Ar54 N54 => ?_)
  have ne_a_b54 : a ≠ b54 := Nat.ne_of_lt (Nat.lt_of_lt_of_eq f2.lt g54.symm)
  have Q54 : h0.size ≤ b54 := Nat.le_trans (Keep.refl h0 [a]).1 (Nat.le_of_eq g54.symm)
  have K55 : Keep h0 h54 [a] := (Keep.refl h0 [a]).ext E54
  have O56 : Old Z n0 h54 := f0.ext E54
  have E57 := f2.ext E54
  have F58 := f3.ext E54
  have F59 := f4.ext E54
  have F60 := f5.ext E54
  have A54 : AI Z h54 b54 .byte 16 (fun _ => 0) := AI.new (by rw [hz]; rfl) rfl Ar54
  refine Go.putF C X54 (pc' := 17) (host := "") (Or.inl (own_w hw 70 rfl)) Via.refl F58 E57 (Or.inl (own_w hw 71 rfl)) (own_w hw 57 rfl) f6 (ty := (.array .byte)) (by decide) rfl rfl d12_14 rfl (fun T61 h61 X61 W61 => ?_)
  have Fw61 := F58.same W61
  have K62 : Keep h0 h61 [a] := K55.wr W61 (Or.inl (List.mem_of_getElem? (i := 0) rfl))
  have O63 : Old Z n0 h61 := O56.wr W61 f6
  have E64 := E57.wr W61
  have F65 := F59.other W61 (Or.inr (slot_ne (Or.inl (own_w hw 73 rfl)) (Or.inl (own_w hw 71 rfl)) (by decide) (t := .byte) (t' := (.array .byte)) (by decide) (by decide)))
  have F66 := F60.other W61 (Or.inr (slot_ne (Or.inl (own_w hw 95 rfl)) (Or.inl (own_w hw 71 rfl)) (by decide) (t := .int) (t' := (.array .byte)) (by decide) (by decide)))
  have A67 := A54.other W61 (Ne.symm ne_a_b54)
  refine Go.aloadN C X61 (pc' := 18) d12_17 rfl rfl rfl ?_
  refine Go.iconst C X61 (pc' := 19) (v := (0 : Int32)) d12_18 rfl rfl ?_
  refine Go.putFN C X61 (pc' := 22) (own_w hw 72 rfl) Via.refl F65 E64 (Or.inl (own_w hw 73 rfl)) (own_w hw 57 rfl) f6 (ty := .byte) (v' := (.int (0 : Int32))) (by decide) (by decide) (by decide) d12_19 rfl (fun T68 h68 X68 W68 => ?_)
  have Fw68 := F65.same W68
  have K69 : Keep h0 h68 [a] := K62.wr W68 (Or.inl (List.mem_of_getElem? (i := 0) rfl))
  have O70 : Old Z n0 h68 := O63.wr W68 f6
  have E71 := E64.wr W68
  have F72 := F66.other W68 (Or.inr (slot_ne (Or.inl (own_w hw 95 rfl)) (Or.inl (own_w hw 73 rfl)) (by decide) (t := .int) (t' := .byte) (by decide) (by decide)))
  have A73 := A67.other W68 (Ne.symm ne_a_b54)
  have F74 := Fw61.other W68 (Or.inr (slot_ne (Or.inl (own_w hw 71 rfl)) (Or.inl (own_w hw 73 rfl)) (by decide) (t := (.array .byte)) (t' := .byte) (by decide) (by decide)))
  refine Go.goto C X68 (pc' := 38) d12_22 (by decide) (by decide) ?_
  exact Go.retV C X68 d12_38 ⟨b54, rfl, Q54, K69, E71, F74, Fw68, F72, A73, ne_a_b54⟩ (by decide) (by decide)
theorem own_pn5 : plainName "java/lang/StringBuilder" = true := by first | (simp [plainName, overriddenIn]; done) | decide +kernel
theorem own_ef_rm_bi (m : MethodId) (x0 : Addr) : entryFrame m #[(.ref x0)] 1 = mkF m 0 #[.val (.ref x0)] [] := by first | (simp [entryFrame, mkF, argsToLocals, Value.category]; done) | rfl
theorem d11_0 : decode jdk_67_method_1_code 0 = .ok (.aload_n 0, 1) := by decide +kernel
theorem d11_1 : decode jdk_67_method_1_code 1 = .ok (.bipush 16, 2) := by decide +kernel
theorem d11_3 : decode jdk_67_method_1_code 3 = .ok (.invokespecial 1, 3) := by decide +kernel
theorem own_pd9 : parseMethodDescriptor "(I)V" = some ⟨[.int], none⟩ := by decide +kernel
theorem d11_6 : decode jdk_67_method_1_code 6 = .ok (.return_, 1) := by decide +kernel
set_option maxRecDepth 65536 in
set_option maxHeartbeats 40000000 in
theorem rm_bi (l : Launch) (Z : State) (a0 : Array Value) (hw : ∀ d ∈ tables_1, d.before a0 Z = true) (a : Addr) (cs : Int32) (h0 : Heap) (n0 : Nat) (Z0 : n0 ≤ h0.size) (f0 : Old Z n0 h0) (f1 : Sta Z Z.heap "java/lang/String" "COMPACT_STRINGS" "Z" (.int cs)) (f2 : Exa Z h0 a "java/lang/StringBuilder") (f3 : Fld Z h0 a "java/lang/AbstractStringBuilder" "value" "[B" .null) (f4 : Fld Z h0 a "java/lang/AbstractStringBuilder" "coder" "B" (.int (0 : Int32))) (f5 : Fld Z h0 a "java/lang/AbstractStringBuilder" "count" "I" (.int (0 : Int32))) (f6 : n0 ≤ a) (hcs : ¬ cs = (0 : Int32)) :
    Con l Z (⟨"java/lang/StringBuilder", "<init>", "()V"⟩ : MethodName) jdk_67_method_1_code 1 none ({ frames := 2, cells := 1, slots := 16, locals := 25 } : Room) #[(.ref a)] h0 n0 (fun rv hv => ∃ t : Addr, rv = none ∧ h0.size ≤ t ∧ Keep h0 hv [a] ∧ Exa Z hv a "java/lang/StringBuilder" ∧ Fld Z hv a "java/lang/AbstractStringBuilder" "value" "[B" (.ref t) ∧ Fld Z hv a "java/lang/AbstractStringBuilder" "coder" "B" (.int (0 : Int32)) ∧ Fld Z hv a "java/lang/AbstractStringBuilder" "count" "I" (.int (0 : Int32)) ∧ AI Z hv t .byte 16 (fun _ => 0) ∧ a ≠ t) := by
  refine Con.enter (plainFor_of_name own_pn5) Z0 ?_
  intro p e s m below meth c T0 C hnm X0
  refine Go.cast (own_ef_rm_bi m a) ?_
  refine Go.aloadN C X0 (pc' := 1) d11_0 rfl rfl rfl ?_
  refine Go.bipush C X0 (pc' := 3) (v := (16 : Int32)) d11_1 rfl rfl ?_
  refine Go.callI C X0 (pc' := 6) (W := 0) (argsL := [(.int (16 : Int32))]) (rest := []) (a := a) (rm_ai l Z a0 hw a (16 : Int32) cs h0 n0 X0.sz f0 f1 f2 f3 f4 f5 f6 hcs rfl) rfl rfl (own_w hw 62 rfl) (own_w hw 63 rfl) (own_w hw 66 rfl) (own_w hw 67 rfl) (by decide) rfl rfl (lenOf own_pd9 rfl) rfl (Nat.le_of_eq rfl) (by decide) (by decide) (by decide) (by decide) d11_3 rfl (fun _ _ q => by obtain ⟨_, _, _, K, _⟩ := q; exact K.1) (fun T75 h75 v75 X75 P75 => ?_)
  obtain ⟨t75, rfl, D75_t, K75, O75_0, O75_1, O75_2, O75_3, O75_4, O75_5⟩ := P75
  have ne_a_t75 : a ≠ t75 := Nat.ne_of_lt (Nat.lt_of_lt_of_le f2.lt D75_t)
  have N_t75 : n0 ≤ t75 := Nat.le_trans X0.sz D75_t
  have Q_t75 : h0.size ≤ t75 := Nat.le_trans (Keep.refl h0 [a]).1 D75_t
  have K76 : Keep h0 h75 [a] := (Keep.refl h0 [a]).trans K75 (allS (Or.inl (List.mem_of_getElem? (i := 0) rfl)) all0)
  have O77 : Old Z n0 h75 := f0.keep K75 (allS f6 all0)
  have E78 := f2.keep K75
  show Go p e below _ n0 _ _ _ T75 (mkF m 6 #[.val (.ref a)] [])
  exact Go.retV C X75 d11_6 ⟨t75, rfl, Q_t75, K76, O75_0, O75_1, O75_2, O75_3, O75_4, O75_5⟩ (by decide) (by decide)
theorem own_room {k : Int32} (h : 0 ≤ k.toInt ∧ k.toInt ≤ 16) : ¬ (0 : Int32) < (k - ((16 : Int32) >>> ((0 : Int32) &&& 31))) := fun q => by
  have e : ((16 : Int32) >>> ((0 : Int32) &&& 31)) = 16 := by decide
  have e1 : (16 : Int32).toInt = 16 := rfl
  have e0 : (0 : Int32).toInt = 0 := rfl
  rw [e] at q
  have h1 := own_ilt.mp q
  rw [own_isub (by omega) (by omega), e1] at h1; omega
theorem own_ef_rm_ec (m : MethodId) (x0 : Addr) (x1 : Int32) : entryFrame m #[(.ref x0), (.int x1)] 3 = mkF m 0 #[.val (.ref x0), .val (.int x1), .unset] [] := by first | (simp [entryFrame, mkF, argsToLocals, Value.category]; done) | rfl
theorem d17_0 : decode jdk_68_method_9_code 0 = .ok (.aload_n 0, 1) := by decide +kernel
theorem d17_1 : decode jdk_68_method_9_code 1 = .ok (.getfield 15, 3) := by decide +kernel
theorem d17_4 : decode jdk_68_method_9_code 4 = .ok (.arraylength, 1) := by decide +kernel
theorem d17_5 : decode jdk_68_method_9_code 5 = .ok (.aload_n 0, 1) := by decide +kernel
theorem d17_6 : decode jdk_68_method_9_code 6 = .ok (.getfield 22, 3) := by decide +kernel
theorem d17_9 : decode jdk_68_method_9_code 9 = .ok (.ishr, 1) := by decide +kernel
theorem d17_10 : decode jdk_68_method_9_code 10 = .ok (.istore_n 2, 1) := by decide +kernel
theorem d17_11 : decode jdk_68_method_9_code 11 = .ok (.iload_n 1, 1) := by decide +kernel
theorem d17_12 : decode jdk_68_method_9_code 12 = .ok (.iload_n 2, 1) := by decide +kernel
theorem d17_13 : decode jdk_68_method_9_code 13 = .ok (.isub, 1) := by decide +kernel
theorem d17_14 : decode jdk_68_method_9_code 14 = .ok (.ifCond .le 24, 3) := by decide +kernel
theorem d17_38 : decode jdk_68_method_9_code 38 = .ok (.return_, 1) := by decide +kernel
set_option maxRecDepth 65536 in
set_option maxHeartbeats 40000000 in
theorem rm_ec (l : Launch) (Z : State) (a0 : Array Value) (hw : ∀ d ∈ tables_1, d.before a0 Z = true) (a : Addr) (k : Int32) (t : Addr) (g : Nat → Int32) (h0 : Heap) (n0 : Nat) (Z0 : n0 ≤ h0.size) (f0 : Fld Z h0 a "java/lang/AbstractStringBuilder" "value" "[B" (.ref t)) (f1 : Fld Z h0 a "java/lang/AbstractStringBuilder" "coder" "B" (.int (0 : Int32))) (f2 : AI Z h0 t .byte 16 g) (hk : 0 ≤ k.toInt ∧ k.toInt ≤ 16) :
    Con l Z (⟨"java/lang/AbstractStringBuilder", "ensureCapacityInternal", "(I)V"⟩ : MethodName) jdk_68_method_9_code 3 none ({ frames := 0, cells := 0, slots := 0, locals := 0 } : Room) #[(.ref a), (.int k)] h0 n0 (fun rv hv => rv = none ∧ h0 = hv) := by
  refine Con.enter (plainFor_of_name own_pn4) Z0 ?_
  intro p e s m below meth c T0 C hnm X0
  refine Go.cast (own_ef_rm_ec m a k) ?_
  refine Go.aloadN C X0 (pc' := 1) d17_0 rfl rfl rfl ?_
  refine Go.getF C X0 (pc' := 4) (host := "") (Or.inl (own_w hw 70 rfl)) Via.refl f0 d17_1 rfl (fun T79 X79 => ?_)
  refine Go.alenI C X79 (pc' := 5) (z := (16 : Int32)) f2 rfl d17_4 rfl ?_
  refine Go.aloadN C X79 (pc' := 6) d17_5 rfl rfl rfl ?_
  refine Go.getF C X79 (pc' := 9) (host := "") (Or.inl (own_w hw 72 rfl)) Via.refl f1 d17_6 rfl (fun T80 X80 => ?_)
  refine Go.ishr C X80 (pc' := 10) d17_9 rfl ?_
  refine Go.istoreN C X80 (pc' := 11) (Ls' := #[.val (.ref a), .val (.int k), .val (.int ((16 : Int32) >>> ((0 : Int32) &&& 31)))]) d17_10 rfl rfl ?_
  refine Go.iloadN C X80 (pc' := 12) d17_11 rfl rfl ?_
  refine Go.iloadN C X80 (pc' := 13) d17_12 rfl rfl ?_
  refine Go.isub C X80 (pc' := 14) d17_13 rfl ?_
  refine Go.ifYes C X80 (pc' := 38) d17_14 ((if0 _ _).trans (flt (own_room hk)).2.2.2) (by decide) (by decide) ?_
  exact Go.retV C X80 d17_38 ⟨rfl, rfl⟩ (by decide) (by decide)
theorem own_fitb {x : Int32} (h : own_bt x) : fits .byte (.int x) = true := by
  have e : x = x.toInt8.toInt32 := by
    have h2 := c_i2b x
    unfold own_bt at h
    rw [own_ieq]; omega
  rw [e]; exact fits_nar_byte _
theorem own_shl0 (z : Int32) : z <<< ((0 : Int32) &&& 31) = z := by
  rw [show ((0 : Int32) &&& 31) = 0 by decide]; exact Int32.shiftLeft_zero
def own_put (g : Nat → Int32) (k n : Nat) (f : Nat → Int32) : Nat → Int32 := fun j => if k ≤ j ∧ j < k + n then f (j - k) else g j
theorem own_put0 {g f : Nat → Int32} {k n : Nat} : ∀ i, i < 16 → (fun j => if k ≤ j ∧ j < k + n then f (0 + (j - k)) else g j) i = own_put g k n f i := fun i _ => by
  unfold own_put; simp only [Nat.zero_add]
theorem own_ef_rm_in (m : MethodId) (x0 : Addr) (x1 : Addr) : entryFrame m #[(.ref x0), (.ref x1)] 2 = mkF m 0 #[.val (.ref x0), .val (.ref x1)] [] := by first | (simp [entryFrame, mkF, argsToLocals, Value.category]; done) | rfl
theorem d19_0 : decode jdk_68_method_71_code 0 = .ok (.getstatic 18, 3) := by decide +kernel
theorem d19_3 : decode jdk_68_method_71_code 3 = .ok (.ifCond .eq 18, 3) := by decide +kernel
theorem d19_6 : decode jdk_68_method_71_code 6 = .ok (.aload_n 0, 1) := by decide +kernel
theorem d19_7 : decode jdk_68_method_71_code 7 = .ok (.getfield 22, 3) := by decide +kernel
theorem d19_10 : decode jdk_68_method_71_code 10 = .ok (.aload_n 1, 1) := by decide +kernel
theorem d19_11 : decode jdk_68_method_71_code 11 = .ok (.invokevirtual 40, 3) := by decide +kernel
theorem d19_14 : decode jdk_68_method_71_code 14 = .ok (.if_icmp .eq 7, 3) := by decide +kernel
theorem d19_21 : decode jdk_68_method_71_code 21 = .ok (.return_, 1) := by decide +kernel
set_option maxRecDepth 65536 in
set_option maxHeartbeats 40000000 in
theorem rm_in (l : Launch) (Z : State) (a0 : Array Value) (hw : ∀ d ∈ tables_1, d.before a0 Z = true) (a : Addr) (sr : Addr) (cs : Int32) (h0 : Heap) (n0 : Nat) (Z0 : n0 ≤ h0.size) (f0 : Old Z n0 h0) (f1 : Sta Z Z.heap "java/lang/String" "COMPACT_STRINGS" "Z" (.int cs)) (f2 : Fld Z h0 a "java/lang/AbstractStringBuilder" "coder" "B" (.int (0 : Int32))) (f3 : Exa Z h0 sr "java/lang/String") (f4 : Fld Z h0 sr "java/lang/String" "coder" "B" (.int (0 : Int32))) (hcs : ¬ cs = (0 : Int32)) :
    Con l Z (⟨"java/lang/AbstractStringBuilder", "inflateIfNeededFor", "(Ljava/lang/String;)V"⟩ : MethodName) jdk_68_method_71_code 2 none ({ frames := 1, cells := 0, slots := 0, locals := 13 } : Room) #[(.ref a), (.ref sr)] h0 n0 (fun rv hv => rv = none ∧ h0 = hv) := by
  refine Con.enter (plainFor_of_name own_pn4) Z0 ?_
  intro p e s m below meth c T0 C hnm X0
  refine Go.cast (own_ef_rm_in m a sr) ?_
  refine Go.getS C X0 (pc' := 3) (own_w hw 69 rfl) Via.refl (f1.ext f0.2) d19_0 rfl (fun T81 X81 => ?_)
  refine Go.ifNo C X81 (pc' := 6) d19_3 ((if0 _ _).trans (feq hcs).1) rfl ?_
  refine Go.aloadN C X81 (pc' := 7) d19_6 rfl rfl rfl ?_
  refine Go.getF C X81 (pc' := 10) (host := "") (Or.inl (own_w hw 72 rfl)) Via.refl f2 d19_7 rfl (fun T82 X82 => ?_)
  refine Go.aloadN C X82 (pc' := 11) d19_10 rfl rfl rfl ?_
  refine Go.callV C X82 (pc' := 14) (W := 1) (argsL := []) (rest := [(.int (0 : Int32))]) (a := sr) (rm_cd l Z a0 hw sr cs h0 n0 X82.sz f0 f1 f4 hcs) f3 (notFace_of_selects (args := #[]) (mvT C.2.1 (own_w hw 92 rfl))) (own_w hw 111 rfl) (own_w hw 90 rfl) (own_w hw 92 rfl) (own_w hw 91 rfl) (own_w hw 2 rfl) (own_w hw 93 rfl) (by decide) rfl rfl (lenOf own_pd0 rfl) rfl (Nat.le_of_eq rfl) (by decide) (by decide) (by decide) (by decide) d19_11 rfl (fun _ _ q => Nat.le_of_eq (congrArg Array.size q.2)) (fun T83 h83 v83 X83 P83 => ?_)
  obtain ⟨rfl, rfl⟩ := P83
  show Go p e below _ n0 _ _ _ T83 (mkF m 14 #[.val (.ref a), .val (.ref sr)] [(.int (0 : Int32)), (.int (0 : Int32))])
  refine Go.icmpYes C X83 (pc' := 21) d19_14 (teq (by decide)).1 (by decide) (by decide) ?_
  exact Go.retV C X83 d19_21 ⟨rfl, rfl⟩ (by decide) (by decide)
theorem own_ef_rm_gb (m : MethodId) (x0 : Addr) (x1 : Addr) (x2 : Int32) (x3 : Int32) : entryFrame m #[(.ref x0), (.ref x1), (.int x2), (.int x3)] 4 = mkF m 0 #[.val (.ref x0), .val (.ref x1), .val (.int x2), .val (.int x3)] [] := by first | (simp [entryFrame, mkF, argsToLocals, Value.category]; done) | rfl
theorem d20_0 : decode jdk_42_method_147_code 0 = .ok (.aload_n 0, 1) := by decide +kernel
theorem d20_1 : decode jdk_42_method_147_code 1 = .ok (.invokevirtual 335, 3) := by decide +kernel
theorem d20_4 : decode jdk_42_method_147_code 4 = .ok (.iload_n 3, 1) := by decide +kernel
theorem d20_5 : decode jdk_42_method_147_code 5 = .ok (.if_icmp .ne 23, 3) := by decide +kernel
theorem d20_8 : decode jdk_42_method_147_code 8 = .ok (.aload_n 0, 1) := by decide +kernel
theorem d20_9 : decode jdk_42_method_147_code 9 = .ok (.getfield 9, 3) := by decide +kernel
theorem d20_12 : decode jdk_42_method_147_code 12 = .ok (.iconst 0, 1) := by decide +kernel
theorem d20_13 : decode jdk_42_method_147_code 13 = .ok (.aload_n 1, 1) := by decide +kernel
theorem d20_14 : decode jdk_42_method_147_code 14 = .ok (.iload_n 2, 1) := by decide +kernel
theorem d20_15 : decode jdk_42_method_147_code 15 = .ok (.iload_n 3, 1) := by decide +kernel
theorem d20_16 : decode jdk_42_method_147_code 16 = .ok (.ishl, 1) := by decide +kernel
theorem d20_17 : decode jdk_42_method_147_code 17 = .ok (.aload_n 0, 1) := by decide +kernel
theorem d20_18 : decode jdk_42_method_147_code 18 = .ok (.getfield 9, 3) := by decide +kernel
theorem d20_21 : decode jdk_42_method_147_code 21 = .ok (.arraylength, 1) := by decide +kernel
theorem d20_22 : decode jdk_42_method_147_code 22 = .ok (.invokestatic 212, 3) := by decide +kernel
theorem d20_25 : decode jdk_42_method_147_code 25 = .ok (.goto 18, 3) := by decide +kernel
theorem d20_43 : decode jdk_42_method_147_code 43 = .ok (.return_, 1) := by decide +kernel
set_option maxRecDepth 65536 in
set_option maxHeartbeats 40000000 in
theorem rm_gb (l : Launch) (Z : State) (a0 : Array Value) (hw : ∀ d ∈ tables_1, d.before a0 Z = true) (sr : Addr) (da : Addr) (db : Int32) (cd : Int32) (b : Addr) (n : Nat) (f : Nat → Int32) (z : Int32) (k : Nat) (g : Nat → Int32) (cs : Int32) (h0 : Heap) (n0 : Nat) (Z0 : n0 ≤ h0.size) (f0 : Old Z n0 h0) (f1 : Sta Z Z.heap "java/lang/String" "COMPACT_STRINGS" "Z" (.int cs)) (f2 : Exa Z h0 sr "java/lang/String") (f3 : Fld Z h0 sr "java/lang/String" "value" "[B" (.ref b)) (f4 : Fld Z h0 sr "java/lang/String" "coder" "B" (.int (0 : Int32))) (f5 : AI Z h0 b .byte n f) (f6 : AI Z h0 da .byte 16 g) (f7 : n0 ≤ da) (f8 : sr ≠ da) (f9 : b ≠ da) (hcs : ¬ cs = (0 : Int32)) (hz : z.toInt = (n : Int)) (hbt : ∀ q, own_bt (f q)) (hkn : k + n ≤ 16) (hcd : cd = (0 : Int32)) (hk : db.toInt = (k : Int)) :
    Con l Z (⟨"java/lang/String", "getBytes", "([BIB)V"⟩ : MethodName) jdk_42_method_147_code 4 none ({ frames := 1, cells := 0, slots := 0, locals := 40 } : Room) #[(.ref sr), (.ref da), (.int db), (.int cd)] h0 n0 (fun rv hv => rv = none ∧ Keep h0 hv [da] ∧ AI Z hv da .byte 16 (own_put g k n f)) := by
  refine Con.enter (plainFor_of_name own_pn0) Z0 ?_
  intro p e s m below meth c T0 C hnm X0
  refine Go.cast (own_ef_rm_gb m sr da db cd) ?_
  rw [hcd]
  refine Go.aloadN C X0 (pc' := 1) d20_0 rfl rfl rfl ?_
  refine Go.callV C X0 (pc' := 4) (W := 0) (argsL := []) (rest := []) (a := sr) (rm_cd l Z a0 hw sr cs h0 n0 X0.sz f0 f1 f4 hcs) f2 (notFace_of_selects (args := #[]) (mvT C.2.1 (own_w hw 92 rfl))) (own_w hw 89 rfl) (own_w hw 90 rfl) (own_w hw 92 rfl) (own_w hw 91 rfl) (own_w hw 2 rfl) (own_w hw 93 rfl) (by decide) rfl rfl (lenOf own_pd0 rfl) rfl (Nat.le_of_eq rfl) (by decide) (by decide) (by decide) (by decide) d20_1 rfl (fun _ _ q => Nat.le_of_eq (congrArg Array.size q.2)) (fun T84 h84 v84 X84 P84 => ?_)
  obtain ⟨rfl, rfl⟩ := P84
  show Go p e below _ n0 _ _ _ T84 (mkF m 4 #[.val (.ref sr), .val (.ref da), .val (.int db), .val (.int (0 : Int32))] [(.int (0 : Int32))])
  refine Go.iloadN C X84 (pc' := 5) d20_4 rfl rfl ?_
  refine Go.icmpNo C X84 (pc' := 8) d20_5 (teq (by decide)).2 rfl ?_
  refine Go.aloadN C X84 (pc' := 9) d20_8 rfl rfl rfl ?_
  refine Go.getF C X84 (pc' := 12) (host := "") (Or.inl (own_w hw 28 rfl)) Via.refl f3 d20_9 rfl (fun T85 X85 => ?_)
  refine Go.iconst C X85 (pc' := 13) (v := (0 : Int32)) d20_12 rfl rfl ?_
  refine Go.aloadN C X85 (pc' := 14) d20_13 rfl rfl rfl ?_
  refine Go.iloadN C X85 (pc' := 15) d20_14 rfl rfl ?_
  refine Go.iloadN C X85 (pc' := 16) d20_15 rfl rfl ?_
  refine Go.ishl C X85 (pc' := 17) d20_16 rfl ?_
  refine Go.aloadN C X85 (pc' := 18) d20_17 rfl rfl rfl ?_
  refine Go.getF C X85 (pc' := 21) (host := "") (Or.inl (own_w hw 28 rfl)) Via.refl f3 d20_18 rfl (fun T86 X86 => ?_)
  refine Go.alenI C X86 (pc' := 22) (z := z) f5 hz d20_21 rfl ?_
  refine Go.acopyB C X86 (pc' := 25) (o := 0) (q := k) (n := n) (W := 0) (own_w hw 117 rfl) (own_w hw 120 rfl) (own_w hw 118 rfl) (own_w hw 119 rfl) f5 f6 rfl (by rw [own_shl0]; exact hk) hz (by omega) hkn (fun j _ => own_fitb (hbt _)) f7 rfl (Nat.le_of_eq rfl) (by decide) (by decide) d20_22 rfl (fun T87 h87 X87 K87 A87 => ?_)
  have K88 : Keep h0 h87 [da] := (Keep.refl h0 [da]).trans K87 (allS (Or.inl (List.mem_of_getElem? (i := 0) rfl)) all0)
  have O89 : Old Z n0 h87 := f0.keep K87 (allS f7 all0)
  have E90 := f2.keep K87
  have F91 := f3.keep K87 (ninS f8 nin0)
  have F92 := f4.keep K87 (ninS f8 nin0)
  have A93 := f5.keep K87 (ninS f9 nin0)
  refine Go.goto C X87 (pc' := 43) d20_25 (by decide) (by decide) ?_
  exact Go.retV C X87 d20_43 ⟨rfl, K88, (AI.congr A87 own_put0)⟩ (by decide) (by decide)
theorem own_ef_rm_ps (m : MethodId) (x0 : Addr) (x1 : Int32) (x2 : Addr) : entryFrame m #[(.ref x0), (.int x1), (.ref x2)] 3 = mkF m 0 #[.val (.ref x0), .val (.int x1), .val (.ref x2)] [] := by first | (simp [entryFrame, mkF, argsToLocals, Value.category]; done) | rfl
theorem d18_0 : decode jdk_68_method_73_code 0 = .ok (.aload_n 0, 1) := by decide +kernel
theorem d18_1 : decode jdk_68_method_73_code 1 = .ok (.aload_n 2, 1) := by decide +kernel
theorem d18_2 : decode jdk_68_method_73_code 2 = .ok (.invokevirtual 397, 3) := by decide +kernel
theorem own_pd10 : parseMethodDescriptor "(Ljava/lang/String;)V" = some ⟨[(.object "java/lang/String")], none⟩ := by decide +kernel
theorem d18_5 : decode jdk_68_method_73_code 5 = .ok (.aload_n 2, 1) := by decide +kernel
theorem d18_6 : decode jdk_68_method_73_code 6 = .ok (.aload_n 0, 1) := by decide +kernel
theorem d18_7 : decode jdk_68_method_73_code 7 = .ok (.getfield 15, 3) := by decide +kernel
theorem d18_10 : decode jdk_68_method_73_code 10 = .ok (.iload_n 1, 1) := by decide +kernel
theorem d18_11 : decode jdk_68_method_73_code 11 = .ok (.aload_n 0, 1) := by decide +kernel
theorem d18_12 : decode jdk_68_method_73_code 12 = .ok (.getfield 22, 3) := by decide +kernel
theorem d18_15 : decode jdk_68_method_73_code 15 = .ok (.invokevirtual 399, 3) := by decide +kernel
theorem own_pd11 : parseMethodDescriptor "([BIB)V" = some ⟨[(.array .byte), .int, .byte], none⟩ := by decide +kernel
theorem d18_18 : decode jdk_68_method_73_code 18 = .ok (.return_, 1) := by decide +kernel
set_option maxRecDepth 65536 in
set_option maxHeartbeats 40000000 in
theorem rm_ps (l : Launch) (Z : State) (a0 : Array Value) (hw : ∀ d ∈ tables_1, d.before a0 Z = true) (a : Addr) (kc : Int32) (sr : Addr) (t : Addr) (g : Nat → Int32) (b : Addr) (n : Nat) (f : Nat → Int32) (z : Int32) (k : Nat) (cs : Int32) (h0 : Heap) (n0 : Nat) (Z0 : n0 ≤ h0.size) (f0 : Old Z n0 h0) (f1 : Sta Z Z.heap "java/lang/String" "COMPACT_STRINGS" "Z" (.int cs)) (f2 : Exa Z h0 a "java/lang/StringBuilder") (f3 : Fld Z h0 a "java/lang/AbstractStringBuilder" "value" "[B" (.ref t)) (f4 : Fld Z h0 a "java/lang/AbstractStringBuilder" "coder" "B" (.int (0 : Int32))) (f5 : AI Z h0 t .byte 16 g) (f6 : n0 ≤ t) (f7 : Exa Z h0 sr "java/lang/String") (f8 : Fld Z h0 sr "java/lang/String" "value" "[B" (.ref b)) (f9 : Fld Z h0 sr "java/lang/String" "coder" "B" (.int (0 : Int32))) (f10 : AI Z h0 b .byte n f) (f11 : a ≠ t) (f12 : sr ≠ t) (f13 : b ≠ t) (hcs : ¬ cs = (0 : Int32)) (hz : z.toInt = (n : Int)) (hbt : ∀ q, own_bt (f q)) (hkn : k + n ≤ 16) (hk : kc.toInt = (k : Int)) :
    Con l Z (⟨"java/lang/AbstractStringBuilder", "putStringAt", "(ILjava/lang/String;)V"⟩ : MethodName) jdk_68_method_73_code 3 none ({ frames := 2, cells := 0, slots := 0, locals := 55 } : Room) #[(.ref a), (.int kc), (.ref sr)] h0 n0 (fun rv hv => rv = none ∧ Keep h0 hv [t] ∧ AI Z hv t .byte 16 (own_put g k n f)) := by
  refine Con.enter (plainFor_of_name own_pn4) Z0 ?_
  intro p e s m below meth c T0 C hnm X0
  refine Go.cast (own_ef_rm_ps m a kc sr) ?_
  refine Go.aloadN C X0 (pc' := 1) d18_0 rfl rfl rfl ?_
  refine Go.aloadN C X0 (pc' := 2) d18_1 rfl rfl rfl ?_
  refine Go.callQ C X0 (pc' := 5) (W := 0) (argsL := [(.ref sr)]) (rest := []) (a := a) (rm_in l Z a0 hw a sr cs h0 n0 X0.sz f0 f1 f4 f7 f9 hcs) f2 (own_w hw 106 rfl) (own_w hw 107 rfl) (own_w hw 109 rfl) (own_w hw 108 rfl) (own_w hw 66 rfl) (own_w hw 110 rfl) (by decide) rfl rfl (lenOf own_pd10 rfl) rfl (Nat.le_of_eq rfl) (by decide) (by decide) (by decide) (by decide) d18_2 rfl (fun _ _ q => Nat.le_of_eq (congrArg Array.size q.2)) (fun T94 h94 v94 X94 P94 => ?_)
  obtain ⟨rfl, rfl⟩ := P94
  show Go p e below _ n0 _ _ _ T94 (mkF m 5 #[.val (.ref a), .val (.int kc), .val (.ref sr)] [])
  refine Go.aloadN C X94 (pc' := 6) d18_5 rfl rfl rfl ?_
  refine Go.aloadN C X94 (pc' := 7) d18_6 rfl rfl rfl ?_
  refine Go.getF C X94 (pc' := 10) (host := "") (Or.inl (own_w hw 70 rfl)) Via.refl f3 d18_7 rfl (fun T95 X95 => ?_)
  refine Go.iloadN C X95 (pc' := 11) d18_10 rfl rfl ?_
  refine Go.aloadN C X95 (pc' := 12) d18_11 rfl rfl rfl ?_
  refine Go.getF C X95 (pc' := 15) (host := "") (Or.inl (own_w hw 72 rfl)) Via.refl f4 d18_12 rfl (fun T96 X96 => ?_)
  refine Go.callV C X96 (pc' := 18) (W := 0) (argsL := [(.ref t), (.int kc), (.int (0 : Int32))]) (rest := []) (a := sr) (rm_gb l Z a0 hw sr t kc (0 : Int32) b n f z k g cs h0 n0 X96.sz f0 f1 f7 f8 f9 f10 f5 f6 f12 f13 hcs hz hbt hkn rfl hk) f7 (notFace_of_selects (args := #[]) (mvT C.2.1 (own_w hw 115 rfl))) (own_w hw 112 rfl) (own_w hw 113 rfl) (own_w hw 115 rfl) (own_w hw 114 rfl) (own_w hw 2 rfl) (own_w hw 116 rfl) (by decide) rfl rfl (lenOf own_pd11 rfl) rfl (Nat.le_of_eq rfl) (by decide) (by decide) (by decide) (by decide) d18_15 rfl (fun _ _ q => by obtain ⟨_, K, _⟩ := q; exact K.1) (fun T97 h97 v97 X97 P97 => ?_)
  obtain ⟨rfl, K97, O97_0⟩ := P97
  have K98 : Keep h0 h97 [t] := (Keep.refl h0 [t]).trans K97 (allS (Or.inl (List.mem_of_getElem? (i := 0) rfl)) all0)
  have O99 : Old Z n0 h97 := f0.keep K97 (allS f6 all0)
  have E100 := f2.keep K97
  have F101 := f3.keep K97 (ninS f11 nin0)
  have F102 := f4.keep K97 (ninS f11 nin0)
  have E103 := f7.keep K97
  have F104 := f8.keep K97 (ninS f12 nin0)
  have F105 := f9.keep K97 (ninS f12 nin0)
  have A106 := f10.keep K97 (ninS f13 nin0)
  show Go p e below _ n0 _ _ _ T97 (mkF m 18 #[.val (.ref a), .val (.int kc), .val (.ref sr)] [])
  exact Go.retV C X97 d18_18 ⟨rfl, K98, O97_0⟩ (by decide) (by decide)
theorem own_sum {x z : Int32} {k n : Nat} (h : x.toInt = (k : Int)) (hz : z.toInt = (n : Int)) (hkn : k + n ≤ 16) : (x + z).toInt = ((k + n : Nat) : Int) := by
  rw [own_iadd (by omega) (by omega), h, hz]; omega
theorem own_ef_rm_as (m : MethodId) (x0 : Addr) (x1 : Addr) : entryFrame m #[(.ref x0), (.ref x1)] 3 = mkF m 0 #[.val (.ref x0), .val (.ref x1), .unset] [] := by first | (simp [entryFrame, mkF, argsToLocals, Value.category]; done) | rfl
theorem d14_0 : decode jdk_68_method_22_code 0 = .ok (.aload_n 1, 1) := by decide +kernel
theorem d14_1 : decode jdk_68_method_22_code 1 = .ok (.ifnonnull 8, 3) := by decide +kernel
theorem d14_9 : decode jdk_68_method_22_code 9 = .ok (.aload_n 1, 1) := by decide +kernel
theorem d14_10 : decode jdk_68_method_22_code 10 = .ok (.invokevirtual 32, 3) := by decide +kernel
theorem own_pd12 : parseMethodDescriptor "()I" = some ⟨[], some .int⟩ := by decide +kernel
theorem d14_13 : decode jdk_68_method_22_code 13 = .ok (.istore_n 2, 1) := by decide +kernel
theorem d14_14 : decode jdk_68_method_22_code 14 = .ok (.aload_n 0, 1) := by decide +kernel
theorem d14_15 : decode jdk_68_method_22_code 15 = .ok (.aload_n 0, 1) := by decide +kernel
theorem d14_16 : decode jdk_68_method_22_code 16 = .ok (.getfield 79, 3) := by decide +kernel
theorem d14_19 : decode jdk_68_method_22_code 19 = .ok (.iload_n 2, 1) := by decide +kernel
theorem d14_20 : decode jdk_68_method_22_code 20 = .ok (.iadd, 1) := by decide +kernel
theorem d14_21 : decode jdk_68_method_22_code 21 = .ok (.invokevirtual 100, 3) := by decide +kernel
theorem d14_24 : decode jdk_68_method_22_code 24 = .ok (.aload_n 0, 1) := by decide +kernel
theorem d14_25 : decode jdk_68_method_22_code 25 = .ok (.aload_n 0, 1) := by decide +kernel
theorem d14_26 : decode jdk_68_method_22_code 26 = .ok (.getfield 79, 3) := by decide +kernel
theorem d14_29 : decode jdk_68_method_22_code 29 = .ok (.aload_n 1, 1) := by decide +kernel
theorem d14_30 : decode jdk_68_method_22_code 30 = .ok (.invokevirtual 208, 3) := by decide +kernel
theorem own_pd13 : parseMethodDescriptor "(ILjava/lang/String;)V" = some ⟨[.int, (.object "java/lang/String")], none⟩ := by decide +kernel
theorem d14_33 : decode jdk_68_method_22_code 33 = .ok (.aload_n 0, 1) := by decide +kernel
theorem d14_34 : decode jdk_68_method_22_code 34 = .ok (.dup, 1) := by decide +kernel
theorem d14_35 : decode jdk_68_method_22_code 35 = .ok (.getfield 79, 3) := by decide +kernel
theorem d14_38 : decode jdk_68_method_22_code 38 = .ok (.iload_n 2, 1) := by decide +kernel
theorem d14_39 : decode jdk_68_method_22_code 39 = .ok (.iadd, 1) := by decide +kernel
theorem d14_40 : decode jdk_68_method_22_code 40 = .ok (.putfield 79, 3) := by decide +kernel
theorem d14_43 : decode jdk_68_method_22_code 43 = .ok (.aload_n 0, 1) := by decide +kernel
theorem d14_44 : decode jdk_68_method_22_code 44 = .ok (.areturn, 1) := by decide +kernel
set_option maxRecDepth 65536 in
set_option maxHeartbeats 40000000 in
theorem rm_as (l : Launch) (Z : State) (a0 : Array Value) (hw : ∀ d ∈ tables_1, d.before a0 Z = true) (a : Addr) (sr : Addr) (kc : Int32) (t : Addr) (g : Nat → Int32) (b : Addr) (n : Nat) (f : Nat → Int32) (z : Int32) (k : Nat) (cs : Int32) (h0 : Heap) (n0 : Nat) (Z0 : n0 ≤ h0.size) (f0 : Old Z n0 h0) (f1 : Sta Z Z.heap "java/lang/String" "COMPACT_STRINGS" "Z" (.int cs)) (f2 : Exa Z h0 a "java/lang/StringBuilder") (f3 : Fld Z h0 a "java/lang/AbstractStringBuilder" "value" "[B" (.ref t)) (f4 : Fld Z h0 a "java/lang/AbstractStringBuilder" "coder" "B" (.int (0 : Int32))) (f5 : AI Z h0 t .byte 16 g) (f6 : n0 ≤ t) (f7 : Exa Z h0 sr "java/lang/String") (f8 : Fld Z h0 sr "java/lang/String" "value" "[B" (.ref b)) (f9 : Fld Z h0 sr "java/lang/String" "coder" "B" (.int (0 : Int32))) (f10 : AI Z h0 b .byte n f) (f11 : a ≠ t) (f12 : sr ≠ t) (f13 : b ≠ t) (f14 : Fld Z h0 a "java/lang/AbstractStringBuilder" "count" "I" (.int kc)) (f15 : n0 ≤ a) (f16 : sr ≠ a) (f17 : b ≠ a) (hcs : ¬ cs = (0 : Int32)) (hz : z.toInt = (n : Int)) (hbt : ∀ q, own_bt (f q)) (hkn : k + n ≤ 16) (hk : kc.toInt = (k : Int)) :
    Con l Z (⟨"java/lang/AbstractStringBuilder", "append", "(Ljava/lang/String;)Ljava/lang/AbstractStringBuilder;"⟩ : MethodName) jdk_68_method_22_code 3 (some (.object "java/lang/AbstractStringBuilder")) ({ frames := 3, cells := 0, slots := 0, locals := 69 } : Room) #[(.ref a), (.ref sr)] h0 n0 (fun rv hv => rv = some (.ref a) ∧ Keep h0 hv [a, t] ∧ Exa Z hv a "java/lang/StringBuilder" ∧ Fld Z hv a "java/lang/AbstractStringBuilder" "value" "[B" (.ref t) ∧ Fld Z hv a "java/lang/AbstractStringBuilder" "coder" "B" (.int (0 : Int32)) ∧ Fld Z hv a "java/lang/AbstractStringBuilder" "count" "I" (.int (kc + z)) ∧ AI Z hv t .byte 16 (own_put g k n f)) := by
  refine Con.enter (plainFor_of_name own_pn4) Z0 ?_
  intro p e s m below meth c T0 C hnm X0
  refine Go.cast (own_ef_rm_as m a sr) ?_
  refine Go.aloadN C X0 (pc' := 1) d14_0 rfl rfl rfl ?_
  refine Go.ifnonnullYes C X0 (pc' := 9) d14_1 (by decide) (by decide) ?_
  refine Go.aloadN C X0 (pc' := 10) d14_9 rfl rfl rfl ?_
  refine Go.callV C X0 (pc' := 13) (W := 0) (argsL := []) (rest := []) (a := sr) (rm_ln l Z a0 hw sr b n f z cs h0 n0 X0.sz f0 f1 f7 f8 f9 f10 hcs hz) f7 (notFace_of_selects (args := #[]) (mvT C.2.1 (own_w hw 87 rfl))) (own_w hw 84 rfl) (own_w hw 85 rfl) (own_w hw 87 rfl) (own_w hw 86 rfl) (own_w hw 2 rfl) (own_w hw 88 rfl) (by decide) rfl rfl (lenOf own_pd12 rfl) rfl (Nat.le_of_eq rfl) (by decide) (by decide) (by decide) (by decide) d14_10 rfl (fun _ _ q => Nat.le_of_eq (congrArg Array.size q.2)) (fun T107 h107 v107 X107 P107 => ?_)
  obtain ⟨rfl, rfl⟩ := P107
  show Go p e below _ n0 _ _ _ T107 (mkF m 13 #[.val (.ref a), .val (.ref sr), .unset] [(.int z)])
  refine Go.istoreN C X107 (pc' := 14) (Ls' := #[.val (.ref a), .val (.ref sr), .val (.int z)]) d14_13 rfl rfl ?_
  refine Go.aloadN C X107 (pc' := 15) d14_14 rfl rfl rfl ?_
  refine Go.aloadN C X107 (pc' := 16) d14_15 rfl rfl rfl ?_
  refine Go.getF C X107 (pc' := 19) (host := "") (Or.inl (own_w hw 94 rfl)) Via.refl f14 d14_16 rfl (fun T108 X108 => ?_)
  refine Go.iloadN C X108 (pc' := 20) d14_19 rfl rfl ?_
  refine Go.iadd C X108 (pc' := 21) d14_20 rfl ?_
  refine Go.callQ C X108 (pc' := 24) (W := 0) (argsL := [(.int (kc + z))]) (rest := []) (a := a) (rm_ec l Z a0 hw a (kc + z) t g h0 n0 X108.sz f3 f4 f5 (by rw [own_sum hk hz hkn]; omega)) f2 (own_w hw 96 rfl) (own_w hw 97 rfl) (own_w hw 99 rfl) (own_w hw 98 rfl) (own_w hw 66 rfl) (own_w hw 100 rfl) (by decide) rfl rfl (lenOf own_pd9 rfl) rfl (Nat.le_of_eq rfl) (by decide) (by decide) (by decide) (by decide) d14_21 rfl (fun _ _ q => Nat.le_of_eq (congrArg Array.size q.2)) (fun T109 h109 v109 X109 P109 => ?_)
  obtain ⟨rfl, rfl⟩ := P109
  show Go p e below _ n0 _ _ _ T109 (mkF m 24 #[.val (.ref a), .val (.ref sr), .val (.int z)] [])
  refine Go.aloadN C X109 (pc' := 25) d14_24 rfl rfl rfl ?_
  refine Go.aloadN C X109 (pc' := 26) d14_25 rfl rfl rfl ?_
  refine Go.getF C X109 (pc' := 29) (host := "") (Or.inl (own_w hw 94 rfl)) Via.refl f14 d14_26 rfl (fun T110 X110 => ?_)
  refine Go.aloadN C X110 (pc' := 30) d14_29 rfl rfl rfl ?_
  refine Go.callQ C X110 (pc' := 33) (W := 0) (argsL := [(.int kc), (.ref sr)]) (rest := []) (a := a) (rm_ps l Z a0 hw a kc sr t g b n f z k cs h0 n0 X110.sz f0 f1 f2 f3 f4 f5 f6 f7 f8 f9 f10 f11 f12 f13 hcs hz hbt hkn hk) f2 (own_w hw 101 rfl) (own_w hw 102 rfl) (own_w hw 104 rfl) (own_w hw 103 rfl) (own_w hw 66 rfl) (own_w hw 105 rfl) (by decide) rfl rfl (lenOf own_pd13 rfl) rfl (Nat.le_of_eq rfl) (by decide) (by decide) (by decide) (by decide) d14_30 rfl (fun _ _ q => by obtain ⟨_, K, _⟩ := q; exact K.1) (fun T111 h111 v111 X111 P111 => ?_)
  obtain ⟨rfl, K111, O111_0⟩ := P111
  have K112 : Keep h0 h111 [a, t] := (Keep.refl h0 [a, t]).trans K111 (allS (Or.inl (List.mem_of_getElem? (i := 1) rfl)) all0)
  have O113 : Old Z n0 h111 := f0.keep K111 (allS f6 all0)
  have E114 := f2.keep K111
  have F115 := f3.keep K111 (ninS f11 nin0)
  have F116 := f4.keep K111 (ninS f11 nin0)
  have E117 := f7.keep K111
  have F118 := f8.keep K111 (ninS f12 nin0)
  have F119 := f9.keep K111 (ninS f12 nin0)
  have A120 := f10.keep K111 (ninS f13 nin0)
  have F121 := f14.keep K111 (ninS f11 nin0)
  show Go p e below _ n0 _ _ _ T111 (mkF m 33 #[.val (.ref a), .val (.ref sr), .val (.int z)] [])
  refine Go.aloadN C X111 (pc' := 34) d14_33 rfl rfl rfl ?_
  refine Go.dup C X111 (pc' := 35) d14_34 rfl rfl ?_
  refine Go.getF C X111 (pc' := 38) (host := "") (Or.inl (own_w hw 94 rfl)) Via.refl F121 d14_35 rfl (fun T122 X122 => ?_)
  refine Go.iloadN C X122 (pc' := 39) d14_38 rfl rfl ?_
  refine Go.iadd C X122 (pc' := 40) d14_39 rfl ?_
  refine Go.putF C X122 (pc' := 43) (host := "") (Or.inl (own_w hw 94 rfl)) Via.refl F121 E114 (Or.inl (own_w hw 95 rfl)) (own_w hw 57 rfl) f15 (ty := .int) (by decide) rfl rfl d14_40 rfl (fun T123 h123 X123 W123 => ?_)
  have Fw123 := F121.same W123
  have K124 : Keep h0 h123 [a, t] := K112.wr W123 (Or.inl (List.mem_of_getElem? (i := 0) rfl))
  have O125 : Old Z n0 h123 := O113.wr W123 f15
  have E126 := E114.wr W123
  have F127 := F115.other W123 (Or.inr (slot_ne (Or.inl (own_w hw 71 rfl)) (Or.inl (own_w hw 95 rfl)) (by decide) (t := (.array .byte)) (t' := .int) (by decide) (by decide)))
  have F128 := F116.other W123 (Or.inr (slot_ne (Or.inl (own_w hw 73 rfl)) (Or.inl (own_w hw 95 rfl)) (by decide) (t := .byte) (t' := .int) (by decide) (by decide)))
  have E129 := E117.wr W123
  have F130 := F118.other W123 (Or.inl f16)
  have F131 := F119.other W123 (Or.inl f16)
  have A132 := A120.other W123 f17
  have A133 := O111_0.other W123 (Ne.symm f11)
  refine Go.aloadN C X123 (pc' := 44) d14_43 rfl rfl rfl ?_
  exact Go.retA C X123 rfl d14_44 ⟨rfl, K124, E126, F127, F128, Fw123, A133⟩ (by decide) (by decide)
theorem own_ef_rm_bs (m : MethodId) (x0 : Addr) (x1 : Addr) : entryFrame m #[(.ref x0), (.ref x1)] 2 = mkF m 0 #[.val (.ref x0), .val (.ref x1)] [] := by first | (simp [entryFrame, mkF, argsToLocals, Value.category]; done) | rfl
theorem d13_0 : decode jdk_67_method_7_code 0 = .ok (.aload_n 0, 1) := by decide +kernel
theorem d13_1 : decode jdk_67_method_7_code 1 = .ok (.aload_n 1, 1) := by decide +kernel
theorem d13_2 : decode jdk_67_method_7_code 2 = .ok (.invokespecial 29, 3) := by decide +kernel
theorem own_pd14 : parseMethodDescriptor "(Ljava/lang/String;)Ljava/lang/AbstractStringBuilder;" = some ⟨[(.object "java/lang/String")], some (.object "java/lang/AbstractStringBuilder")⟩ := by decide +kernel
theorem d13_5 : decode jdk_67_method_7_code 5 = .ok (.pop, 1) := by decide +kernel
theorem d13_6 : decode jdk_67_method_7_code 6 = .ok (.aload_n 0, 1) := by decide +kernel
theorem d13_7 : decode jdk_67_method_7_code 7 = .ok (.areturn, 1) := by decide +kernel
set_option maxRecDepth 65536 in
set_option maxHeartbeats 40000000 in
theorem rm_bs (l : Launch) (Z : State) (a0 : Array Value) (hw : ∀ d ∈ tables_1, d.before a0 Z = true) (a : Addr) (sr : Addr) (kc : Int32) (t : Addr) (g : Nat → Int32) (b : Addr) (n : Nat) (f : Nat → Int32) (z : Int32) (k : Nat) (cs : Int32) (h0 : Heap) (n0 : Nat) (Z0 : n0 ≤ h0.size) (f0 : Old Z n0 h0) (f1 : Sta Z Z.heap "java/lang/String" "COMPACT_STRINGS" "Z" (.int cs)) (f2 : Exa Z h0 a "java/lang/StringBuilder") (f3 : Fld Z h0 a "java/lang/AbstractStringBuilder" "value" "[B" (.ref t)) (f4 : Fld Z h0 a "java/lang/AbstractStringBuilder" "coder" "B" (.int (0 : Int32))) (f5 : AI Z h0 t .byte 16 g) (f6 : n0 ≤ t) (f7 : Exa Z h0 sr "java/lang/String") (f8 : Fld Z h0 sr "java/lang/String" "value" "[B" (.ref b)) (f9 : Fld Z h0 sr "java/lang/String" "coder" "B" (.int (0 : Int32))) (f10 : AI Z h0 b .byte n f) (f11 : a ≠ t) (f12 : sr ≠ t) (f13 : b ≠ t) (f14 : Fld Z h0 a "java/lang/AbstractStringBuilder" "count" "I" (.int kc)) (f15 : n0 ≤ a) (f16 : sr ≠ a) (f17 : b ≠ a) (hcs : ¬ cs = (0 : Int32)) (hz : z.toInt = (n : Int)) (hbt : ∀ q, own_bt (f q)) (hkn : k + n ≤ 16) (hk : kc.toInt = (k : Int)) :
    Con l Z (⟨"java/lang/StringBuilder", "append", "(Ljava/lang/String;)Ljava/lang/StringBuilder;"⟩ : MethodName) jdk_67_method_7_code 2 (some (.object "java/lang/StringBuilder")) ({ frames := 4, cells := 0, slots := 0, locals := 83 } : Room) #[(.ref a), (.ref sr)] h0 n0 (fun rv hv => rv = some (.ref a) ∧ Keep h0 hv [a, t] ∧ Exa Z hv a "java/lang/StringBuilder" ∧ Fld Z hv a "java/lang/AbstractStringBuilder" "value" "[B" (.ref t) ∧ Fld Z hv a "java/lang/AbstractStringBuilder" "coder" "B" (.int (0 : Int32)) ∧ Fld Z hv a "java/lang/AbstractStringBuilder" "count" "I" (.int (kc + z)) ∧ AI Z hv t .byte 16 (own_put g k n f)) := by
  refine Con.enter (plainFor_of_name own_pn5) Z0 ?_
  intro p e s m below meth c T0 C hnm X0
  refine Go.cast (own_ef_rm_bs m a sr) ?_
  refine Go.aloadN C X0 (pc' := 1) d13_0 rfl rfl rfl ?_
  refine Go.aloadN C X0 (pc' := 2) d13_1 rfl rfl rfl ?_
  refine Go.callU C X0 (pc' := 5) (W := 0) (argsL := [(.ref sr)]) (rest := []) (a := a) (rm_as l Z a0 hw a sr kc t g b n f z k cs h0 n0 X0.sz f0 f1 f2 f3 f4 f5 f6 f7 f8 f9 f10 f11 f12 f13 f14 f15 f16 f17 hcs hz hbt hkn hk) (Ins.self f2) (by decide) (own_w hw 79 rfl) (own_same (z := (⟨"java/lang/AbstractStringBuilder", "ensureCapacityInternal", "(I)V"⟩ : MethodName)) rfl (own_w hw 99 rfl) (own_w hw 80 rfl) (by decide)) (own_w hw 80 rfl) (own_w hw 81 rfl) (own_w hw 66 rfl) (own_w hw 83 rfl) rfl rfl (lenOf own_pd14 rfl) rfl (Nat.le_of_eq rfl) (by decide) (by decide) (by decide) (by decide) d13_2 rfl (fun _ _ q => by obtain ⟨_, K, _⟩ := q; exact K.1) (fun T134 h134 v134 X134 P134 => ?_)
  obtain ⟨rfl, K134, O134_0, O134_1, O134_2, O134_3, O134_4⟩ := P134
  have K135 : Keep h0 h134 [a, t] := (Keep.refl h0 [a, t]).trans K134 (allS (Or.inl (List.mem_of_getElem? (i := 0) rfl)) (allS (Or.inl (List.mem_of_getElem? (i := 1) rfl)) all0))
  have O136 : Old Z n0 h134 := f0.keep K134 (allS f15 (allS f6 all0))
  have E137 := f2.keep K134
  have E138 := f7.keep K134
  have F139 := f8.keep K134 (ninS f16 (ninS f12 nin0))
  have F140 := f9.keep K134 (ninS f16 (ninS f12 nin0))
  have A141 := f10.keep K134 (ninS f17 (ninS f13 nin0))
  show Go p e below _ n0 _ _ _ T134 (mkF m 5 #[.val (.ref a), .val (.ref sr)] [(.ref a)])
  refine Go.pop C X134 (pc' := 6) d13_5 rfl rfl ?_
  refine Go.aloadN C X134 (pc' := 7) d13_6 rfl rfl rfl ?_
  exact Go.retA C X134 rfl d13_7 ⟨rfl, K135, O134_0, O134_1, O134_2, O134_3, O134_4⟩ (by decide) (by decide)
theorem d23_0 : decode jdk_33_method_13_code 0 = .ok (.iconst 1, 1) := by decide +kernel
theorem d23_1 : decode jdk_33_method_13_code 1 = .ok (.istore_n 1, 1) := by decide +kernel
theorem d23_2 : decode jdk_33_method_13_code 2 = .ok (.iload_n 0, 1) := by decide +kernel
theorem d23_3 : decode jdk_33_method_13_code 3 = .ok (.ifCond .lt 8, 3) := by decide +kernel
theorem d23_11 : decode jdk_33_method_13_code 11 = .ok (.bipush (-10), 2) := by decide +kernel
theorem d23_13 : decode jdk_33_method_13_code 13 = .ok (.istore_n 2, 1) := by decide +kernel
theorem d23_14 : decode jdk_33_method_13_code 14 = .ok (.iconst 1, 1) := by decide +kernel
theorem d23_15 : decode jdk_33_method_13_code 15 = .ok (.istore_n 3, 1) := by decide +kernel
theorem d23_16 : decode jdk_33_method_13_code 16 = .ok (.iload_n 3, 1) := by decide +kernel
theorem d23_17 : decode jdk_33_method_13_code 17 = .ok (.bipush 10, 2) := by decide +kernel
theorem d23_19 : decode jdk_33_method_13_code 19 = .ok (.if_icmp .ge 23, 3) := by decide +kernel
theorem d23_22 : decode jdk_33_method_13_code 22 = .ok (.iload_n 0, 1) := by decide +kernel
theorem d23_23 : decode jdk_33_method_13_code 23 = .ok (.iload_n 2, 1) := by decide +kernel
theorem d23_24 : decode jdk_33_method_13_code 24 = .ok (.if_icmp .le 7, 3) := by decide +kernel
theorem d23_27 : decode jdk_33_method_13_code 27 = .ok (.iload_n 3, 1) := by decide +kernel
theorem d23_28 : decode jdk_33_method_13_code 28 = .ok (.iload_n 1, 1) := by decide +kernel
theorem d23_29 : decode jdk_33_method_13_code 29 = .ok (.iadd, 1) := by decide +kernel
theorem d23_30 : decode jdk_33_method_13_code 30 = .ok (.ireturn, 1) := by decide +kernel
theorem d23_31 : decode jdk_33_method_13_code 31 = .ok (.bipush 10, 2) := by decide +kernel
theorem d23_33 : decode jdk_33_method_13_code 33 = .ok (.iload_n 2, 1) := by decide +kernel
theorem d23_34 : decode jdk_33_method_13_code 34 = .ok (.imul, 1) := by decide +kernel
theorem d23_35 : decode jdk_33_method_13_code 35 = .ok (.istore_n 2, 1) := by decide +kernel
theorem d23_36 : decode jdk_33_method_13_code 36 = .ok (.iinc 3 1, 3) := by decide +kernel
theorem d23_39 : decode jdk_33_method_13_code 39 = .ok (.goto (-23), 3) := by decide +kernel
theorem d23_42 : decode jdk_33_method_13_code 42 = .ok (.bipush 10, 2) := by decide +kernel
theorem d23_44 : decode jdk_33_method_13_code 44 = .ok (.iload_n 1, 1) := by decide +kernel
theorem d23_45 : decode jdk_33_method_13_code 45 = .ok (.iadd, 1) := by decide +kernel
theorem d23_46 : decode jdk_33_method_13_code 46 = .ok (.ireturn, 1) := by decide +kernel
theorem d23_6 : decode jdk_33_method_13_code 6 = .ok (.iconst 0, 1) := by decide +kernel
theorem d23_7 : decode jdk_33_method_13_code 7 = .ok (.istore_n 1, 1) := by decide +kernel
theorem d23_8 : decode jdk_33_method_13_code 8 = .ok (.iload_n 0, 1) := by decide +kernel
theorem d23_9 : decode jdk_33_method_13_code 9 = .ok (.ineg, 1) := by decide +kernel
theorem d23_10 : decode jdk_33_method_13_code 10 = .ok (.istore_n 0, 1) := by decide +kernel
def own_f_rm_ss (y0 : Int32) : Int32 := (if y0 < (0 : Int32) then (if (-10 : Int32) < y0 then ((1 : Int32) + (1 : Int32)) else (if ((10 : Int32) * (-10 : Int32)) < y0 then ((2 : Int32) + (1 : Int32)) else (if ((10 : Int32) * ((10 : Int32) * (-10 : Int32))) < y0 then ((3 : Int32) + (1 : Int32)) else (if ((10 : Int32) * ((10 : Int32) * ((10 : Int32) * (-10 : Int32)))) < y0 then ((4 : Int32) + (1 : Int32)) else (if ((10 : Int32) * ((10 : Int32) * ((10 : Int32) * ((10 : Int32) * (-10 : Int32))))) < y0 then ((5 : Int32) + (1 : Int32)) else (if ((10 : Int32) * ((10 : Int32) * ((10 : Int32) * ((10 : Int32) * ((10 : Int32) * (-10 : Int32)))))) < y0 then ((6 : Int32) + (1 : Int32)) else (if ((10 : Int32) * ((10 : Int32) * ((10 : Int32) * ((10 : Int32) * ((10 : Int32) * ((10 : Int32) * (-10 : Int32))))))) < y0 then ((7 : Int32) + (1 : Int32)) else (if ((10 : Int32) * ((10 : Int32) * ((10 : Int32) * ((10 : Int32) * ((10 : Int32) * ((10 : Int32) * ((10 : Int32) * (-10 : Int32)))))))) < y0 then ((8 : Int32) + (1 : Int32)) else (if ((10 : Int32) * ((10 : Int32) * ((10 : Int32) * ((10 : Int32) * ((10 : Int32) * ((10 : Int32) * ((10 : Int32) * ((10 : Int32) * (-10 : Int32))))))))) < y0 then ((9 : Int32) + (1 : Int32)) else ((10 : Int32) + (1 : Int32))))))))))) else (if (-10 : Int32) < (-y0) then ((1 : Int32) + (0 : Int32)) else (if ((10 : Int32) * (-10 : Int32)) < (-y0) then ((2 : Int32) + (0 : Int32)) else (if ((10 : Int32) * ((10 : Int32) * (-10 : Int32))) < (-y0) then ((3 : Int32) + (0 : Int32)) else (if ((10 : Int32) * ((10 : Int32) * ((10 : Int32) * (-10 : Int32)))) < (-y0) then ((4 : Int32) + (0 : Int32)) else (if ((10 : Int32) * ((10 : Int32) * ((10 : Int32) * ((10 : Int32) * (-10 : Int32))))) < (-y0) then ((5 : Int32) + (0 : Int32)) else (if ((10 : Int32) * ((10 : Int32) * ((10 : Int32) * ((10 : Int32) * ((10 : Int32) * (-10 : Int32)))))) < (-y0) then ((6 : Int32) + (0 : Int32)) else (if ((10 : Int32) * ((10 : Int32) * ((10 : Int32) * ((10 : Int32) * ((10 : Int32) * ((10 : Int32) * (-10 : Int32))))))) < (-y0) then ((7 : Int32) + (0 : Int32)) else (if ((10 : Int32) * ((10 : Int32) * ((10 : Int32) * ((10 : Int32) * ((10 : Int32) * ((10 : Int32) * ((10 : Int32) * (-10 : Int32)))))))) < (-y0) then ((8 : Int32) + (0 : Int32)) else (if ((10 : Int32) * ((10 : Int32) * ((10 : Int32) * ((10 : Int32) * ((10 : Int32) * ((10 : Int32) * ((10 : Int32) * ((10 : Int32) * (-10 : Int32))))))))) < (-y0) then ((9 : Int32) + (0 : Int32)) else ((10 : Int32) + (0 : Int32))))))))))))
theorem own_pn6 : plainName "java/lang/Integer" = true := by first | (simp [plainName, overriddenIn]; done) | decide +kernel
theorem own_ef_rm_ss (m : MethodId) (x0 : Int32) : entryFrame m #[(.int x0)] 4 = mkF m 0 #[.val (.int x0), .unset, .unset, .unset] [] := by first | (simp [entryFrame, mkF, argsToLocals, Value.category]; done) | rfl
set_option maxRecDepth 65536 in
set_option maxHeartbeats 40000000 in
theorem rm_ss (l : Launch) (Z : State) (a0 : Array Value) (hw : ∀ d ∈ tables_1, d.before a0 Z = true) (y0 : Int32) (h0 : Heap) (n0 : Nat) (Z0 : n0 ≤ h0.size)  :
    Con l Z (⟨"java/lang/Integer", "stringSize", "(I)I"⟩ : MethodName) jdk_33_method_13_code 4 (some .int) ({ frames := 0, cells := 0, slots := 0, locals := 0 } : Room) #[(.int y0)] h0 n0 (fun rv hv => rv = some (.int (own_f_rm_ss y0)) ∧ h0 = hv) := by
  refine Con.enter (plainFor_of_name own_pn6) Z0 ?_
  intro p e s m below meth c T0 C hnm X0
  refine Go.cast (own_ef_rm_ss m y0) ?_
  refine Go.iconst C X0 (pc' := 1) (v := (1 : Int32)) d23_0 rfl rfl ?_
  refine Go.istoreN C X0 (pc' := 2) (Ls' := #[.val (.int y0), .val (.int (1 : Int32)), .unset, .unset]) d23_1 rfl rfl ?_
  refine Go.iloadN C X0 (pc' := 3) d23_2 rfl rfl ?_
  by_cases c161 : y0 < (0 : Int32)
  · refine Go.ifYes C X0 (pc' := 11) d23_3 ((if0 _ _).trans (tlt c161).1) (by decide) (by decide) ?_
    refine Go.bipush C X0 (pc' := 13) (v := (-10 : Int32)) d23_11 rfl rfl ?_
    refine Go.istoreN C X0 (pc' := 14) (Ls' := #[.val (.int y0), .val (.int (1 : Int32)), .val (.int (-10 : Int32)), .unset]) d23_13 rfl rfl ?_
    refine Go.iconst C X0 (pc' := 15) (v := (1 : Int32)) d23_14 rfl rfl ?_
    refine Go.istoreN C X0 (pc' := 16) (Ls' := #[.val (.int y0), .val (.int (1 : Int32)), .val (.int (-10 : Int32)), .val (.int (1 : Int32))]) d23_15 rfl rfl ?_
    refine Go.iloadN C X0 (pc' := 17) d23_16 rfl rfl ?_
    refine Go.bipush C X0 (pc' := 19) (v := (10 : Int32)) d23_17 rfl rfl ?_
    refine Go.icmpNo C X0 (pc' := 22) d23_19 (tlt (by decide)).2.1 rfl ?_
    refine Go.iloadN C X0 (pc' := 23) d23_22 rfl rfl ?_
    refine Go.iloadN C X0 (pc' := 24) d23_23 rfl rfl ?_
    by_cases c162 : (-10 : Int32) < y0
    · refine Go.icmpNo C X0 (pc' := 27) d23_24 (tlt c162).2.2.2 rfl ?_
      refine Go.iloadN C X0 (pc' := 28) d23_27 rfl rfl ?_
      refine Go.iloadN C X0 (pc' := 29) d23_28 rfl rfl ?_
      refine Go.iadd C X0 (pc' := 30) d23_29 rfl ?_
      exact Go.retI C X0 d23_30 ⟨by show some (Value.int ((1 : Int32) + (1 : Int32))) = some (Value.int (own_f_rm_ss y0)); unfold own_f_rm_ss; rw [if_pos c161, if_pos c162], rfl⟩ (by decide) (by decide)
    · refine Go.icmpYes C X0 (pc' := 31) d23_24 (flt c162).2.2.2 (by decide) (by decide) ?_
      refine Go.bipush C X0 (pc' := 33) (v := (10 : Int32)) d23_31 rfl rfl ?_
      refine Go.iloadN C X0 (pc' := 34) d23_33 rfl rfl ?_
      refine Go.imul C X0 (pc' := 35) d23_34 rfl ?_
      refine Go.istoreN C X0 (pc' := 36) (Ls' := #[.val (.int y0), .val (.int (1 : Int32)), .val (.int ((10 : Int32) * (-10 : Int32))), .val (.int (1 : Int32))]) d23_35 rfl rfl ?_
      refine Go.iinc C X0 (pc' := 39) (Ls' := #[.val (.int y0), .val (.int (1 : Int32)), .val (.int ((10 : Int32) * (-10 : Int32))), .val (.int (2 : Int32))]) (v' := (2 : Int32)) d23_36 rfl rfl rfl rfl ?_
      refine Go.goto C X0 (pc' := 16) d23_39 (by decide) (by decide) ?_
      refine Go.iloadN C X0 (pc' := 17) d23_16 rfl rfl ?_
      refine Go.bipush C X0 (pc' := 19) (v := (10 : Int32)) d23_17 rfl rfl ?_
      refine Go.icmpNo C X0 (pc' := 22) d23_19 (tlt (by decide)).2.1 rfl ?_
      refine Go.iloadN C X0 (pc' := 23) d23_22 rfl rfl ?_
      refine Go.iloadN C X0 (pc' := 24) d23_23 rfl rfl ?_
      by_cases c163 : ((10 : Int32) * (-10 : Int32)) < y0
      · refine Go.icmpNo C X0 (pc' := 27) d23_24 (tlt c163).2.2.2 rfl ?_
        refine Go.iloadN C X0 (pc' := 28) d23_27 rfl rfl ?_
        refine Go.iloadN C X0 (pc' := 29) d23_28 rfl rfl ?_
        refine Go.iadd C X0 (pc' := 30) d23_29 rfl ?_
        exact Go.retI C X0 d23_30 ⟨by show some (Value.int ((2 : Int32) + (1 : Int32))) = some (Value.int (own_f_rm_ss y0)); unfold own_f_rm_ss; rw [if_pos c161, if_neg c162, if_pos c163], rfl⟩ (by decide) (by decide)
      · refine Go.icmpYes C X0 (pc' := 31) d23_24 (flt c163).2.2.2 (by decide) (by decide) ?_
        refine Go.bipush C X0 (pc' := 33) (v := (10 : Int32)) d23_31 rfl rfl ?_
        refine Go.iloadN C X0 (pc' := 34) d23_33 rfl rfl ?_
        refine Go.imul C X0 (pc' := 35) d23_34 rfl ?_
        refine Go.istoreN C X0 (pc' := 36) (Ls' := #[.val (.int y0), .val (.int (1 : Int32)), .val (.int ((10 : Int32) * ((10 : Int32) * (-10 : Int32)))), .val (.int (2 : Int32))]) d23_35 rfl rfl ?_
        refine Go.iinc C X0 (pc' := 39) (Ls' := #[.val (.int y0), .val (.int (1 : Int32)), .val (.int ((10 : Int32) * ((10 : Int32) * (-10 : Int32)))), .val (.int (3 : Int32))]) (v' := (3 : Int32)) d23_36 rfl rfl rfl rfl ?_
        refine Go.goto C X0 (pc' := 16) d23_39 (by decide) (by decide) ?_
        refine Go.iloadN C X0 (pc' := 17) d23_16 rfl rfl ?_
        refine Go.bipush C X0 (pc' := 19) (v := (10 : Int32)) d23_17 rfl rfl ?_
        refine Go.icmpNo C X0 (pc' := 22) d23_19 (tlt (by decide)).2.1 rfl ?_
        refine Go.iloadN C X0 (pc' := 23) d23_22 rfl rfl ?_
        refine Go.iloadN C X0 (pc' := 24) d23_23 rfl rfl ?_
        by_cases c164 : ((10 : Int32) * ((10 : Int32) * (-10 : Int32))) < y0
        · refine Go.icmpNo C X0 (pc' := 27) d23_24 (tlt c164).2.2.2 rfl ?_
          refine Go.iloadN C X0 (pc' := 28) d23_27 rfl rfl ?_
          refine Go.iloadN C X0 (pc' := 29) d23_28 rfl rfl ?_
          refine Go.iadd C X0 (pc' := 30) d23_29 rfl ?_
          exact Go.retI C X0 d23_30 ⟨by show some (Value.int ((3 : Int32) + (1 : Int32))) = some (Value.int (own_f_rm_ss y0)); unfold own_f_rm_ss; rw [if_pos c161, if_neg c162, if_neg c163, if_pos c164], rfl⟩ (by decide) (by decide)
        · refine Go.icmpYes C X0 (pc' := 31) d23_24 (flt c164).2.2.2 (by decide) (by decide) ?_
          refine Go.bipush C X0 (pc' := 33) (v := (10 : Int32)) d23_31 rfl rfl ?_
          refine Go.iloadN C X0 (pc' := 34) d23_33 rfl rfl ?_
          refine Go.imul C X0 (pc' := 35) d23_34 rfl ?_
          refine Go.istoreN C X0 (pc' := 36) (Ls' := #[.val (.int y0), .val (.int (1 : Int32)), .val (.int ((10 : Int32) * ((10 : Int32) * ((10 : Int32) * (-10 : Int32))))), .val (.int (3 : Int32))]) d23_35 rfl rfl ?_
          refine Go.iinc C X0 (pc' := 39) (Ls' := #[.val (.int y0), .val (.int (1 : Int32)), .val (.int ((10 : Int32) * ((10 : Int32) * ((10 : Int32) * (-10 : Int32))))), .val (.int (4 : Int32))]) (v' := (4 : Int32)) d23_36 rfl rfl rfl rfl ?_
          refine Go.goto C X0 (pc' := 16) d23_39 (by decide) (by decide) ?_
          refine Go.iloadN C X0 (pc' := 17) d23_16 rfl rfl ?_
          refine Go.bipush C X0 (pc' := 19) (v := (10 : Int32)) d23_17 rfl rfl ?_
          refine Go.icmpNo C X0 (pc' := 22) d23_19 (tlt (by decide)).2.1 rfl ?_
          refine Go.iloadN C X0 (pc' := 23) d23_22 rfl rfl ?_
          refine Go.iloadN C X0 (pc' := 24) d23_23 rfl rfl ?_
          by_cases c165 : ((10 : Int32) * ((10 : Int32) * ((10 : Int32) * (-10 : Int32)))) < y0
          · refine Go.icmpNo C X0 (pc' := 27) d23_24 (tlt c165).2.2.2 rfl ?_
            refine Go.iloadN C X0 (pc' := 28) d23_27 rfl rfl ?_
            refine Go.iloadN C X0 (pc' := 29) d23_28 rfl rfl ?_
            refine Go.iadd C X0 (pc' := 30) d23_29 rfl ?_
            exact Go.retI C X0 d23_30 ⟨by show some (Value.int ((4 : Int32) + (1 : Int32))) = some (Value.int (own_f_rm_ss y0)); unfold own_f_rm_ss; rw [if_pos c161, if_neg c162, if_neg c163, if_neg c164, if_pos c165], rfl⟩ (by decide) (by decide)
          · refine Go.icmpYes C X0 (pc' := 31) d23_24 (flt c165).2.2.2 (by decide) (by decide) ?_
            refine Go.bipush C X0 (pc' := 33) (v := (10 : Int32)) d23_31 rfl rfl ?_
            refine Go.iloadN C X0 (pc' := 34) d23_33 rfl rfl ?_
            refine Go.imul C X0 (pc' := 35) d23_34 rfl ?_
            refine Go.istoreN C X0 (pc' := 36) (Ls' := #[.val (.int y0), .val (.int (1 : Int32)), .val (.int ((10 : Int32) * ((10 : Int32) * ((10 : Int32) * ((10 : Int32) * (-10 : Int32)))))), .val (.int (4 : Int32))]) d23_35 rfl rfl ?_
            refine Go.iinc C X0 (pc' := 39) (Ls' := #[.val (.int y0), .val (.int (1 : Int32)), .val (.int ((10 : Int32) * ((10 : Int32) * ((10 : Int32) * ((10 : Int32) * (-10 : Int32)))))), .val (.int (5 : Int32))]) (v' := (5 : Int32)) d23_36 rfl rfl rfl rfl ?_
            refine Go.goto C X0 (pc' := 16) d23_39 (by decide) (by decide) ?_
            refine Go.iloadN C X0 (pc' := 17) d23_16 rfl rfl ?_
            refine Go.bipush C X0 (pc' := 19) (v := (10 : Int32)) d23_17 rfl rfl ?_
            refine Go.icmpNo C X0 (pc' := 22) d23_19 (tlt (by decide)).2.1 rfl ?_
            refine Go.iloadN C X0 (pc' := 23) d23_22 rfl rfl ?_
            refine Go.iloadN C X0 (pc' := 24) d23_23 rfl rfl ?_
            by_cases c166 : ((10 : Int32) * ((10 : Int32) * ((10 : Int32) * ((10 : Int32) * (-10 : Int32))))) < y0
            · refine Go.icmpNo C X0 (pc' := 27) d23_24 (tlt c166).2.2.2 rfl ?_
              refine Go.iloadN C X0 (pc' := 28) d23_27 rfl rfl ?_
              refine Go.iloadN C X0 (pc' := 29) d23_28 rfl rfl ?_
              refine Go.iadd C X0 (pc' := 30) d23_29 rfl ?_
              exact Go.retI C X0 d23_30 ⟨by show some (Value.int ((5 : Int32) + (1 : Int32))) = some (Value.int (own_f_rm_ss y0)); unfold own_f_rm_ss; rw [if_pos c161, if_neg c162, if_neg c163, if_neg c164, if_neg c165, if_pos c166], rfl⟩ (by decide) (by decide)
            · refine Go.icmpYes C X0 (pc' := 31) d23_24 (flt c166).2.2.2 (by decide) (by decide) ?_
              refine Go.bipush C X0 (pc' := 33) (v := (10 : Int32)) d23_31 rfl rfl ?_
              refine Go.iloadN C X0 (pc' := 34) d23_33 rfl rfl ?_
              refine Go.imul C X0 (pc' := 35) d23_34 rfl ?_
              refine Go.istoreN C X0 (pc' := 36) (Ls' := #[.val (.int y0), .val (.int (1 : Int32)), .val (.int ((10 : Int32) * ((10 : Int32) * ((10 : Int32) * ((10 : Int32) * ((10 : Int32) * (-10 : Int32))))))), .val (.int (5 : Int32))]) d23_35 rfl rfl ?_
              refine Go.iinc C X0 (pc' := 39) (Ls' := #[.val (.int y0), .val (.int (1 : Int32)), .val (.int ((10 : Int32) * ((10 : Int32) * ((10 : Int32) * ((10 : Int32) * ((10 : Int32) * (-10 : Int32))))))), .val (.int (6 : Int32))]) (v' := (6 : Int32)) d23_36 rfl rfl rfl rfl ?_
              refine Go.goto C X0 (pc' := 16) d23_39 (by decide) (by decide) ?_
              refine Go.iloadN C X0 (pc' := 17) d23_16 rfl rfl ?_
              refine Go.bipush C X0 (pc' := 19) (v := (10 : Int32)) d23_17 rfl rfl ?_
              refine Go.icmpNo C X0 (pc' := 22) d23_19 (tlt (by decide)).2.1 rfl ?_
              refine Go.iloadN C X0 (pc' := 23) d23_22 rfl rfl ?_
              refine Go.iloadN C X0 (pc' := 24) d23_23 rfl rfl ?_
              by_cases c167 : ((10 : Int32) * ((10 : Int32) * ((10 : Int32) * ((10 : Int32) * ((10 : Int32) * (-10 : Int32)))))) < y0
              · refine Go.icmpNo C X0 (pc' := 27) d23_24 (tlt c167).2.2.2 rfl ?_
                refine Go.iloadN C X0 (pc' := 28) d23_27 rfl rfl ?_
                refine Go.iloadN C X0 (pc' := 29) d23_28 rfl rfl ?_
                refine Go.iadd C X0 (pc' := 30) d23_29 rfl ?_
                exact Go.retI C X0 d23_30 ⟨by show some (Value.int ((6 : Int32) + (1 : Int32))) = some (Value.int (own_f_rm_ss y0)); unfold own_f_rm_ss; rw [if_pos c161, if_neg c162, if_neg c163, if_neg c164, if_neg c165, if_neg c166, if_pos c167], rfl⟩ (by decide) (by decide)
              · refine Go.icmpYes C X0 (pc' := 31) d23_24 (flt c167).2.2.2 (by decide) (by decide) ?_
                refine Go.bipush C X0 (pc' := 33) (v := (10 : Int32)) d23_31 rfl rfl ?_
                refine Go.iloadN C X0 (pc' := 34) d23_33 rfl rfl ?_
                refine Go.imul C X0 (pc' := 35) d23_34 rfl ?_
                refine Go.istoreN C X0 (pc' := 36) (Ls' := #[.val (.int y0), .val (.int (1 : Int32)), .val (.int ((10 : Int32) * ((10 : Int32) * ((10 : Int32) * ((10 : Int32) * ((10 : Int32) * ((10 : Int32) * (-10 : Int32)))))))), .val (.int (6 : Int32))]) d23_35 rfl rfl ?_
                refine Go.iinc C X0 (pc' := 39) (Ls' := #[.val (.int y0), .val (.int (1 : Int32)), .val (.int ((10 : Int32) * ((10 : Int32) * ((10 : Int32) * ((10 : Int32) * ((10 : Int32) * ((10 : Int32) * (-10 : Int32)))))))), .val (.int (7 : Int32))]) (v' := (7 : Int32)) d23_36 rfl rfl rfl rfl ?_
                refine Go.goto C X0 (pc' := 16) d23_39 (by decide) (by decide) ?_
                refine Go.iloadN C X0 (pc' := 17) d23_16 rfl rfl ?_
                refine Go.bipush C X0 (pc' := 19) (v := (10 : Int32)) d23_17 rfl rfl ?_
                refine Go.icmpNo C X0 (pc' := 22) d23_19 (tlt (by decide)).2.1 rfl ?_
                refine Go.iloadN C X0 (pc' := 23) d23_22 rfl rfl ?_
                refine Go.iloadN C X0 (pc' := 24) d23_23 rfl rfl ?_
                by_cases c168 : ((10 : Int32) * ((10 : Int32) * ((10 : Int32) * ((10 : Int32) * ((10 : Int32) * ((10 : Int32) * (-10 : Int32))))))) < y0
                · refine Go.icmpNo C X0 (pc' := 27) d23_24 (tlt c168).2.2.2 rfl ?_
                  refine Go.iloadN C X0 (pc' := 28) d23_27 rfl rfl ?_
                  refine Go.iloadN C X0 (pc' := 29) d23_28 rfl rfl ?_
                  refine Go.iadd C X0 (pc' := 30) d23_29 rfl ?_
                  exact Go.retI C X0 d23_30 ⟨by show some (Value.int ((7 : Int32) + (1 : Int32))) = some (Value.int (own_f_rm_ss y0)); unfold own_f_rm_ss; rw [if_pos c161, if_neg c162, if_neg c163, if_neg c164, if_neg c165, if_neg c166, if_neg c167, if_pos c168], rfl⟩ (by decide) (by decide)
                · refine Go.icmpYes C X0 (pc' := 31) d23_24 (flt c168).2.2.2 (by decide) (by decide) ?_
                  refine Go.bipush C X0 (pc' := 33) (v := (10 : Int32)) d23_31 rfl rfl ?_
                  refine Go.iloadN C X0 (pc' := 34) d23_33 rfl rfl ?_
                  refine Go.imul C X0 (pc' := 35) d23_34 rfl ?_
                  refine Go.istoreN C X0 (pc' := 36) (Ls' := #[.val (.int y0), .val (.int (1 : Int32)), .val (.int ((10 : Int32) * ((10 : Int32) * ((10 : Int32) * ((10 : Int32) * ((10 : Int32) * ((10 : Int32) * ((10 : Int32) * (-10 : Int32))))))))), .val (.int (7 : Int32))]) d23_35 rfl rfl ?_
                  refine Go.iinc C X0 (pc' := 39) (Ls' := #[.val (.int y0), .val (.int (1 : Int32)), .val (.int ((10 : Int32) * ((10 : Int32) * ((10 : Int32) * ((10 : Int32) * ((10 : Int32) * ((10 : Int32) * ((10 : Int32) * (-10 : Int32))))))))), .val (.int (8 : Int32))]) (v' := (8 : Int32)) d23_36 rfl rfl rfl rfl ?_
                  refine Go.goto C X0 (pc' := 16) d23_39 (by decide) (by decide) ?_
                  refine Go.iloadN C X0 (pc' := 17) d23_16 rfl rfl ?_
                  refine Go.bipush C X0 (pc' := 19) (v := (10 : Int32)) d23_17 rfl rfl ?_
                  refine Go.icmpNo C X0 (pc' := 22) d23_19 (tlt (by decide)).2.1 rfl ?_
                  refine Go.iloadN C X0 (pc' := 23) d23_22 rfl rfl ?_
                  refine Go.iloadN C X0 (pc' := 24) d23_23 rfl rfl ?_
                  by_cases c169 : ((10 : Int32) * ((10 : Int32) * ((10 : Int32) * ((10 : Int32) * ((10 : Int32) * ((10 : Int32) * ((10 : Int32) * (-10 : Int32)))))))) < y0
                  · refine Go.icmpNo C X0 (pc' := 27) d23_24 (tlt c169).2.2.2 rfl ?_
                    refine Go.iloadN C X0 (pc' := 28) d23_27 rfl rfl ?_
                    refine Go.iloadN C X0 (pc' := 29) d23_28 rfl rfl ?_
                    refine Go.iadd C X0 (pc' := 30) d23_29 rfl ?_
                    exact Go.retI C X0 d23_30 ⟨by show some (Value.int ((8 : Int32) + (1 : Int32))) = some (Value.int (own_f_rm_ss y0)); unfold own_f_rm_ss; rw [if_pos c161, if_neg c162, if_neg c163, if_neg c164, if_neg c165, if_neg c166, if_neg c167, if_neg c168, if_pos c169], rfl⟩ (by decide) (by decide)
                  · refine Go.icmpYes C X0 (pc' := 31) d23_24 (flt c169).2.2.2 (by decide) (by decide) ?_
                    refine Go.bipush C X0 (pc' := 33) (v := (10 : Int32)) d23_31 rfl rfl ?_
                    refine Go.iloadN C X0 (pc' := 34) d23_33 rfl rfl ?_
                    refine Go.imul C X0 (pc' := 35) d23_34 rfl ?_
                    refine Go.istoreN C X0 (pc' := 36) (Ls' := #[.val (.int y0), .val (.int (1 : Int32)), .val (.int ((10 : Int32) * ((10 : Int32) * ((10 : Int32) * ((10 : Int32) * ((10 : Int32) * ((10 : Int32) * ((10 : Int32) * ((10 : Int32) * (-10 : Int32)))))))))), .val (.int (8 : Int32))]) d23_35 rfl rfl ?_
                    refine Go.iinc C X0 (pc' := 39) (Ls' := #[.val (.int y0), .val (.int (1 : Int32)), .val (.int ((10 : Int32) * ((10 : Int32) * ((10 : Int32) * ((10 : Int32) * ((10 : Int32) * ((10 : Int32) * ((10 : Int32) * ((10 : Int32) * (-10 : Int32)))))))))), .val (.int (9 : Int32))]) (v' := (9 : Int32)) d23_36 rfl rfl rfl rfl ?_
                    refine Go.goto C X0 (pc' := 16) d23_39 (by decide) (by decide) ?_
                    refine Go.iloadN C X0 (pc' := 17) d23_16 rfl rfl ?_
                    refine Go.bipush C X0 (pc' := 19) (v := (10 : Int32)) d23_17 rfl rfl ?_
                    refine Go.icmpNo C X0 (pc' := 22) d23_19 (tlt (by decide)).2.1 rfl ?_
                    refine Go.iloadN C X0 (pc' := 23) d23_22 rfl rfl ?_
                    refine Go.iloadN C X0 (pc' := 24) d23_23 rfl rfl ?_
                    by_cases c170 : ((10 : Int32) * ((10 : Int32) * ((10 : Int32) * ((10 : Int32) * ((10 : Int32) * ((10 : Int32) * ((10 : Int32) * ((10 : Int32) * (-10 : Int32))))))))) < y0
                    · refine Go.icmpNo C X0 (pc' := 27) d23_24 (tlt c170).2.2.2 rfl ?_
                      refine Go.iloadN C X0 (pc' := 28) d23_27 rfl rfl ?_
                      refine Go.iloadN C X0 (pc' := 29) d23_28 rfl rfl ?_
                      refine Go.iadd C X0 (pc' := 30) d23_29 rfl ?_
                      exact Go.retI C X0 d23_30 ⟨by show some (Value.int ((9 : Int32) + (1 : Int32))) = some (Value.int (own_f_rm_ss y0)); unfold own_f_rm_ss; rw [if_pos c161, if_neg c162, if_neg c163, if_neg c164, if_neg c165, if_neg c166, if_neg c167, if_neg c168, if_neg c169, if_pos c170], rfl⟩ (by decide) (by decide)
                    · refine Go.icmpYes C X0 (pc' := 31) d23_24 (flt c170).2.2.2 (by decide) (by decide) ?_
                      refine Go.bipush C X0 (pc' := 33) (v := (10 : Int32)) d23_31 rfl rfl ?_
                      refine Go.iloadN C X0 (pc' := 34) d23_33 rfl rfl ?_
                      refine Go.imul C X0 (pc' := 35) d23_34 rfl ?_
                      refine Go.istoreN C X0 (pc' := 36) (Ls' := #[.val (.int y0), .val (.int (1 : Int32)), .val (.int ((10 : Int32) * ((10 : Int32) * ((10 : Int32) * ((10 : Int32) * ((10 : Int32) * ((10 : Int32) * ((10 : Int32) * ((10 : Int32) * ((10 : Int32) * (-10 : Int32))))))))))), .val (.int (9 : Int32))]) d23_35 rfl rfl ?_
                      refine Go.iinc C X0 (pc' := 39) (Ls' := #[.val (.int y0), .val (.int (1 : Int32)), .val (.int ((10 : Int32) * ((10 : Int32) * ((10 : Int32) * ((10 : Int32) * ((10 : Int32) * ((10 : Int32) * ((10 : Int32) * ((10 : Int32) * ((10 : Int32) * (-10 : Int32))))))))))), .val (.int (10 : Int32))]) (v' := (10 : Int32)) d23_36 rfl rfl rfl rfl ?_
                      refine Go.goto C X0 (pc' := 16) d23_39 (by decide) (by decide) ?_
                      refine Go.iloadN C X0 (pc' := 17) d23_16 rfl rfl ?_
                      refine Go.bipush C X0 (pc' := 19) (v := (10 : Int32)) d23_17 rfl rfl ?_
                      refine Go.icmpYes C X0 (pc' := 42) d23_19 (flt (by decide)).2.1 (by decide) (by decide) ?_
                      refine Go.bipush C X0 (pc' := 44) (v := (10 : Int32)) d23_42 rfl rfl ?_
                      refine Go.iloadN C X0 (pc' := 45) d23_44 rfl rfl ?_
                      refine Go.iadd C X0 (pc' := 46) d23_45 rfl ?_
                      exact Go.retI C X0 d23_46 ⟨by show some (Value.int ((10 : Int32) + (1 : Int32))) = some (Value.int (own_f_rm_ss y0)); unfold own_f_rm_ss; rw [if_pos c161, if_neg c162, if_neg c163, if_neg c164, if_neg c165, if_neg c166, if_neg c167, if_neg c168, if_neg c169, if_neg c170], rfl⟩ (by decide) (by decide)
  · refine Go.ifNo C X0 (pc' := 6) d23_3 ((if0 _ _).trans (flt c161).1) rfl ?_
    refine Go.iconst C X0 (pc' := 7) (v := (0 : Int32)) d23_6 rfl rfl ?_
    refine Go.istoreN C X0 (pc' := 8) (Ls' := #[.val (.int y0), .val (.int (0 : Int32)), .unset, .unset]) d23_7 rfl rfl ?_
    refine Go.iloadN C X0 (pc' := 9) d23_8 rfl rfl ?_
    refine Go.ineg C X0 (pc' := 10) d23_9 rfl ?_
    refine Go.istoreN C X0 (pc' := 11) (Ls' := #[.val (.int (-y0)), .val (.int (0 : Int32)), .unset, .unset]) d23_10 rfl rfl ?_
    refine Go.bipush C X0 (pc' := 13) (v := (-10 : Int32)) d23_11 rfl rfl ?_
    refine Go.istoreN C X0 (pc' := 14) (Ls' := #[.val (.int (-y0)), .val (.int (0 : Int32)), .val (.int (-10 : Int32)), .unset]) d23_13 rfl rfl ?_
    refine Go.iconst C X0 (pc' := 15) (v := (1 : Int32)) d23_14 rfl rfl ?_
    refine Go.istoreN C X0 (pc' := 16) (Ls' := #[.val (.int (-y0)), .val (.int (0 : Int32)), .val (.int (-10 : Int32)), .val (.int (1 : Int32))]) d23_15 rfl rfl ?_
    refine Go.iloadN C X0 (pc' := 17) d23_16 rfl rfl ?_
    refine Go.bipush C X0 (pc' := 19) (v := (10 : Int32)) d23_17 rfl rfl ?_
    refine Go.icmpNo C X0 (pc' := 22) d23_19 (tlt (by decide)).2.1 rfl ?_
    refine Go.iloadN C X0 (pc' := 23) d23_22 rfl rfl ?_
    refine Go.iloadN C X0 (pc' := 24) d23_23 rfl rfl ?_
    by_cases c171 : (-10 : Int32) < (-y0)
    · refine Go.icmpNo C X0 (pc' := 27) d23_24 (tlt c171).2.2.2 rfl ?_
      refine Go.iloadN C X0 (pc' := 28) d23_27 rfl rfl ?_
      refine Go.iloadN C X0 (pc' := 29) d23_28 rfl rfl ?_
      refine Go.iadd C X0 (pc' := 30) d23_29 rfl ?_
      exact Go.retI C X0 d23_30 ⟨by show some (Value.int ((1 : Int32) + (0 : Int32))) = some (Value.int (own_f_rm_ss y0)); unfold own_f_rm_ss; rw [if_neg c161, if_pos c171], rfl⟩ (by decide) (by decide)
    · refine Go.icmpYes C X0 (pc' := 31) d23_24 (flt c171).2.2.2 (by decide) (by decide) ?_
      refine Go.bipush C X0 (pc' := 33) (v := (10 : Int32)) d23_31 rfl rfl ?_
      refine Go.iloadN C X0 (pc' := 34) d23_33 rfl rfl ?_
      refine Go.imul C X0 (pc' := 35) d23_34 rfl ?_
      refine Go.istoreN C X0 (pc' := 36) (Ls' := #[.val (.int (-y0)), .val (.int (0 : Int32)), .val (.int ((10 : Int32) * (-10 : Int32))), .val (.int (1 : Int32))]) d23_35 rfl rfl ?_
      refine Go.iinc C X0 (pc' := 39) (Ls' := #[.val (.int (-y0)), .val (.int (0 : Int32)), .val (.int ((10 : Int32) * (-10 : Int32))), .val (.int (2 : Int32))]) (v' := (2 : Int32)) d23_36 rfl rfl rfl rfl ?_
      refine Go.goto C X0 (pc' := 16) d23_39 (by decide) (by decide) ?_
      refine Go.iloadN C X0 (pc' := 17) d23_16 rfl rfl ?_
      refine Go.bipush C X0 (pc' := 19) (v := (10 : Int32)) d23_17 rfl rfl ?_
      refine Go.icmpNo C X0 (pc' := 22) d23_19 (tlt (by decide)).2.1 rfl ?_
      refine Go.iloadN C X0 (pc' := 23) d23_22 rfl rfl ?_
      refine Go.iloadN C X0 (pc' := 24) d23_23 rfl rfl ?_
      by_cases c172 : ((10 : Int32) * (-10 : Int32)) < (-y0)
      · refine Go.icmpNo C X0 (pc' := 27) d23_24 (tlt c172).2.2.2 rfl ?_
        refine Go.iloadN C X0 (pc' := 28) d23_27 rfl rfl ?_
        refine Go.iloadN C X0 (pc' := 29) d23_28 rfl rfl ?_
        refine Go.iadd C X0 (pc' := 30) d23_29 rfl ?_
        exact Go.retI C X0 d23_30 ⟨by show some (Value.int ((2 : Int32) + (0 : Int32))) = some (Value.int (own_f_rm_ss y0)); unfold own_f_rm_ss; rw [if_neg c161, if_neg c171, if_pos c172], rfl⟩ (by decide) (by decide)
      · refine Go.icmpYes C X0 (pc' := 31) d23_24 (flt c172).2.2.2 (by decide) (by decide) ?_
        refine Go.bipush C X0 (pc' := 33) (v := (10 : Int32)) d23_31 rfl rfl ?_
        refine Go.iloadN C X0 (pc' := 34) d23_33 rfl rfl ?_
        refine Go.imul C X0 (pc' := 35) d23_34 rfl ?_
        refine Go.istoreN C X0 (pc' := 36) (Ls' := #[.val (.int (-y0)), .val (.int (0 : Int32)), .val (.int ((10 : Int32) * ((10 : Int32) * (-10 : Int32)))), .val (.int (2 : Int32))]) d23_35 rfl rfl ?_
        refine Go.iinc C X0 (pc' := 39) (Ls' := #[.val (.int (-y0)), .val (.int (0 : Int32)), .val (.int ((10 : Int32) * ((10 : Int32) * (-10 : Int32)))), .val (.int (3 : Int32))]) (v' := (3 : Int32)) d23_36 rfl rfl rfl rfl ?_
        refine Go.goto C X0 (pc' := 16) d23_39 (by decide) (by decide) ?_
        refine Go.iloadN C X0 (pc' := 17) d23_16 rfl rfl ?_
        refine Go.bipush C X0 (pc' := 19) (v := (10 : Int32)) d23_17 rfl rfl ?_
        refine Go.icmpNo C X0 (pc' := 22) d23_19 (tlt (by decide)).2.1 rfl ?_
        refine Go.iloadN C X0 (pc' := 23) d23_22 rfl rfl ?_
        refine Go.iloadN C X0 (pc' := 24) d23_23 rfl rfl ?_
        by_cases c173 : ((10 : Int32) * ((10 : Int32) * (-10 : Int32))) < (-y0)
        · refine Go.icmpNo C X0 (pc' := 27) d23_24 (tlt c173).2.2.2 rfl ?_
          refine Go.iloadN C X0 (pc' := 28) d23_27 rfl rfl ?_
          refine Go.iloadN C X0 (pc' := 29) d23_28 rfl rfl ?_
          refine Go.iadd C X0 (pc' := 30) d23_29 rfl ?_
          exact Go.retI C X0 d23_30 ⟨by show some (Value.int ((3 : Int32) + (0 : Int32))) = some (Value.int (own_f_rm_ss y0)); unfold own_f_rm_ss; rw [if_neg c161, if_neg c171, if_neg c172, if_pos c173], rfl⟩ (by decide) (by decide)
        · refine Go.icmpYes C X0 (pc' := 31) d23_24 (flt c173).2.2.2 (by decide) (by decide) ?_
          refine Go.bipush C X0 (pc' := 33) (v := (10 : Int32)) d23_31 rfl rfl ?_
          refine Go.iloadN C X0 (pc' := 34) d23_33 rfl rfl ?_
          refine Go.imul C X0 (pc' := 35) d23_34 rfl ?_
          refine Go.istoreN C X0 (pc' := 36) (Ls' := #[.val (.int (-y0)), .val (.int (0 : Int32)), .val (.int ((10 : Int32) * ((10 : Int32) * ((10 : Int32) * (-10 : Int32))))), .val (.int (3 : Int32))]) d23_35 rfl rfl ?_
          refine Go.iinc C X0 (pc' := 39) (Ls' := #[.val (.int (-y0)), .val (.int (0 : Int32)), .val (.int ((10 : Int32) * ((10 : Int32) * ((10 : Int32) * (-10 : Int32))))), .val (.int (4 : Int32))]) (v' := (4 : Int32)) d23_36 rfl rfl rfl rfl ?_
          refine Go.goto C X0 (pc' := 16) d23_39 (by decide) (by decide) ?_
          refine Go.iloadN C X0 (pc' := 17) d23_16 rfl rfl ?_
          refine Go.bipush C X0 (pc' := 19) (v := (10 : Int32)) d23_17 rfl rfl ?_
          refine Go.icmpNo C X0 (pc' := 22) d23_19 (tlt (by decide)).2.1 rfl ?_
          refine Go.iloadN C X0 (pc' := 23) d23_22 rfl rfl ?_
          refine Go.iloadN C X0 (pc' := 24) d23_23 rfl rfl ?_
          by_cases c174 : ((10 : Int32) * ((10 : Int32) * ((10 : Int32) * (-10 : Int32)))) < (-y0)
          · refine Go.icmpNo C X0 (pc' := 27) d23_24 (tlt c174).2.2.2 rfl ?_
            refine Go.iloadN C X0 (pc' := 28) d23_27 rfl rfl ?_
            refine Go.iloadN C X0 (pc' := 29) d23_28 rfl rfl ?_
            refine Go.iadd C X0 (pc' := 30) d23_29 rfl ?_
            exact Go.retI C X0 d23_30 ⟨by show some (Value.int ((4 : Int32) + (0 : Int32))) = some (Value.int (own_f_rm_ss y0)); unfold own_f_rm_ss; rw [if_neg c161, if_neg c171, if_neg c172, if_neg c173, if_pos c174], rfl⟩ (by decide) (by decide)
          · refine Go.icmpYes C X0 (pc' := 31) d23_24 (flt c174).2.2.2 (by decide) (by decide) ?_
            refine Go.bipush C X0 (pc' := 33) (v := (10 : Int32)) d23_31 rfl rfl ?_
            refine Go.iloadN C X0 (pc' := 34) d23_33 rfl rfl ?_
            refine Go.imul C X0 (pc' := 35) d23_34 rfl ?_
            refine Go.istoreN C X0 (pc' := 36) (Ls' := #[.val (.int (-y0)), .val (.int (0 : Int32)), .val (.int ((10 : Int32) * ((10 : Int32) * ((10 : Int32) * ((10 : Int32) * (-10 : Int32)))))), .val (.int (4 : Int32))]) d23_35 rfl rfl ?_
            refine Go.iinc C X0 (pc' := 39) (Ls' := #[.val (.int (-y0)), .val (.int (0 : Int32)), .val (.int ((10 : Int32) * ((10 : Int32) * ((10 : Int32) * ((10 : Int32) * (-10 : Int32)))))), .val (.int (5 : Int32))]) (v' := (5 : Int32)) d23_36 rfl rfl rfl rfl ?_
            refine Go.goto C X0 (pc' := 16) d23_39 (by decide) (by decide) ?_
            refine Go.iloadN C X0 (pc' := 17) d23_16 rfl rfl ?_
            refine Go.bipush C X0 (pc' := 19) (v := (10 : Int32)) d23_17 rfl rfl ?_
            refine Go.icmpNo C X0 (pc' := 22) d23_19 (tlt (by decide)).2.1 rfl ?_
            refine Go.iloadN C X0 (pc' := 23) d23_22 rfl rfl ?_
            refine Go.iloadN C X0 (pc' := 24) d23_23 rfl rfl ?_
            by_cases c175 : ((10 : Int32) * ((10 : Int32) * ((10 : Int32) * ((10 : Int32) * (-10 : Int32))))) < (-y0)
            · refine Go.icmpNo C X0 (pc' := 27) d23_24 (tlt c175).2.2.2 rfl ?_
              refine Go.iloadN C X0 (pc' := 28) d23_27 rfl rfl ?_
              refine Go.iloadN C X0 (pc' := 29) d23_28 rfl rfl ?_
              refine Go.iadd C X0 (pc' := 30) d23_29 rfl ?_
              exact Go.retI C X0 d23_30 ⟨by show some (Value.int ((5 : Int32) + (0 : Int32))) = some (Value.int (own_f_rm_ss y0)); unfold own_f_rm_ss; rw [if_neg c161, if_neg c171, if_neg c172, if_neg c173, if_neg c174, if_pos c175], rfl⟩ (by decide) (by decide)
            · refine Go.icmpYes C X0 (pc' := 31) d23_24 (flt c175).2.2.2 (by decide) (by decide) ?_
              refine Go.bipush C X0 (pc' := 33) (v := (10 : Int32)) d23_31 rfl rfl ?_
              refine Go.iloadN C X0 (pc' := 34) d23_33 rfl rfl ?_
              refine Go.imul C X0 (pc' := 35) d23_34 rfl ?_
              refine Go.istoreN C X0 (pc' := 36) (Ls' := #[.val (.int (-y0)), .val (.int (0 : Int32)), .val (.int ((10 : Int32) * ((10 : Int32) * ((10 : Int32) * ((10 : Int32) * ((10 : Int32) * (-10 : Int32))))))), .val (.int (5 : Int32))]) d23_35 rfl rfl ?_
              refine Go.iinc C X0 (pc' := 39) (Ls' := #[.val (.int (-y0)), .val (.int (0 : Int32)), .val (.int ((10 : Int32) * ((10 : Int32) * ((10 : Int32) * ((10 : Int32) * ((10 : Int32) * (-10 : Int32))))))), .val (.int (6 : Int32))]) (v' := (6 : Int32)) d23_36 rfl rfl rfl rfl ?_
              refine Go.goto C X0 (pc' := 16) d23_39 (by decide) (by decide) ?_
              refine Go.iloadN C X0 (pc' := 17) d23_16 rfl rfl ?_
              refine Go.bipush C X0 (pc' := 19) (v := (10 : Int32)) d23_17 rfl rfl ?_
              refine Go.icmpNo C X0 (pc' := 22) d23_19 (tlt (by decide)).2.1 rfl ?_
              refine Go.iloadN C X0 (pc' := 23) d23_22 rfl rfl ?_
              refine Go.iloadN C X0 (pc' := 24) d23_23 rfl rfl ?_
              by_cases c176 : ((10 : Int32) * ((10 : Int32) * ((10 : Int32) * ((10 : Int32) * ((10 : Int32) * (-10 : Int32)))))) < (-y0)
              · refine Go.icmpNo C X0 (pc' := 27) d23_24 (tlt c176).2.2.2 rfl ?_
                refine Go.iloadN C X0 (pc' := 28) d23_27 rfl rfl ?_
                refine Go.iloadN C X0 (pc' := 29) d23_28 rfl rfl ?_
                refine Go.iadd C X0 (pc' := 30) d23_29 rfl ?_
                exact Go.retI C X0 d23_30 ⟨by show some (Value.int ((6 : Int32) + (0 : Int32))) = some (Value.int (own_f_rm_ss y0)); unfold own_f_rm_ss; rw [if_neg c161, if_neg c171, if_neg c172, if_neg c173, if_neg c174, if_neg c175, if_pos c176], rfl⟩ (by decide) (by decide)
              · refine Go.icmpYes C X0 (pc' := 31) d23_24 (flt c176).2.2.2 (by decide) (by decide) ?_
                refine Go.bipush C X0 (pc' := 33) (v := (10 : Int32)) d23_31 rfl rfl ?_
                refine Go.iloadN C X0 (pc' := 34) d23_33 rfl rfl ?_
                refine Go.imul C X0 (pc' := 35) d23_34 rfl ?_
                refine Go.istoreN C X0 (pc' := 36) (Ls' := #[.val (.int (-y0)), .val (.int (0 : Int32)), .val (.int ((10 : Int32) * ((10 : Int32) * ((10 : Int32) * ((10 : Int32) * ((10 : Int32) * ((10 : Int32) * (-10 : Int32)))))))), .val (.int (6 : Int32))]) d23_35 rfl rfl ?_
                refine Go.iinc C X0 (pc' := 39) (Ls' := #[.val (.int (-y0)), .val (.int (0 : Int32)), .val (.int ((10 : Int32) * ((10 : Int32) * ((10 : Int32) * ((10 : Int32) * ((10 : Int32) * ((10 : Int32) * (-10 : Int32)))))))), .val (.int (7 : Int32))]) (v' := (7 : Int32)) d23_36 rfl rfl rfl rfl ?_
                refine Go.goto C X0 (pc' := 16) d23_39 (by decide) (by decide) ?_
                refine Go.iloadN C X0 (pc' := 17) d23_16 rfl rfl ?_
                refine Go.bipush C X0 (pc' := 19) (v := (10 : Int32)) d23_17 rfl rfl ?_
                refine Go.icmpNo C X0 (pc' := 22) d23_19 (tlt (by decide)).2.1 rfl ?_
                refine Go.iloadN C X0 (pc' := 23) d23_22 rfl rfl ?_
                refine Go.iloadN C X0 (pc' := 24) d23_23 rfl rfl ?_
                by_cases c177 : ((10 : Int32) * ((10 : Int32) * ((10 : Int32) * ((10 : Int32) * ((10 : Int32) * ((10 : Int32) * (-10 : Int32))))))) < (-y0)
                · refine Go.icmpNo C X0 (pc' := 27) d23_24 (tlt c177).2.2.2 rfl ?_
                  refine Go.iloadN C X0 (pc' := 28) d23_27 rfl rfl ?_
                  refine Go.iloadN C X0 (pc' := 29) d23_28 rfl rfl ?_
                  refine Go.iadd C X0 (pc' := 30) d23_29 rfl ?_
                  exact Go.retI C X0 d23_30 ⟨by show some (Value.int ((7 : Int32) + (0 : Int32))) = some (Value.int (own_f_rm_ss y0)); unfold own_f_rm_ss; rw [if_neg c161, if_neg c171, if_neg c172, if_neg c173, if_neg c174, if_neg c175, if_neg c176, if_pos c177], rfl⟩ (by decide) (by decide)
                · refine Go.icmpYes C X0 (pc' := 31) d23_24 (flt c177).2.2.2 (by decide) (by decide) ?_
                  refine Go.bipush C X0 (pc' := 33) (v := (10 : Int32)) d23_31 rfl rfl ?_
                  refine Go.iloadN C X0 (pc' := 34) d23_33 rfl rfl ?_
                  refine Go.imul C X0 (pc' := 35) d23_34 rfl ?_
                  refine Go.istoreN C X0 (pc' := 36) (Ls' := #[.val (.int (-y0)), .val (.int (0 : Int32)), .val (.int ((10 : Int32) * ((10 : Int32) * ((10 : Int32) * ((10 : Int32) * ((10 : Int32) * ((10 : Int32) * ((10 : Int32) * (-10 : Int32))))))))), .val (.int (7 : Int32))]) d23_35 rfl rfl ?_
                  refine Go.iinc C X0 (pc' := 39) (Ls' := #[.val (.int (-y0)), .val (.int (0 : Int32)), .val (.int ((10 : Int32) * ((10 : Int32) * ((10 : Int32) * ((10 : Int32) * ((10 : Int32) * ((10 : Int32) * ((10 : Int32) * (-10 : Int32))))))))), .val (.int (8 : Int32))]) (v' := (8 : Int32)) d23_36 rfl rfl rfl rfl ?_
                  refine Go.goto C X0 (pc' := 16) d23_39 (by decide) (by decide) ?_
                  refine Go.iloadN C X0 (pc' := 17) d23_16 rfl rfl ?_
                  refine Go.bipush C X0 (pc' := 19) (v := (10 : Int32)) d23_17 rfl rfl ?_
                  refine Go.icmpNo C X0 (pc' := 22) d23_19 (tlt (by decide)).2.1 rfl ?_
                  refine Go.iloadN C X0 (pc' := 23) d23_22 rfl rfl ?_
                  refine Go.iloadN C X0 (pc' := 24) d23_23 rfl rfl ?_
                  by_cases c178 : ((10 : Int32) * ((10 : Int32) * ((10 : Int32) * ((10 : Int32) * ((10 : Int32) * ((10 : Int32) * ((10 : Int32) * (-10 : Int32)))))))) < (-y0)
                  · refine Go.icmpNo C X0 (pc' := 27) d23_24 (tlt c178).2.2.2 rfl ?_
                    refine Go.iloadN C X0 (pc' := 28) d23_27 rfl rfl ?_
                    refine Go.iloadN C X0 (pc' := 29) d23_28 rfl rfl ?_
                    refine Go.iadd C X0 (pc' := 30) d23_29 rfl ?_
                    exact Go.retI C X0 d23_30 ⟨by show some (Value.int ((8 : Int32) + (0 : Int32))) = some (Value.int (own_f_rm_ss y0)); unfold own_f_rm_ss; rw [if_neg c161, if_neg c171, if_neg c172, if_neg c173, if_neg c174, if_neg c175, if_neg c176, if_neg c177, if_pos c178], rfl⟩ (by decide) (by decide)
                  · refine Go.icmpYes C X0 (pc' := 31) d23_24 (flt c178).2.2.2 (by decide) (by decide) ?_
                    refine Go.bipush C X0 (pc' := 33) (v := (10 : Int32)) d23_31 rfl rfl ?_
                    refine Go.iloadN C X0 (pc' := 34) d23_33 rfl rfl ?_
                    refine Go.imul C X0 (pc' := 35) d23_34 rfl ?_
                    refine Go.istoreN C X0 (pc' := 36) (Ls' := #[.val (.int (-y0)), .val (.int (0 : Int32)), .val (.int ((10 : Int32) * ((10 : Int32) * ((10 : Int32) * ((10 : Int32) * ((10 : Int32) * ((10 : Int32) * ((10 : Int32) * ((10 : Int32) * (-10 : Int32)))))))))), .val (.int (8 : Int32))]) d23_35 rfl rfl ?_
                    refine Go.iinc C X0 (pc' := 39) (Ls' := #[.val (.int (-y0)), .val (.int (0 : Int32)), .val (.int ((10 : Int32) * ((10 : Int32) * ((10 : Int32) * ((10 : Int32) * ((10 : Int32) * ((10 : Int32) * ((10 : Int32) * ((10 : Int32) * (-10 : Int32)))))))))), .val (.int (9 : Int32))]) (v' := (9 : Int32)) d23_36 rfl rfl rfl rfl ?_
                    refine Go.goto C X0 (pc' := 16) d23_39 (by decide) (by decide) ?_
                    refine Go.iloadN C X0 (pc' := 17) d23_16 rfl rfl ?_
                    refine Go.bipush C X0 (pc' := 19) (v := (10 : Int32)) d23_17 rfl rfl ?_
                    refine Go.icmpNo C X0 (pc' := 22) d23_19 (tlt (by decide)).2.1 rfl ?_
                    refine Go.iloadN C X0 (pc' := 23) d23_22 rfl rfl ?_
                    refine Go.iloadN C X0 (pc' := 24) d23_23 rfl rfl ?_
                    by_cases c179 : ((10 : Int32) * ((10 : Int32) * ((10 : Int32) * ((10 : Int32) * ((10 : Int32) * ((10 : Int32) * ((10 : Int32) * ((10 : Int32) * (-10 : Int32))))))))) < (-y0)
                    · refine Go.icmpNo C X0 (pc' := 27) d23_24 (tlt c179).2.2.2 rfl ?_
                      refine Go.iloadN C X0 (pc' := 28) d23_27 rfl rfl ?_
                      refine Go.iloadN C X0 (pc' := 29) d23_28 rfl rfl ?_
                      refine Go.iadd C X0 (pc' := 30) d23_29 rfl ?_
                      exact Go.retI C X0 d23_30 ⟨by show some (Value.int ((9 : Int32) + (0 : Int32))) = some (Value.int (own_f_rm_ss y0)); unfold own_f_rm_ss; rw [if_neg c161, if_neg c171, if_neg c172, if_neg c173, if_neg c174, if_neg c175, if_neg c176, if_neg c177, if_neg c178, if_pos c179], rfl⟩ (by decide) (by decide)
                    · refine Go.icmpYes C X0 (pc' := 31) d23_24 (flt c179).2.2.2 (by decide) (by decide) ?_
                      refine Go.bipush C X0 (pc' := 33) (v := (10 : Int32)) d23_31 rfl rfl ?_
                      refine Go.iloadN C X0 (pc' := 34) d23_33 rfl rfl ?_
                      refine Go.imul C X0 (pc' := 35) d23_34 rfl ?_
                      refine Go.istoreN C X0 (pc' := 36) (Ls' := #[.val (.int (-y0)), .val (.int (0 : Int32)), .val (.int ((10 : Int32) * ((10 : Int32) * ((10 : Int32) * ((10 : Int32) * ((10 : Int32) * ((10 : Int32) * ((10 : Int32) * ((10 : Int32) * ((10 : Int32) * (-10 : Int32))))))))))), .val (.int (9 : Int32))]) d23_35 rfl rfl ?_
                      refine Go.iinc C X0 (pc' := 39) (Ls' := #[.val (.int (-y0)), .val (.int (0 : Int32)), .val (.int ((10 : Int32) * ((10 : Int32) * ((10 : Int32) * ((10 : Int32) * ((10 : Int32) * ((10 : Int32) * ((10 : Int32) * ((10 : Int32) * ((10 : Int32) * (-10 : Int32))))))))))), .val (.int (10 : Int32))]) (v' := (10 : Int32)) d23_36 rfl rfl rfl rfl ?_
                      refine Go.goto C X0 (pc' := 16) d23_39 (by decide) (by decide) ?_
                      refine Go.iloadN C X0 (pc' := 17) d23_16 rfl rfl ?_
                      refine Go.bipush C X0 (pc' := 19) (v := (10 : Int32)) d23_17 rfl rfl ?_
                      refine Go.icmpYes C X0 (pc' := 42) d23_19 (flt (by decide)).2.1 (by decide) (by decide) ?_
                      refine Go.bipush C X0 (pc' := 44) (v := (10 : Int32)) d23_42 rfl rfl ?_
                      refine Go.iloadN C X0 (pc' := 45) d23_44 rfl rfl ?_
                      refine Go.iadd C X0 (pc' := 46) d23_45 rfl ?_
                      exact Go.retI C X0 d23_46 ⟨by show some (Value.int ((10 : Int32) + (0 : Int32))) = some (Value.int (own_f_rm_ss y0)); unfold own_f_rm_ss; rw [if_neg c161, if_neg c171, if_neg c172, if_neg c173, if_neg c174, if_neg c175, if_neg c176, if_neg c177, if_neg c178, if_neg c179], rfl⟩ (by decide) (by decide)
theorem own_ef_rm_al (m : MethodId) (x0 : Addr) : entryFrame m #[(.ref x0)] 1 = mkF m 0 #[.val (.ref x0)] [] := by first | (simp [entryFrame, mkF, argsToLocals, Value.category]; done) | rfl
theorem d24_0 : decode jdk_68_method_68_code 0 = .ok (.getstatic 18, 3) := by decide +kernel
theorem d24_3 : decode jdk_68_method_68_code 3 = .ok (.ifCond .eq 14, 3) := by decide +kernel
theorem d24_6 : decode jdk_68_method_68_code 6 = .ok (.aload_n 0, 1) := by decide +kernel
theorem d24_7 : decode jdk_68_method_68_code 7 = .ok (.getfield 22, 3) := by decide +kernel
theorem d24_10 : decode jdk_68_method_68_code 10 = .ok (.ifCond .ne 7, 3) := by decide +kernel
theorem d24_13 : decode jdk_68_method_68_code 13 = .ok (.iconst 1, 1) := by decide +kernel
theorem d24_14 : decode jdk_68_method_68_code 14 = .ok (.goto 4, 3) := by decide +kernel
theorem d24_18 : decode jdk_68_method_68_code 18 = .ok (.ireturn, 1) := by decide +kernel
set_option maxRecDepth 65536 in
set_option maxHeartbeats 40000000 in
theorem rm_al (l : Launch) (Z : State) (a0 : Array Value) (hw : ∀ d ∈ tables_1, d.before a0 Z = true) (a : Addr) (cs : Int32) (h0 : Heap) (n0 : Nat) (Z0 : n0 ≤ h0.size) (f0 : Old Z n0 h0) (f1 : Sta Z Z.heap "java/lang/String" "COMPACT_STRINGS" "Z" (.int cs)) (f2 : Fld Z h0 a "java/lang/AbstractStringBuilder" "coder" "B" (.int (0 : Int32))) (hcs : ¬ cs = (0 : Int32)) :
    Con l Z (⟨"java/lang/AbstractStringBuilder", "isLatin1", "()Z"⟩ : MethodName) jdk_68_method_68_code 1 (some .boolean) ({ frames := 0, cells := 0, slots := 0, locals := 0 } : Room) #[(.ref a)] h0 n0 (fun rv hv => rv = some (.int (1 : Int32)) ∧ h0 = hv) := by
  refine Con.enter (plainFor_of_name own_pn4) Z0 ?_
  intro p e s m below meth c T0 C hnm X0
  refine Go.cast (own_ef_rm_al m a) ?_
  refine Go.getS C X0 (pc' := 3) (own_w hw 69 rfl) Via.refl (f1.ext f0.2) d24_0 rfl (fun T180 X180 => ?_)
  refine Go.ifNo C X180 (pc' := 6) d24_3 ((if0 _ _).trans (feq hcs).1) rfl ?_
  refine Go.aloadN C X180 (pc' := 7) d24_6 rfl rfl rfl ?_
  refine Go.getF C X180 (pc' := 10) (host := "") (Or.inl (own_w hw 72 rfl)) Via.refl f2 d24_7 rfl (fun T181 X181 => ?_)
  refine Go.ifNo C X181 (pc' := 13) d24_10 ((if0 _ _).trans (teq (by decide)).2) rfl ?_
  refine Go.iconst C X181 (pc' := 14) (v := (1 : Int32)) d24_13 rfl rfl ?_
  refine Go.goto C X181 (pc' := 18) d24_14 (by decide) (by decide) ?_
  exact Go.retZ (t := .boolean) C X181 (z' := (1 : Int32)) (by decide) d24_18 ⟨rfl, rfl⟩ (by decide) (by decide)
theorem own_ef_rm_gv (m : MethodId) (x0 : Addr) : entryFrame m #[(.ref x0)] 1 = mkF m 0 #[.val (.ref x0)] [] := by first | (simp [entryFrame, mkF, argsToLocals, Value.category]; done) | rfl
theorem d29_0 : decode jdk_68_method_64_code 0 = .ok (.aload_n 0, 1) := by decide +kernel
theorem d29_1 : decode jdk_68_method_64_code 1 = .ok (.getfield 15, 3) := by decide +kernel
theorem d29_4 : decode jdk_68_method_64_code 4 = .ok (.areturn, 1) := by decide +kernel
set_option maxRecDepth 65536 in
set_option maxHeartbeats 40000000 in
theorem rm_gv (l : Launch) (Z : State) (a0 : Array Value) (hw : ∀ d ∈ tables_1, d.before a0 Z = true) (a : Addr) (t : Addr) (h0 : Heap) (n0 : Nat) (Z0 : n0 ≤ h0.size) (f0 : Fld Z h0 a "java/lang/AbstractStringBuilder" "value" "[B" (.ref t)) :
    Con l Z (⟨"java/lang/AbstractStringBuilder", "getValue", "()[B"⟩ : MethodName) jdk_68_method_64_code 1 (some (.array .byte)) ({ frames := 0, cells := 0, slots := 0, locals := 0 } : Room) #[(.ref a)] h0 n0 (fun rv hv => rv = some (.ref t) ∧ h0 = hv) := by
  refine Con.enter (plainFor_of_name own_pn4) Z0 ?_
  intro p e s m below meth c T0 C hnm X0
  refine Go.cast (own_ef_rm_gv m a) ?_
  refine Go.aloadN C X0 (pc' := 1) d29_0 rfl rfl rfl ?_
  refine Go.getF C X0 (pc' := 4) (host := "") (Or.inl (own_w hw 70 rfl)) Via.refl f0 d29_1 rfl (fun T182 X182 => ?_)
  exact Go.retAA C X182 rfl d29_4 ⟨rfl, rfl⟩ (by decide) (by decide)
theorem own_ef_rm_la (m : MethodId) (x0 : Addr) : entryFrame m #[(.ref x0)] 1 = mkF m 0 #[.val (.ref x0)] [] := by first | (simp [entryFrame, mkF, argsToLocals, Value.category]; done) | rfl
theorem d31_0 : decode jdk_68_method_6_code 0 = .ok (.aload_n 0, 1) := by decide +kernel
theorem d31_1 : decode jdk_68_method_6_code 1 = .ok (.getfield 79, 3) := by decide +kernel
theorem d31_4 : decode jdk_68_method_6_code 4 = .ok (.ireturn, 1) := by decide +kernel
set_option maxRecDepth 65536 in
set_option maxHeartbeats 40000000 in
theorem rm_la (l : Launch) (Z : State) (a0 : Array Value) (hw : ∀ d ∈ tables_1, d.before a0 Z = true) (a : Addr) (kc : Int32) (h0 : Heap) (n0 : Nat) (Z0 : n0 ≤ h0.size) (f0 : Fld Z h0 a "java/lang/AbstractStringBuilder" "count" "I" (.int kc)) :
    Con l Z (⟨"java/lang/AbstractStringBuilder", "length", "()I"⟩ : MethodName) jdk_68_method_6_code 1 (some .int) ({ frames := 0, cells := 0, slots := 0, locals := 0 } : Room) #[(.ref a)] h0 n0 (fun rv hv => rv = some (.int kc) ∧ h0 = hv) := by
  refine Con.enter (plainFor_of_name own_pn4) Z0 ?_
  intro p e s m below meth c T0 C hnm X0
  refine Go.cast (own_ef_rm_la m a) ?_
  refine Go.aloadN C X0 (pc' := 1) d31_0 rfl rfl rfl ?_
  refine Go.getF C X0 (pc' := 4) (host := "") (Or.inl (own_w hw 94 rfl)) Via.refl f0 d31_1 rfl (fun T183 X183 => ?_)
  exact Go.retI C X183 d31_4 ⟨rfl, rfl⟩ (by decide) (by decide)
theorem own_ef_rm_lb (m : MethodId) (x0 : Addr) : entryFrame m #[(.ref x0)] 1 = mkF m 0 #[.val (.ref x0)] [] := by first | (simp [entryFrame, mkF, argsToLocals, Value.category]; done) | rfl
theorem d30_0 : decode jdk_67_method_93_code 0 = .ok (.aload_n 0, 1) := by decide +kernel
theorem d30_1 : decode jdk_67_method_93_code 1 = .ok (.invokespecial 343, 3) := by decide +kernel
theorem d30_4 : decode jdk_67_method_93_code 4 = .ok (.ireturn, 1) := by decide +kernel
set_option maxRecDepth 65536 in
set_option maxHeartbeats 40000000 in
theorem rm_lb (l : Launch) (Z : State) (a0 : Array Value) (hw : ∀ d ∈ tables_1, d.before a0 Z = true) (a : Addr) (kc : Int32) (h0 : Heap) (n0 : Nat) (Z0 : n0 ≤ h0.size) (f0 : Exa Z h0 a "java/lang/StringBuilder") (f1 : Fld Z h0 a "java/lang/AbstractStringBuilder" "count" "I" (.int kc)) :
    Con l Z (⟨"java/lang/StringBuilder", "length", "()I"⟩ : MethodName) jdk_67_method_93_code 1 (some .int) ({ frames := 1, cells := 0, slots := 0, locals := 12 } : Room) #[(.ref a)] h0 n0 (fun rv hv => rv = some (.int kc) ∧ h0 = hv) := by
  refine Con.enter (plainFor_of_name own_pn5) Z0 ?_
  intro p e s m below meth c T0 C hnm X0
  refine Go.cast (own_ef_rm_lb m a) ?_
  refine Go.aloadN C X0 (pc' := 1) d30_0 rfl rfl rfl ?_
  refine Go.callU C X0 (pc' := 4) (W := 0) (argsL := []) (rest := []) (a := a) (rm_la l Z a0 hw a kc h0 n0 X0.sz f1) (Ins.self f0) (by decide) (own_w hw 169 rfl) (own_same (z := (⟨"java/lang/AbstractStringBuilder", "ensureCapacityInternal", "(I)V"⟩ : MethodName)) rfl (own_w hw 99 rfl) (own_w hw 165 rfl) (by decide)) (own_w hw 165 rfl) (own_w hw 81 rfl) (own_w hw 66 rfl) (own_w hw 170 rfl) rfl rfl (lenOf own_pd12 rfl) rfl (Nat.le_of_eq rfl) (by decide) (by decide) (by decide) (by decide) d30_1 rfl (fun _ _ q => Nat.le_of_eq (congrArg Array.size q.2)) (fun T184 h184 v184 X184 P184 => ?_)
  obtain ⟨rfl, rfl⟩ := P184
  show Go p e below _ n0 _ _ _ T184 (mkF m 4 #[.val (.ref a)] [(.int kc)])
  exact Go.retI C X184 d30_4 ⟨rfl, rfl⟩ (by decide) (by decide)
theorem own_pn7 : plainName "java/util/Arrays" = true := by first | (simp [plainName, overriddenIn]; done) | decide +kernel
theorem own_ef_rm_ck (m : MethodId) (x0 : Int32) (x1 : Int32) : entryFrame m #[(.int x0), (.int x1)] 2 = mkF m 0 #[.val (.int x0), .val (.int x1)] [] := by first | (simp [entryFrame, mkF, argsToLocals, Value.category]; done) | rfl
theorem d34_0 : decode jdk_65_method_131_code 0 = .ok (.iload_n 1, 1) := by decide +kernel
theorem d34_1 : decode jdk_65_method_131_code 1 = .ok (.iload_n 0, 1) := by decide +kernel
theorem d34_2 : decode jdk_65_method_131_code 2 = .ok (.if_icmp .ge 35, 3) := by decide +kernel
theorem d34_37 : decode jdk_65_method_131_code 37 = .ok (.return_, 1) := by decide +kernel
set_option maxRecDepth 65536 in
set_option maxHeartbeats 40000000 in
theorem rm_ck (l : Launch) (Z : State) (a0 : Array Value) (hw : ∀ d ∈ tables_1, d.before a0 Z = true) (y0 : Int32) (y1 : Int32)  (h0 : Heap) (n0 : Nat) (Z0 : n0 ≤ h0.size) (hle : ¬ y1 < y0) :
    Con l Z (⟨"java/util/Arrays", "checkLength", "(II)V"⟩ : MethodName) jdk_65_method_131_code 2 none ({ frames := 0, cells := 0, slots := 0, locals := 0 } : Room) #[(.int y0), (.int y1)] h0 n0 (fun rv hv => rv = none ∧ h0 = hv) := by
  refine Con.enter (plainFor_of_name own_pn7) Z0 ?_
  intro p e s m below meth c T0 C hnm X0
  refine Go.cast (own_ef_rm_ck m y0 y1) ?_
  refine Go.iloadN C X0 (pc' := 1) d34_0 rfl rfl ?_
  refine Go.iloadN C X0 (pc' := 2) d34_1 rfl rfl ?_
  refine Go.icmpYes C X0 (pc' := 37) d34_2 (flt hle).2.1 (by decide) (by decide) ?_
  exact Go.retV C X0 d34_37 ⟨rfl, rfl⟩ (by decide) (by decide)
theorem d35_0 : decode jdk_29_method_69_code 0 = .ok (.iload_n 0, 1) := by decide +kernel
theorem d35_1 : decode jdk_29_method_69_code 1 = .ok (.iload_n 1, 1) := by decide +kernel
theorem d35_2 : decode jdk_29_method_69_code 2 = .ok (.if_icmp .gt 7, 3) := by decide +kernel
theorem d35_9 : decode jdk_29_method_69_code 9 = .ok (.iload_n 1, 1) := by decide +kernel
theorem d35_10 : decode jdk_29_method_69_code 10 = .ok (.ireturn, 1) := by decide +kernel
theorem d35_5 : decode jdk_29_method_69_code 5 = .ok (.iload_n 0, 1) := by decide +kernel
theorem d35_6 : decode jdk_29_method_69_code 6 = .ok (.goto 4, 3) := by decide +kernel
def own_f_rm_mn (y0 : Int32) (y1 : Int32) : Int32 := (if y1 < y0 then y1 else y0)
theorem own_pn8 : plainFor (⟨"java/lang/Math", "min", "(II)I"⟩ : MethodName) = true := by decide +kernel
theorem own_ef_rm_mn (m : MethodId) (x0 : Int32) (x1 : Int32) : entryFrame m #[(.int x0), (.int x1)] 2 = mkF m 0 #[.val (.int x0), .val (.int x1)] [] := by first | (simp [entryFrame, mkF, argsToLocals, Value.category]; done) | rfl
set_option maxRecDepth 65536 in
set_option maxHeartbeats 40000000 in
theorem rm_mn (l : Launch) (Z : State) (a0 : Array Value) (hw : ∀ d ∈ tables_1, d.before a0 Z = true) (y0 : Int32) (y1 : Int32) (h0 : Heap) (n0 : Nat) (Z0 : n0 ≤ h0.size)  :
    Con l Z (⟨"java/lang/Math", "min", "(II)I"⟩ : MethodName) jdk_29_method_69_code 2 (some .int) ({ frames := 0, cells := 0, slots := 0, locals := 0 } : Room) #[(.int y0), (.int y1)] h0 n0 (fun rv hv => rv = some (.int (own_f_rm_mn y0 y1)) ∧ h0 = hv) := by
  refine Con.enter own_pn8 Z0 ?_
  intro p e s m below meth c T0 C hnm X0
  refine Go.cast (own_ef_rm_mn m y0 y1) ?_
  refine Go.iloadN C X0 (pc' := 1) d35_0 rfl rfl ?_
  refine Go.iloadN C X0 (pc' := 2) d35_1 rfl rfl ?_
  by_cases c186 : y1 < y0
  · refine Go.icmpYes C X0 (pc' := 9) d35_2 (tlt c186).2.2.1 (by decide) (by decide) ?_
    refine Go.iloadN C X0 (pc' := 10) d35_9 rfl rfl ?_
    exact Go.retI C X0 d35_10 ⟨by show some (Value.int y1) = some (Value.int (own_f_rm_mn y0 y1)); unfold own_f_rm_mn; rw [if_pos c186], rfl⟩ (by decide) (by decide)
  · refine Go.icmpNo C X0 (pc' := 5) d35_2 (flt c186).2.2.1 rfl ?_
    refine Go.iloadN C X0 (pc' := 6) d35_5 rfl rfl ?_
    refine Go.goto C X0 (pc' := 10) d35_6 (by decide) (by decide) ?_
    exact Go.retI C X0 d35_10 ⟨by show some (Value.int y0) = some (Value.int (own_f_rm_mn y0 y1)); unfold own_f_rm_mn; rw [if_neg c186], rfl⟩ (by decide) (by decide)
def own_do (i : Nat) : Int32 := (48 : Int32) + Int32.ofNat i % 10
def own_dt (i : Nat) : Int32 := (48 : Int32) + Int32.ofNat i / 10
def own_dg (v e : Nat) : Int32 := Int32.ofNat (48 + v / 10 ^ e % 10)
theorem own_dgv (v e : Nat) : (own_dg v e).toInt = ((48 + v / 10 ^ e % 10 : Nat) : Int) := by
  unfold own_dg
  have := Nat.mod_lt (v / 10 ^ e) (by decide : 0 < 10)
  rw [Int32.toInt_ofNat_of_lt (by omega)]
theorem own_dgb (v e : Nat) : own_bt (own_dg v e) := by
  unfold own_bt; rw [own_dgv]
  have := Nat.mod_lt (v / 10 ^ e) (by decide : 0 < 10)
  omega
theorem own_do0 : ∀ r, r < 100 → own_do r = Int32.ofNat (48 + r % 10) := by unfold own_do; decide +kernel
theorem own_dt0 : ∀ r, r < 100 → own_dt r = Int32.ofNat (48 + r / 10) := by unfold own_dt; decide +kernel
theorem own_pw1 (v e : Nat) : v / 10 ^ (e + 1) = v / 10 ^ e / 10 := by rw [Nat.div_div_eq_div_mul, Nat.pow_succ]
theorem own_pw2 (v e : Nat) : v / 10 ^ (e + 1 + 1) = v / 10 ^ e / 100 := by rw [own_pw1, own_pw1]; omega
theorem own_do1 (v e : Nat) : own_do (v / 10 ^ e % 100) = own_dg v e := by
  rw [own_do0 _ (Nat.mod_lt _ (by decide))]; unfold own_dg; congr 2; omega
theorem own_dt1 (v e : Nat) : own_dt (v / 10 ^ e % 100) = own_dg v (e + 1) := by
  rw [own_dt0 _ (Nat.mod_lt _ (by decide))]; unfold own_dg; rw [own_pw1]; congr 2; omega
theorem own_do2 {v e : Nat} (h : v / 10 ^ e < 100) : own_do (v / 10 ^ e) = own_dg v e := by
  have := own_do1 v e; rwa [Nat.mod_eq_of_lt h] at this
theorem own_dt2 {v e : Nat} (h : v / 10 ^ e < 100) : own_dt (v / 10 ^ e) = own_dg v (e + 1) := by
  have := own_dt1 v e; rwa [Nat.mod_eq_of_lt h] at this
def own_nn (g : Nat → Int32) (K v e : Nat) : Nat → Int32 := fun j => if K - e ≤ j ∧ j < K then own_dg v (K - 1 - j) else g j
theorem own_nn0 (g : Nat → Int32) (K v : Nat) : ∀ j, j < 16 → g j = own_nn g K v 0 j := fun j _ => by
  unfold own_nn; rw [if_neg (by omega)]
theorem own_st1 {g g1 : Nat → Int32} {K v e : Nat} (hK : e + 1 ≤ K) (h : ∀ j, j < 16 → g1 j = own_nn g K v e j) : ∀ j, j < 16 → (fun q => if q = K - (e + 1) then own_dg v e else g1 q) j = own_nn g K v (e + 1) j := fun j hj => by
  have h2 := h j hj
  unfold own_nn at h2 ⊢; dsimp only
  by_cases q : j = K - (e + 1)
  · rw [if_pos q, if_pos (by omega)]; congr 1; omega
  · rw [if_neg q, h2]
    by_cases z : K - e ≤ j ∧ j < K
    · rw [if_pos z, if_pos (by omega)]
    · rw [if_neg z, if_neg (by omega)]
def own_num (g : Nat → Int32) (K v N sg : Nat) : Nat → Int32 := fun j => if K - N - sg ≤ j ∧ j < K then (if j < K - N then 45 else own_dg v (K - 1 - j)) else g j
theorem own_lf {g g1 : Nat → Int32} {K v N sg e : Nat} (hN : N = e) (hs : sg = 0) (h : ∀ j, j < 16 → g1 j = own_nn g K v e j) : ∀ j, j < 16 → g1 j = own_num g K v N sg j := fun j hj => by
  subst hN hs
  rw [h j hj]; unfold own_nn own_num
  by_cases z : K - N ≤ j ∧ j < K
  · rw [if_pos z, if_pos (by omega), if_neg (by omega)]
  · rw [if_neg z, if_neg (by omega)]
theorem own_lfs {g g1 : Nat → Int32} {K v N sg e : Nat} (hN : N = e) (hs : sg = 1) (hK : e + 1 ≤ K) (h : ∀ j, j < 16 → g1 j = own_nn g K v e j) : ∀ j, j < 16 → (fun q => if q = K - (e + 1) then (45 : Int32) else g1 q) j = own_num g K v N sg j := fun j hj => by
  subst hN hs
  have h2 := h j hj
  unfold own_nn at h2; unfold own_num; dsimp only
  by_cases q : j = K - (N + 1)
  · rw [if_pos q, if_pos (by omega), if_pos (by omega)]
  · rw [if_neg q, h2]
    by_cases z : K - N ≤ j ∧ j < K
    · rw [if_pos z, if_pos (by omega), if_neg (by omega)]
    · rw [if_neg z, if_neg (by omega)]
def own_nd (v N : Nat) : Prop := 1 ≤ N ∧ v < 10 ^ N ∧ (N = 1 ∨ 10 ^ (N - 1) ≤ v)
theorem own_w100 {v e N : Nat} (hd : own_nd v N) (h : 100 ≤ v / 10 ^ e) : e + 3 ≤ N := by
  have h1 := (Nat.le_div_iff_mul_le (Nat.pow_pos (by decide : 0 < 10))).mp h
  have h2 : 10 ^ (e + 2) < 10 ^ N := by rw [Nat.pow_add]; have := hd.2.1; omega
  have := (Nat.pow_lt_pow_iff_right (by decide : 1 < 10)).mp h2
  omega
theorem own_w10 {v e N : Nat} (hd : own_nd v N) (h : 10 ≤ v / 10 ^ e) : e + 2 ≤ N := by
  have h1 := (Nat.le_div_iff_mul_le (Nat.pow_pos (by decide : 0 < 10))).mp h
  have h2 : 10 ^ (e + 1) < 10 ^ N := by rw [Nat.pow_add]; have := hd.2.1; omega
  have := (Nat.pow_lt_pow_iff_right (by decide : 1 < 10)).mp h2
  omega
theorem own_ndle {v e N : Nat} (hd : own_nd v N) (h : v < 10 ^ (e + 1)) : N ≤ e + 1 := by
  rcases hd.2.2 with q | q
  · omega
  · have h2 : 10 ^ (N - 1) < 10 ^ (e + 1) := Nat.lt_of_le_of_lt q h
    have := (Nat.pow_lt_pow_iff_right (by decide : 1 < 10)).mp h2
    omega
theorem own_l10 {v e N : Nat} (hd : own_nd v N) (he : e + 1 ≤ N) (h : v / 10 ^ e < 10) : N = e + 1 := by
  have h1 := (Nat.div_lt_iff_lt_mul (Nat.pow_pos (by decide : 0 < 10))).mp h
  have := own_ndle (e := e) hd (by rw [Nat.pow_succ]; omega)
  omega
theorem own_l100 {v e N : Nat} (hd : own_nd v N) (h0 : 10 ≤ v / 10 ^ e) (h : v / 10 ^ e < 100) : N = e + 1 + 1 := by
  have h1 := (Nat.div_lt_iff_lt_mul (Nat.pow_pos (by decide : 0 < 10))).mp h
  have := own_ndle (e := e + 1) hd (by rw [Nat.pow_add, Nat.pow_add]; omega)
  have := own_w10 hd h0
  omega
def own_sv (y : Int32) (v sg : Nat) : Prop := (y.toInt < 0 ∧ sg = 1 ∧ y.toInt = -(v : Int)) ∨ (0 ≤ y.toInt ∧ sg = 0 ∧ y.toInt = (v : Int))
theorem own_svs {y : Int32} {v sg : Nat} (h : own_sv y v sg) : sg ≤ 1 := by
  rcases h with h | h <;> omega
theorem own_hs0 {u : Int32} {sg : Nat} (h6 : u.toInt = (sg : Int)) (q : u = (0 : Int32)) : sg = 0 := by
  rw [q] at h6; have e : (0 : Int32).toInt = 0 := rfl
  omega
theorem own_hs1 {u y : Int32} {v sg : Nat} (h6 : u.toInt = (sg : Int)) (hv : own_sv y v sg) (q : ¬ u = (0 : Int32)) : sg = 1 := by
  have e : (0 : Int32).toInt = 0 := rfl
  have := own_svs hv
  have h : ¬ u.toInt = 0 := fun z => q (own_ieq.mpr (z.trans e.symm))
  omega
theorem own_nbt {x : Int32} (h : own_bt x) : x.toInt8.toInt32 = x := by
  have h2 := c_i2b x
  unfold own_bt at h
  rw [own_ieq]; omega
theorem own_on (v e : Nat) : (own_do (v / 10 ^ e % 100)).toInt8.toInt32 = own_dg v e := by rw [own_do1]; exact own_nbt (own_dgb v e)
theorem own_te (v e : Nat) : (own_dt (v / 10 ^ e % 100)).toInt8.toInt32 = own_dg v (e + 1) := by rw [own_dt1]; exact own_nbt (own_dgb v _)
theorem own_on2 {v e : Nat} (h : v / 10 ^ e < 100) : (own_do (v / 10 ^ e)).toInt8.toInt32 = own_dg v e := by rw [own_do2 h]; exact own_nbt (own_dgb v e)
theorem own_te2 {v e : Nat} (h : v / 10 ^ e < 100) : (own_dt (v / 10 ^ e)).toInt8.toInt32 = own_dg v (e + 1) := by rw [own_dt2 h]; exact own_nbt (own_dgb v _)
theorem own_dnk {u : Int32} {K e : Nat} (h : u.toInt = ((K - e : Nat) : Int)) (hK : e + 1 ≤ K) : (u + (-1 : Int32)).toInt = ((K - (e + 1) : Nat) : Int) := by
  have e1 : (-1 : Int32).toInt = -1 := rfl
  have := rng32 u
  rw [own_iadd (by omega) (by omega), h, e1]; omega
theorem own_qq {u : Int32} {v e : Nat} (hu : u.toInt = -((v / 10 ^ e : Nat) : Int)) : (u / (100 : Int32)).toInt = -((v / 10 ^ (e + 1 + 1) : Nat) : Int) := by
  have h := c_idiv u 100 100 rfl (by decide)
  rw [own_pw2]
  generalize v / 10 ^ e = w at hu ⊢
  by_cases q : u.toInt < 0
  · rw [h.2 q, hu]; omega
  · rw [h.1 (by omega), hu]; omega
theorem own_rr {u : Int32} {v e : Nat} (hu : u.toInt = -((v / 10 ^ e : Nat) : Int)) : (((u / (100 : Int32)) * (100 : Int32)) - u).toInt = ((v / 10 ^ e % 100 : Nat) : Int) := by
  have h := own_qq hu
  have r := rng32 u
  have e1 : (100 : Int32).toInt = 100 := rfl
  rw [own_pw2] at h
  generalize v / 10 ^ e = w at hu h ⊢
  have h2 : ((u / (100 : Int32)) * (100 : Int32)).toInt = -((w / 100 : Nat) : Int) * 100 := by rw [own_imul (by rw [h, e1]; omega) (by rw [h, e1]; omega), h, e1]
  rw [own_isub (by rw [h2]; omega) (by rw [h2]; omega), h2, hu]; omega
theorem own_ng {u : Int32} {w : Nat} (hu : u.toInt = -(w : Int)) (h : w < 100) : (-u).toInt = (w : Int) := by
  have := c_ineg u; have := rng32 (-u); omega
theorem own_c100 {u : Int32} {w : Nat} (hu : u.toInt = -(w : Int)) : (-100 : Int32) < u ↔ w < 100 := by
  have e1 : (-100 : Int32).toInt = -100 := rfl
  rw [own_ilt, e1, hu]; omega
theorem own_c9 {u : Int32} {w : Nat} (hu : u.toInt = -(w : Int)) : u < (-9 : Int32) ↔ 10 ≤ w := by
  have e1 : (-9 : Int32).toInt = -9 := rfl
  rw [own_ilt, e1, hu]; omega
theorem own_z0 : (0 : Int32).toInt = 0 := rfl
theorem own_u0n {y : Int32} {v sg : Nat} (hv : own_sv y v sg) (c : y < (0 : Int32)) : y.toInt = -((v / 10 ^ 0 : Nat) : Int) := by
  rw [Nat.pow_zero, Nat.div_one]; have := own_ilt.mp c; have := own_z0; rcases hv with h | h <;> omega
theorem own_u0p {y : Int32} {v sg : Nat} (hv : own_sv y v sg) (c : ¬ y < (0 : Int32)) : (-y).toInt = -((v / 10 ^ 0 : Nat) : Int) := by
  rw [Nat.pow_zero, Nat.div_one]; have := own_nilt c; have := own_z0; have := c_ineg y; have := rng32 (-y); have := rng32 y; rcases hv with h | h <;> omega
theorem own_s6n {y : Int32} {v sg : Nat} (hv : own_sv y v sg) (c : y < (0 : Int32)) : (1 : Int32).toInt = (sg : Int) := by
  have := own_ilt.mp c; have := own_z0; have e1 : (1 : Int32).toInt = 1 := rfl
  rcases hv with h | h <;> omega
theorem own_s6p {y : Int32} {v sg : Nat} (hv : own_sv y v sg) (c : ¬ y < (0 : Int32)) : (0 : Int32).toInt = (sg : Int) := by
  have := own_nilt c; have := own_z0; rcases hv with h | h <;> omega
theorem d36_0 : decode jdk_29_method_61_code 0 = .ok (.lload_n 0, 1) := by decide +kernel
theorem d36_1 : decode jdk_29_method_61_code 1 = .ok (.lconst 0, 1) := by decide +kernel
theorem d36_2 : decode jdk_29_method_61_code 2 = .ok (.lcmp, 1) := by decide +kernel
theorem d36_3 : decode jdk_29_method_61_code 3 = .ok (.ifCond .ge 8, 3) := by decide +kernel
theorem d36_6 : decode jdk_29_method_61_code 6 = .ok (.lload_n 0, 1) := by decide +kernel
theorem d36_7 : decode jdk_29_method_61_code 7 = .ok (.lneg, 1) := by decide +kernel
theorem d36_8 : decode jdk_29_method_61_code 8 = .ok (.goto 4, 3) := by decide +kernel
theorem d36_12 : decode jdk_29_method_61_code 12 = .ok (.lreturn, 1) := by decide +kernel
theorem d36_11 : decode jdk_29_method_61_code 11 = .ok (.lload_n 0, 1) := by decide +kernel
def own_f_rm_ab (y0 : Int64) : Int64 := (if y0 < (0 : Int64) then (-y0) else y0)
theorem own_pn9 : plainFor (⟨"java/lang/Math", "abs", "(J)J"⟩ : MethodName) = true := by decide +kernel
theorem own_ef_rm_ab (m : MethodId) (x0 : Int64) : entryFrame m #[(.long x0)] 2 = mkF m 0 #[.val (.long x0), .second] [] := by first | (simp [entryFrame, mkF, argsToLocals, Value.category]; done) | rfl
set_option maxRecDepth 65536 in
set_option maxHeartbeats 40000000 in
theorem rm_ab (l : Launch) (Z : State) (a0 : Array Value) (hw : ∀ d ∈ tables_1, d.before a0 Z = true) (y0 : Int64) (h0 : Heap) (n0 : Nat) (Z0 : n0 ≤ h0.size)  :
    Con l Z (⟨"java/lang/Math", "abs", "(J)J"⟩ : MethodName) jdk_29_method_61_code 2 (some .long) ({ frames := 0, cells := 0, slots := 0, locals := 0 } : Room) #[(.long y0)] h0 n0 (fun rv hv => rv = some (.long (own_f_rm_ab y0)) ∧ h0 = hv) := by
  refine Con.enter own_pn9 Z0 ?_
  intro p e s m below meth c T0 C hnm X0
  refine Go.cast (own_ef_rm_ab m y0) ?_
  refine Go.lloadN C X0 (pc' := 1) d36_0 rfl rfl ?_
  refine Go.lconst C X0 (pc' := 2) (v := (0 : Int64)) d36_1 rfl rfl ?_
  refine Go.lcmp C X0 (pc' := 3) d36_2 rfl ?_
  by_cases c188 : y0 < (0 : Int64)
  · refine Go.ifNo C X0 (pc' := 6) d36_3 ((if0 _ _).trans (tlt ((lw_lt _ _).mpr c188)).2.1) rfl ?_
    refine Go.lloadN C X0 (pc' := 7) d36_6 rfl rfl ?_
    refine Go.lneg C X0 (pc' := 8) d36_7 rfl ?_
    refine Go.goto C X0 (pc' := 12) d36_8 (by decide) (by decide) ?_
    exact Go.retL C X0 d36_12 ⟨by show some (Value.long (-y0)) = some (Value.long (own_f_rm_ab y0)); unfold own_f_rm_ab; rw [if_pos c188], rfl⟩ (by decide) (by decide)
  · refine Go.ifYes C X0 (pc' := 11) d36_3 ((if0 _ _).trans (flt (fun q => c188 ((lw_lt _ _).mp q))).2.1) (by decide) (by decide) ?_
    refine Go.lloadN C X0 (pc' := 12) d36_11 rfl rfl ?_
    exact Go.retL C X0 d36_12 ⟨by show some (Value.long y0) = some (Value.long (own_f_rm_ab y0)); unfold own_f_rm_ab; rw [if_neg c188], rfl⟩ (by decide) (by decide)
theorem d37_0 : decode method_3_code 0 = .ok (.lload_n 0, 1) := by decide +kernel
theorem d37_1 : decode method_3_code 1 = .ok (.ldc2_w 51, 3) := by decide +kernel
theorem d37_4 : decode method_3_code 4 = .ok (.lcmp, 1) := by decide +kernel
theorem d37_5 : decode method_3_code 5 = .ok (.ifCond .ge 5, 3) := by decide +kernel
theorem d37_8 : decode method_3_code 8 = .ok (.iconst 1, 1) := by decide +kernel
theorem d37_9 : decode method_3_code 9 = .ok (.ireturn, 1) := by decide +kernel
theorem d37_10 : decode method_3_code 10 = .ok (.lload_n 0, 1) := by decide +kernel
theorem d37_11 : decode method_3_code 11 = .ok (.ldc2_w 53, 3) := by decide +kernel
theorem d37_14 : decode method_3_code 14 = .ok (.lcmp, 1) := by decide +kernel
theorem d37_15 : decode method_3_code 15 = .ok (.ifCond .ge 5, 3) := by decide +kernel
theorem d37_18 : decode method_3_code 18 = .ok (.iconst 2, 1) := by decide +kernel
theorem d37_19 : decode method_3_code 19 = .ok (.ireturn, 1) := by decide +kernel
theorem d37_20 : decode method_3_code 20 = .ok (.lload_n 0, 1) := by decide +kernel
theorem d37_21 : decode method_3_code 21 = .ok (.ldc2_w 55, 3) := by decide +kernel
theorem d37_24 : decode method_3_code 24 = .ok (.lcmp, 1) := by decide +kernel
theorem d37_25 : decode method_3_code 25 = .ok (.ifCond .ge 5, 3) := by decide +kernel
theorem d37_28 : decode method_3_code 28 = .ok (.iconst 3, 1) := by decide +kernel
theorem d37_29 : decode method_3_code 29 = .ok (.ireturn, 1) := by decide +kernel
theorem d37_30 : decode method_3_code 30 = .ok (.lload_n 0, 1) := by decide +kernel
theorem d37_31 : decode method_3_code 31 = .ok (.ldc2_w 57, 3) := by decide +kernel
theorem d37_34 : decode method_3_code 34 = .ok (.lcmp, 1) := by decide +kernel
theorem d37_35 : decode method_3_code 35 = .ok (.ifCond .ge 5, 3) := by decide +kernel
theorem d37_38 : decode method_3_code 38 = .ok (.iconst 4, 1) := by decide +kernel
theorem d37_39 : decode method_3_code 39 = .ok (.ireturn, 1) := by decide +kernel
theorem d37_40 : decode method_3_code 40 = .ok (.lload_n 0, 1) := by decide +kernel
theorem d37_41 : decode method_3_code 41 = .ok (.ldc2_w 59, 3) := by decide +kernel
theorem d37_44 : decode method_3_code 44 = .ok (.lcmp, 1) := by decide +kernel
theorem d37_45 : decode method_3_code 45 = .ok (.ifCond .ge 5, 3) := by decide +kernel
theorem d37_48 : decode method_3_code 48 = .ok (.iconst 5, 1) := by decide +kernel
theorem d37_49 : decode method_3_code 49 = .ok (.ireturn, 1) := by decide +kernel
theorem d37_50 : decode method_3_code 50 = .ok (.lload_n 0, 1) := by decide +kernel
theorem d37_51 : decode method_3_code 51 = .ok (.ldc2_w 61, 3) := by decide +kernel
theorem d37_54 : decode method_3_code 54 = .ok (.lcmp, 1) := by decide +kernel
theorem d37_55 : decode method_3_code 55 = .ok (.ifCond .ge 6, 3) := by decide +kernel
theorem d37_58 : decode method_3_code 58 = .ok (.bipush 6, 2) := by decide +kernel
theorem d37_60 : decode method_3_code 60 = .ok (.ireturn, 1) := by decide +kernel
theorem d37_61 : decode method_3_code 61 = .ok (.lload_n 0, 1) := by decide +kernel
theorem d37_62 : decode method_3_code 62 = .ok (.ldc2_w 63, 3) := by decide +kernel
theorem d37_65 : decode method_3_code 65 = .ok (.lcmp, 1) := by decide +kernel
theorem d37_66 : decode method_3_code 66 = .ok (.ifCond .ge 6, 3) := by decide +kernel
theorem d37_69 : decode method_3_code 69 = .ok (.bipush 7, 2) := by decide +kernel
theorem d37_71 : decode method_3_code 71 = .ok (.ireturn, 1) := by decide +kernel
theorem d37_72 : decode method_3_code 72 = .ok (.lload_n 0, 1) := by decide +kernel
theorem d37_73 : decode method_3_code 73 = .ok (.ldc2_w 65, 3) := by decide +kernel
theorem d37_76 : decode method_3_code 76 = .ok (.lcmp, 1) := by decide +kernel
theorem d37_77 : decode method_3_code 77 = .ok (.ifCond .ge 6, 3) := by decide +kernel
theorem d37_80 : decode method_3_code 80 = .ok (.bipush 8, 2) := by decide +kernel
theorem d37_82 : decode method_3_code 82 = .ok (.ireturn, 1) := by decide +kernel
theorem d37_83 : decode method_3_code 83 = .ok (.lload_n 0, 1) := by decide +kernel
theorem d37_84 : decode method_3_code 84 = .ok (.ldc2_w 67, 3) := by decide +kernel
theorem d37_87 : decode method_3_code 87 = .ok (.lcmp, 1) := by decide +kernel
theorem d37_88 : decode method_3_code 88 = .ok (.ifCond .ge 6, 3) := by decide +kernel
theorem d37_91 : decode method_3_code 91 = .ok (.bipush 9, 2) := by decide +kernel
theorem d37_93 : decode method_3_code 93 = .ok (.ireturn, 1) := by decide +kernel
theorem d37_94 : decode method_3_code 94 = .ok (.bipush 10, 2) := by decide +kernel
theorem d37_96 : decode method_3_code 96 = .ok (.ireturn, 1) := by decide +kernel
def own_f_rm_dd (y0 : Int64) : Int32 := (if y0 < (10 : Int64) then (1 : Int32) else (if y0 < (100 : Int64) then (2 : Int32) else (if y0 < (1000 : Int64) then (3 : Int32) else (if y0 < (10000 : Int64) then (4 : Int32) else (if y0 < (100000 : Int64) then (5 : Int32) else (if y0 < (1000000 : Int64) then (6 : Int32) else (if y0 < (10000000 : Int64) then (7 : Int32) else (if y0 < (100000000 : Int64) then (8 : Int32) else (if y0 < (1000000000 : Int64) then (9 : Int32) else (10 : Int32))))))))))
theorem own_pn10 : plainName "com/example/wharfline/wharfline/runtime/WorkToStringPinLaw" = true := by first | (simp [plainName, overriddenIn]; done) | decide +kernel
theorem own_ef_rm_dd (m : MethodId) (x0 : Int64) : entryFrame m #[(.long x0)] 2 = mkF m 0 #[.val (.long x0), .second] [] := by first | (simp [entryFrame, mkF, argsToLocals, Value.category]; done) | rfl
set_option maxRecDepth 65536 in
set_option maxHeartbeats 40000000 in
theorem rm_dd (l : Launch) (Z : State) (a0 : Array Value) (hw : ∀ d ∈ tables_1, d.before a0 Z = true) (y0 : Int64) (h0 : Heap) (n0 : Nat) (Z0 : n0 ≤ h0.size)  :
    Con l Z (⟨"com/example/wharfline/wharfline/runtime/WorkToStringPinLaw", "digits", "(J)I"⟩ : MethodName) method_3_code 2 (some .int) ({ frames := 0, cells := 0, slots := 0, locals := 0 } : Room) #[(.long y0)] h0 n0 (fun rv hv => rv = some (.int (own_f_rm_dd y0)) ∧ h0 = hv) := by
  refine Con.enter (plainFor_of_name own_pn10) Z0 ?_
  intro p e s m below meth c T0 C hnm X0
  refine Go.cast (own_ef_rm_dd m y0) ?_
  refine Go.lloadN C X0 (pc' := 1) d37_0 rfl rfl ?_
  refine Go.ldc2 C X0 (pc' := 4) (own_w hw 194 rfl) d37_1 rfl ?_
  refine Go.lcmp C X0 (pc' := 5) d37_4 rfl ?_
  by_cases c198 : y0 < (10 : Int64)
  · refine Go.ifNo C X0 (pc' := 8) d37_5 ((if0 _ _).trans (tlt ((lw_lt _ _).mpr c198)).2.1) rfl ?_
    refine Go.iconst C X0 (pc' := 9) (v := (1 : Int32)) d37_8 rfl rfl ?_
    exact Go.retI C X0 d37_9 ⟨by show some (Value.int (1 : Int32)) = some (Value.int (own_f_rm_dd y0)); unfold own_f_rm_dd; rw [if_pos c198], rfl⟩ (by decide) (by decide)
  · refine Go.ifYes C X0 (pc' := 10) d37_5 ((if0 _ _).trans (flt (fun q => c198 ((lw_lt _ _).mp q))).2.1) (by decide) (by decide) ?_
    refine Go.lloadN C X0 (pc' := 11) d37_10 rfl rfl ?_
    refine Go.ldc2 C X0 (pc' := 14) (own_w hw 225 rfl) d37_11 rfl ?_
    refine Go.lcmp C X0 (pc' := 15) d37_14 rfl ?_
    by_cases c199 : y0 < (100 : Int64)
    · refine Go.ifNo C X0 (pc' := 18) d37_15 ((if0 _ _).trans (tlt ((lw_lt _ _).mpr c199)).2.1) rfl ?_
      refine Go.iconst C X0 (pc' := 19) (v := (2 : Int32)) d37_18 rfl rfl ?_
      exact Go.retI C X0 d37_19 ⟨by show some (Value.int (2 : Int32)) = some (Value.int (own_f_rm_dd y0)); unfold own_f_rm_dd; rw [if_neg c198, if_pos c199], rfl⟩ (by decide) (by decide)
    · refine Go.ifYes C X0 (pc' := 20) d37_15 ((if0 _ _).trans (flt (fun q => c199 ((lw_lt _ _).mp q))).2.1) (by decide) (by decide) ?_
      refine Go.lloadN C X0 (pc' := 21) d37_20 rfl rfl ?_
      refine Go.ldc2 C X0 (pc' := 24) (own_w hw 226 rfl) d37_21 rfl ?_
      refine Go.lcmp C X0 (pc' := 25) d37_24 rfl ?_
      by_cases c200 : y0 < (1000 : Int64)
      · refine Go.ifNo C X0 (pc' := 28) d37_25 ((if0 _ _).trans (tlt ((lw_lt _ _).mpr c200)).2.1) rfl ?_
        refine Go.iconst C X0 (pc' := 29) (v := (3 : Int32)) d37_28 rfl rfl ?_
        exact Go.retI C X0 d37_29 ⟨by show some (Value.int (3 : Int32)) = some (Value.int (own_f_rm_dd y0)); unfold own_f_rm_dd; rw [if_neg c198, if_neg c199, if_pos c200], rfl⟩ (by decide) (by decide)
      · refine Go.ifYes C X0 (pc' := 30) d37_25 ((if0 _ _).trans (flt (fun q => c200 ((lw_lt _ _).mp q))).2.1) (by decide) (by decide) ?_
        refine Go.lloadN C X0 (pc' := 31) d37_30 rfl rfl ?_
        refine Go.ldc2 C X0 (pc' := 34) (own_w hw 227 rfl) d37_31 rfl ?_
        refine Go.lcmp C X0 (pc' := 35) d37_34 rfl ?_
        by_cases c201 : y0 < (10000 : Int64)
        · refine Go.ifNo C X0 (pc' := 38) d37_35 ((if0 _ _).trans (tlt ((lw_lt _ _).mpr c201)).2.1) rfl ?_
          refine Go.iconst C X0 (pc' := 39) (v := (4 : Int32)) d37_38 rfl rfl ?_
          exact Go.retI C X0 d37_39 ⟨by show some (Value.int (4 : Int32)) = some (Value.int (own_f_rm_dd y0)); unfold own_f_rm_dd; rw [if_neg c198, if_neg c199, if_neg c200, if_pos c201], rfl⟩ (by decide) (by decide)
        · refine Go.ifYes C X0 (pc' := 40) d37_35 ((if0 _ _).trans (flt (fun q => c201 ((lw_lt _ _).mp q))).2.1) (by decide) (by decide) ?_
          refine Go.lloadN C X0 (pc' := 41) d37_40 rfl rfl ?_
          refine Go.ldc2 C X0 (pc' := 44) (own_w hw 228 rfl) d37_41 rfl ?_
          refine Go.lcmp C X0 (pc' := 45) d37_44 rfl ?_
          by_cases c202 : y0 < (100000 : Int64)
          · refine Go.ifNo C X0 (pc' := 48) d37_45 ((if0 _ _).trans (tlt ((lw_lt _ _).mpr c202)).2.1) rfl ?_
            refine Go.iconst C X0 (pc' := 49) (v := (5 : Int32)) d37_48 rfl rfl ?_
            exact Go.retI C X0 d37_49 ⟨by show some (Value.int (5 : Int32)) = some (Value.int (own_f_rm_dd y0)); unfold own_f_rm_dd; rw [if_neg c198, if_neg c199, if_neg c200, if_neg c201, if_pos c202], rfl⟩ (by decide) (by decide)
          · refine Go.ifYes C X0 (pc' := 50) d37_45 ((if0 _ _).trans (flt (fun q => c202 ((lw_lt _ _).mp q))).2.1) (by decide) (by decide) ?_
            refine Go.lloadN C X0 (pc' := 51) d37_50 rfl rfl ?_
            refine Go.ldc2 C X0 (pc' := 54) (own_w hw 229 rfl) d37_51 rfl ?_
            refine Go.lcmp C X0 (pc' := 55) d37_54 rfl ?_
            by_cases c203 : y0 < (1000000 : Int64)
            · refine Go.ifNo C X0 (pc' := 58) d37_55 ((if0 _ _).trans (tlt ((lw_lt _ _).mpr c203)).2.1) rfl ?_
              refine Go.bipush C X0 (pc' := 60) (v := (6 : Int32)) d37_58 rfl rfl ?_
              exact Go.retI C X0 d37_60 ⟨by show some (Value.int (6 : Int32)) = some (Value.int (own_f_rm_dd y0)); unfold own_f_rm_dd; rw [if_neg c198, if_neg c199, if_neg c200, if_neg c201, if_neg c202, if_pos c203], rfl⟩ (by decide) (by decide)
            · refine Go.ifYes C X0 (pc' := 61) d37_55 ((if0 _ _).trans (flt (fun q => c203 ((lw_lt _ _).mp q))).2.1) (by decide) (by decide) ?_
              refine Go.lloadN C X0 (pc' := 62) d37_61 rfl rfl ?_
              refine Go.ldc2 C X0 (pc' := 65) (own_w hw 230 rfl) d37_62 rfl ?_
              refine Go.lcmp C X0 (pc' := 66) d37_65 rfl ?_
              by_cases c204 : y0 < (10000000 : Int64)
              · refine Go.ifNo C X0 (pc' := 69) d37_66 ((if0 _ _).trans (tlt ((lw_lt _ _).mpr c204)).2.1) rfl ?_
                refine Go.bipush C X0 (pc' := 71) (v := (7 : Int32)) d37_69 rfl rfl ?_
                exact Go.retI C X0 d37_71 ⟨by show some (Value.int (7 : Int32)) = some (Value.int (own_f_rm_dd y0)); unfold own_f_rm_dd; rw [if_neg c198, if_neg c199, if_neg c200, if_neg c201, if_neg c202, if_neg c203, if_pos c204], rfl⟩ (by decide) (by decide)
              · refine Go.ifYes C X0 (pc' := 72) d37_66 ((if0 _ _).trans (flt (fun q => c204 ((lw_lt _ _).mp q))).2.1) (by decide) (by decide) ?_
                refine Go.lloadN C X0 (pc' := 73) d37_72 rfl rfl ?_
                refine Go.ldc2 C X0 (pc' := 76) (own_w hw 231 rfl) d37_73 rfl ?_
                refine Go.lcmp C X0 (pc' := 77) d37_76 rfl ?_
                by_cases c205 : y0 < (100000000 : Int64)
                · refine Go.ifNo C X0 (pc' := 80) d37_77 ((if0 _ _).trans (tlt ((lw_lt _ _).mpr c205)).2.1) rfl ?_
                  refine Go.bipush C X0 (pc' := 82) (v := (8 : Int32)) d37_80 rfl rfl ?_
                  exact Go.retI C X0 d37_82 ⟨by show some (Value.int (8 : Int32)) = some (Value.int (own_f_rm_dd y0)); unfold own_f_rm_dd; rw [if_neg c198, if_neg c199, if_neg c200, if_neg c201, if_neg c202, if_neg c203, if_neg c204, if_pos c205], rfl⟩ (by decide) (by decide)
                · refine Go.ifYes C X0 (pc' := 83) d37_77 ((if0 _ _).trans (flt (fun q => c205 ((lw_lt _ _).mp q))).2.1) (by decide) (by decide) ?_
                  refine Go.lloadN C X0 (pc' := 84) d37_83 rfl rfl ?_
                  refine Go.ldc2 C X0 (pc' := 87) (own_w hw 232 rfl) d37_84 rfl ?_
                  refine Go.lcmp C X0 (pc' := 88) d37_87 rfl ?_
                  by_cases c206 : y0 < (1000000000 : Int64)
                  · refine Go.ifNo C X0 (pc' := 91) d37_88 ((if0 _ _).trans (tlt ((lw_lt _ _).mpr c206)).2.1) rfl ?_
                    refine Go.bipush C X0 (pc' := 93) (v := (9 : Int32)) d37_91 rfl rfl ?_
                    exact Go.retI C X0 d37_93 ⟨by show some (Value.int (9 : Int32)) = some (Value.int (own_f_rm_dd y0)); unfold own_f_rm_dd; rw [if_neg c198, if_neg c199, if_neg c200, if_neg c201, if_neg c202, if_neg c203, if_neg c204, if_neg c205, if_pos c206], rfl⟩ (by decide) (by decide)
                  · refine Go.ifYes C X0 (pc' := 94) d37_88 ((if0 _ _).trans (flt (fun q => c206 ((lw_lt _ _).mp q))).2.1) (by decide) (by decide) ?_
                    refine Go.bipush C X0 (pc' := 96) (v := (10 : Int32)) d37_94 rfl rfl ?_
                    exact Go.retI C X0 d37_96 ⟨by show some (Value.int (10 : Int32)) = some (Value.int (own_f_rm_dd y0)); unfold own_f_rm_dd; rw [if_neg c198, if_neg c199, if_neg c200, if_neg c201, if_neg c202, if_neg c203, if_neg c204, if_neg c205, if_neg c206], rfl⟩ (by decide) (by decide)
def own_sst (z b : Int32) : Int32 := (if (-10 : Int32) < z then ((1 : Int32) + b) else (if ((10 : Int32) * (-10 : Int32)) < z then ((2 : Int32) + b) else (if ((10 : Int32) * ((10 : Int32) * (-10 : Int32))) < z then ((3 : Int32) + b) else (if ((10 : Int32) * ((10 : Int32) * ((10 : Int32) * (-10 : Int32)))) < z then ((4 : Int32) + b) else (if ((10 : Int32) * ((10 : Int32) * ((10 : Int32) * ((10 : Int32) * (-10 : Int32))))) < z then ((5 : Int32) + b) else (if ((10 : Int32) * ((10 : Int32) * ((10 : Int32) * ((10 : Int32) * ((10 : Int32) * (-10 : Int32)))))) < z then ((6 : Int32) + b) else (if ((10 : Int32) * ((10 : Int32) * ((10 : Int32) * ((10 : Int32) * ((10 : Int32) * ((10 : Int32) * (-10 : Int32))))))) < z then ((7 : Int32) + b) else (if ((10 : Int32) * ((10 : Int32) * ((10 : Int32) * ((10 : Int32) * ((10 : Int32) * ((10 : Int32) * ((10 : Int32) * (-10 : Int32)))))))) < z then ((8 : Int32) + b) else (if ((10 : Int32) * ((10 : Int32) * ((10 : Int32) * ((10 : Int32) * ((10 : Int32) * ((10 : Int32) * ((10 : Int32) * ((10 : Int32) * (-10 : Int32))))))))) < z then ((9 : Int32) + b) else ((10 : Int32) + b))))))))))
theorem own_sse (y0 : Int32) : own_f_rm_ss y0 = if y0 < (0 : Int32) then own_sst y0 1 else own_sst (-y0) 0 := rfl
theorem own_sstv {z : Int32} (b : Int32) {v : Nat} (hz : z.toInt = -(v : Int)) : ∃ N, own_nd v N ∧ N ≤ 10 ∧ own_sst z b = Int32.ofNat N + b := by
  have hr := rng32 z
  unfold own_sst own_nd
  have e1 : ((-10 : Int32)).toInt = -10 := by decide
  have e2 : (((10 : Int32) * (-10 : Int32))).toInt = -100 := by decide
  have e3 : (((10 : Int32) * ((10 : Int32) * (-10 : Int32)))).toInt = -1000 := by decide
  have e4 : (((10 : Int32) * ((10 : Int32) * ((10 : Int32) * (-10 : Int32))))).toInt = -10000 := by decide
  have e5 : (((10 : Int32) * ((10 : Int32) * ((10 : Int32) * ((10 : Int32) * (-10 : Int32)))))).toInt = -100000 := by decide
  have e6 : (((10 : Int32) * ((10 : Int32) * ((10 : Int32) * ((10 : Int32) * ((10 : Int32) * (-10 : Int32))))))).toInt = -1000000 := by decide
  have e7 : (((10 : Int32) * ((10 : Int32) * ((10 : Int32) * ((10 : Int32) * ((10 : Int32) * ((10 : Int32) * (-10 : Int32)))))))).toInt = -10000000 := by decide
  have e8 : (((10 : Int32) * ((10 : Int32) * ((10 : Int32) * ((10 : Int32) * ((10 : Int32) * ((10 : Int32) * ((10 : Int32) * (-10 : Int32))))))))).toInt = -100000000 := by decide
  have e9 : (((10 : Int32) * ((10 : Int32) * ((10 : Int32) * ((10 : Int32) * ((10 : Int32) * ((10 : Int32) * ((10 : Int32) * ((10 : Int32) * (-10 : Int32)))))))))).toInt = -1000000000 := by decide
  by_cases c1 : (-10 : Int32) < z
  · exact ⟨1, ⟨by decide, (show v < 10 by have := own_ilt.mp c1; rw [e1] at this; omega), Or.inl rfl⟩, by decide, by rw [if_pos c1]; rfl⟩
  by_cases c2 : ((10 : Int32) * (-10 : Int32)) < z
  · exact ⟨2, ⟨by decide, (show v < 100 by have := own_ilt.mp c2; rw [e2] at this; omega), Or.inr (show 10 ≤ v by have := own_nilt c1; rw [e1] at this; omega)⟩, by decide, by rw [if_neg c1, if_pos c2]; rfl⟩
  by_cases c3 : ((10 : Int32) * ((10 : Int32) * (-10 : Int32))) < z
  · exact ⟨3, ⟨by decide, (show v < 1000 by have := own_ilt.mp c3; rw [e3] at this; omega), Or.inr (show 100 ≤ v by have := own_nilt c2; rw [e2] at this; omega)⟩, by decide, by rw [if_neg c1, if_neg c2, if_pos c3]; rfl⟩
  by_cases c4 : ((10 : Int32) * ((10 : Int32) * ((10 : Int32) * (-10 : Int32)))) < z
  · exact ⟨4, ⟨by decide, (show v < 10000 by have := own_ilt.mp c4; rw [e4] at this; omega), Or.inr (show 1000 ≤ v by have := own_nilt c3; rw [e3] at this; omega)⟩, by decide, by rw [if_neg c1, if_neg c2, if_neg c3, if_pos c4]; rfl⟩
  by_cases c5 : ((10 : Int32) * ((10 : Int32) * ((10 : Int32) * ((10 : Int32) * (-10 : Int32))))) < z
  · exact ⟨5, ⟨by decide, (show v < 100000 by have := own_ilt.mp c5; rw [e5] at this; omega), Or.inr (show 10000 ≤ v by have := own_nilt c4; rw [e4] at this; omega)⟩, by decide, by rw [if_neg c1, if_neg c2, if_neg c3, if_neg c4, if_pos c5]; rfl⟩
  by_cases c6 : ((10 : Int32) * ((10 : Int32) * ((10 : Int32) * ((10 : Int32) * ((10 : Int32) * (-10 : Int32)))))) < z
  · exact ⟨6, ⟨by decide, (show v < 1000000 by have := own_ilt.mp c6; rw [e6] at this; omega), Or.inr (show 100000 ≤ v by have := own_nilt c5; rw [e5] at this; omega)⟩, by decide, by rw [if_neg c1, if_neg c2, if_neg c3, if_neg c4, if_neg c5, if_pos c6]; rfl⟩
  by_cases c7 : ((10 : Int32) * ((10 : Int32) * ((10 : Int32) * ((10 : Int32) * ((10 : Int32) * ((10 : Int32) * (-10 : Int32))))))) < z
  · exact ⟨7, ⟨by decide, (show v < 10000000 by have := own_ilt.mp c7; rw [e7] at this; omega), Or.inr (show 1000000 ≤ v by have := own_nilt c6; rw [e6] at this; omega)⟩, by decide, by rw [if_neg c1, if_neg c2, if_neg c3, if_neg c4, if_neg c5, if_neg c6, if_pos c7]; rfl⟩
  by_cases c8 : ((10 : Int32) * ((10 : Int32) * ((10 : Int32) * ((10 : Int32) * ((10 : Int32) * ((10 : Int32) * ((10 : Int32) * (-10 : Int32)))))))) < z
  · exact ⟨8, ⟨by decide, (show v < 100000000 by have := own_ilt.mp c8; rw [e8] at this; omega), Or.inr (show 10000000 ≤ v by have := own_nilt c7; rw [e7] at this; omega)⟩, by decide, by rw [if_neg c1, if_neg c2, if_neg c3, if_neg c4, if_neg c5, if_neg c6, if_neg c7, if_pos c8]; rfl⟩
  by_cases c9 : ((10 : Int32) * ((10 : Int32) * ((10 : Int32) * ((10 : Int32) * ((10 : Int32) * ((10 : Int32) * ((10 : Int32) * ((10 : Int32) * (-10 : Int32))))))))) < z
  · exact ⟨9, ⟨by decide, (show v < 1000000000 by have := own_ilt.mp c9; rw [e9] at this; omega), Or.inr (show 100000000 ≤ v by have := own_nilt c8; rw [e8] at this; omega)⟩, by decide, by rw [if_neg c1, if_neg c2, if_neg c3, if_neg c4, if_neg c5, if_neg c6, if_neg c7, if_neg c8, if_pos c9]; rfl⟩
  exact ⟨10, ⟨by decide, (show v < 10000000000 by omega), Or.inr (show 1000000000 ≤ v by have := own_nilt c9; rw [e9] at this; omega)⟩, by decide, by rw [if_neg c1, if_neg c2, if_neg c3, if_neg c4, if_neg c5, if_neg c6, if_neg c7, if_neg c8, if_neg c9]; rfl⟩
theorem own_ddv {w : Int64} {v N : Nat} (hw : w.toInt = (v : Int)) (hd : own_nd v N) (hN : N ≤ 10) : (own_f_rm_dd w).toInt = (N : Int) := by
  have hN1 := hd.1
  have e1 : (10 : Int64).toInt = 10 := rfl
  have e2 : (100 : Int64).toInt = 100 := rfl
  have e3 : (1000 : Int64).toInt = 1000 := rfl
  have e4 : (10000 : Int64).toInt = 10000 := rfl
  have e5 : (100000 : Int64).toInt = 100000 := rfl
  have e6 : (1000000 : Int64).toInt = 1000000 := rfl
  have e7 : (10000000 : Int64).toInt = 10000000 := rfl
  have e8 : (100000000 : Int64).toInt = 100000000 := rfl
  have e9 : (1000000000 : Int64).toInt = 1000000000 := rfl
  rcases (by omega : N = 1 ∨ N = 2 ∨ N = 3 ∨ N = 4 ∨ N = 5 ∨ N = 6 ∨ N = 7 ∨ N = 8 ∨ N = 9 ∨ N = 10) with q | q | q | q | q | q | q | q | q | q <;> subst q
  · have a : v < 10 := hd.2.1; unfold own_f_rm_dd; rw [if_pos (own_jlt.mpr (by rw [hw, e1]; omega))]; rfl
  · have a : v < 100 := hd.2.1; have b : 10 ≤ v := hd.2.2.elim (fun q => by omega) (fun q => q); unfold own_f_rm_dd; rw [if_neg (fun c => by have := own_jlt.mp c; rw [hw, e1] at this; omega), if_pos (own_jlt.mpr (by rw [hw, e2]; omega))]; rfl
  · have a : v < 1000 := hd.2.1; have b : 100 ≤ v := hd.2.2.elim (fun q => by omega) (fun q => q); unfold own_f_rm_dd; rw [if_neg (fun c => by have := own_jlt.mp c; rw [hw, e1] at this; omega), if_neg (fun c => by have := own_jlt.mp c; rw [hw, e2] at this; omega), if_pos (own_jlt.mpr (by rw [hw, e3]; omega))]; rfl
  · have a : v < 10000 := hd.2.1; have b : 1000 ≤ v := hd.2.2.elim (fun q => by omega) (fun q => q); unfold own_f_rm_dd; rw [if_neg (fun c => by have := own_jlt.mp c; rw [hw, e1] at this; omega), if_neg (fun c => by have := own_jlt.mp c; rw [hw, e2] at this; omega), if_neg (fun c => by have := own_jlt.mp c; rw [hw, e3] at this; omega), if_pos (own_jlt.mpr (by rw [hw, e4]; omega))]; rfl
  · have a : v < 100000 := hd.2.1; have b : 10000 ≤ v := hd.2.2.elim (fun q => by omega) (fun q => q); unfold own_f_rm_dd; rw [if_neg (fun c => by have := own_jlt.mp c; rw [hw, e1] at this; omega), if_neg (fun c => by have := own_jlt.mp c; rw [hw, e2] at this; omega), if_neg (fun c => by have := own_jlt.mp c; rw [hw, e3] at this; omega), if_neg (fun c => by have := own_jlt.mp c; rw [hw, e4] at this; omega), if_pos (own_jlt.mpr (by rw [hw, e5]; omega))]; rfl
  · have a : v < 1000000 := hd.2.1; have b : 100000 ≤ v := hd.2.2.elim (fun q => by omega) (fun q => q); unfold own_f_rm_dd; rw [if_neg (fun c => by have := own_jlt.mp c; rw [hw, e1] at this; omega), if_neg (fun c => by have := own_jlt.mp c; rw [hw, e2] at this; omega), if_neg (fun c => by have := own_jlt.mp c; rw [hw, e3] at this; omega), if_neg (fun c => by have := own_jlt.mp c; rw [hw, e4] at this; omega), if_neg (fun c => by have := own_jlt.mp c; rw [hw, e5] at this; omega), if_pos (own_jlt.mpr (by rw [hw, e6]; omega))]; rfl
  · have a : v < 10000000 := hd.2.1; have b : 1000000 ≤ v := hd.2.2.elim (fun q => by omega) (fun q => q); unfold own_f_rm_dd; rw [if_neg (fun c => by have := own_jlt.mp c; rw [hw, e1] at this; omega), if_neg (fun c => by have := own_jlt.mp c; rw [hw, e2] at this; omega), if_neg (fun c => by have := own_jlt.mp c; rw [hw, e3] at this; omega), if_neg (fun c => by have := own_jlt.mp c; rw [hw, e4] at this; omega), if_neg (fun c => by have := own_jlt.mp c; rw [hw, e5] at this; omega), if_neg (fun c => by have := own_jlt.mp c; rw [hw, e6] at this; omega), if_pos (own_jlt.mpr (by rw [hw, e7]; omega))]; rfl
  · have a : v < 100000000 := hd.2.1; have b : 10000000 ≤ v := hd.2.2.elim (fun q => by omega) (fun q => q); unfold own_f_rm_dd; rw [if_neg (fun c => by have := own_jlt.mp c; rw [hw, e1] at this; omega), if_neg (fun c => by have := own_jlt.mp c; rw [hw, e2] at this; omega), if_neg (fun c => by have := own_jlt.mp c; rw [hw, e3] at this; omega), if_neg (fun c => by have := own_jlt.mp c; rw [hw, e4] at this; omega), if_neg (fun c => by have := own_jlt.mp c; rw [hw, e5] at this; omega), if_neg (fun c => by have := own_jlt.mp c; rw [hw, e6] at this; omega), if_neg (fun c => by have := own_jlt.mp c; rw [hw, e7] at this; omega), if_pos (own_jlt.mpr (by rw [hw, e8]; omega))]; rfl
  · have a : v < 1000000000 := hd.2.1; have b : 100000000 ≤ v := hd.2.2.elim (fun q => by omega) (fun q => q); unfold own_f_rm_dd; rw [if_neg (fun c => by have := own_jlt.mp c; rw [hw, e1] at this; omega), if_neg (fun c => by have := own_jlt.mp c; rw [hw, e2] at this; omega), if_neg (fun c => by have := own_jlt.mp c; rw [hw, e3] at this; omega), if_neg (fun c => by have := own_jlt.mp c; rw [hw, e4] at this; omega), if_neg (fun c => by have := own_jlt.mp c; rw [hw, e5] at this; omega), if_neg (fun c => by have := own_jlt.mp c; rw [hw, e6] at this; omega), if_neg (fun c => by have := own_jlt.mp c; rw [hw, e7] at this; omega), if_neg (fun c => by have := own_jlt.mp c; rw [hw, e8] at this; omega), if_pos (own_jlt.mpr (by rw [hw, e9]; omega))]; rfl
  · have a : v < 10000000000 := hd.2.1; have b : 1000000000 ≤ v := hd.2.2.elim (fun q => by omega) (fun q => q); unfold own_f_rm_dd; rw [if_neg (fun c => by have := own_jlt.mp c; rw [hw, e1] at this; omega), if_neg (fun c => by have := own_jlt.mp c; rw [hw, e2] at this; omega), if_neg (fun c => by have := own_jlt.mp c; rw [hw, e3] at this; omega), if_neg (fun c => by have := own_jlt.mp c; rw [hw, e4] at this; omega), if_neg (fun c => by have := own_jlt.mp c; rw [hw, e5] at this; omega), if_neg (fun c => by have := own_jlt.mp c; rw [hw, e6] at this; omega), if_neg (fun c => by have := own_jlt.mp c; rw [hw, e7] at this; omega), if_neg (fun c => by have := own_jlt.mp c; rw [hw, e8] at this; omega), if_neg (fun c => by have := own_jlt.mp c; rw [hw, e9] at this; omega)]; rfl
theorem own_abv {y : Int32} {v sg : Nat} (hv : own_sv y v sg) : (own_f_rm_ab y.toInt64).toInt = (v : Int) := by
  have h := c_i2l y; have hr := rng32 y; have e0 : (0 : Int64).toInt = 0 := rfl
  unfold own_f_rm_ab
  by_cases c : y.toInt64 < (0 : Int64)
  · rw [if_pos c]
    have := own_jlt.mp c; have := c_lneg y.toInt64; have := rng64 (-y.toInt64)
    rcases hv with q | q <;> omega
  · rw [if_neg c]
    have := own_njlt c
    rcases hv with q | q <;> omega
theorem own_all (y : Int32) : ∃ v N sg, own_sv y v sg ∧ own_nd v N ∧ N ≤ 10 ∧ (own_f_rm_ss y).toInt = ((N + sg : Nat) : Int) ∧ (own_f_rm_ab y.toInt64).toInt = (v : Int) ∧ (own_f_rm_dd (own_f_rm_ab y.toInt64)).toInt = (N : Int) := by
  have hr := rng32 y; have z0 : (0 : Int32).toInt = 0 := rfl; have z1 : (1 : Int32).toInt = 1 := rfl
  by_cases c : y < (0 : Int32)
  · have q := own_ilt.mp c
    have hv : own_sv y (-y.toInt).toNat 1 := Or.inl ⟨by omega, rfl, by omega⟩
    obtain ⟨N, hd, hN, es⟩ := own_sstv (z := y) 1 (v := (-y.toInt).toNat) (by omega)
    have e1 : (Int32.ofNat N).toInt = (N : Int) := Int32.toInt_ofNat_of_lt (by omega)
    exact ⟨_, N, 1, hv, hd, hN, by rw [own_sse, if_pos c, es, own_iadd (by omega) (by omega), e1, z1]; rfl, own_abv hv, own_ddv (own_abv hv) hd hN⟩
  · have q := own_nilt c
    have hv : own_sv y y.toInt.toNat 0 := Or.inr ⟨by omega, rfl, by omega⟩
    obtain ⟨N, hd, hN, es⟩ := own_sstv (z := -y) 0 (v := y.toInt.toNat) (by have := c_ineg y; have := rng32 (-y); omega)
    have e1 : (Int32.ofNat N).toInt = (N : Int) := Int32.toInt_ofNat_of_lt (by omega)
    exact ⟨_, N, 0, hv, hd, hN, by rw [own_sse, if_neg c, es, own_iadd (by omega) (by omega), e1, z0]; rfl, own_abv hv, own_ddv (own_abv hv) hd hN⟩
theorem own_c845 : own_c8 (45 : Int32) = 45 := by decide
theorem own_c8g (v e : Nat) : own_c8 (own_dg v e) = own_dg v e := by
  have h := own_dgv v e; have h2 := own_c8v (own_dg v e)
  have := Nat.mod_lt (v / 10 ^ e) (by decide : 0 < 10)
  rw [own_ieq, h2]; omega
def own_sx (f : Nat → Int32) (cl sg N v : Nat) (j : Nat) : Int32 := if j < cl then own_c8 (f j) else if j = cl then 45 else if sg = 1 ∧ j = cl + 1 then 45 else own_dg v (N - 1 - (j - cl - 1 - sg))
def own_fs (f : Nat → Int32) (n v N sg : Nat) : Nat → Int32 := own_num (own_put (own_put (fun _ => 0) 0 n f) n 1 (fun _ => 45)) (n + 1 + (N + sg)) v N sg
theorem own_key {f : Nat → Int32} {n v N sg : Nat} (hs : sg ≤ 1) (hN : 1 ≤ N) : ∀ j, j < n + 1 + (N + sg) → own_c8 (own_fs f n v N sg j) = own_sx f n sg N v j := fun j hj => by
  unfold own_fs own_num own_sx own_put
  by_cases c1 : j < n
  · rw [if_pos c1, if_neg (by omega), if_neg (by omega), if_pos (by omega)]; rfl
  · rw [if_neg c1]
    by_cases c2 : j = n
    · rw [if_pos c2, if_neg (by omega), if_pos (by omega)]; exact own_c845
    · rw [if_neg c2, if_pos (by omega)]
      by_cases c3 : sg = 1 ∧ j = n + 1
      · rw [if_pos c3, if_pos (by omega)]; exact own_c845
      · rw [if_neg c3, if_neg (by omega), own_c8g]; congr 1; omega
theorem own_putb {g f : Nat → Int32} {k n : Nat} (hg : ∀ q, own_bt (g q)) (hf : ∀ q, own_bt (f q)) : ∀ q, own_bt (own_put g k n f q) := fun q => by
  unfold own_put
  by_cases c : k ≤ q ∧ q < k + n
  · rw [if_pos c]; exact hf _
  · rw [if_neg c]; exact hg _
theorem own_b45 : own_bt (45 : Int32) := by unfold own_bt; decide
theorem own_numb {g : Nat → Int32} {K v N sg : Nat} (hg : ∀ q, own_bt (g q)) : ∀ q, own_bt (own_num g K v N sg q) := fun q => by
  unfold own_num
  by_cases c : K - N - sg ≤ q ∧ q < K
  · rw [if_pos c]
    by_cases c2 : q < K - N
    · rw [if_pos c2]; exact own_b45
    · rw [if_neg c2]; exact own_dgb _ _
  · rw [if_neg c]; exact hg _
def own_p10 (k : Nat) : Int64 := Int64.ofNat (10 ^ k)
theorem own_p10v : ∀ k, k < 10 → (own_p10 k).toInt = ((10 ^ k : Nat) : Int) := by unfold own_p10; decide +kernel
theorem own_p10n : ∀ k, k < 10 → own_p10 k ≠ 0 := by unfold own_p10; decide +kernel
theorem own_p10m : ∀ k, k < 10 → own_p10 k ≠ -1 := by unfold own_p10; decide +kernel
theorem own_pt : ∀ k, k < 10 → (fun q => if q = 9 then (1000000000 : Int64) else (fun q => if q = 8 then (100000000 : Int64) else (fun q => if q = 7 then (10000000 : Int64) else (fun q => if q = 6 then (1000000 : Int64) else (fun q => if q = 5 then (100000 : Int64) else (fun q => if q = 4 then (10000 : Int64) else (fun q => if q = 3 then (1000 : Int64) else (fun q => if q = 2 then (100 : Int64) else (fun q => if q = 1 then (10 : Int64) else (fun q => if q = 0 then (1 : Int64) else (fun _ => 0) q) q) q) q) q) q) q) q) q) q) k = own_p10 k := by unfold own_p10; decide +kernel
theorem own_exd {w : Int64} {v k : Nat} (hw : w.toInt = (v : Int)) (hk : k < 10) : (((48 : Int32) + ((w / own_p10 k) % (10 : Int64)).toInt32).toUInt32.toUInt16.toUInt32.toInt32).toUInt32.toUInt16.toUInt32.toInt32 = own_dg v k := by
  have h1 := (c_ldiv w (own_p10 k) _ (own_p10v k hk) (own_p10m k hk)).1 (by omega)
  rw [hw, ← Int.natCast_ediv] at h1
  generalize hq : v / 10 ^ k = qq at h1
  have h2 := (c_lrem (w / own_p10 k) 10 10 rfl).1 (by omega)
  rw [lrem_mod, h1] at h2
  have h3 := c_l2i ((w / own_p10 k) % (10 : Int64))
  have h4 := rng32 (((w / own_p10 k) % (10 : Int64)).toInt32)
  have e48 : (48 : Int32).toInt = 48 := rfl
  have h5 : ((48 : Int32) + ((w / own_p10 k) % (10 : Int64)).toInt32).toInt = ((48 + qq % 10 : Nat) : Int) := by rw [own_iadd (by omega) (by omega), e48]; omega
  have h6 := own_dgv v k
  rw [hq] at h6
  have h7 := c_i2c ((48 : Int32) + ((w / own_p10 k) % (10 : Int64)).toInt32)
  have h8 := c_i2c (((48 : Int32) + ((w / own_p10 k) % (10 : Int64)).toInt32).toUInt32.toUInt16.toUInt32.toInt32)
  rw [own_ieq]; omega
theorem own_jn {k z : Int32} {d n : Nat} (hk : k.toInt = (d : Int)) (hz : z.toInt = (n : Int)) : k < z ↔ d < n := by
  rw [own_ilt, hk, hz]; omega
theorem own_je {k z : Int32} {d n : Nat} (hk : k.toInt = (d : Int)) (hz : z.toInt = (n : Int)) : k = z ↔ d = n := by
  rw [own_ieq, hk, hz]; omega
theorem own_e7 {x y : Int32} {i n : Nat} (hx : x.toInt = (i : Int)) (hy : y.toInt = (n : Int)) (hi : i < 100) (h : n < i) : ((x - y) - (1 : Int32)).toInt = ((i - n - 1 : Nat) : Int) := by
  have e1 : (1 : Int32).toInt = 1 := rfl
  have h1 : (x - y).toInt = (i : Int) - (n : Int) := by rw [own_isub (by omega) (by omega), hx, hy]
  rw [own_isub (by omega) (by omega), h1, e1]; omega
theorem own_e9 {u a b : Int32} {d sg N : Nat} (hu : u.toInt = (d : Int)) (ha : a.toInt = (N : Int)) (hb : b.toInt = (sg : Int)) (h1 : sg ≤ d) (h2 : d - sg < N) (h3 : N ≤ 10) (h4 : d < 100) : ((a - (1 : Int32)) - (u - b)).toInt = ((N - 1 - (d - sg) : Nat) : Int) := by
  have e1 : (1 : Int32).toInt = 1 := rfl
  have q1 : (a - (1 : Int32)).toInt = (N : Int) - 1 := by rw [own_isub (by omega) (by omega), ha, e1]
  have q2 : (u - b).toInt = (d : Int) - (sg : Int) := by rw [own_isub (by omega) (by omega), hu, hb]
  rw [own_isub (by omega) (by omega), q1, q2]; omega
theorem own_x1 {f : Nat → Int32} {n sg N v i : Nat} (h : i < n) : own_c8 (f i) = own_sx f n sg N v i := by unfold own_sx; rw [if_pos h]
theorem own_x2 {f : Nat → Int32} {n sg N v i : Nat} (h : i = n) : (45 : Int32) = own_sx f n sg N v i := by unfold own_sx; rw [if_neg (by omega), if_pos h]
theorem own_x3 {f : Nat → Int32} {n sg N v i : Nat} (h : sg = 1 ∧ i = n + 1) : (45 : Int32) = own_sx f n sg N v i := by unfold own_sx; rw [if_neg (by omega), if_neg (by omega), if_pos h]
theorem own_x4 {f : Nat → Int32} {n sg N v i : Nat} (h : n < i) (h2 : ¬ (sg = 1 ∧ i = n + 1)) : own_dg v (N - 1 - (i - n - 1 - sg)) = own_sx f n sg N v i := by unfold own_sx; rw [if_neg (by omega), if_neg (by omega), if_neg h2]
theorem own_cpy {g : Nat → Int32} {n : Nat} : ∀ i, i < n → (fun j => if 0 ≤ j ∧ j < 0 + n then g (0 + (j - 0)) else (fun _ => (0 : Int32)) j) i = g i := fun i hi => by
  dsimp only; rw [if_pos (by omega)]; congr 1; omega
theorem own_sub0 {x : Int32} {n : Nat} (h : x.toInt = (n : Int)) : (x - (0 : Int32)).toInt = (n : Int) := by rw [Int32.sub_zero]; exact h
theorem own_mnv {x : Int32} {n : Nat} (h : x.toInt = (n : Int)) (hn : n ≤ 14) : (own_f_rm_mn ((16 : Int32) - (0 : Int32)) (x - (0 : Int32))).toInt = (n : Int) := by
  have e : ((16 : Int32) - (0 : Int32)).toInt = 16 := by decide
  unfold own_f_rm_mn
  rw [if_pos (own_ilt.mpr (by rw [own_sub0 h, e]; omega))]; exact own_sub0 h
def own_b1 (y : Int32) : Nat → Int32 := fun q => if q = 0 then y.toInt8.toInt32 else 0
theorem own_b1b (y : Int32) : ∀ q, own_bt (own_b1 y q) := fun q => by
  unfold own_b1
  by_cases c : q = 0
  · rw [if_pos c]; exact own_i2b y
  · rw [if_neg c]; unfold own_bt; decide
theorem own_n255 (x : Int32) : ¬ (255 : Int32) < own_c8 x := fun q => by
  have := own_ilt.mp q; have := own_c8r x; have e : (255 : Int32).toInt = 255 := rfl
  omega
theorem own_m3 (x : Int32) : (x &&& (3 : Int32)) % (3 : Int32) = 0 ∨ (x &&& (3 : Int32)) % (3 : Int32) = 1 ∨ (x &&& (3 : Int32)) % (3 : Int32) = 2 := by
  rcases own_and3 x with q | q | q | q <;> rw [q] <;> decide
theorem own_ef_rm_cb (m : MethodId) (x0 : Addr) (x1 : Int32) (x2 : Int32) : entryFrame m #[(.ref x0), (.int x1), (.int x2)] 5 = mkF m 0 #[.val (.ref x0), .val (.int x1), .val (.int x2), .unset, .unset] [] := by first | (simp [entryFrame, mkF, argsToLocals, Value.category]; done) | rfl
theorem d33_0 : decode jdk_65_method_133_code 0 = .ok (.iload_n 1, 1) := by decide +kernel
theorem d33_1 : decode jdk_65_method_133_code 1 = .ok (.iload_n 2, 1) := by decide +kernel
theorem d33_2 : decode jdk_65_method_133_code 2 = .ok (.invokestatic 343, 3) := by decide +kernel
theorem d33_5 : decode jdk_65_method_133_code 5 = .ok (.iload_n 2, 1) := by decide +kernel
theorem d33_6 : decode jdk_65_method_133_code 6 = .ok (.iload_n 1, 1) := by decide +kernel
theorem d33_7 : decode jdk_65_method_133_code 7 = .ok (.isub, 1) := by decide +kernel
theorem d33_8 : decode jdk_65_method_133_code 8 = .ok (.istore_n 3, 1) := by decide +kernel
theorem d33_9 : decode jdk_65_method_133_code 9 = .ok (.iload_n 3, 1) := by decide +kernel
theorem d33_10 : decode jdk_65_method_133_code 10 = .ok (.newarray .byte, 2) := by decide +kernel
theorem d33_12 : decode jdk_65_method_133_code 12 = .ok (.astore 4, 2) := by decide +kernel
theorem d33_14 : decode jdk_65_method_133_code 14 = .ok (.aload_n 0, 1) := by decide +kernel
theorem d33_15 : decode jdk_65_method_133_code 15 = .ok (.iload_n 1, 1) := by decide +kernel
theorem d33_16 : decode jdk_65_method_133_code 16 = .ok (.aload 4, 2) := by decide +kernel
theorem d33_18 : decode jdk_65_method_133_code 18 = .ok (.iconst 0, 1) := by decide +kernel
theorem d33_19 : decode jdk_65_method_133_code 19 = .ok (.aload_n 0, 1) := by decide +kernel
theorem d33_20 : decode jdk_65_method_133_code 20 = .ok (.arraylength, 1) := by decide +kernel
theorem d33_21 : decode jdk_65_method_133_code 21 = .ok (.iload_n 1, 1) := by decide +kernel
theorem d33_22 : decode jdk_65_method_133_code 22 = .ok (.isub, 1) := by decide +kernel
theorem d33_23 : decode jdk_65_method_133_code 23 = .ok (.iload_n 3, 1) := by decide +kernel
theorem d33_24 : decode jdk_65_method_133_code 24 = .ok (.invokestatic 304, 3) := by decide +kernel
theorem own_pd15 : parseMethodDescriptor "(II)I" = some ⟨[.int, .int], some .int⟩ := by decide +kernel
theorem d33_27 : decode jdk_65_method_133_code 27 = .ok (.invokestatic 150, 3) := by decide +kernel
theorem d33_30 : decode jdk_65_method_133_code 30 = .ok (.aload 4, 2) := by decide +kernel
theorem d33_32 : decode jdk_65_method_133_code 32 = .ok (.areturn, 1) := by decide +kernel
set_option maxRecDepth 65536 in
set_option maxHeartbeats 40000000 in
theorem rm_cb (l : Launch) (Z : State) (a0 : Array Value) (hw : ∀ d ∈ tables_1, d.before a0 Z = true) (b : Addr) (o1 : Int32) (ln : Int32) (n : Nat) (g : Nat → Int32) (h0 : Heap) (n0 : Nat) (Z0 : n0 ≤ h0.size) (f0 : AI Z h0 b .byte 16 g) (ho : o1 = (0 : Int32)) (hl : ln.toInt = (n : Int)) (hn : n ≤ 14) (hbt : ∀ q, own_bt (g q)) :
    Con l Z (⟨"java/util/Arrays", "copyOfRangeByte", "([BII)[B"⟩ : MethodName) jdk_65_method_133_code 5 (some (.array .byte)) ({ frames := 1, cells := 1, slots := 14, locals := 40 } : Room) #[(.ref b), (.int o1), (.int ln)] h0 n0 (fun rv hv => ∃ t : Addr, rv = some (.ref t) ∧ h0.size ≤ t ∧ Keep h0 hv [] ∧ AI Z hv t .byte n g) := by
  refine Con.enter (plainFor_of_name own_pn7) Z0 ?_
  intro p e s m below meth c T0 C hnm X0
  refine Go.cast (own_ef_rm_cb m b o1 ln) ?_
  rw [ho]
  refine Go.iloadN C X0 (pc' := 1) d33_0 rfl rfl ?_
  refine Go.iloadN C X0 (pc' := 2) d33_1 rfl rfl ?_
  refine Go.callS C X0 (pc' := 5) (W := 0) (argsL := [(.int (0 : Int32)), (.int ln)]) (rest := []) (rm_ck l Z a0 hw (0 : Int32) ln  h0 n0 X0.sz (fun q => by have := own_ilt.mp q; have := own_z0; omega)) (own_w hw 179 rfl) (own_w hw 180 rfl) (own_w hw 174 rfl) (own_w hw 181 rfl) (by decide) rfl rfl (lenOf own_pd2 rfl) rfl (Nat.le_of_eq rfl) (by decide) (by decide) (by decide) (by decide) d33_2 rfl (fun _ _ q => Nat.le_of_eq (congrArg Array.size q.2)) (fun T207 h207 v207 X207 P207 => ?_)
  obtain ⟨rfl, rfl⟩ := P207
  show Go p e below _ n0 _ _ _ T207 (mkF m 5 #[.val (.ref b), .val (.int (0 : Int32)), .val (.int ln), .unset, .unset] [])
  refine Go.iloadN C X207 (pc' := 6) d33_5 rfl rfl ?_
  refine Go.iloadN C X207 (pc' := 7) d33_6 rfl rfl ?_
  refine Go.isub C X207 (pc' := 8) d33_7 rfl ?_
  refine Go.istoreN C X207 (pc' := 9) (Ls' := #[.val (.ref b), .val (.int (0 : Int32)), .val (.int ln), .val (.int (ln - (0 : Int32))), .unset]) d33_8 rfl rfl ?_
  refine Go.iloadN C X207 (pc' := 10) d33_9 rfl rfl ?_
  refine Go.newP C X207 (pc' := 12) (nn := n) (cap := 14) (own_w hw 19 rfl) d33_10 (own_sub0 hl) hn (by decide) (by decide) (by decide) rfl (fun T208 h208 b208 k208 X208 g208 E208 Ar208 N208 => ?_)
  have ne_b_b208 : b ≠ b208 := Nat.ne_of_lt (Nat.lt_of_lt_of_eq f0.lt g208.symm)
  have Q208 : h0.size ≤ b208 := Nat.le_trans (Keep.refl h0 []).1 (Nat.le_of_eq g208.symm)
  have K209 : Keep h0 h208 [] := (Keep.refl h0 []).ext E208
  have A210 := f0.ext E208
  have A208 : AI Z h208 b208 .byte n (fun _ => 0) := AI.new (own_sub0 hl) rfl Ar208
  refine Go.astore C X208 (pc' := 14) (Ls' := #[.val (.ref b), .val (.int (0 : Int32)), .val (.int ln), .val (.int (ln - (0 : Int32))), .val (.ref b208)]) d33_12 rfl rfl rfl ?_
  refine Go.aloadN C X208 (pc' := 15) d33_14 rfl rfl rfl ?_
  refine Go.iloadN C X208 (pc' := 16) d33_15 rfl rfl ?_
  refine Go.aload C X208 (pc' := 18) d33_16 rfl rfl rfl ?_
  refine Go.iconst C X208 (pc' := 19) (v := (0 : Int32)) d33_18 rfl rfl ?_
  refine Go.aloadN C X208 (pc' := 20) d33_19 rfl rfl rfl ?_
  refine Go.alenI C X208 (pc' := 21) (z := (16 : Int32)) A210 rfl d33_20 rfl ?_
  refine Go.iloadN C X208 (pc' := 22) d33_21 rfl rfl ?_
  refine Go.isub C X208 (pc' := 23) d33_22 rfl ?_
  refine Go.iloadN C X208 (pc' := 24) d33_23 rfl rfl ?_
  refine Go.callS C X208 (pc' := 27) (W := 4) (argsL := [(.int ((16 : Int32) - (0 : Int32))), (.int (ln - (0 : Int32)))]) (rest := [(.int (0 : Int32)), (.ref b208), (.int (0 : Int32)), (.ref b)]) (rm_mn l Z a0 hw ((16 : Int32) - (0 : Int32)) (ln - (0 : Int32)) h208 n0 X208.sz ) (own_w hw 182 rfl) (own_w hw 183 rfl) (own_w hw 184 rfl) (own_w hw 185 rfl) (by decide) rfl rfl (lenOf own_pd15 rfl) rfl (Nat.le_of_eq rfl) (by decide) (by decide) (by decide) (by decide) d33_24 rfl (fun _ _ q => Nat.le_of_eq (congrArg Array.size q.2)) (fun T211 h211 v211 X211 P211 => ?_)
  obtain ⟨rfl, rfl⟩ := P211
  show Go p e below _ n0 _ _ _ T211 (mkF m 27 #[.val (.ref b), .val (.int (0 : Int32)), .val (.int ln), .val (.int (ln - (0 : Int32))), .val (.ref b208)] [(.int (own_f_rm_mn ((16 : Int32) - (0 : Int32)) (ln - (0 : Int32)))), (.int (0 : Int32)), (.ref b208), (.int (0 : Int32)), (.ref b)])
  refine Go.acopyB C X211 (pc' := 30) (o := 0) (q := 0) (n := n) (W := 0) (own_w hw 186 rfl) (own_w hw 120 rfl) (own_w hw 118 rfl) (own_w hw 119 rfl) A210 A208 rfl rfl (own_mnv hl hn) (by omega) (by omega) (fun j _ => own_fitb (hbt _)) N208 rfl (Nat.le_of_eq rfl) (by decide) (by decide) d33_27 rfl (fun T212 h212 X212 K212 A212 => ?_)
  have K213 : Keep h0 h212 [] := K209.trans K212 (allS (Or.inr Q208) all0)
  have A214 := A210.keep K212 (ninS ne_b_b208 nin0)
  refine Go.aload C X212 (pc' := 32) d33_30 rfl rfl rfl ?_
  exact Go.retAA C X212 rfl d33_32 ⟨b208, rfl, Q208, K213, (AI.congr A212 own_cpy)⟩ (by decide) (by decide)
theorem own_ef_rm_cr (m : MethodId) (x0 : Addr) (x1 : Int32) (x2 : Int32) : entryFrame m #[(.ref x0), (.int x1), (.int x2)] 3 = mkF m 0 #[.val (.ref x0), .val (.int x1), .val (.int x2)] [] := by first | (simp [entryFrame, mkF, argsToLocals, Value.category]; done) | rfl
theorem d32_0 : decode jdk_65_method_132_code 0 = .ok (.iload_n 1, 1) := by decide +kernel
theorem d32_1 : decode jdk_65_method_132_code 1 = .ok (.ifCond .ne 9, 3) := by decide +kernel
theorem d32_4 : decode jdk_65_method_132_code 4 = .ok (.iload_n 2, 1) := by decide +kernel
theorem d32_5 : decode jdk_65_method_132_code 5 = .ok (.aload_n 0, 1) := by decide +kernel
theorem d32_6 : decode jdk_65_method_132_code 6 = .ok (.arraylength, 1) := by decide +kernel
theorem d32_7 : decode jdk_65_method_132_code 7 = .ok (.if_icmp .eq 10, 3) := by decide +kernel
theorem d32_10 : decode jdk_65_method_132_code 10 = .ok (.aload_n 0, 1) := by decide +kernel
theorem d32_11 : decode jdk_65_method_132_code 11 = .ok (.iload_n 1, 1) := by decide +kernel
theorem d32_12 : decode jdk_65_method_132_code 12 = .ok (.iload_n 2, 1) := by decide +kernel
theorem d32_13 : decode jdk_65_method_132_code 13 = .ok (.invokestatic 339, 3) := by decide +kernel
theorem own_pd16 : parseMethodDescriptor "([BII)[B" = some ⟨[(.array .byte), .int, .int], some (.array .byte)⟩ := by decide +kernel
theorem d32_16 : decode jdk_65_method_132_code 16 = .ok (.areturn, 1) := by decide +kernel
set_option maxRecDepth 65536 in
set_option maxHeartbeats 40000000 in
theorem rm_cr (l : Launch) (Z : State) (a0 : Array Value) (hw : ∀ d ∈ tables_1, d.before a0 Z = true) (b : Addr) (o1 : Int32) (ln : Int32) (n : Nat) (g : Nat → Int32) (h0 : Heap) (n0 : Nat) (Z0 : n0 ≤ h0.size) (f0 : AI Z h0 b .byte 16 g) (ho : o1 = (0 : Int32)) (hl : ln.toInt = (n : Int)) (hn : n ≤ 14) (hbt : ∀ q, own_bt (g q)) :
    Con l Z (⟨"java/util/Arrays", "copyOfRange", "([BII)[B"⟩ : MethodName) jdk_65_method_132_code 3 (some (.array .byte)) ({ frames := 2, cells := 1, slots := 14, locals := 56 } : Room) #[(.ref b), (.int o1), (.int ln)] h0 n0 (fun rv hv => ∃ t : Addr, rv = some (.ref t) ∧ h0.size ≤ t ∧ Keep h0 hv [] ∧ AI Z hv t .byte n g) := by
  refine Con.enter (plainFor_of_name own_pn7) Z0 ?_
  intro p e s m below meth c T0 C hnm X0
  refine Go.cast (own_ef_rm_cr m b o1 ln) ?_
  rw [ho]
  refine Go.iloadN C X0 (pc' := 1) d32_0 rfl rfl ?_
  refine Go.ifNo C X0 (pc' := 4) d32_1 ((if0 _ _).trans (teq (by decide)).2) rfl ?_
  refine Go.iloadN C X0 (pc' := 5) d32_4 rfl rfl ?_
  refine Go.aloadN C X0 (pc' := 6) d32_5 rfl rfl rfl ?_
  refine Go.alenI C X0 (pc' := 7) (z := (16 : Int32)) f0 rfl d32_6 rfl ?_
  refine Go.icmpNo C X0 (pc' := 10) d32_7 (feq (fun q => by have := own_ieq.mp q; have e : (16 : Int32).toInt = 16 := rfl; omega)).1 rfl ?_
  refine Go.aloadN C X0 (pc' := 11) d32_10 rfl rfl rfl ?_
  refine Go.iloadN C X0 (pc' := 12) d32_11 rfl rfl ?_
  refine Go.iloadN C X0 (pc' := 13) d32_12 rfl rfl ?_
  refine Go.callS C X0 (pc' := 16) (W := 0) (argsL := [(.ref b), (.int (0 : Int32)), (.int ln)]) (rest := []) (rm_cb l Z a0 hw b (0 : Int32) ln n g h0 n0 X0.sz f0 rfl hl hn hbt) (own_w hw 176 rfl) (own_w hw 177 rfl) (own_w hw 174 rfl) (own_w hw 178 rfl) (by decide) rfl rfl (lenOf own_pd16 rfl) rfl (Nat.le_of_eq rfl) (by decide) (by decide) (by decide) (by decide) d32_13 rfl (fun _ _ q => by obtain ⟨_, _, _, K, _⟩ := q; exact K.1) (fun T215 h215 v215 X215 P215 => ?_)
  obtain ⟨t215, rfl, D215_t, K215, O215_0⟩ := P215
  have ne_b_t215 : b ≠ t215 := Nat.ne_of_lt (Nat.lt_of_lt_of_le f0.lt D215_t)
  have N_t215 : n0 ≤ t215 := Nat.le_trans X0.sz D215_t
  have Q_t215 : h0.size ≤ t215 := Nat.le_trans (Keep.refl h0 []).1 D215_t
  have K216 : Keep h0 h215 [] := (Keep.refl h0 []).trans K215 all0
  have A217 := f0.keep K215 nin0
  show Go p e below _ n0 _ _ _ T215 (mkF m 16 #[.val (.ref b), .val (.int (0 : Int32)), .val (.int ln)] [(.ref t215)])
  exact Go.retAA C X215 rfl d32_16 ⟨t215, rfl, Q_t215, K216, O215_0⟩ (by decide) (by decide)
theorem own_ef_rm_sa (m : MethodId) (x0 : Addr) (x1 : Addr) (x2 : Value) (hrx2 : x2.isRef = true) : entryFrame m #[(.ref x0), (.ref x1), x2] 5 = mkF m 0 #[.val (.ref x0), .val (.ref x1), .val x2, .unset, .unset] [] := by rcases ref_cases hrx2 with rfl | ⟨ax2, rfl⟩ <;> rfl
theorem d28_0 : decode jdk_42_method_150_code 0 = .ok (.aload_n 0, 1) := by decide +kernel
theorem d28_1 : decode jdk_42_method_150_code 1 = .ok (.invokespecial 1, 3) := by decide +kernel
theorem d28_4 : decode jdk_42_method_150_code 4 = .ok (.aload_n 1, 1) := by decide +kernel
theorem d28_5 : decode jdk_42_method_150_code 5 = .ok (.invokevirtual 552, 3) := by decide +kernel
theorem own_pd17 : parseMethodDescriptor "()[B" = some ⟨[], some (.array .byte)⟩ := by decide +kernel
theorem d28_8 : decode jdk_42_method_150_code 8 = .ok (.astore_n 3, 1) := by decide +kernel
theorem d28_9 : decode jdk_42_method_150_code 9 = .ok (.aload_n 1, 1) := by decide +kernel
theorem d28_10 : decode jdk_42_method_150_code 10 = .ok (.invokevirtual 549, 3) := by decide +kernel
theorem d28_13 : decode jdk_42_method_150_code 13 = .ok (.istore 4, 2) := by decide +kernel
theorem d28_15 : decode jdk_42_method_150_code 15 = .ok (.aload_n 1, 1) := by decide +kernel
theorem d28_16 : decode jdk_42_method_150_code 16 = .ok (.invokevirtual 1047, 3) := by decide +kernel
theorem d28_19 : decode jdk_42_method_150_code 19 = .ok (.ifCond .eq 22, 3) := by decide +kernel
theorem d28_22 : decode jdk_42_method_150_code 22 = .ok (.aload_n 0, 1) := by decide +kernel
theorem d28_23 : decode jdk_42_method_150_code 23 = .ok (.iconst 0, 1) := by decide +kernel
theorem d28_24 : decode jdk_42_method_150_code 24 = .ok (.putfield 15, 3) := by decide +kernel
theorem d28_27 : decode jdk_42_method_150_code 27 = .ok (.aload_n 0, 1) := by decide +kernel
theorem d28_28 : decode jdk_42_method_150_code 28 = .ok (.aload_n 3, 1) := by decide +kernel
theorem d28_29 : decode jdk_42_method_150_code 29 = .ok (.iconst 0, 1) := by decide +kernel
theorem d28_30 : decode jdk_42_method_150_code 30 = .ok (.iload 4, 2) := by decide +kernel
theorem d28_32 : decode jdk_42_method_150_code 32 = .ok (.invokestatic 54, 3) := by decide +kernel
theorem d28_35 : decode jdk_42_method_150_code 35 = .ok (.putfield 9, 3) := by decide +kernel
theorem d28_38 : decode jdk_42_method_150_code 38 = .ok (.goto 59, 3) := by decide +kernel
theorem d28_97 : decode jdk_42_method_150_code 97 = .ok (.return_, 1) := by decide +kernel
set_option maxRecDepth 65536 in
set_option maxHeartbeats 40000000 in
theorem rm_sa (l : Launch) (Z : State) (a0 : Array Value) (hw : ∀ d ∈ tables_1, d.before a0 Z = true) (a : Addr) (ab : Addr) (vd : Value) (t : Addr) (g : Nat → Int32) (kc : Int32) (n : Nat) (cs : Int32) (h0 : Heap) (n0 : Nat) (Z0 : n0 ≤ h0.size) (f0 : Old Z n0 h0) (f1 : Sta Z Z.heap "java/lang/String" "COMPACT_STRINGS" "Z" (.int cs)) (f2 : Exa Z h0 a "java/lang/String") (f3 : Fld Z h0 a "java/lang/String" "value" "[B" .null) (f4 : Fld Z h0 a "java/lang/String" "coder" "B" (.int (0 : Int32))) (f5 : n0 ≤ a) (f6 : Exa Z h0 ab "java/lang/StringBuilder") (f7 : Fld Z h0 ab "java/lang/AbstractStringBuilder" "value" "[B" (.ref t)) (f8 : Fld Z h0 ab "java/lang/AbstractStringBuilder" "coder" "B" (.int (0 : Int32))) (f9 : Fld Z h0 ab "java/lang/AbstractStringBuilder" "count" "I" (.int kc)) (f10 : AI Z h0 t .byte 16 g) (f11 : a ≠ t) (f12 : a ≠ ab) (hvd : vd.isRef = true) (hcs : ¬ cs = (0 : Int32)) (hkc : kc.toInt = (n : Int)) (hn : n ≤ 14) (hbt : ∀ q, own_bt (g q)) :
    Con l Z (⟨"java/lang/String", "<init>", "(Ljava/lang/AbstractStringBuilder;Ljava/lang/Void;)V"⟩ : MethodName) jdk_42_method_150_code 5 none ({ frames := 3, cells := 1, slots := 14, locals := 71 } : Room) #[(.ref a), (.ref ab), vd] h0 n0 (fun rv hv => ∃ tv : Addr, rv = none ∧ h0.size ≤ tv ∧ Keep h0 hv [a] ∧ Exa Z hv a "java/lang/String" ∧ Fld Z hv a "java/lang/String" "value" "[B" (.ref tv) ∧ Fld Z hv a "java/lang/String" "coder" "B" (.int (0 : Int32)) ∧ AI Z hv tv .byte n g ∧ a ≠ tv) := by
  refine Con.enter (plainFor_of_name own_pn0) Z0 ?_
  intro p e s m below meth c T0 C hnm X0
  refine Go.cast (own_ef_rm_sa m a ab vd hvd) ?_
  refine Go.aloadN C X0 (pc' := 1) d28_0 rfl rfl rfl ?_
  refine Go.initO C X0 (pc' := 4) (fun locs X eT => RoadKit.initO X C.1 C.2.1 C.2.2.2.1 (own_w hw 11 rfl) (own_w hw 12 rfl) (own_w hw 13 rfl) eT (g := (mkF m 1 #[.val (.ref a), .val (.ref ab), .val vd, .unset, .unset] [(.ref a)])) rfl (by rw [C.2.2.2.2.1]; rfl) rfl (hb C.2.2.1 d28_1) (by decide) (W := 0) (by show 2 * 0 + _ ≤ _; exact Nat.le_of_eq rfl) (by decide)) rfl (fun T218 X218 => ?_)
  refine Go.aloadN C X218 (pc' := 5) d28_4 rfl rfl rfl ?_
  refine Go.callV C X218 (pc' := 8) (W := 0) (argsL := []) (rest := []) (a := ab) (rm_gv l Z a0 hw ab t h0 n0 X218.sz f7) f6 (notFace_of_selects (args := #[]) (mvT C.2.1 (own_w hw 161 rfl))) (own_w hw 158 rfl) (own_w hw 159 rfl) (own_w hw 161 rfl) (own_w hw 160 rfl) (own_w hw 66 rfl) (own_w hw 162 rfl) (by decide) rfl rfl (lenOf own_pd17 rfl) rfl (Nat.le_of_eq rfl) (by decide) (by decide) (by decide) (by decide) d28_5 rfl (fun _ _ q => Nat.le_of_eq (congrArg Array.size q.2)) (fun T219 h219 v219 X219 P219 => ?_)
  obtain ⟨rfl, rfl⟩ := P219
  show Go p e below _ n0 _ _ _ T219 (mkF m 8 #[.val (.ref a), .val (.ref ab), .val vd, .unset, .unset] [(.ref t)])
  refine Go.astoreN C X219 (pc' := 9) (Ls' := #[.val (.ref a), .val (.ref ab), .val vd, .val (.ref t), .unset]) d28_8 rfl rfl rfl ?_
  refine Go.aloadN C X219 (pc' := 10) d28_9 rfl rfl rfl ?_
  refine Go.callV C X219 (pc' := 13) (W := 0) (argsL := []) (rest := []) (a := ab) (rm_lb l Z a0 hw ab kc h0 n0 X219.sz f6 f9) f6 (own_nface (args := #[]) (y := (⟨"java/lang/AbstractStringBuilder", "length", "()I"⟩ : MethodName)) (z := (⟨"java/lang/AbstractStringBuilder", "ensureCapacityInternal", "(I)V"⟩ : MethodName)) rfl (mvT C.2.1 (own_w hw 99 rfl))) (own_w hw 163 rfl) (own_w hw 164 rfl) (own_w hw 166 rfl) (own_w hw 167 rfl) (own_w hw 58 rfl) (own_w hw 168 rfl) (by decide) rfl rfl (lenOf own_pd12 rfl) rfl (Nat.le_of_eq rfl) (by decide) (by decide) (by decide) (by decide) d28_10 rfl (fun _ _ q => Nat.le_of_eq (congrArg Array.size q.2)) (fun T220 h220 v220 X220 P220 => ?_)
  obtain ⟨rfl, rfl⟩ := P220
  show Go p e below _ n0 _ _ _ T220 (mkF m 13 #[.val (.ref a), .val (.ref ab), .val vd, .val (.ref t), .unset] [(.int kc)])
  refine Go.istore C X220 (pc' := 15) (Ls' := #[.val (.ref a), .val (.ref ab), .val vd, .val (.ref t), .val (.int kc)]) d28_13 rfl rfl ?_
  refine Go.aloadN C X220 (pc' := 16) d28_15 rfl rfl rfl ?_
  refine Go.callV C X220 (pc' := 19) (W := 0) (argsL := []) (rest := []) (a := ab) (rm_al l Z a0 hw ab cs h0 n0 X220.sz f0 f1 f8 hcs) f6 (notFace_of_selects (args := #[]) (mvT C.2.1 (own_w hw 140 rfl))) (own_w hw 171 rfl) (own_w hw 138 rfl) (own_w hw 140 rfl) (own_w hw 139 rfl) (own_w hw 66 rfl) (own_w hw 141 rfl) (by decide) rfl rfl (lenOf own_pd3 rfl) rfl (Nat.le_of_eq rfl) (by decide) (by decide) (by decide) (by decide) d28_16 rfl (fun _ _ q => Nat.le_of_eq (congrArg Array.size q.2)) (fun T221 h221 v221 X221 P221 => ?_)
  obtain ⟨rfl, rfl⟩ := P221
  show Go p e below _ n0 _ _ _ T221 (mkF m 19 #[.val (.ref a), .val (.ref ab), .val vd, .val (.ref t), .val (.int kc)] [(.int (1 : Int32))])
  refine Go.ifNo C X221 (pc' := 22) d28_19 ((if0 _ _).trans (feq (by decide)).1) rfl ?_
  refine Go.aloadN C X221 (pc' := 23) d28_22 rfl rfl rfl ?_
  refine Go.iconst C X221 (pc' := 24) (v := (0 : Int32)) d28_23 rfl rfl ?_
  refine Go.putFN C X221 (pc' := 27) (own_w hw 26 rfl) Via.refl f4 f2 (Or.inr ⟨(own_w hw 27 rfl), rfl, hnm⟩) (own_w hw 1 rfl) f5 (ty := .byte) (v' := (.int (0 : Int32))) (by decide) (by decide) (by decide) d28_24 rfl (fun T222 h222 X222 W222 => ?_)
  have Fw222 := f4.same W222
  have K223 : Keep h0 h222 [a] := (Keep.refl h0 [a]).wr W222 (Or.inl (List.mem_of_getElem? (i := 0) rfl))
  have O224 : Old Z n0 h222 := f0.wr W222 f5
  have E225 := f2.wr W222
  have F226 := f3.other W222 (Or.inr (slot_ne (Or.inr (own_w hw 29 rfl)) (Or.inr (own_w hw 27 rfl)) (by decide) (t := (.array .byte)) (t' := .byte) (by decide) (by decide)))
  have E227 := f6.wr W222
  have F228 := f7.other W222 (Or.inl (Ne.symm f12))
  have F229 := f8.other W222 (Or.inl (Ne.symm f12))
  have F230 := f9.other W222 (Or.inl (Ne.symm f12))
  have A231 := f10.other W222 (Ne.symm f11)
  refine Go.aloadN C X222 (pc' := 28) d28_27 rfl rfl rfl ?_
  refine Go.aloadN C X222 (pc' := 29) d28_28 rfl rfl rfl ?_
  refine Go.iconst C X222 (pc' := 30) (v := (0 : Int32)) d28_29 rfl rfl ?_
  refine Go.iload C X222 (pc' := 32) d28_30 rfl rfl ?_
  refine Go.callS C X222 (pc' := 35) (W := 1) (argsL := [(.ref t), (.int (0 : Int32)), (.int kc)]) (rest := [(.ref a)]) (rm_cr l Z a0 hw t (0 : Int32) kc n g h222 n0 X222.sz A231 rfl hkc hn hbt) (own_w hw 172 rfl) (own_w hw 173 rfl) (own_w hw 174 rfl) (own_w hw 175 rfl) (by decide) rfl rfl (lenOf own_pd16 rfl) rfl (Nat.le_of_eq rfl) (by decide) (by decide) (by decide) (by decide) d28_32 rfl (fun _ _ q => by obtain ⟨_, _, _, K, _⟩ := q; exact K.1) (fun T232 h232 v232 X232 P232 => ?_)
  obtain ⟨t232, rfl, D232_t, K232, O232_0⟩ := P232
  have ne_a_t232 : a ≠ t232 := Nat.ne_of_lt (Nat.lt_of_lt_of_le E225.lt D232_t)
  have ne_ab_t232 : ab ≠ t232 := Nat.ne_of_lt (Nat.lt_of_lt_of_le E227.lt D232_t)
  have ne_t_t232 : t ≠ t232 := Nat.ne_of_lt (Nat.lt_of_lt_of_le A231.lt D232_t)
  have N_t232 : n0 ≤ t232 := Nat.le_trans X222.sz D232_t
  have Q_t232 : h0.size ≤ t232 := Nat.le_trans K223.1 D232_t
  have K233 : Keep h0 h232 [a] := K223.trans K232 all0
  have O234 : Old Z n0 h232 := O224.keep K232 all0
  have E235 := E225.keep K232
  have F236 := F226.keep K232 nin0
  have E237 := E227.keep K232
  have F238 := F228.keep K232 nin0
  have F239 := F229.keep K232 nin0
  have F240 := F230.keep K232 nin0
  have A241 := A231.keep K232 nin0
  have F242 := Fw222.keep K232 nin0
  show Go p e below _ n0 _ _ _ T232 (mkF m 35 #[.val (.ref a), .val (.ref ab), .val vd, .val (.ref t), .val (.int kc)] [(.ref t232), (.ref a)])
  refine Go.putF C X232 (pc' := 38) (host := "") (Or.inl (own_w hw 28 rfl)) Via.refl F236 E235 (Or.inr ⟨(own_w hw 29 rfl), rfl, hnm⟩) (own_w hw 1 rfl) f5 (ty := (.array .byte)) (by decide) rfl rfl d28_35 rfl (fun T243 h243 X243 W243 => ?_)
  have Fw243 := F236.same W243
  have K244 : Keep h0 h243 [a] := K233.wr W243 (Or.inl (List.mem_of_getElem? (i := 0) rfl))
  have O245 : Old Z n0 h243 := O234.wr W243 f5
  have E246 := E235.wr W243
  have E247 := E237.wr W243
  have F248 := F238.other W243 (Or.inl (Ne.symm f12))
  have F249 := F239.other W243 (Or.inl (Ne.symm f12))
  have F250 := F240.other W243 (Or.inl (Ne.symm f12))
  have A251 := A241.other W243 (Ne.symm f11)
  have F252 := F242.other W243 (Or.inr (slot_ne (Or.inr (own_w hw 27 rfl)) (Or.inr (own_w hw 29 rfl)) (by decide) (t := .byte) (t' := (.array .byte)) (by decide) (by decide)))
  have A253 := O232_0.other W243 (Ne.symm ne_a_t232)
  refine Go.goto C X243 (pc' := 97) d28_38 (by decide) (by decide) ?_
  exact Go.retV C X243 d28_97 ⟨t232, rfl, Q_t232, K244, E246, Fw243, F252, A253, ne_a_t232⟩ (by decide) (by decide)
theorem own_ef_rm_sb (m : MethodId) (x0 : Addr) (x1 : Addr) : entryFrame m #[(.ref x0), (.ref x1)] 2 = mkF m 0 #[.val (.ref x0), .val (.ref x1)] [] := by first | (simp [entryFrame, mkF, argsToLocals, Value.category]; done) | rfl
theorem d27_0 : decode jdk_42_method_53_code 0 = .ok (.aload_n 0, 1) := by decide +kernel
theorem d27_1 : decode jdk_42_method_53_code 1 = .ok (.aload_n 1, 1) := by decide +kernel
theorem d27_2 : decode jdk_42_method_53_code 2 = .ok (.aconst_null, 1) := by decide +kernel
theorem d27_3 : decode jdk_42_method_53_code 3 = .ok (.invokespecial 489, 3) := by decide +kernel
theorem own_pd18 : parseMethodDescriptor "(Ljava/lang/AbstractStringBuilder;Ljava/lang/Void;)V" = some ⟨[(.object "java/lang/AbstractStringBuilder"), (.object "java/lang/Void")], none⟩ := by decide +kernel
theorem d27_6 : decode jdk_42_method_53_code 6 = .ok (.return_, 1) := by decide +kernel
set_option maxRecDepth 65536 in
set_option maxHeartbeats 40000000 in
theorem rm_sb (l : Launch) (Z : State) (a0 : Array Value) (hw : ∀ d ∈ tables_1, d.before a0 Z = true) (a : Addr) (ab : Addr) (t : Addr) (g : Nat → Int32) (kc : Int32) (n : Nat) (cs : Int32) (h0 : Heap) (n0 : Nat) (Z0 : n0 ≤ h0.size) (f0 : Old Z n0 h0) (f1 : Sta Z Z.heap "java/lang/String" "COMPACT_STRINGS" "Z" (.int cs)) (f2 : Exa Z h0 a "java/lang/String") (f3 : Fld Z h0 a "java/lang/String" "value" "[B" .null) (f4 : Fld Z h0 a "java/lang/String" "coder" "B" (.int (0 : Int32))) (f5 : n0 ≤ a) (f6 : Exa Z h0 ab "java/lang/StringBuilder") (f7 : Fld Z h0 ab "java/lang/AbstractStringBuilder" "value" "[B" (.ref t)) (f8 : Fld Z h0 ab "java/lang/AbstractStringBuilder" "coder" "B" (.int (0 : Int32))) (f9 : Fld Z h0 ab "java/lang/AbstractStringBuilder" "count" "I" (.int kc)) (f10 : AI Z h0 t .byte 16 g) (f11 : a ≠ t) (f12 : a ≠ ab) (hcs : ¬ cs = (0 : Int32)) (hkc : kc.toInt = (n : Int)) (hn : n ≤ 14) (hbt : ∀ q, own_bt (g q)) :
    Con l Z (⟨"java/lang/String", "<init>", "(Ljava/lang/StringBuilder;)V"⟩ : MethodName) jdk_42_method_53_code 2 none ({ frames := 4, cells := 1, slots := 14, locals := 87 } : Room) #[(.ref a), (.ref ab)] h0 n0 (fun rv hv => ∃ tv : Addr, rv = none ∧ h0.size ≤ tv ∧ Keep h0 hv [a] ∧ Exa Z hv a "java/lang/String" ∧ Fld Z hv a "java/lang/String" "value" "[B" (.ref tv) ∧ Fld Z hv a "java/lang/String" "coder" "B" (.int (0 : Int32)) ∧ AI Z hv tv .byte n g ∧ a ≠ tv) := by
  refine Con.enter (plainFor_of_name own_pn0) Z0 ?_
  intro p e s m below meth c T0 C hnm X0
  refine Go.cast (own_ef_rm_sb m a ab) ?_
  refine Go.aloadN C X0 (pc' := 1) d27_0 rfl rfl rfl ?_
  refine Go.aloadN C X0 (pc' := 2) d27_1 rfl rfl rfl ?_
  refine Go.aconst_null C X0 (pc' := 3) d27_2 rfl ?_
  refine Go.callI C X0 (pc' := 6) (W := 0) (argsL := [(.ref ab), .null]) (rest := []) (a := a) (rm_sa l Z a0 hw a ab (.null) t g kc n cs h0 n0 X0.sz f0 f1 f2 f3 f4 f5 f6 f7 f8 f9 f10 f11 f12 rfl hcs hkc hn hbt) rfl rfl (own_w hw 155 rfl) (own_w hw 156 rfl) (own_w hw 2 rfl) (own_w hw 157 rfl) (by decide) rfl rfl (lenOf own_pd18 rfl) rfl (Nat.le_of_eq rfl) (by decide) (by decide) (by decide) (by decide) d27_3 rfl (fun _ _ q => by obtain ⟨_, _, _, K, _⟩ := q; exact K.1) (fun T254 h254 v254 X254 P254 => ?_)
  obtain ⟨tv254, rfl, D254_tv, K254, O254_0, O254_1, O254_2, O254_3, O254_4⟩ := P254
  have ne_a_tv254 : a ≠ tv254 := Nat.ne_of_lt (Nat.lt_of_lt_of_le f2.lt D254_tv)
  have ne_ab_tv254 : ab ≠ tv254 := Nat.ne_of_lt (Nat.lt_of_lt_of_le f6.lt D254_tv)
  have ne_t_tv254 : t ≠ tv254 := Nat.ne_of_lt (Nat.lt_of_lt_of_le f10.lt D254_tv)
  have N_tv254 : n0 ≤ tv254 := Nat.le_trans X0.sz D254_tv
  have Q_tv254 : h0.size ≤ tv254 := Nat.le_trans (Keep.refl h0 [a]).1 D254_tv
  have K255 : Keep h0 h254 [a] := (Keep.refl h0 [a]).trans K254 (allS (Or.inl (List.mem_of_getElem? (i := 0) rfl)) all0)
  have O256 : Old Z n0 h254 := f0.keep K254 (allS f5 all0)
  have E257 := f2.keep K254
  have E258 := f6.keep K254
  have F259 := f7.keep K254 (ninS (Ne.symm f12) nin0)
  have F260 := f8.keep K254 (ninS (Ne.symm f12) nin0)
  have F261 := f9.keep K254 (ninS (Ne.symm f12) nin0)
  have A262 := f10.keep K254 (ninS (Ne.symm f11) nin0)
  show Go p e below _ n0 _ _ _ T254 (mkF m 6 #[.val (.ref a), .val (.ref ab)] [])
  exact Go.retV C X254 d27_6 ⟨tv254, rfl, Q_tv254, K255, O254_0, O254_1, O254_2, O254_3, O254_4⟩ (by decide) (by decide)
theorem own_ef_rm_bt (m : MethodId) (x0 : Addr) : entryFrame m #[(.ref x0)] 1 = mkF m 0 #[.val (.ref x0)] [] := by first | (simp [entryFrame, mkF, argsToLocals, Value.category]; done) | rfl
theorem d26_0 : decode jdk_67_method_42_code 0 = .ok (.new 18, 3) := by decide +kernel
theorem d26_3 : decode jdk_67_method_42_code 3 = .ok (.dup, 1) := by decide +kernel
theorem d26_4 : decode jdk_67_method_42_code 4 = .ok (.aload_n 0, 1) := by decide +kernel
theorem d26_5 : decode jdk_67_method_42_code 5 = .ok (.invokespecial 137, 3) := by decide +kernel
theorem own_pd19 : parseMethodDescriptor "(Ljava/lang/StringBuilder;)V" = some ⟨[(.object "java/lang/StringBuilder")], none⟩ := by decide +kernel
theorem d26_8 : decode jdk_67_method_42_code 8 = .ok (.areturn, 1) := by decide +kernel
set_option maxRecDepth 65536 in
set_option maxHeartbeats 40000000 in
theorem rm_bt (l : Launch) (Z : State) (a0 : Array Value) (hw : ∀ d ∈ tables_1, d.before a0 Z = true) (ab : Addr) (t : Addr) (g : Nat → Int32) (kc : Int32) (n : Nat) (cs : Int32) (h0 : Heap) (n0 : Nat) (Z0 : n0 ≤ h0.size) (f0 : Old Z n0 h0) (f1 : Sta Z Z.heap "java/lang/String" "COMPACT_STRINGS" "Z" (.int cs)) (f2 : Exa Z h0 ab "java/lang/StringBuilder") (f3 : Fld Z h0 ab "java/lang/AbstractStringBuilder" "value" "[B" (.ref t)) (f4 : Fld Z h0 ab "java/lang/AbstractStringBuilder" "coder" "B" (.int (0 : Int32))) (f5 : Fld Z h0 ab "java/lang/AbstractStringBuilder" "count" "I" (.int kc)) (f6 : AI Z h0 t .byte 16 g) (hcs : ¬ cs = (0 : Int32)) (hkc : kc.toInt = (n : Int)) (hn : n ≤ 14) (hbt : ∀ q, own_bt (g q)) :
    Con l Z (⟨"java/lang/StringBuilder", "toString", "()Ljava/lang/String;"⟩ : MethodName) jdk_67_method_42_code 1 (some (.object "java/lang/String")) ({ frames := 5, cells := 2, slots := 18, locals := 101 } : Room) #[(.ref ab)] h0 n0 (fun rv hv => ∃ u : Addr, ∃ tv : Addr, rv = some (.ref u) ∧ h0.size ≤ u ∧ h0.size ≤ tv ∧ Keep h0 hv [] ∧ Exa Z hv u "java/lang/String" ∧ Fld Z hv u "java/lang/String" "value" "[B" (.ref tv) ∧ Fld Z hv u "java/lang/String" "coder" "B" (.int (0 : Int32)) ∧ AI Z hv tv .byte n g) := by
  refine Con.enter (plainFor_of_name own_pn5) Z0 ?_
  intro p e s m below meth c T0 C hnm X0
  refine Go.cast (own_ef_rm_bt m ab) ?_
  refine Go.newO C X0 (pc' := 3) (own_w hw 151 rfl) (own_w hw 1 rfl) (own_w hw 2 rfl) d26_0 (by decide) (by decide) rfl (fun T263 h263 b263 X263 g263 E263 Ex263 D263 N263 => ?_)
  have ne_ab_b263 : ab ≠ b263 := Nat.ne_of_lt (Nat.lt_of_lt_of_eq f2.lt g263.symm)
  have ne_t_b263 : t ≠ b263 := Nat.ne_of_lt (Nat.lt_of_lt_of_eq f6.lt g263.symm)
  have Q263 : h0.size ≤ b263 := Nat.le_trans (Keep.refl h0 []).1 (Nat.le_of_eq g263.symm)
  have K264 : Keep h0 h263 [] := (Keep.refl h0 []).ext E263
  have O265 : Old Z n0 h263 := f0.ext E263
  have E266 := f2.ext E263
  have F267 := f3.ext E263
  have F268 := f4.ext E263
  have F269 := f5.ext E263
  have A270 := f6.ext E263
  have F271 : Fld Z h263 b263 "java/lang/String" "coder" "B" (.int (0 : Int32)) := D263 (Or.inr (own_w hw 27 rfl)) (ty := .byte) (by decide)
  have F272 : Fld Z h263 b263 "java/lang/String" "value" "[B" .null := D263 (Or.inr (own_w hw 29 rfl)) (ty := (.array .byte)) (by decide)
  refine Go.dup C X263 (pc' := 4) d26_3 rfl rfl ?_
  refine Go.aloadN C X263 (pc' := 5) d26_4 rfl rfl rfl ?_
  refine Go.callI C X263 (pc' := 8) (W := 1) (argsL := [(.ref ab)]) (rest := [(.ref b263)]) (a := b263) (rm_sb l Z a0 hw b263 ab t g kc n cs h263 n0 X263.sz O265 f1 Ex263 F272 F271 N263 E266 F267 F268 F269 A270 (Ne.symm ne_t_b263) (Ne.symm ne_ab_b263) hcs hkc hn hbt) rfl rfl (own_w hw 152 rfl) (own_w hw 153 rfl) (own_w hw 2 rfl) (own_w hw 154 rfl) (by decide) rfl rfl (lenOf own_pd19 rfl) rfl (Nat.le_of_eq rfl) (by decide) (by decide) (by decide) (by decide) d26_5 rfl (fun _ _ q => by obtain ⟨_, _, _, K, _⟩ := q; exact K.1) (fun T273 h273 v273 X273 P273 => ?_)
  obtain ⟨tv273, rfl, D273_tv, K273, O273_0, O273_1, O273_2, O273_3, O273_4⟩ := P273
  have ne_ab_tv273 : ab ≠ tv273 := Nat.ne_of_lt (Nat.lt_of_lt_of_le E266.lt D273_tv)
  have ne_t_tv273 : t ≠ tv273 := Nat.ne_of_lt (Nat.lt_of_lt_of_le A270.lt D273_tv)
  have ne_b263_tv273 : b263 ≠ tv273 := Nat.ne_of_lt (Nat.lt_of_lt_of_le Ex263.lt D273_tv)
  have N_tv273 : n0 ≤ tv273 := Nat.le_trans X263.sz D273_tv
  have Q_tv273 : h0.size ≤ tv273 := Nat.le_trans K264.1 D273_tv
  have K274 : Keep h0 h273 [] := K264.trans K273 (allS (Or.inr Q263) all0)
  have O275 : Old Z n0 h273 := O265.keep K273 (allS N263 all0)
  have E276 := E266.keep K273
  have F277 := F267.keep K273 (ninS ne_ab_b263 nin0)
  have F278 := F268.keep K273 (ninS ne_ab_b263 nin0)
  have F279 := F269.keep K273 (ninS ne_ab_b263 nin0)
  have A280 := A270.keep K273 (ninS ne_t_b263 nin0)
  have E281 := Ex263.keep K273
  show Go p e below _ n0 _ _ _ T273 (mkF m 8 #[.val (.ref ab)] [(.ref b263)])
  exact Go.retA C X273 rfl d26_8 ⟨b263, tv273, rfl, Q263, Q_tv273, K274, O273_0, O273_1, O273_2, O273_3⟩ (by decide) (by decide)
theorem own_ef_rm_gc (m : MethodId) (x0 : Int32) (x1 : Int32) (x2 : Addr) : entryFrame m #[(.int x0), (.int x1), (.ref x2)] 7 = mkF m 0 #[.val (.int x0), .val (.int x1), .val (.ref x2), .unset, .unset, .unset, .unset] [] := by first | (simp [entryFrame, mkF, argsToLocals, Value.category]; done) | rfl
theorem d25_0 : decode jdk_33_method_12_code 0 = .ok (.iload_n 1, 1) := by decide +kernel
theorem d25_1 : decode jdk_33_method_12_code 1 = .ok (.istore 5, 2) := by decide +kernel
theorem d25_22 : decode jdk_33_method_12_code 22 = .ok (.iload_n 0, 1) := by decide +kernel
theorem d25_23 : decode jdk_33_method_12_code 23 = .ok (.bipush (-100), 2) := by decide +kernel
theorem d25_25 : decode jdk_33_method_12_code 25 = .ok (.if_icmp .gt 47, 3) := by decide +kernel
theorem d25_72 : decode jdk_33_method_12_code 72 = .ok (.aload_n 2, 1) := by decide +kernel
theorem d25_73 : decode jdk_33_method_12_code 73 = .ok (.iinc 5 (-1), 3) := by decide +kernel
theorem d25_76 : decode jdk_33_method_12_code 76 = .ok (.iload 5, 2) := by decide +kernel
theorem d25_78 : decode jdk_33_method_12_code 78 = .ok (.getstatic 83, 3) := by decide +kernel
theorem d25_81 : decode jdk_33_method_12_code 81 = .ok (.iload_n 0, 1) := by decide +kernel
theorem d25_82 : decode jdk_33_method_12_code 82 = .ok (.ineg, 1) := by decide +kernel
theorem d25_83 : decode jdk_33_method_12_code 83 = .ok (.baload, 1) := by decide +kernel
theorem d25_84 : decode jdk_33_method_12_code 84 = .ok (.bastore, 1) := by decide +kernel
theorem d25_85 : decode jdk_33_method_12_code 85 = .ok (.iload_n 0, 1) := by decide +kernel
theorem d25_86 : decode jdk_33_method_12_code 86 = .ok (.bipush (-9), 2) := by decide +kernel
theorem d25_88 : decode jdk_33_method_12_code 88 = .ok (.if_icmp .ge 16, 3) := by decide +kernel
theorem d25_91 : decode jdk_33_method_12_code 91 = .ok (.aload_n 2, 1) := by decide +kernel
theorem d25_92 : decode jdk_33_method_12_code 92 = .ok (.iinc 5 (-1), 3) := by decide +kernel
theorem d25_95 : decode jdk_33_method_12_code 95 = .ok (.iload 5, 2) := by decide +kernel
theorem d25_97 : decode jdk_33_method_12_code 97 = .ok (.getstatic 87, 3) := by decide +kernel
theorem d25_100 : decode jdk_33_method_12_code 100 = .ok (.iload_n 0, 1) := by decide +kernel
theorem d25_101 : decode jdk_33_method_12_code 101 = .ok (.ineg, 1) := by decide +kernel
theorem d25_102 : decode jdk_33_method_12_code 102 = .ok (.baload, 1) := by decide +kernel
theorem d25_103 : decode jdk_33_method_12_code 103 = .ok (.bastore, 1) := by decide +kernel
theorem d25_104 : decode jdk_33_method_12_code 104 = .ok (.iload 6, 2) := by decide +kernel
theorem d25_106 : decode jdk_33_method_12_code 106 = .ok (.ifCond .eq 12, 3) := by decide +kernel
theorem d25_118 : decode jdk_33_method_12_code 118 = .ok (.iload 5, 2) := by decide +kernel
theorem d25_120 : decode jdk_33_method_12_code 120 = .ok (.ireturn, 1) := by decide +kernel
theorem d25_109 : decode jdk_33_method_12_code 109 = .ok (.aload_n 2, 1) := by decide +kernel
theorem d25_110 : decode jdk_33_method_12_code 110 = .ok (.iinc 5 (-1), 3) := by decide +kernel
theorem d25_113 : decode jdk_33_method_12_code 113 = .ok (.iload 5, 2) := by decide +kernel
theorem d25_115 : decode jdk_33_method_12_code 115 = .ok (.bipush 45, 2) := by decide +kernel
theorem d25_117 : decode jdk_33_method_12_code 117 = .ok (.bastore, 1) := by decide +kernel
theorem d25_28 : decode jdk_33_method_12_code 28 = .ok (.iload_n 0, 1) := by decide +kernel
theorem d25_29 : decode jdk_33_method_12_code 29 = .ok (.bipush 100, 2) := by decide +kernel
theorem d25_31 : decode jdk_33_method_12_code 31 = .ok (.idiv, 1) := by decide +kernel
theorem d25_32 : decode jdk_33_method_12_code 32 = .ok (.istore_n 3, 1) := by decide +kernel
theorem d25_33 : decode jdk_33_method_12_code 33 = .ok (.iload_n 3, 1) := by decide +kernel
theorem d25_34 : decode jdk_33_method_12_code 34 = .ok (.bipush 100, 2) := by decide +kernel
theorem d25_36 : decode jdk_33_method_12_code 36 = .ok (.imul, 1) := by decide +kernel
theorem d25_37 : decode jdk_33_method_12_code 37 = .ok (.iload_n 0, 1) := by decide +kernel
theorem d25_38 : decode jdk_33_method_12_code 38 = .ok (.isub, 1) := by decide +kernel
theorem d25_39 : decode jdk_33_method_12_code 39 = .ok (.istore 4, 2) := by decide +kernel
theorem d25_41 : decode jdk_33_method_12_code 41 = .ok (.iload_n 3, 1) := by decide +kernel
theorem d25_42 : decode jdk_33_method_12_code 42 = .ok (.istore_n 0, 1) := by decide +kernel
theorem d25_43 : decode jdk_33_method_12_code 43 = .ok (.aload_n 2, 1) := by decide +kernel
theorem d25_44 : decode jdk_33_method_12_code 44 = .ok (.iinc 5 (-1), 3) := by decide +kernel
theorem d25_47 : decode jdk_33_method_12_code 47 = .ok (.iload 5, 2) := by decide +kernel
theorem d25_49 : decode jdk_33_method_12_code 49 = .ok (.getstatic 83, 3) := by decide +kernel
theorem d25_52 : decode jdk_33_method_12_code 52 = .ok (.iload 4, 2) := by decide +kernel
theorem d25_54 : decode jdk_33_method_12_code 54 = .ok (.baload, 1) := by decide +kernel
theorem d25_55 : decode jdk_33_method_12_code 55 = .ok (.bastore, 1) := by decide +kernel
theorem d25_56 : decode jdk_33_method_12_code 56 = .ok (.aload_n 2, 1) := by decide +kernel
theorem d25_57 : decode jdk_33_method_12_code 57 = .ok (.iinc 5 (-1), 3) := by decide +kernel
theorem d25_60 : decode jdk_33_method_12_code 60 = .ok (.iload 5, 2) := by decide +kernel
theorem d25_62 : decode jdk_33_method_12_code 62 = .ok (.getstatic 87, 3) := by decide +kernel
theorem d25_65 : decode jdk_33_method_12_code 65 = .ok (.iload 4, 2) := by decide +kernel
theorem d25_67 : decode jdk_33_method_12_code 67 = .ok (.baload, 1) := by decide +kernel
theorem d25_68 : decode jdk_33_method_12_code 68 = .ok (.bastore, 1) := by decide +kernel
theorem d25_69 : decode jdk_33_method_12_code 69 = .ok (.goto (-47), 3) := by decide +kernel
theorem d25_3 : decode jdk_33_method_12_code 3 = .ok (.iload_n 0, 1) := by decide +kernel
theorem d25_4 : decode jdk_33_method_12_code 4 = .ok (.ifCond .ge 7, 3) := by decide +kernel
theorem d25_7 : decode jdk_33_method_12_code 7 = .ok (.iconst 1, 1) := by decide +kernel
theorem d25_8 : decode jdk_33_method_12_code 8 = .ok (.goto 4, 3) := by decide +kernel
theorem d25_12 : decode jdk_33_method_12_code 12 = .ok (.istore 6, 2) := by decide +kernel
theorem d25_14 : decode jdk_33_method_12_code 14 = .ok (.iload 6, 2) := by decide +kernel
theorem d25_16 : decode jdk_33_method_12_code 16 = .ok (.ifCond .ne 6, 3) := by decide +kernel
theorem d25_11 : decode jdk_33_method_12_code 11 = .ok (.iconst 0, 1) := by decide +kernel
theorem d25_19 : decode jdk_33_method_12_code 19 = .ok (.iload_n 0, 1) := by decide +kernel
theorem d25_20 : decode jdk_33_method_12_code 20 = .ok (.ineg, 1) := by decide +kernel
theorem d25_21 : decode jdk_33_method_12_code 21 = .ok (.istore_n 0, 1) := by decide +kernel
set_option maxRecDepth 65536 in
set_option maxHeartbeats 40000000 in
theorem rm_gc (l : Launch) (Z : State) (a0 : Array Value) (hw : ∀ d ∈ tables_1, d.before a0 Z = true) (y0 : Int32) (ix : Int32) (bf : Addr) (d1 : Addr) (d2 : Addr) (g : Nat → Int32) (K : Nat) (v : Nat) (N : Nat) (sg : Nat) (h0 : Heap) (n0 : Nat) (Z0 : n0 ≤ h0.size) (f0 : Old Z n0 h0) (f1 : Sta Z Z.heap "java/lang/Integer" "DigitOnes" "[B" (.ref d1)) (f2 : Sta Z Z.heap "java/lang/Integer" "DigitTens" "[B" (.ref d2)) (f3 : AI Z h0 d1 .byte 100 own_do) (f4 : AI Z h0 d2 .byte 100 own_dt) (f5 : AI Z h0 bf .byte 16 g) (f6 : n0 ≤ bf) (f7 : d1 ≠ bf) (f8 : d2 ≠ bf) (hix : ix.toInt = (K : Int)) (hv : own_sv y0 v sg) (hd : own_nd v N) (hK : N + sg ≤ K) (hK16 : K ≤ 16) :
    Con l Z (⟨"java/lang/Integer", "getChars", "(II[B)I"⟩ : MethodName) jdk_33_method_12_code 7 (some .int) ({ frames := 0, cells := 0, slots := 0, locals := 0 } : Room) #[(.int y0), (.int ix), (.ref bf)] h0 n0 (fun rv hv => ∃ r : Int32, rv = some (.int r) ∧ Keep h0 hv [bf] ∧ AI Z hv bf .byte 16 (own_num g K v N sg)) := by
  refine Con.enter (plainFor_of_name own_pn6) Z0 ?_
  intro p e s m below meth c T0 C hnm X0
  refine Go.cast (own_ef_rm_gc m y0 ix bf) ?_
  refine Go.iloadN C X0 (pc' := 1) d25_0 rfl rfl ?_
  refine Go.istore C X0 (pc' := 3) (Ls' := #[.val (.int y0), .val (.int ix), .val (.ref bf), .unset, .unset, .val (.int ix), .unset]) d25_1 rfl rfl ?_
  have Cut22 : ∀ (fuel : Nat) (T_22 : State) (h_22 : Heap) (ed : Nat) (g1 : Nat → Int32) (u0 : Int32) (u5 : Int32) (u6 : Int32) (s3 : Slot) (s4 : Slot), (N - ed) < fuel → (u5.toInt = ((K - ed : Nat) : Int)) → (u0.toInt = -((v / 10 ^ ed : Nat) : Int)) → (ed + 1 ≤ N) → (∀ j, j < 16 → g1 j = own_nn g K v ed j) → (u6.toInt = (sg : Int)) → (s3 = .unset ∨ ∃ w : Int32, s3 = .val (.int w)) → (s4 = .unset ∨ ∃ w : Int32, s4 = .val (.int w)) → On p l e ({ frames := 0, cells := 0, slots := 0, locals := 0 } : Room) s m #[(.int y0), (.int ix), (.ref bf)] below meth c n0 T_22 h_22 0 0 → Keep h0 h_22 [bf] → Old Z n0 h_22 → AI Z h_22 bf .byte 16 g1 → AI Z h_22 d1 .byte 100 own_do → AI Z h_22 d2 .byte 100 own_dt → Go p e below (FrameEnd s) n0 (({ frames := 0, cells := 0, slots := 0, locals := 0 } : Room)).cells (({ frames := 0, cells := 0, slots := 0, locals := 0 } : Room)).slots (fun rv hv => ∃ r : Int32, rv = some (.int r) ∧ Keep h0 hv [bf] ∧ AI Z hv bf .byte 16 (own_num g K v N sg)) T_22 (mkF m 22 #[.val (.int u0), .val (.int ix), .val (.ref bf), s3, s4, .val (.int u5), .val (.int u6)] []) := by
    intro fuel
    induction fuel with
    | zero => intro T_22 h_22 ed g1 u0 u5 u6 s3 s4 hM_22 h5 hu he hg h6 hs3 hs4 X_22 K_22 G22_0 G22_1 G22_2 G22_3; exact absurd hM_22 (Nat.not_lt_zero _)
    | succ fuel ih_22 =>
      intro T_22 h_22 ed g1 u0 u5 u6 s3 s4 hM_22 h5 hu he hg h6 hs3 hs4 X_22 K_22 G22_0 G22_1 G22_2 G22_3
      refine Go.iloadN C X_22 (pc' := 23) d25_22 rfl rfl ?_
      refine Go.bipush C X_22 (pc' := 25) (v := (-100 : Int32)) d25_23 rfl rfl ?_
      by_cases c282 : (-100 : Int32) < u0
      · refine Go.icmpYes C X_22 (pc' := 72) d25_25 (tlt c282).2.2.1 (by decide) (by decide) ?_
        refine Go.aloadN C X_22 (pc' := 73) d25_72 rfl rfl rfl ?_
        refine Go.iinc C X_22 (pc' := 76) (Ls' := #[.val (.int u0), .val (.int ix), .val (.ref bf), s3, s4, .val (.int (u5 + (-1 : Int32))), .val (.int u6)]) (v' := (u5 + (-1 : Int32))) d25_73 rfl (by rfl) rfl rfl ?_
        refine Go.iload C X_22 (pc' := 78) d25_76 rfl rfl ?_
        refine Go.getS C X_22 (pc' := 81) (own_w hw 145 rfl) Via.refl (f1.ext G22_0.2) d25_78 rfl (fun T283 X283 => ?_)
        refine Go.iloadN C X283 (pc' := 82) d25_81 rfl rfl ?_
        refine Go.ineg C X283 (pc' := 83) d25_82 rfl ?_
        refine Go.baload C X283 (pc' := 84) (i := (v / 10 ^ ed)) (w := (own_do (v / 10 ^ ed))) G22_2 (own_ng hu ((own_c100 hu).mp c282)) ((own_c100 hu).mp c282) rfl d25_83 rfl ?_
        refine Go.bastore C X283 (pc' := 85) (i := (K - (ed + 1))) (x' := (own_dg v ed)) G22_1 (own_dnk h5 (by omega)) (by omega) (own_on2 ((own_c100 hu).mp c282)) f6 d25_84 rfl (fun T284 h284 X284 W284 A284 => ?_)
        have K285 : Keep h0 h284 [bf] := K_22.wr W284 (Or.inl (List.mem_of_getElem? (i := 0) rfl))
        have O286 : Old Z n0 h284 := G22_0.wr W284 f6
        have A287 := G22_2.other W284 f7
        have A288 := G22_3.other W284 f8
        refine Go.iloadN C X284 (pc' := 86) d25_85 rfl rfl ?_
        refine Go.bipush C X284 (pc' := 88) (v := (-9 : Int32)) d25_86 rfl rfl ?_
        by_cases c289 : u0 < (-9 : Int32)
        · refine Go.icmpNo C X284 (pc' := 91) d25_88 (tlt c289).2.1 rfl ?_
          refine Go.aloadN C X284 (pc' := 92) d25_91 rfl rfl rfl ?_
          refine Go.iinc C X284 (pc' := 95) (Ls' := #[.val (.int u0), .val (.int ix), .val (.ref bf), s3, s4, .val (.int ((u5 + (-1 : Int32)) + (-1 : Int32))), .val (.int u6)]) (v' := ((u5 + (-1 : Int32)) + (-1 : Int32))) d25_92 rfl (by rfl) rfl rfl ?_
          refine Go.iload C X284 (pc' := 97) d25_95 rfl rfl ?_
          refine Go.getS C X284 (pc' := 100) (own_w hw 252 rfl) Via.refl (f2.ext O286.2) d25_97 rfl (fun T290 X290 => ?_)
          refine Go.iloadN C X290 (pc' := 101) d25_100 rfl rfl ?_
          refine Go.ineg C X290 (pc' := 102) d25_101 rfl ?_
          refine Go.baload C X290 (pc' := 103) (i := (v / 10 ^ ed)) (w := (own_dt (v / 10 ^ ed))) A288 (own_ng hu ((own_c100 hu).mp c282)) ((own_c100 hu).mp c282) rfl d25_102 rfl ?_
          refine Go.bastore C X290 (pc' := 104) (i := (K - (ed + 1 + 1))) (x' := (own_dg v (ed + 1))) A284 (own_dnk (own_dnk h5 (by omega)) (by have := (own_l100 hd ((own_c9 hu).mp c289) ((own_c100 hu).mp c282)); omega)) (by omega) (own_te2 ((own_c100 hu).mp c282)) f6 d25_103 rfl (fun T291 h291 X291 W291 A291 => ?_)
          have K292 : Keep h0 h291 [bf] := K285.wr W291 (Or.inl (List.mem_of_getElem? (i := 0) rfl))
          have O293 : Old Z n0 h291 := O286.wr W291 f6
          have A294 := A287.other W291 f7
          have A295 := A288.other W291 f8
          refine Go.iload C X291 (pc' := 106) d25_104 rfl rfl ?_
          by_cases c296 : u6 = (0 : Int32)
          · refine Go.ifYes C X291 (pc' := 118) d25_106 ((if0 _ _).trans (teq c296).1) (by decide) (by decide) ?_
            refine Go.iload C X291 (pc' := 120) d25_118 rfl rfl ?_
            exact Go.retI C X291 d25_120 ⟨((u5 + (-1 : Int32)) + (-1 : Int32)), rfl, K292, (AI.congr A291 (own_lf (own_l100 hd ((own_c9 hu).mp c289) ((own_c100 hu).mp c282)) (own_hs0 h6 c296) (own_st1 (by have := (own_l100 hd ((own_c9 hu).mp c289) ((own_c100 hu).mp c282)); omega) (own_st1 (by omega) hg))))⟩ (by decide) (by decide)
          · refine Go.ifNo C X291 (pc' := 109) d25_106 ((if0 _ _).trans (feq c296).1) rfl ?_
            refine Go.aloadN C X291 (pc' := 110) d25_109 rfl rfl rfl ?_
            refine Go.iinc C X291 (pc' := 113) (Ls' := #[.val (.int u0), .val (.int ix), .val (.ref bf), s3, s4, .val (.int (((u5 + (-1 : Int32)) + (-1 : Int32)) + (-1 : Int32))), .val (.int u6)]) (v' := (((u5 + (-1 : Int32)) + (-1 : Int32)) + (-1 : Int32))) d25_110 rfl (by rfl) rfl rfl ?_
            refine Go.iload C X291 (pc' := 115) d25_113 rfl rfl ?_
            refine Go.bipush C X291 (pc' := 117) (v := (45 : Int32)) d25_115 rfl rfl ?_
            refine Go.bastore C X291 (pc' := 118) (i := (K - (ed + 1 + 1 + 1))) (x' := (45 : Int32)) A291 (own_dnk (own_dnk (own_dnk h5 (by omega)) (by have := (own_l100 hd ((own_c9 hu).mp c289) ((own_c100 hu).mp c282)); omega)) (by have := (own_l100 hd ((own_c9 hu).mp c289) ((own_c100 hu).mp c282)); have := own_hs1 h6 hv c296; omega)) (by omega) (by decide) f6 d25_117 rfl (fun T297 h297 X297 W297 A297 => ?_)
            have K298 : Keep h0 h297 [bf] := K292.wr W297 (Or.inl (List.mem_of_getElem? (i := 0) rfl))
            have O299 : Old Z n0 h297 := O293.wr W297 f6
            have A300 := A294.other W297 f7
            have A301 := A295.other W297 f8
            refine Go.iload C X297 (pc' := 120) d25_118 rfl rfl ?_
            exact Go.retI C X297 d25_120 ⟨(((u5 + (-1 : Int32)) + (-1 : Int32)) + (-1 : Int32)), rfl, K298, (AI.congr A297 (own_lfs (own_l100 hd ((own_c9 hu).mp c289) ((own_c100 hu).mp c282)) (own_hs1 h6 hv c296) (by have := (own_l100 hd ((own_c9 hu).mp c289) ((own_c100 hu).mp c282)); have := own_hs1 h6 hv c296; omega) (own_st1 (by have := (own_l100 hd ((own_c9 hu).mp c289) ((own_c100 hu).mp c282)); omega) (own_st1 (by omega) hg))))⟩ (by decide) (by decide)
        · refine Go.icmpYes C X284 (pc' := 104) d25_88 (flt c289).2.1 (by decide) (by decide) ?_
          refine Go.iload C X284 (pc' := 106) d25_104 rfl rfl ?_
          by_cases c302 : u6 = (0 : Int32)
          · refine Go.ifYes C X284 (pc' := 118) d25_106 ((if0 _ _).trans (teq c302).1) (by decide) (by decide) ?_
            refine Go.iload C X284 (pc' := 120) d25_118 rfl rfl ?_
            exact Go.retI C X284 d25_120 ⟨(u5 + (-1 : Int32)), rfl, K285, (AI.congr A284 (own_lf (own_l10 hd he (Nat.lt_of_not_le (fun q => c289 ((own_c9 hu).mpr q)))) (own_hs0 h6 c302) (own_st1 (by omega) hg)))⟩ (by decide) (by decide)
          · refine Go.ifNo C X284 (pc' := 109) d25_106 ((if0 _ _).trans (feq c302).1) rfl ?_
            refine Go.aloadN C X284 (pc' := 110) d25_109 rfl rfl rfl ?_
            refine Go.iinc C X284 (pc' := 113) (Ls' := #[.val (.int u0), .val (.int ix), .val (.ref bf), s3, s4, .val (.int ((u5 + (-1 : Int32)) + (-1 : Int32))), .val (.int u6)]) (v' := ((u5 + (-1 : Int32)) + (-1 : Int32))) d25_110 rfl (by rfl) rfl rfl ?_
            refine Go.iload C X284 (pc' := 115) d25_113 rfl rfl ?_
            refine Go.bipush C X284 (pc' := 117) (v := (45 : Int32)) d25_115 rfl rfl ?_
            refine Go.bastore C X284 (pc' := 118) (i := (K - (ed + 1 + 1))) (x' := (45 : Int32)) A284 (own_dnk (own_dnk h5 (by omega)) (by have := (own_l10 hd he (Nat.lt_of_not_le (fun q => c289 ((own_c9 hu).mpr q)))); have := own_hs1 h6 hv c302; omega)) (by omega) (by decide) f6 d25_117 rfl (fun T303 h303 X303 W303 A303 => ?_)
            have K304 : Keep h0 h303 [bf] := K285.wr W303 (Or.inl (List.mem_of_getElem? (i := 0) rfl))
            have O305 : Old Z n0 h303 := O286.wr W303 f6
            have A306 := A287.other W303 f7
            have A307 := A288.other W303 f8
            refine Go.iload C X303 (pc' := 120) d25_118 rfl rfl ?_
            exact Go.retI C X303 d25_120 ⟨((u5 + (-1 : Int32)) + (-1 : Int32)), rfl, K304, (AI.congr A303 (own_lfs (own_l10 hd he (Nat.lt_of_not_le (fun q => c289 ((own_c9 hu).mpr q)))) (own_hs1 h6 hv c302) (by have := (own_l10 hd he (Nat.lt_of_not_le (fun q => c289 ((own_c9 hu).mpr q)))); have := own_hs1 h6 hv c302; omega) (own_st1 (by omega) hg)))⟩ (by decide) (by decide)
      · refine Go.icmpNo C X_22 (pc' := 28) d25_25 (flt c282).2.2.1 rfl ?_
        refine Go.iloadN C X_22 (pc' := 29) d25_28 rfl rfl ?_
        refine Go.bipush C X_22 (pc' := 31) (v := (100 : Int32)) d25_29 rfl rfl ?_
        refine Go.idiv C X_22 (pc' := 32) d25_31 (by decide) rfl ?_
        refine Go.istoreN C X_22 (pc' := 33) (Ls' := #[.val (.int u0), .val (.int ix), .val (.ref bf), .val (.int (u0 / (100 : Int32))), s4, .val (.int u5), .val (.int u6)]) d25_32 (by rcases hs3 with rfl | ⟨w, rfl⟩ <;> rfl) rfl ?_
        refine Go.iloadN C X_22 (pc' := 34) d25_33 rfl rfl ?_
        refine Go.bipush C X_22 (pc' := 36) (v := (100 : Int32)) d25_34 rfl rfl ?_
        refine Go.imul C X_22 (pc' := 37) d25_36 rfl ?_
        refine Go.iloadN C X_22 (pc' := 38) d25_37 rfl rfl ?_
        refine Go.isub C X_22 (pc' := 39) d25_38 rfl ?_
        refine Go.istore C X_22 (pc' := 41) (Ls' := #[.val (.int u0), .val (.int ix), .val (.ref bf), .val (.int (u0 / (100 : Int32))), .val (.int (((u0 / (100 : Int32)) * (100 : Int32)) - u0)), .val (.int u5), .val (.int u6)]) d25_39 (by rcases hs4 with rfl | ⟨w, rfl⟩ <;> rfl) rfl ?_
        refine Go.iloadN C X_22 (pc' := 42) d25_41 rfl rfl ?_
        refine Go.istoreN C X_22 (pc' := 43) (Ls' := #[.val (.int (u0 / (100 : Int32))), .val (.int ix), .val (.ref bf), .val (.int (u0 / (100 : Int32))), .val (.int (((u0 / (100 : Int32)) * (100 : Int32)) - u0)), .val (.int u5), .val (.int u6)]) d25_42 rfl rfl ?_
        refine Go.aloadN C X_22 (pc' := 44) d25_43 rfl rfl rfl ?_
        refine Go.iinc C X_22 (pc' := 47) (Ls' := #[.val (.int (u0 / (100 : Int32))), .val (.int ix), .val (.ref bf), .val (.int (u0 / (100 : Int32))), .val (.int (((u0 / (100 : Int32)) * (100 : Int32)) - u0)), .val (.int (u5 + (-1 : Int32))), .val (.int u6)]) (v' := (u5 + (-1 : Int32))) d25_44 rfl (by rfl) rfl rfl ?_
        refine Go.iload C X_22 (pc' := 49) d25_47 rfl rfl ?_
        refine Go.getS C X_22 (pc' := 52) (own_w hw 145 rfl) Via.refl (f1.ext G22_0.2) d25_49 rfl (fun T308 X308 => ?_)
        refine Go.iload C X308 (pc' := 54) d25_52 rfl rfl ?_
        refine Go.baload C X308 (pc' := 55) (i := ((v / 10 ^ ed) % 100)) (w := (own_do ((v / 10 ^ ed) % 100))) G22_2 (own_rr hu) (Nat.mod_lt _ (by decide)) rfl d25_54 rfl ?_
        refine Go.bastore C X308 (pc' := 56) (i := (K - (ed + 1))) (x' := (own_dg v ed)) G22_1 (own_dnk h5 (by omega)) (by omega) (own_on v ed) f6 d25_55 rfl (fun T309 h309 X309 W309 A309 => ?_)
        have K310 : Keep h0 h309 [bf] := K_22.wr W309 (Or.inl (List.mem_of_getElem? (i := 0) rfl))
        have O311 : Old Z n0 h309 := G22_0.wr W309 f6
        have A312 := G22_2.other W309 f7
        have A313 := G22_3.other W309 f8
        refine Go.aloadN C X309 (pc' := 57) d25_56 rfl rfl rfl ?_
        refine Go.iinc C X309 (pc' := 60) (Ls' := #[.val (.int (u0 / (100 : Int32))), .val (.int ix), .val (.ref bf), .val (.int (u0 / (100 : Int32))), .val (.int (((u0 / (100 : Int32)) * (100 : Int32)) - u0)), .val (.int ((u5 + (-1 : Int32)) + (-1 : Int32))), .val (.int u6)]) (v' := ((u5 + (-1 : Int32)) + (-1 : Int32))) d25_57 rfl (by rfl) rfl rfl ?_
        refine Go.iload C X309 (pc' := 62) d25_60 rfl rfl ?_
        refine Go.getS C X309 (pc' := 65) (own_w hw 252 rfl) Via.refl (f2.ext O311.2) d25_62 rfl (fun T314 X314 => ?_)
        refine Go.iload C X314 (pc' := 67) d25_65 rfl rfl ?_
        refine Go.baload C X314 (pc' := 68) (i := ((v / 10 ^ ed) % 100)) (w := (own_dt ((v / 10 ^ ed) % 100))) A313 (own_rr hu) (Nat.mod_lt _ (by decide)) rfl d25_67 rfl ?_
        refine Go.bastore C X314 (pc' := 69) (i := (K - (ed + 1 + 1))) (x' := (own_dg v (ed + 1))) A309 (own_dnk (own_dnk h5 (by omega)) (by have := (own_w100 hd (Nat.le_of_not_lt (fun q => c282 ((own_c100 hu).mpr q)))); omega)) (by omega) (own_te v ed) f6 d25_68 rfl (fun T315 h315 X315 W315 A315 => ?_)
        have K316 : Keep h0 h315 [bf] := K310.wr W315 (Or.inl (List.mem_of_getElem? (i := 0) rfl))
        have O317 : Old Z n0 h315 := O311.wr W315 f6
        have A318 := A312.other W315 f7
        have A319 := A313.other W315 f8
        refine Go.goto C X315 (pc' := 22) d25_69 (by decide) (by decide) ?_
        exact ih_22 T315 h315 (ed + 1 + 1) (fun q => if q = (K - (ed + 1 + 1)) then (own_dg v (ed + 1)) else (fun q => if q = (K - (ed + 1)) then (own_dg v ed) else g1 q) q) (u0 / (100 : Int32)) ((u5 + (-1 : Int32)) + (-1 : Int32)) u6 (.val (.int (u0 / (100 : Int32)))) (.val (.int (((u0 / (100 : Int32)) * (100 : Int32)) - u0))) (by have := (own_w100 hd (Nat.le_of_not_lt (fun q => c282 ((own_c100 hu).mpr q)))); omega) (own_dnk (own_dnk h5 (by omega)) (by have := (own_w100 hd (Nat.le_of_not_lt (fun q => c282 ((own_c100 hu).mpr q)))); omega)) (own_qq hu) (by have := (own_w100 hd (Nat.le_of_not_lt (fun q => c282 ((own_c100 hu).mpr q)))); omega) (own_st1 (by have := (own_w100 hd (Nat.le_of_not_lt (fun q => c282 ((own_c100 hu).mpr q)))); omega) (own_st1 (by omega) hg)) h6 (Or.inr ⟨_, rfl⟩) (Or.inr ⟨_, rfl⟩) X315 K316 O317 A315 A318 A319
  refine Go.iloadN C X0 (pc' := 4) d25_3 rfl rfl ?_
  by_cases c320 : y0 < (0 : Int32)
  · refine Go.ifNo C X0 (pc' := 7) d25_4 ((if0 _ _).trans (tlt c320).2.1) rfl ?_
    refine Go.iconst C X0 (pc' := 8) (v := (1 : Int32)) d25_7 rfl rfl ?_
    refine Go.goto C X0 (pc' := 12) d25_8 (by decide) (by decide) ?_
    refine Go.istore C X0 (pc' := 14) (Ls' := #[.val (.int y0), .val (.int ix), .val (.ref bf), .unset, .unset, .val (.int ix), .val (.int (1 : Int32))]) d25_12 rfl rfl ?_
    refine Go.iload C X0 (pc' := 16) d25_14 rfl rfl ?_
    refine Go.ifYes C X0 (pc' := 22) d25_16 ((if0 _ _).trans (feq (by decide)).2) (by decide) (by decide) ?_
    exact Cut22 (_) T0 h0 0 g y0 ix (1 : Int32) (.unset) (.unset) (Nat.lt_succ_self _) hix (own_u0n hv c320) hd.1 (own_nn0 g K v) (own_s6n hv c320) (Or.inl rfl) (Or.inl rfl) X0 (Keep.refl h0 [bf]) f0 f5 f3 f4
  · refine Go.ifYes C X0 (pc' := 11) d25_4 ((if0 _ _).trans (flt c320).2.1) (by decide) (by decide) ?_
    refine Go.iconst C X0 (pc' := 12) (v := (0 : Int32)) d25_11 rfl rfl ?_
    refine Go.istore C X0 (pc' := 14) (Ls' := #[.val (.int y0), .val (.int ix), .val (.ref bf), .unset, .unset, .val (.int ix), .val (.int (0 : Int32))]) d25_12 rfl rfl ?_
    refine Go.iload C X0 (pc' := 16) d25_14 rfl rfl ?_
    refine Go.ifNo C X0 (pc' := 19) d25_16 ((if0 _ _).trans (teq (by decide)).2) rfl ?_
    refine Go.iloadN C X0 (pc' := 20) d25_19 rfl rfl ?_
    refine Go.ineg C X0 (pc' := 21) d25_20 rfl ?_
    refine Go.istoreN C X0 (pc' := 22) (Ls' := #[.val (.int (-y0)), .val (.int ix), .val (.ref bf), .unset, .unset, .val (.int ix), .val (.int (0 : Int32))]) d25_21 rfl rfl ?_
    exact Cut22 (_) T0 h0 0 g (-y0) ix (0 : Int32) (.unset) (.unset) (Nat.lt_succ_self _) hix (own_u0p hv c320) hd.1 (own_nn0 g K v) (own_s6p hv c320) (Or.inl rfl) (Or.inl rfl) X0 (Keep.refl h0 [bf]) f0 f5 f3 f4
theorem own_sumn {x : Int32} {y : Int32} {k N sg : Nat} (h : x.toInt = (k : Int)) (hs : y.toInt = ((N + sg : Nat) : Int)) (h16 : k + (N + sg) ≤ 16) : (x + y).toInt = ((k + (N + sg) : Nat) : Int) := own_sum h hs h16
theorem own_ef_rm_an (m : MethodId) (x0 : Addr) (x1 : Int32) : entryFrame m #[(.ref x0), (.int x1)] 4 = mkF m 0 #[.val (.ref x0), .val (.int x1), .unset, .unset] [] := by first | (simp [entryFrame, mkF, argsToLocals, Value.category]; done) | rfl
theorem d22_0 : decode jdk_68_method_32_code 0 = .ok (.aload_n 0, 1) := by decide +kernel
theorem d22_1 : decode jdk_68_method_32_code 1 = .ok (.getfield 79, 3) := by decide +kernel
theorem d22_4 : decode jdk_68_method_32_code 4 = .ok (.istore_n 2, 1) := by decide +kernel
theorem d22_5 : decode jdk_68_method_32_code 5 = .ok (.iload_n 2, 1) := by decide +kernel
theorem d22_6 : decode jdk_68_method_32_code 6 = .ok (.iload_n 1, 1) := by decide +kernel
theorem d22_7 : decode jdk_68_method_32_code 7 = .ok (.invokestatic 245, 3) := by decide +kernel
theorem own_pd20 : parseMethodDescriptor "(I)I" = some ⟨[.int], some .int⟩ := by decide +kernel
theorem d22_10 : decode jdk_68_method_32_code 10 = .ok (.iadd, 1) := by decide +kernel
theorem d22_11 : decode jdk_68_method_32_code 11 = .ok (.istore_n 3, 1) := by decide +kernel
theorem d22_12 : decode jdk_68_method_32_code 12 = .ok (.aload_n 0, 1) := by decide +kernel
theorem d22_13 : decode jdk_68_method_32_code 13 = .ok (.iload_n 3, 1) := by decide +kernel
theorem d22_14 : decode jdk_68_method_32_code 14 = .ok (.invokevirtual 100, 3) := by decide +kernel
theorem d22_17 : decode jdk_68_method_32_code 17 = .ok (.aload_n 0, 1) := by decide +kernel
theorem d22_18 : decode jdk_68_method_32_code 18 = .ok (.invokevirtual 83, 3) := by decide +kernel
theorem d22_21 : decode jdk_68_method_32_code 21 = .ok (.ifCond .eq 16, 3) := by decide +kernel
theorem d22_24 : decode jdk_68_method_32_code 24 = .ok (.iload_n 1, 1) := by decide +kernel
theorem d22_25 : decode jdk_68_method_32_code 25 = .ok (.iload_n 3, 1) := by decide +kernel
theorem d22_26 : decode jdk_68_method_32_code 26 = .ok (.aload_n 0, 1) := by decide +kernel
theorem d22_27 : decode jdk_68_method_32_code 27 = .ok (.getfield 15, 3) := by decide +kernel
theorem d22_30 : decode jdk_68_method_32_code 30 = .ok (.invokestatic 248, 3) := by decide +kernel
theorem own_pd21 : parseMethodDescriptor "(II[B)I" = some ⟨[.int, .int, (.array .byte)], some .int⟩ := by decide +kernel
theorem d22_33 : decode jdk_68_method_32_code 33 = .ok (.pop, 1) := by decide +kernel
theorem d22_34 : decode jdk_68_method_32_code 34 = .ok (.goto 14, 3) := by decide +kernel
theorem d22_48 : decode jdk_68_method_32_code 48 = .ok (.aload_n 0, 1) := by decide +kernel
theorem d22_49 : decode jdk_68_method_32_code 49 = .ok (.iload_n 3, 1) := by decide +kernel
theorem d22_50 : decode jdk_68_method_32_code 50 = .ok (.putfield 79, 3) := by decide +kernel
theorem d22_53 : decode jdk_68_method_32_code 53 = .ok (.aload_n 0, 1) := by decide +kernel
theorem d22_54 : decode jdk_68_method_32_code 54 = .ok (.areturn, 1) := by decide +kernel
set_option maxRecDepth 65536 in
set_option maxHeartbeats 40000000 in
theorem rm_an (l : Launch) (Z : State) (a0 : Array Value) (hw : ∀ d ∈ tables_1, d.before a0 Z = true) (a : Addr) (y1 : Int32) (t : Addr) (g : Nat → Int32) (kc : Int32) (k : Nat) (v : Nat) (N : Nat) (sg : Nat) (cs : Int32) (d1 : Addr) (d2 : Addr) (h0 : Heap) (n0 : Nat) (Z0 : n0 ≤ h0.size) (f0 : Old Z n0 h0) (f1 : Sta Z Z.heap "java/lang/String" "COMPACT_STRINGS" "Z" (.int cs)) (f2 : Sta Z Z.heap "java/lang/Integer" "DigitOnes" "[B" (.ref d1)) (f3 : Sta Z Z.heap "java/lang/Integer" "DigitTens" "[B" (.ref d2)) (f4 : AI Z h0 d1 .byte 100 own_do) (f5 : AI Z h0 d2 .byte 100 own_dt) (f6 : Exa Z h0 a "java/lang/StringBuilder") (f7 : Fld Z h0 a "java/lang/AbstractStringBuilder" "value" "[B" (.ref t)) (f8 : Fld Z h0 a "java/lang/AbstractStringBuilder" "coder" "B" (.int (0 : Int32))) (f9 : Fld Z h0 a "java/lang/AbstractStringBuilder" "count" "I" (.int kc)) (f10 : AI Z h0 t .byte 16 g) (f11 : n0 ≤ a) (f12 : n0 ≤ t) (f13 : a ≠ t) (f14 : d1 ≠ t) (f15 : d2 ≠ t) (f16 : d1 ≠ a) (f17 : d2 ≠ a) (hcs : ¬ cs = (0 : Int32)) (hk : kc.toInt = (k : Int)) (hv : own_sv y1 v sg) (hd : own_nd v N) (hss : (own_f_rm_ss y1).toInt = ((N + sg : Nat) : Int)) (h16 : k + (N + sg) ≤ 16) :
    Con l Z (⟨"java/lang/AbstractStringBuilder", "append", "(I)Ljava/lang/AbstractStringBuilder;"⟩ : MethodName) jdk_68_method_32_code 4 (some (.object "java/lang/AbstractStringBuilder")) ({ frames := 1, cells := 0, slots := 0, locals := 18 } : Room) #[(.ref a), (.int y1)] h0 n0 (fun rv hv => rv = some (.ref a) ∧ Keep h0 hv [a, t] ∧ Exa Z hv a "java/lang/StringBuilder" ∧ Fld Z hv a "java/lang/AbstractStringBuilder" "value" "[B" (.ref t) ∧ Fld Z hv a "java/lang/AbstractStringBuilder" "coder" "B" (.int (0 : Int32)) ∧ Fld Z hv a "java/lang/AbstractStringBuilder" "count" "I" (.int (kc + (own_f_rm_ss y1))) ∧ AI Z hv t .byte 16 (own_num g (k + (N + sg)) v N sg)) := by
  refine Con.enter (plainFor_of_name own_pn4) Z0 ?_
  intro p e s m below meth c T0 C hnm X0
  refine Go.cast (own_ef_rm_an m a y1) ?_
  refine Go.aloadN C X0 (pc' := 1) d22_0 rfl rfl rfl ?_
  refine Go.getF C X0 (pc' := 4) (host := "") (Or.inl (own_w hw 94 rfl)) Via.refl f9 d22_1 rfl (fun T321 X321 => ?_)
  refine Go.istoreN C X321 (pc' := 5) (Ls' := #[.val (.ref a), .val (.int y1), .val (.int kc), .unset]) d22_4 rfl rfl ?_
  refine Go.iloadN C X321 (pc' := 6) d22_5 rfl rfl ?_
  refine Go.iloadN C X321 (pc' := 7) d22_6 rfl rfl ?_
  refine Go.callS C X321 (pc' := 10) (W := 1) (argsL := [(.int y1)]) (rest := [(.int kc)]) (rm_ss l Z a0 hw y1 h0 n0 X321.sz ) (own_w hw 133 rfl) (own_w hw 134 rfl) (own_w hw 135 rfl) (own_w hw 136 rfl) (by decide) rfl rfl (lenOf own_pd20 rfl) rfl (Nat.le_of_eq rfl) (by decide) (by decide) (by decide) (by decide) d22_7 rfl (fun _ _ q => Nat.le_of_eq (congrArg Array.size q.2)) (fun T322 h322 v322 X322 P322 => ?_)
  obtain ⟨rfl, rfl⟩ := P322
  show Go p e below _ n0 _ _ _ T322 (mkF m 10 #[.val (.ref a), .val (.int y1), .val (.int kc), .unset] [(.int (own_f_rm_ss y1)), (.int kc)])
  refine Go.iadd C X322 (pc' := 11) d22_10 rfl ?_
  refine Go.istoreN C X322 (pc' := 12) (Ls' := #[.val (.ref a), .val (.int y1), .val (.int kc), .val (.int (kc + (own_f_rm_ss y1)))]) d22_11 rfl rfl ?_
  refine Go.aloadN C X322 (pc' := 13) d22_12 rfl rfl rfl ?_
  refine Go.iloadN C X322 (pc' := 14) d22_13 rfl rfl ?_
  refine Go.callQ C X322 (pc' := 17) (W := 0) (argsL := [(.int (kc + (own_f_rm_ss y1)))]) (rest := []) (a := a) (rm_ec l Z a0 hw a (kc + (own_f_rm_ss y1)) t g h0 n0 X322.sz f7 f8 f10 (by rw [own_sumn hk hss h16]; omega)) f6 (own_w hw 96 rfl) (own_w hw 97 rfl) (own_w hw 99 rfl) (own_w hw 98 rfl) (own_w hw 66 rfl) (own_w hw 100 rfl) (by decide) rfl rfl (lenOf own_pd9 rfl) rfl (Nat.le_of_eq rfl) (by decide) (by decide) (by decide) (by decide) d22_14 rfl (fun _ _ q => Nat.le_of_eq (congrArg Array.size q.2)) (fun T323 h323 v323 X323 P323 => ?_)
  obtain ⟨rfl, rfl⟩ := P323
  show Go p e below _ n0 _ _ _ T323 (mkF m 17 #[.val (.ref a), .val (.int y1), .val (.int kc), .val (.int (kc + (own_f_rm_ss y1)))] [])
  refine Go.aloadN C X323 (pc' := 18) d22_17 rfl rfl rfl ?_
  refine Go.callV C X323 (pc' := 21) (W := 0) (argsL := []) (rest := []) (a := a) (rm_al l Z a0 hw a cs h0 n0 X323.sz f0 f1 f8 hcs) f6 (notFace_of_selects (args := #[]) (mvT C.2.1 (own_w hw 140 rfl))) (own_w hw 137 rfl) (own_w hw 138 rfl) (own_w hw 140 rfl) (own_w hw 139 rfl) (own_w hw 66 rfl) (own_w hw 141 rfl) (by decide) rfl rfl (lenOf own_pd3 rfl) rfl (Nat.le_of_eq rfl) (by decide) (by decide) (by decide) (by decide) d22_18 rfl (fun _ _ q => Nat.le_of_eq (congrArg Array.size q.2)) (fun T324 h324 v324 X324 P324 => ?_)
  obtain ⟨rfl, rfl⟩ := P324
  show Go p e below _ n0 _ _ _ T324 (mkF m 21 #[.val (.ref a), .val (.int y1), .val (.int kc), .val (.int (kc + (own_f_rm_ss y1)))] [(.int (1 : Int32))])
  refine Go.ifNo C X324 (pc' := 24) d22_21 ((if0 _ _).trans (feq (by decide)).1) rfl ?_
  refine Go.iloadN C X324 (pc' := 25) d22_24 rfl rfl ?_
  refine Go.iloadN C X324 (pc' := 26) d22_25 rfl rfl ?_
  refine Go.aloadN C X324 (pc' := 27) d22_26 rfl rfl rfl ?_
  refine Go.getF C X324 (pc' := 30) (host := "") (Or.inl (own_w hw 70 rfl)) Via.refl f7 d22_27 rfl (fun T325 X325 => ?_)
  refine Go.callS C X325 (pc' := 33) (W := 0) (argsL := [(.int y1), (.int (kc + (own_f_rm_ss y1))), (.ref t)]) (rest := []) (rm_gc l Z a0 hw y1 (kc + (own_f_rm_ss y1)) t d1 d2 g (k + (N + sg)) v N sg h0 n0 X325.sz f0 f2 f3 f4 f5 f10 f12 f14 f15 (own_sumn hk hss h16) hv hd (by omega) h16) (own_w hw 142 rfl) (own_w hw 143 rfl) (own_w hw 135 rfl) (own_w hw 144 rfl) (by decide) rfl rfl (lenOf own_pd21 rfl) rfl (Nat.le_of_eq rfl) (by decide) (by decide) (by decide) (by decide) d22_30 rfl (fun _ _ q => by obtain ⟨_, _, K, _⟩ := q; exact K.1) (fun T326 h326 v326 X326 P326 => ?_)
  obtain ⟨r326, rfl, K326, O326_0⟩ := P326
  have K327 : Keep h0 h326 [a, t] := (Keep.refl h0 [a, t]).trans K326 (allS (Or.inl (List.mem_of_getElem? (i := 1) rfl)) all0)
  have O328 : Old Z n0 h326 := f0.keep K326 (allS f12 all0)
  have A329 := f4.keep K326 (ninS f14 nin0)
  have A330 := f5.keep K326 (ninS f15 nin0)
  have E331 := f6.keep K326
  have F332 := f7.keep K326 (ninS f13 nin0)
  have F333 := f8.keep K326 (ninS f13 nin0)
  have F334 := f9.keep K326 (ninS f13 nin0)
  show Go p e below _ n0 _ _ _ T326 (mkF m 33 #[.val (.ref a), .val (.int y1), .val (.int kc), .val (.int (kc + (own_f_rm_ss y1)))] [(.int r326)])
  refine Go.pop C X326 (pc' := 34) d22_33 rfl rfl ?_
  refine Go.goto C X326 (pc' := 48) d22_34 (by decide) (by decide) ?_
  refine Go.aloadN C X326 (pc' := 49) d22_48 rfl rfl rfl ?_
  refine Go.iloadN C X326 (pc' := 50) d22_49 rfl rfl ?_
  refine Go.putF C X326 (pc' := 53) (host := "") (Or.inl (own_w hw 94 rfl)) Via.refl F334 E331 (Or.inl (own_w hw 95 rfl)) (own_w hw 57 rfl) f11 (ty := .int) (by decide) rfl rfl d22_50 rfl (fun T335 h335 X335 W335 => ?_)
  have Fw335 := F334.same W335
  have K336 : Keep h0 h335 [a, t] := K327.wr W335 (Or.inl (List.mem_of_getElem? (i := 0) rfl))
  have O337 : Old Z n0 h335 := O328.wr W335 f11
  have A338 := A329.other W335 f16
  have A339 := A330.other W335 f17
  have E340 := E331.wr W335
  have F341 := F332.other W335 (Or.inr (slot_ne (Or.inl (own_w hw 71 rfl)) (Or.inl (own_w hw 95 rfl)) (by decide) (t := (.array .byte)) (t' := .int) (by decide) (by decide)))
  have F342 := F333.other W335 (Or.inr (slot_ne (Or.inl (own_w hw 73 rfl)) (Or.inl (own_w hw 95 rfl)) (by decide) (t := .byte) (t' := .int) (by decide) (by decide)))
  have A343 := O326_0.other W335 (Ne.symm f13)
  refine Go.aloadN C X335 (pc' := 54) d22_53 rfl rfl rfl ?_
  exact Go.retA C X335 rfl d22_54 ⟨rfl, K336, E340, F341, F342, Fw335, A343⟩ (by decide) (by decide)
theorem own_ef_rm_bn (m : MethodId) (x0 : Addr) (x1 : Int32) : entryFrame m #[(.ref x0), (.int x1)] 2 = mkF m 0 #[.val (.ref x0), .val (.int x1)] [] := by first | (simp [entryFrame, mkF, argsToLocals, Value.category]; done) | rfl
theorem d21_0 : decode jdk_67_method_15_code 0 = .ok (.aload_n 0, 1) := by decide +kernel
theorem d21_1 : decode jdk_67_method_15_code 1 = .ok (.iload_n 1, 1) := by decide +kernel
theorem d21_2 : decode jdk_67_method_15_code 2 = .ok (.invokespecial 53, 3) := by decide +kernel
theorem own_pd22 : parseMethodDescriptor "(I)Ljava/lang/AbstractStringBuilder;" = some ⟨[.int], some (.object "java/lang/AbstractStringBuilder")⟩ := by decide +kernel
theorem d21_5 : decode jdk_67_method_15_code 5 = .ok (.pop, 1) := by decide +kernel
theorem d21_6 : decode jdk_67_method_15_code 6 = .ok (.aload_n 0, 1) := by decide +kernel
theorem d21_7 : decode jdk_67_method_15_code 7 = .ok (.areturn, 1) := by decide +kernel
set_option maxRecDepth 65536 in
set_option maxHeartbeats 40000000 in
theorem rm_bn (l : Launch) (Z : State) (a0 : Array Value) (hw : ∀ d ∈ tables_1, d.before a0 Z = true) (a : Addr) (y1 : Int32) (t : Addr) (g : Nat → Int32) (kc : Int32) (k : Nat) (v : Nat) (N : Nat) (sg : Nat) (cs : Int32) (d1 : Addr) (d2 : Addr) (h0 : Heap) (n0 : Nat) (Z0 : n0 ≤ h0.size) (f0 : Old Z n0 h0) (f1 : Sta Z Z.heap "java/lang/String" "COMPACT_STRINGS" "Z" (.int cs)) (f2 : Sta Z Z.heap "java/lang/Integer" "DigitOnes" "[B" (.ref d1)) (f3 : Sta Z Z.heap "java/lang/Integer" "DigitTens" "[B" (.ref d2)) (f4 : AI Z h0 d1 .byte 100 own_do) (f5 : AI Z h0 d2 .byte 100 own_dt) (f6 : Exa Z h0 a "java/lang/StringBuilder") (f7 : Fld Z h0 a "java/lang/AbstractStringBuilder" "value" "[B" (.ref t)) (f8 : Fld Z h0 a "java/lang/AbstractStringBuilder" "coder" "B" (.int (0 : Int32))) (f9 : Fld Z h0 a "java/lang/AbstractStringBuilder" "count" "I" (.int kc)) (f10 : AI Z h0 t .byte 16 g) (f11 : n0 ≤ a) (f12 : n0 ≤ t) (f13 : a ≠ t) (f14 : d1 ≠ t) (f15 : d2 ≠ t) (f16 : d1 ≠ a) (f17 : d2 ≠ a) (hcs : ¬ cs = (0 : Int32)) (hk : kc.toInt = (k : Int)) (hv : own_sv y1 v sg) (hd : own_nd v N) (hss : (own_f_rm_ss y1).toInt = ((N + sg : Nat) : Int)) (h16 : k + (N + sg) ≤ 16) :
    Con l Z (⟨"java/lang/StringBuilder", "append", "(I)Ljava/lang/StringBuilder;"⟩ : MethodName) jdk_67_method_15_code 2 (some (.object "java/lang/StringBuilder")) ({ frames := 2, cells := 0, slots := 0, locals := 33 } : Room) #[(.ref a), (.int y1)] h0 n0 (fun rv hv => rv = some (.ref a) ∧ Keep h0 hv [a, t] ∧ Exa Z hv a "java/lang/StringBuilder" ∧ Fld Z hv a "java/lang/AbstractStringBuilder" "value" "[B" (.ref t) ∧ Fld Z hv a "java/lang/AbstractStringBuilder" "coder" "B" (.int (0 : Int32)) ∧ Fld Z hv a "java/lang/AbstractStringBuilder" "count" "I" (.int (kc + (own_f_rm_ss y1))) ∧ AI Z hv t .byte 16 (own_num g (k + (N + sg)) v N sg)) := by
  refine Con.enter (plainFor_of_name own_pn5) Z0 ?_
  intro p e s m below meth c T0 C hnm X0
  refine Go.cast (own_ef_rm_bn m a y1) ?_
  refine Go.aloadN C X0 (pc' := 1) d21_0 rfl rfl rfl ?_
  refine Go.iloadN C X0 (pc' := 2) d21_1 rfl rfl ?_
  refine Go.callU C X0 (pc' := 5) (W := 0) (argsL := [(.int y1)]) (rest := []) (a := a) (rm_an l Z a0 hw a y1 t g kc k v N sg cs d1 d2 h0 n0 X0.sz f0 f1 f2 f3 f4 f5 f6 f7 f8 f9 f10 f11 f12 f13 f14 f15 f16 f17 hcs hk hv hd hss h16) (Ins.self f6) (by decide) (own_w hw 129 rfl) (own_same (z := (⟨"java/lang/AbstractStringBuilder", "ensureCapacityInternal", "(I)V"⟩ : MethodName)) rfl (own_w hw 99 rfl) (own_w hw 130 rfl) (by decide)) (own_w hw 130 rfl) (own_w hw 81 rfl) (own_w hw 66 rfl) (own_w hw 132 rfl) rfl rfl (lenOf own_pd22 rfl) rfl (Nat.le_of_eq rfl) (by decide) (by decide) (by decide) (by decide) d21_2 rfl (fun _ _ q => by obtain ⟨_, K, _⟩ := q; exact K.1) (fun T344 h344 v344 X344 P344 => ?_)
  obtain ⟨rfl, K344, O344_0, O344_1, O344_2, O344_3, O344_4⟩ := P344
  have K345 : Keep h0 h344 [a, t] := (Keep.refl h0 [a, t]).trans K344 (allS (Or.inl (List.mem_of_getElem? (i := 0) rfl)) (allS (Or.inl (List.mem_of_getElem? (i := 1) rfl)) all0))
  have O346 : Old Z n0 h344 := f0.keep K344 (allS f11 (allS f12 all0))
  have A347 := f4.keep K344 (ninS f16 (ninS f14 nin0))
  have A348 := f5.keep K344 (ninS f17 (ninS f15 nin0))
  have E349 := f6.keep K344
  show Go p e below _ n0 _ _ _ T344 (mkF m 5 #[.val (.ref a), .val (.int y1)] [(.ref a)])
  refine Go.pop C X344 (pc' := 6) d21_5 rfl rfl ?_
  refine Go.aloadN C X344 (pc' := 7) d21_6 rfl rfl rfl ?_
  exact Go.retA C X344 rfl d21_7 ⟨rfl, K345, O344_0, O344_1, O344_2, O344_3, O344_4⟩ (by decide) (by decide)
theorem d47_0 : decode jdk_43_method_3_code 0 = .ok (.iload_n 0, 1) := by decide +kernel
theorem d47_1 : decode jdk_43_method_3_code 1 = .ok (.sipush 255, 3) := by decide +kernel
theorem d47_4 : decode jdk_43_method_3_code 4 = .ok (.if_icmp .gt 7, 3) := by decide +kernel
theorem d47_11 : decode jdk_43_method_3_code 11 = .ok (.iconst 0, 1) := by decide +kernel
theorem d47_12 : decode jdk_43_method_3_code 12 = .ok (.ireturn, 1) := by decide +kernel
theorem d47_7 : decode jdk_43_method_3_code 7 = .ok (.iconst 1, 1) := by decide +kernel
theorem d47_8 : decode jdk_43_method_3_code 8 = .ok (.goto 4, 3) := by decide +kernel
def own_f_rm_ce (y0 : Int32) : Int32 := (if (255 : Int32) < y0 then (0 : Int32) else (1 : Int32))
theorem own_ef_rm_ce (m : MethodId) (x0 : Int32) : entryFrame m #[(.int x0)] 1 = mkF m 0 #[.val (.int x0)] [] := by first | (simp [entryFrame, mkF, argsToLocals, Value.category]; done) | rfl
set_option maxRecDepth 65536 in
set_option maxHeartbeats 40000000 in
theorem rm_ce (l : Launch) (Z : State) (a0 : Array Value) (hw : ∀ d ∈ tables_1, d.before a0 Z = true) (y0 : Int32) (h0 : Heap) (n0 : Nat) (Z0 : n0 ≤ h0.size)  :
    Con l Z (⟨"java/lang/StringLatin1", "canEncode", "(C)Z"⟩ : MethodName) jdk_43_method_3_code 1 (some .boolean) ({ frames := 0, cells := 0, slots := 0, locals := 0 } : Room) #[(.int y0)] h0 n0 (fun rv hv => rv = some (.int (own_f_rm_ce y0)) ∧ h0 = hv) := by
  refine Con.enter (plainFor_of_name own_pn2) Z0 ?_
  intro p e s m below meth c T0 C hnm X0
  refine Go.cast (own_ef_rm_ce m y0) ?_
  refine Go.iloadN C X0 (pc' := 1) d47_0 rfl rfl ?_
  refine Go.sipush C X0 (pc' := 4) (v := (255 : Int32)) d47_1 rfl rfl ?_
  by_cases c351 : (255 : Int32) < y0
  · refine Go.icmpYes C X0 (pc' := 11) d47_4 (tlt c351).2.2.1 (by decide) (by decide) ?_
    refine Go.iconst C X0 (pc' := 12) (v := (0 : Int32)) d47_11 rfl rfl ?_
    exact Go.retZ (t := .boolean) C X0 (z' := (0 : Int32)) (by decide) d47_12 ⟨by show some (Value.int (0 : Int32)) = some (Value.int (own_f_rm_ce y0)); unfold own_f_rm_ce; rw [if_pos c351], rfl⟩ (by decide) (by decide)
  · refine Go.icmpNo C X0 (pc' := 7) d47_4 (flt c351).2.2.1 rfl ?_
    refine Go.iconst C X0 (pc' := 8) (v := (1 : Int32)) d47_7 rfl rfl ?_
    refine Go.goto C X0 (pc' := 12) d47_8 (by decide) (by decide) ?_
    exact Go.retZ (t := .boolean) C X0 (z' := (1 : Int32)) (by decide) d47_12 ⟨by show some (Value.int (1 : Int32)) = some (Value.int (own_f_rm_ce y0)); unfold own_f_rm_ce; rw [if_neg c351], rfl⟩ (by decide) (by decide)
theorem own_b1e (y : Int32) : ∀ i, i < 1 → (fun q => if q = 0 then (y.toInt8.toInt32) else (fun _ => (0 : Int32)) q) i = own_b1 y i := fun i _ => rfl
theorem own_ef_rm_tb (m : MethodId) (x0 : Int32) : entryFrame m #[(.int x0)] 1 = mkF m 0 #[.val (.int x0)] [] := by first | (simp [entryFrame, mkF, argsToLocals, Value.category]; done) | rfl
theorem d48_0 : decode jdk_43_method_46_code 0 = .ok (.iconst 1, 1) := by decide +kernel
theorem d48_1 : decode jdk_43_method_46_code 1 = .ok (.newarray .byte, 2) := by decide +kernel
theorem d48_3 : decode jdk_43_method_46_code 3 = .ok (.dup, 1) := by decide +kernel
theorem d48_4 : decode jdk_43_method_46_code 4 = .ok (.iconst 0, 1) := by decide +kernel
theorem d48_5 : decode jdk_43_method_46_code 5 = .ok (.iload_n 0, 1) := by decide +kernel
theorem d48_6 : decode jdk_43_method_46_code 6 = .ok (.i2b, 1) := by decide +kernel
theorem d48_7 : decode jdk_43_method_46_code 7 = .ok (.bastore, 1) := by decide +kernel
theorem d48_8 : decode jdk_43_method_46_code 8 = .ok (.areturn, 1) := by decide +kernel
set_option maxRecDepth 65536 in
set_option maxHeartbeats 40000000 in
theorem rm_tb (l : Launch) (Z : State) (a0 : Array Value) (hw : ∀ d ∈ tables_1, d.before a0 Z = true) (y0 : Int32)  (h0 : Heap) (n0 : Nat) (Z0 : n0 ≤ h0.size)  :
    Con l Z (⟨"java/lang/StringLatin1", "toBytes", "(C)[B"⟩ : MethodName) jdk_43_method_46_code 1 (some (.array .byte)) ({ frames := 0, cells := 1, slots := 1, locals := 0 } : Room) #[(.int y0)] h0 n0 (fun rv hv => ∃ t : Addr, rv = some (.ref t) ∧ h0.size ≤ t ∧ Keep h0 hv [] ∧ AI Z hv t .byte 1 (own_b1 y0)) := by
  refine Con.enter (plainFor_of_name own_pn2) Z0 ?_
  intro p e s m below meth c T0 C hnm X0
  refine Go.cast (own_ef_rm_tb m y0) ?_
  refine Go.iconst C X0 (pc' := 1) (v := (1 : Int32)) d48_0 rfl rfl ?_
  refine Go.newP C X0 (pc' := 3) (nn := 1) (cap := 1) (own_w hw 19 rfl) d48_1 rfl (by decide) (by decide) (by decide) (by decide) rfl (fun T352 h352 b352 k352 X352 g352 E352 Ar352 N352 => ?_)
  have Q352 : h0.size ≤ b352 := Nat.le_trans (Keep.refl h0 []).1 (Nat.le_of_eq g352.symm)
  have K353 : Keep h0 h352 [] := (Keep.refl h0 []).ext E352
  have A352 : AI Z h352 b352 .byte 1 (fun _ => 0) := AI.new rfl rfl Ar352
  refine Go.dup C X352 (pc' := 4) d48_3 rfl rfl ?_
  refine Go.iconst C X352 (pc' := 5) (v := (0 : Int32)) d48_4 rfl rfl ?_
  refine Go.iloadN C X352 (pc' := 6) d48_5 rfl rfl ?_
  refine Go.i2b C X352 (pc' := 7) d48_6 rfl ?_
  refine Go.bastore C X352 (pc' := 8) (i := 0) (x' := ((y0).toInt8.toInt32)) A352 rfl (by decide) (own_b2 _) N352 d48_7 rfl (fun T354 h354 X354 W354 A354 => ?_)
  have K355 : Keep h0 h354 [] := K353.wr W354 (Or.inr Q352)
  exact Go.retAA C X354 rfl d48_8 ⟨b352, rfl, Q352, K355, (AI.congr A354 (own_b1e y0))⟩ (by decide) (by decide)
theorem own_ef_rm_si (m : MethodId) (x0 : Addr) (x1 : Addr) (x2 : Int32) : entryFrame m #[(.ref x0), (.ref x1), (.int x2)] 3 = mkF m 0 #[.val (.ref x0), .val (.ref x1), .val (.int x2)] [] := by first | (simp [entryFrame, mkF, argsToLocals, Value.category]; done) | rfl
theorem d49_0 : decode jdk_42_method_151_code 0 = .ok (.aload_n 0, 1) := by decide +kernel
theorem d49_1 : decode jdk_42_method_151_code 1 = .ok (.invokespecial 1, 3) := by decide +kernel
theorem d49_4 : decode jdk_42_method_151_code 4 = .ok (.aload_n 0, 1) := by decide +kernel
theorem d49_5 : decode jdk_42_method_151_code 5 = .ok (.aload_n 1, 1) := by decide +kernel
theorem d49_6 : decode jdk_42_method_151_code 6 = .ok (.putfield 9, 3) := by decide +kernel
theorem d49_9 : decode jdk_42_method_151_code 9 = .ok (.aload_n 0, 1) := by decide +kernel
theorem d49_10 : decode jdk_42_method_151_code 10 = .ok (.iload_n 2, 1) := by decide +kernel
theorem d49_11 : decode jdk_42_method_151_code 11 = .ok (.putfield 15, 3) := by decide +kernel
theorem d49_14 : decode jdk_42_method_151_code 14 = .ok (.return_, 1) := by decide +kernel
set_option maxRecDepth 65536 in
set_option maxHeartbeats 40000000 in
theorem rm_si (l : Launch) (Z : State) (a0 : Array Value) (hw : ∀ d ∈ tables_1, d.before a0 Z = true) (a : Addr) (b : Addr) (cd : Int32)  (h0 : Heap) (n0 : Nat) (Z0 : n0 ≤ h0.size) (f0 : Exa Z h0 a "java/lang/String") (f1 : Fld Z h0 a "java/lang/String" "value" "[B" .null) (f2 : Fld Z h0 a "java/lang/String" "coder" "B" (.int (0 : Int32))) (f3 : n0 ≤ a) (hcd : cd = (0 : Int32)) :
    Con l Z (⟨"java/lang/String", "<init>", "([BB)V"⟩ : MethodName) jdk_42_method_151_code 3 none ({ frames := 1, cells := 0, slots := 0, locals := 12 } : Room) #[(.ref a), (.ref b), (.int cd)] h0 n0 (fun rv hv => rv = none ∧ Keep h0 hv [a] ∧ Exa Z hv a "java/lang/String" ∧ Fld Z hv a "java/lang/String" "value" "[B" (.ref b) ∧ Fld Z hv a "java/lang/String" "coder" "B" (.int (0 : Int32))) := by
  refine Con.enter (plainFor_of_name own_pn0) Z0 ?_
  intro p e s m below meth c T0 C hnm X0
  refine Go.cast (own_ef_rm_si m a b cd) ?_
  rw [hcd]
  refine Go.aloadN C X0 (pc' := 1) d49_0 rfl rfl rfl ?_
  refine Go.initO C X0 (pc' := 4) (fun locs X eT => RoadKit.initO X C.1 C.2.1 C.2.2.2.1 (own_w hw 11 rfl) (own_w hw 12 rfl) (own_w hw 13 rfl) eT (g := (mkF m 1 #[.val (.ref a), .val (.ref b), .val (.int (0 : Int32))] [(.ref a)])) rfl (by rw [C.2.2.2.2.1]; rfl) rfl (hb C.2.2.1 d49_1) (by decide) (W := 0) (by show 2 * 0 + _ ≤ _; exact Nat.le_of_eq rfl) (by decide)) rfl (fun T356 X356 => ?_)
  refine Go.aloadN C X356 (pc' := 5) d49_4 rfl rfl rfl ?_
  refine Go.aloadN C X356 (pc' := 6) d49_5 rfl rfl rfl ?_
  refine Go.putF C X356 (pc' := 9) (host := "") (Or.inl (own_w hw 28 rfl)) Via.refl f1 f0 (Or.inr ⟨(own_w hw 29 rfl), rfl, hnm⟩) (own_w hw 1 rfl) f3 (ty := (.array .byte)) (by decide) rfl rfl d49_6 rfl (fun T357 h357 X357 W357 => ?_)
  have Fw357 := f1.same W357
  have K358 : Keep h0 h357 [a] := (Keep.refl h0 [a]).wr W357 (Or.inl (List.mem_of_getElem? (i := 0) rfl))
  have E359 := f0.wr W357
  have F360 := f2.other W357 (Or.inr (slot_ne (Or.inr (own_w hw 27 rfl)) (Or.inr (own_w hw 29 rfl)) (by decide) (t := .byte) (t' := (.array .byte)) (by decide) (by decide)))
  refine Go.aloadN C X357 (pc' := 10) d49_9 rfl rfl rfl ?_
  refine Go.iloadN C X357 (pc' := 11) d49_10 rfl rfl ?_
  refine Go.putFN C X357 (pc' := 14) (own_w hw 26 rfl) Via.refl F360 E359 (Or.inr ⟨(own_w hw 27 rfl), rfl, hnm⟩) (own_w hw 1 rfl) f3 (ty := .byte) (v' := (.int (0 : Int32))) (by decide) (by decide) (by decide) d49_11 rfl (fun T361 h361 X361 W361 => ?_)
  have Fw361 := F360.same W361
  have K362 : Keep h0 h361 [a] := K358.wr W361 (Or.inl (List.mem_of_getElem? (i := 0) rfl))
  have E363 := E359.wr W361
  have F364 := Fw357.other W361 (Or.inr (slot_ne (Or.inr (own_w hw 29 rfl)) (Or.inr (own_w hw 27 rfl)) (by decide) (t := (.array .byte)) (t' := .byte) (by decide) (by decide)))
  exact Go.retV C X361 d49_14 ⟨rfl, K362, E363, F364, Fw361⟩ (by decide) (by decide)
theorem own_ef_rm_vo (m : MethodId) (x0 : Int32) : entryFrame m #[(.int x0)] 1 = mkF m 0 #[.val (.int x0)] [] := by first | (simp [entryFrame, mkF, argsToLocals, Value.category]; done) | rfl
theorem d46_0 : decode jdk_42_method_139_code 0 = .ok (.getstatic 38, 3) := by decide +kernel
theorem d46_3 : decode jdk_42_method_139_code 3 = .ok (.ifCond .eq 23, 3) := by decide +kernel
theorem d46_6 : decode jdk_42_method_139_code 6 = .ok (.iload_n 0, 1) := by decide +kernel
theorem d46_7 : decode jdk_42_method_139_code 7 = .ok (.invokestatic 1015, 3) := by decide +kernel
theorem own_pd23 : parseMethodDescriptor "(C)Z" = some ⟨[.char], some .boolean⟩ := by decide +kernel
theorem d46_10 : decode jdk_42_method_139_code 10 = .ok (.ifCond .eq 16, 3) := by decide +kernel
theorem d46_13 : decode jdk_42_method_139_code 13 = .ok (.new 10, 3) := by decide +kernel
theorem d46_16 : decode jdk_42_method_139_code 16 = .ok (.dup, 1) := by decide +kernel
theorem d46_17 : decode jdk_42_method_139_code 17 = .ok (.iload_n 0, 1) := by decide +kernel
theorem d46_18 : decode jdk_42_method_139_code 18 = .ok (.invokestatic 1018, 3) := by decide +kernel
theorem own_pd24 : parseMethodDescriptor "(C)[B" = some ⟨[.char], some (.array .byte)⟩ := by decide +kernel
theorem d46_21 : decode jdk_42_method_139_code 21 = .ok (.iconst 0, 1) := by decide +kernel
theorem d46_22 : decode jdk_42_method_139_code 22 = .ok (.invokespecial 209, 3) := by decide +kernel
theorem own_pd25 : parseMethodDescriptor "([BB)V" = some ⟨[(.array .byte), .byte], none⟩ := by decide +kernel
theorem d46_25 : decode jdk_42_method_139_code 25 = .ok (.areturn, 1) := by decide +kernel
set_option maxRecDepth 65536 in
set_option maxHeartbeats 40000000 in
theorem rm_vo (l : Launch) (Z : State) (a0 : Array Value) (hw : ∀ d ∈ tables_1, d.before a0 Z = true) (y0 : Int32) (cs : Int32) (h0 : Heap) (n0 : Nat) (Z0 : n0 ≤ h0.size) (f0 : Old Z n0 h0) (f1 : Sta Z Z.heap "java/lang/String" "COMPACT_STRINGS" "Z" (.int cs)) (hcs : ¬ cs = (0 : Int32)) (hc : ¬ (255 : Int32) < y0) :
    Con l Z (⟨"java/lang/String", "valueOf", "(C)Ljava/lang/String;"⟩ : MethodName) jdk_42_method_139_code 1 (some (.object "java/lang/String")) ({ frames := 2, cells := 2, slots := 5, locals := 27 } : Room) #[(.int y0)] h0 n0 (fun rv hv => ∃ u : Addr, ∃ b1 : Addr, rv = some (.ref u) ∧ h0.size ≤ u ∧ h0.size ≤ b1 ∧ Keep h0 hv [] ∧ Exa Z hv u "java/lang/String" ∧ Fld Z hv u "java/lang/String" "value" "[B" (.ref b1) ∧ Fld Z hv u "java/lang/String" "coder" "B" (.int (0 : Int32)) ∧ AI Z hv b1 .byte 1 (own_b1 y0)) := by
  refine Con.enter (plainFor_of_name own_pn0) Z0 ?_
  intro p e s m below meth c T0 C hnm X0
  refine Go.cast (own_ef_rm_vo m y0) ?_
  refine Go.getS C X0 (pc' := 3) (own_w hw 14 rfl) Via.refl (f1.ext f0.2) d46_0 rfl (fun T365 X365 => ?_)
  refine Go.ifNo C X365 (pc' := 6) d46_3 ((if0 _ _).trans (feq hcs).1) rfl ?_
  refine Go.iloadN C X365 (pc' := 7) d46_6 rfl rfl ?_
  refine Go.callS C X365 (pc' := 10) (W := 0) (argsL := [(.int y0)]) (rest := []) (rm_ce l Z a0 hw y0 h0 n0 X365.sz ) (own_w hw 241 rfl) (own_w hw 242 rfl) (own_w hw 211 rfl) (own_w hw 243 rfl) (by decide) rfl rfl (lenOf own_pd23 rfl) rfl (Nat.le_of_eq rfl) (by decide) (by decide) (by decide) (by decide) d46_7 rfl (fun _ _ q => Nat.le_of_eq (congrArg Array.size q.2)) (fun T366 h366 v366 X366 P366 => ?_)
  obtain ⟨rfl, rfl⟩ := P366
  show Go p e below _ n0 _ _ _ T366 (mkF m 10 #[.val (.int y0)] [(.int (own_f_rm_ce y0))])
  refine Go.ifNo C X366 (pc' := 13) d46_10 ((if0 _ _).trans (feq (by unfold own_f_rm_ce; rw [if_neg hc]; decide)).1) rfl ?_
  refine Go.newO C X366 (pc' := 16) (own_w hw 244 rfl) (own_w hw 1 rfl) (own_w hw 2 rfl) d46_13 (by decide) (by decide) rfl (fun T367 h367 b367 X367 g367 E367 Ex367 D367 N367 => ?_)
  have Q367 : h0.size ≤ b367 := Nat.le_trans (Keep.refl h0 []).1 (Nat.le_of_eq g367.symm)
  have K368 : Keep h0 h367 [] := (Keep.refl h0 []).ext E367
  have O369 : Old Z n0 h367 := f0.ext E367
  have F370 : Fld Z h367 b367 "java/lang/String" "coder" "B" (.int (0 : Int32)) := D367 (Or.inr (own_w hw 27 rfl)) (ty := .byte) (by decide)
  have F371 : Fld Z h367 b367 "java/lang/String" "value" "[B" .null := D367 (Or.inr (own_w hw 29 rfl)) (ty := (.array .byte)) (by decide)
  refine Go.dup C X367 (pc' := 17) d46_16 rfl rfl ?_
  refine Go.iloadN C X367 (pc' := 18) d46_17 rfl rfl ?_
  refine Go.callS C X367 (pc' := 21) (W := 2) (argsL := [(.int y0)]) (rest := [(.ref b367), (.ref b367)]) (rm_tb l Z a0 hw y0  h367 n0 X367.sz ) (own_w hw 245 rfl) (own_w hw 246 rfl) (own_w hw 211 rfl) (own_w hw 247 rfl) (by decide) rfl rfl (lenOf own_pd24 rfl) rfl (Nat.le_of_eq rfl) (by decide) (by decide) (by decide) (by decide) d46_18 rfl (fun _ _ q => by obtain ⟨_, _, _, K, _⟩ := q; exact K.1) (fun T372 h372 v372 X372 P372 => ?_)
  obtain ⟨t372, rfl, D372_t, K372, O372_0⟩ := P372
  have ne_b367_t372 : b367 ≠ t372 := Nat.ne_of_lt (Nat.lt_of_lt_of_le Ex367.lt D372_t)
  have N_t372 : n0 ≤ t372 := Nat.le_trans X367.sz D372_t
  have Q_t372 : h0.size ≤ t372 := Nat.le_trans K368.1 D372_t
  have K373 : Keep h0 h372 [] := K368.trans K372 all0
  have O374 : Old Z n0 h372 := O369.keep K372 all0
  have E375 := Ex367.keep K372
  have F376 := F370.keep K372 nin0
  have F377 := F371.keep K372 nin0
  show Go p e below _ n0 _ _ _ T372 (mkF m 21 #[.val (.int y0)] [(.ref t372), (.ref b367), (.ref b367)])
  refine Go.iconst C X372 (pc' := 22) (v := (0 : Int32)) d46_21 rfl rfl ?_
  refine Go.callI C X372 (pc' := 25) (W := 1) (argsL := [(.ref t372), (.int (0 : Int32))]) (rest := [(.ref b367)]) (a := b367) (rm_si l Z a0 hw b367 t372 (0 : Int32)  h372 n0 X372.sz E375 F377 F376 N367 rfl) rfl rfl (own_w hw 248 rfl) (own_w hw 249 rfl) (own_w hw 2 rfl) (own_w hw 250 rfl) (by decide) rfl rfl (lenOf own_pd25 rfl) rfl (Nat.le_of_eq rfl) (by decide) (by decide) (by decide) (by decide) d46_22 rfl (fun _ _ q => by obtain ⟨_, K, _⟩ := q; exact K.1) (fun T378 h378 v378 X378 P378 => ?_)
  obtain ⟨rfl, K378, O378_0, O378_1, O378_2⟩ := P378
  have K379 : Keep h0 h378 [] := K373.trans K378 (allS (Or.inr Q367) all0)
  have O380 : Old Z n0 h378 := O374.keep K378 (allS N367 all0)
  have E381 := E375.keep K378
  have A382 := O372_0.keep K378 (ninS (Ne.symm ne_b367_t372) nin0)
  show Go p e below _ n0 _ _ _ T378 (mkF m 25 #[.val (.int y0)] [(.ref b367)])
  exact Go.retA C X378 rfl d46_25 ⟨b367, t372, rfl, Q367, Q_t372, K379, O378_0, O378_1, O378_2, A382⟩ (by decide) (by decide)
theorem own_ef_rm_eq (m : MethodId) (x0 : Addr) (x1 : Addr) : entryFrame m #[(.ref x0), (.ref x1)] 3 = mkF m 0 #[.val (.ref x0), .val (.ref x1), .unset] [] := by first | (simp [entryFrame, mkF, argsToLocals, Value.category]; done) | rfl
theorem d45_0 : decode jdk_42_method_66_code 0 = .ok (.aload_n 0, 1) := by decide +kernel
theorem d45_1 : decode jdk_42_method_66_code 1 = .ok (.aload_n 1, 1) := by decide +kernel
theorem d45_2 : decode jdk_42_method_66_code 2 = .ok (.if_acmp .ne 5, 3) := by decide +kernel
theorem d45_5 : decode jdk_42_method_66_code 5 = .ok (.iconst 1, 1) := by decide +kernel
theorem d45_6 : decode jdk_42_method_66_code 6 = .ok (.ireturn, 1) := by decide +kernel
set_option maxRecDepth 65536 in
set_option maxHeartbeats 40000000 in
theorem rm_eq (l : Launch) (Z : State) (a0 : Array Value) (hw : ∀ d ∈ tables_1, d.before a0 Z = true) (a : Addr) (b : Addr)  (h0 : Heap) (n0 : Nat) (Z0 : n0 ≤ h0.size) (hab : a = b) :
    Con l Z (⟨"java/lang/String", "equals", "(Ljava/lang/Object;)Z"⟩ : MethodName) jdk_42_method_66_code 3 (some .boolean) ({ frames := 0, cells := 0, slots := 0, locals := 0 } : Room) #[(.ref a), (.ref b)] h0 n0 (fun rv hv => rv = some (.int (1 : Int32)) ∧ h0 = hv) := by
  refine Con.enter (plainFor_of_name own_pn0) Z0 ?_
  intro p e s m below meth c T0 C hnm X0
  refine Go.cast (own_ef_rm_eq m a b) ?_
  refine Go.aloadN C X0 (pc' := 1) d45_0 rfl rfl rfl ?_
  refine Go.aloadN C X0 (pc' := 2) d45_1 rfl rfl rfl ?_
  refine Go.acmpV C X0 (pc' := 5) d45_2 rfl rfl (same := true) (decide_eq_true (congrArg Value.ref hab)) (by decide) (by decide) ?_
  refine Go.iconst C X0 (pc' := 6) (v := (1 : Int32)) d45_5 rfl rfl ?_
  exact Go.retZ (t := .boolean) C X0 (z' := (1 : Int32)) (by decide) d45_6 ⟨rfl, rfl⟩ (by decide) (by decide)
theorem own_pn11 : plainName "java/lang/Record" = true := by first | (simp [plainName, overriddenIn]; done) | decide +kernel
theorem own_ef_rm_rec (m : MethodId) (x0 : Addr) : entryFrame m #[(.ref x0)] 1 = mkF m 0 #[.val (.ref x0)] [] := by first | (simp [entryFrame, mkF, argsToLocals, Value.category]; done) | rfl
theorem d8_0 : decode jdk_30_method_1_code 0 = .ok (.aload_n 0, 1) := by decide +kernel
theorem d8_1 : decode jdk_30_method_1_code 1 = .ok (.invokespecial 1, 3) := by decide +kernel
theorem d8_4 : decode jdk_30_method_1_code 4 = .ok (.return_, 1) := by decide +kernel
set_option maxRecDepth 65536 in
set_option maxHeartbeats 40000000 in
theorem rm_rec (l : Launch) (Z : State) (a0 : Array Value) (hw : ∀ d ∈ tables_1, d.before a0 Z = true) (a : Addr)  (h0 : Heap) (n0 : Nat) (Z0 : n0 ≤ h0.size)  :
    Con l Z (⟨"java/lang/Record", "<init>", "()V"⟩ : MethodName) jdk_30_method_1_code 1 none ({ frames := 1, cells := 0, slots := 0, locals := 12 } : Room) #[(.ref a)] h0 n0 (fun rv hv => rv = none ∧ h0 = hv) := by
  refine Con.enter (plainFor_of_name own_pn11) Z0 ?_
  intro p e s m below meth c T0 C hnm X0
  refine Go.cast (own_ef_rm_rec m a) ?_
  refine Go.aloadN C X0 (pc' := 1) d8_0 rfl rfl rfl ?_
  refine Go.initO C X0 (pc' := 4) (fun locs X eT => RoadKit.initO X C.1 C.2.1 C.2.2.2.1 (own_w hw 41 rfl) (own_w hw 12 rfl) (own_w hw 13 rfl) eT (g := (mkF m 1 #[.val (.ref a)] [(.ref a)])) rfl (by rw [C.2.2.2.2.1]; rfl) rfl (hb C.2.2.1 d8_1) (by decide) (W := 0) (by show 2 * 0 + _ ≤ _; exact Nat.le_of_eq rfl) (by decide)) rfl (fun T383 X383 => ?_)
  exact Go.retV C X383 d8_4 ⟨rfl, rfl⟩ (by decide) (by decide)
theorem own_pn12 : plainName "com/example/wharfline/wharfline/runtime/Work" = true := by first | (simp [plainName, overriddenIn]; done) | decide +kernel
theorem own_ef_rm_wi (m : MethodId) (x0 : Addr) (x1 : Addr) (x2 : Int32) : entryFrame m #[(.ref x0), (.ref x1), (.int x2)] 3 = mkF m 0 #[.val (.ref x0), .val (.ref x1), .val (.int x2)] [] := by first | (simp [entryFrame, mkF, argsToLocals, Value.category]; done) | rfl
theorem d7_0 : decode prog_41_method_1_code 0 = .ok (.aload_n 0, 1) := by decide +kernel
theorem d7_1 : decode prog_41_method_1_code 1 = .ok (.invokespecial 1, 3) := by decide +kernel
theorem own_pd26 : parseMethodDescriptor "()V" = some ⟨[], none⟩ := by decide +kernel
theorem d7_4 : decode prog_41_method_1_code 4 = .ok (.aload_n 0, 1) := by decide +kernel
theorem d7_5 : decode prog_41_method_1_code 5 = .ok (.aload_n 1, 1) := by decide +kernel
theorem d7_6 : decode prog_41_method_1_code 6 = .ok (.putfield 7, 3) := by decide +kernel
theorem d7_9 : decode prog_41_method_1_code 9 = .ok (.aload_n 0, 1) := by decide +kernel
theorem d7_10 : decode prog_41_method_1_code 10 = .ok (.iload_n 2, 1) := by decide +kernel
theorem d7_11 : decode prog_41_method_1_code 11 = .ok (.putfield 13, 3) := by decide +kernel
theorem d7_14 : decode prog_41_method_1_code 14 = .ok (.return_, 1) := by decide +kernel
set_option maxRecDepth 65536 in
set_option maxHeartbeats 40000000 in
theorem rm_wi (l : Launch) (Z : State) (a0 : Array Value) (hw : ∀ d ∈ tables_1, d.before a0 Z = true) (a : Addr) (sr : Addr) (y2 : Int32)  (h0 : Heap) (n0 : Nat) (Z0 : n0 ≤ h0.size) (f0 : Exa Z h0 a "com/example/wharfline/wharfline/runtime/Work") (f1 : Fld Z h0 a "com/example/wharfline/wharfline/runtime/Work" "connector" "Ljava/lang/String;" .null) (f2 : Fld Z h0 a "com/example/wharfline/wharfline/runtime/Work" "task" "I" (.int (0 : Int32))) (f3 : n0 ≤ a) :
    Con l Z (⟨"com/example/wharfline/wharfline/runtime/Work", "<init>", "(Ljava/lang/String;I)V"⟩ : MethodName) prog_41_method_1_code 3 none ({ frames := 2, cells := 0, slots := 0, locals := 24 } : Room) #[(.ref a), (.ref sr), (.int y2)] h0 n0 (fun rv hv => rv = none ∧ Keep h0 hv [a] ∧ Exa Z hv a "com/example/wharfline/wharfline/runtime/Work" ∧ Fld Z hv a "com/example/wharfline/wharfline/runtime/Work" "connector" "Ljava/lang/String;" (.ref sr) ∧ Fld Z hv a "com/example/wharfline/wharfline/runtime/Work" "task" "I" (.int y2)) := by
  refine Con.enter (plainFor_of_name own_pn12) Z0 ?_
  intro p e s m below meth c T0 C hnm X0
  refine Go.cast (own_ef_rm_wi m a sr y2) ?_
  refine Go.aloadN C X0 (pc' := 1) d7_0 rfl rfl rfl ?_
  refine Go.callI C X0 (pc' := 4) (W := 0) (argsL := []) (rest := []) (a := a) (rm_rec l Z a0 hw a  h0 n0 X0.sz ) rfl rfl (own_w hw 36 rfl) (own_w hw 37 rfl) (own_w hw 39 rfl) (own_w hw 40 rfl) (by decide) rfl rfl (lenOf own_pd26 rfl) rfl (Nat.le_of_eq rfl) (by decide) (by decide) (by decide) (by decide) d7_1 rfl (fun _ _ q => Nat.le_of_eq (congrArg Array.size q.2)) (fun T384 h384 v384 X384 P384 => ?_)
  obtain ⟨rfl, rfl⟩ := P384
  show Go p e below _ n0 _ _ _ T384 (mkF m 4 #[.val (.ref a), .val (.ref sr), .val (.int y2)] [])
  refine Go.aloadN C X384 (pc' := 5) d7_4 rfl rfl rfl ?_
  refine Go.aloadN C X384 (pc' := 6) d7_5 rfl rfl rfl ?_
  refine Go.putF C X384 (pc' := 9) (host := "") (Or.inl (own_w hw 42 rfl)) Via.refl f1 f0 (Or.inr ⟨(own_w hw 43 rfl), rfl, hnm⟩) (own_w hw 31 rfl) f3 (ty := (.object "java/lang/String")) (by decide) rfl rfl d7_6 rfl (fun T385 h385 X385 W385 => ?_)
  have Fw385 := f1.same W385
  have K386 : Keep h0 h385 [a] := (Keep.refl h0 [a]).wr W385 (Or.inl (List.mem_of_getElem? (i := 0) rfl))
  have E387 := f0.wr W385
  have F388 := f2.other W385 (Or.inr (slot_ne (Or.inr (own_w hw 45 rfl)) (Or.inr (own_w hw 43 rfl)) (by decide) (t := .int) (t' := (.object "java/lang/String")) (by decide) (by decide)))
  refine Go.aloadN C X385 (pc' := 10) d7_9 rfl rfl rfl ?_
  refine Go.iloadN C X385 (pc' := 11) d7_10 rfl rfl ?_
  refine Go.putF C X385 (pc' := 14) (host := "") (Or.inl (own_w hw 44 rfl)) Via.refl F388 E387 (Or.inr ⟨(own_w hw 45 rfl), rfl, hnm⟩) (own_w hw 31 rfl) f3 (ty := .int) (by decide) rfl rfl d7_11 rfl (fun T389 h389 X389 W389 => ?_)
  have Fw389 := F388.same W389
  have K390 : Keep h0 h389 [a] := K386.wr W389 (Or.inl (List.mem_of_getElem? (i := 0) rfl))
  have E391 := E387.wr W389
  have F392 := Fw385.other W389 (Or.inr (slot_ne (Or.inr (own_w hw 43 rfl)) (Or.inr (own_w hw 45 rfl)) (by decide) (t := (.object "java/lang/String")) (t' := .int) (by decide) (by decide)))
  exact Go.retV C X389 d7_14 ⟨rfl, K390, E391, F392, Fw389⟩ (by decide) (by decide)
theorem d10_0 : decode prog_41_method_4_code 0 = .ok (.aload_n 0, 1) := by decide +kernel
theorem d10_1 : decode prog_41_method_4_code 1 = .ok (.getfield 13, 3) := by decide +kernel
theorem d10_4 : decode prog_41_method_4_code 4 = .ok (.iconst (-1), 1) := by decide +kernel
theorem d10_5 : decode prog_41_method_4_code 5 = .ok (.if_icmp .ne 7, 3) := by decide +kernel
theorem d10_8 : decode prog_41_method_4_code 8 = .ok (.iconst 1, 1) := by decide +kernel
theorem d10_9 : decode prog_41_method_4_code 9 = .ok (.goto 4, 3) := by decide +kernel
theorem d10_13 : decode prog_41_method_4_code 13 = .ok (.ireturn, 1) := by decide +kernel
theorem d10_12 : decode prog_41_method_4_code 12 = .ok (.iconst 0, 1) := by decide +kernel
def own_f_rm_is (a : Addr) (y1 : Int32) : Int32 := (if y1 = (-1 : Int32) then (1 : Int32) else (0 : Int32))
theorem own_ef_rm_is (m : MethodId) (x0 : Addr) : entryFrame m #[(.ref x0)] 1 = mkF m 0 #[.val (.ref x0)] [] := by first | (simp [entryFrame, mkF, argsToLocals, Value.category]; done) | rfl
set_option maxRecDepth 65536 in
set_option maxHeartbeats 40000000 in
theorem rm_is (l : Launch) (Z : State) (a0 : Array Value) (hw : ∀ d ∈ tables_1, d.before a0 Z = true) (a : Addr) (y1 : Int32) (h0 : Heap) (n0 : Nat) (Z0 : n0 ≤ h0.size) (f0 : Fld Z h0 a "com/example/wharfline/wharfline/runtime/Work" "task" "I" (.int y1)) :
    Con l Z (⟨"com/example/wharfline/wharfline/runtime/Work", "isInstance", "()Z"⟩ : MethodName) prog_41_method_4_code 1 (some .boolean) ({ frames := 0, cells := 0, slots := 0, locals := 0 } : Room) #[(.ref a)] h0 n0 (fun rv hv => rv = some (.int (own_f_rm_is a y1)) ∧ h0 = hv) := by
  refine Con.enter (plainFor_of_name own_pn12) Z0 ?_
  intro p e s m below meth c T0 C hnm X0
  refine Go.cast (own_ef_rm_is m a) ?_
  refine Go.aloadN C X0 (pc' := 1) d10_0 rfl rfl rfl ?_
  refine Go.getF C X0 (pc' := 4) (host := "") (Or.inl (own_w hw 44 rfl)) Via.refl f0 d10_1 rfl (fun T395 X395 => ?_)
  refine Go.iconst C X395 (pc' := 5) (v := (-1 : Int32)) d10_4 rfl rfl ?_
  by_cases c396 : y1 = (-1 : Int32)
  · refine Go.icmpNo C X395 (pc' := 8) d10_5 (teq c396).2 rfl ?_
    refine Go.iconst C X395 (pc' := 9) (v := (1 : Int32)) d10_8 rfl rfl ?_
    refine Go.goto C X395 (pc' := 13) d10_9 (by decide) (by decide) ?_
    exact Go.retZ (t := .boolean) C X395 (z' := (1 : Int32)) (by decide) d10_13 ⟨by show some (Value.int (1 : Int32)) = some (Value.int (own_f_rm_is a y1)); unfold own_f_rm_is; rw [if_pos c396], rfl⟩ (by decide) (by decide)
  · refine Go.icmpYes C X395 (pc' := 12) d10_5 (feq c396).2 (by decide) (by decide) ?_
    refine Go.iconst C X395 (pc' := 13) (v := (0 : Int32)) d10_12 rfl rfl ?_
    exact Go.retZ (t := .boolean) C X395 (z' := (0 : Int32)) (by decide) d10_13 ⟨by show some (Value.int (0 : Int32)) = some (Value.int (own_f_rm_is a y1)); unfold own_f_rm_is; rw [if_neg c396], rfl⟩ (by decide) (by decide)
theorem own_ef_rm_t1 (m : MethodId) (x0 : Addr) : entryFrame m #[(.ref x0)] 1 = mkF m 0 #[.val (.ref x0)] [] := by first | (simp [entryFrame, mkF, argsToLocals, Value.category]; done) | rfl
theorem d9_0 : decode prog_41_method_6_code 0 = .ok (.aload_n 0, 1) := by decide +kernel
theorem d9_1 : decode prog_41_method_6_code 1 = .ok (.invokevirtual 30, 3) := by decide +kernel
theorem d9_4 : decode prog_41_method_6_code 4 = .ok (.ifCond .eq 10, 3) := by decide +kernel
theorem d9_7 : decode prog_41_method_6_code 7 = .ok (.aload_n 0, 1) := by decide +kernel
theorem d9_8 : decode prog_41_method_6_code 8 = .ok (.getfield 7, 3) := by decide +kernel
theorem d9_11 : decode prog_41_method_6_code 11 = .ok (.goto 32, 3) := by decide +kernel
theorem d9_43 : decode prog_41_method_6_code 43 = .ok (.areturn, 1) := by decide +kernel
set_option maxRecDepth 65536 in
set_option maxHeartbeats 40000000 in
theorem rm_t1 (l : Launch) (Z : State) (a0 : Array Value) (hw : ∀ d ∈ tables_1, d.before a0 Z = true) (a : Addr) (sr : Addr) (h0 : Heap) (n0 : Nat) (Z0 : n0 ≤ h0.size) (f0 : Exa Z h0 a "com/example/wharfline/wharfline/runtime/Work") (f1 : Fld Z h0 a "com/example/wharfline/wharfline/runtime/Work" "connector" "Ljava/lang/String;" (.ref sr)) (f2 : Fld Z h0 a "com/example/wharfline/wharfline/runtime/Work" "task" "I" (.int (-1 : Int32))) :
    Con l Z (⟨"com/example/wharfline/wharfline/runtime/Work", "toString", "()Ljava/lang/String;"⟩ : MethodName) prog_41_method_6_code 1 (some (.object "java/lang/String")) ({ frames := 1, cells := 0, slots := 0, locals := 12 } : Room) #[(.ref a)] h0 n0 (fun rv hv => rv = some (.ref sr) ∧ h0 = hv) := by
  refine Con.enter (plainFor_of_name own_pn12) Z0 ?_
  intro p e s m below meth c T0 C hnm X0
  refine Go.cast (own_ef_rm_t1 m a) ?_
  refine Go.aloadN C X0 (pc' := 1) d9_0 rfl rfl rfl ?_
  refine Go.callV C X0 (pc' := 4) (W := 0) (argsL := []) (rest := []) (a := a) (rm_is l Z a0 hw a (-1 : Int32) h0 n0 X0.sz f2) f0 (notFace_of_selects (args := #[]) (mvT C.2.1 (own_w hw 54 rfl))) (own_w hw 51 rfl) (own_w hw 52 rfl) (own_w hw 54 rfl) (own_w hw 53 rfl) (own_w hw 32 rfl) (own_w hw 55 rfl) (by decide) rfl rfl (lenOf own_pd3 rfl) rfl (Nat.le_of_eq rfl) (by decide) (by decide) (by decide) (by decide) d9_1 rfl (fun _ _ q => Nat.le_of_eq (congrArg Array.size q.2)) (fun T397 h397 v397 X397 P397 => ?_)
  obtain ⟨rfl, rfl⟩ := P397
  show Go p e below _ n0 _ _ _ T397 (mkF m 4 #[.val (.ref a)] [(.int (own_f_rm_is a (-1 : Int32)))])
  refine Go.ifNo C X397 (pc' := 7) d9_4 ((if0 _ _).trans (feq (by unfold own_f_rm_is; decide)).1) rfl ?_
  refine Go.aloadN C X397 (pc' := 8) d9_7 rfl rfl rfl ?_
  refine Go.getF C X397 (pc' := 11) (host := "") (Or.inl (own_w hw 42 rfl)) Via.refl f1 d9_8 rfl (fun T398 X398 => ?_)
  refine Go.goto C X398 (pc' := 43) d9_11 (by decide) (by decide) ?_
  exact Go.retA C X398 rfl d9_43 ⟨rfl, rfl⟩ (by decide) (by decide)
theorem own_tk {z : Int32} {n : Nat} (hz : z.toInt = (n : Int)) : ((0 : Int32) + z).toInt = (n : Int) := by rw [Int32.zero_add]; exact hz
theorem own_tk1 {z : Int32} {n : Nat} (hz : z.toInt = (n : Int)) (hn : n ≤ 2) : (((0 : Int32) + z) + (1 : Int32)).toInt = ((n + 1 : Nat) : Int) := by
  have e : (1 : Int32).toInt = 1 := rfl
  rw [own_iadd (by rw [own_tk hz]; omega) (by rw [own_tk hz]; omega), own_tk hz, e]; omega
theorem own_zb : ∀ q : Nat, own_bt ((fun _ => (0 : Int32)) q) := own_bt0
theorem own_b45f : ∀ q : Nat, own_bt ((fun _ => (45 : Int32)) q) := fun _ => own_b45
theorem own_fsb {f : Nat → Int32} {n v N sg : Nat} (hf : ∀ q, own_bt (f q)) : ∀ q, own_bt (own_fs f n v N sg q) := own_numb (own_putb (own_putb own_zb hf) own_b45f)
theorem own_ef_rm_ts (m : MethodId) (x0 : Addr) : entryFrame m #[(.ref x0)] 1 = mkF m 0 #[.val (.ref x0)] [] := by first | (simp [entryFrame, mkF, argsToLocals, Value.category]; done) | rfl
theorem d9_14 : decode prog_41_method_6_code 14 = .ok (.new 34, 3) := by decide +kernel
theorem d9_17 : decode prog_41_method_6_code 17 = .ok (.dup, 1) := by decide +kernel
theorem d9_18 : decode prog_41_method_6_code 18 = .ok (.invokespecial 36, 3) := by decide +kernel
theorem d9_21 : decode prog_41_method_6_code 21 = .ok (.aload_n 0, 1) := by decide +kernel
theorem d9_22 : decode prog_41_method_6_code 22 = .ok (.getfield 7, 3) := by decide +kernel
theorem d9_25 : decode prog_41_method_6_code 25 = .ok (.invokevirtual 37, 3) := by decide +kernel
theorem own_pd27 : parseMethodDescriptor "(Ljava/lang/String;)Ljava/lang/StringBuilder;" = some ⟨[(.object "java/lang/String")], some (.object "java/lang/StringBuilder")⟩ := by decide +kernel
theorem d9_28 : decode prog_41_method_6_code 28 = .ok (.ldc 41, 2) := by decide +kernel
theorem d9_30 : decode prog_41_method_6_code 30 = .ok (.invokevirtual 37, 3) := by decide +kernel
theorem d9_33 : decode prog_41_method_6_code 33 = .ok (.aload_n 0, 1) := by decide +kernel
theorem d9_34 : decode prog_41_method_6_code 34 = .ok (.getfield 13, 3) := by decide +kernel
theorem d9_37 : decode prog_41_method_6_code 37 = .ok (.invokevirtual 43, 3) := by decide +kernel
theorem own_pd28 : parseMethodDescriptor "(I)Ljava/lang/StringBuilder;" = some ⟨[.int], some (.object "java/lang/StringBuilder")⟩ := by decide +kernel
theorem d9_40 : decode prog_41_method_6_code 40 = .ok (.invokevirtual 46, 3) := by decide +kernel
theorem own_pd29 : parseMethodDescriptor "()Ljava/lang/String;" = some ⟨[], some (.object "java/lang/String")⟩ := by decide +kernel
set_option maxRecDepth 65536 in
set_option maxHeartbeats 40000000 in
theorem rm_ts (l : Launch) (Z : State) (a0 : Array Value) (hw : ∀ d ∈ tables_1, d.before a0 Z = true) (a : Addr) (sr : Addr) (b : Addr) (n : Nat) (f : Nat → Int32) (z : Int32) (y1 : Int32) (v : Nat) (N : Nat) (sg : Nat) (cs : Int32) (d1 : Addr) (d2 : Addr) (h0 : Heap) (n0 : Nat) (Z0 : n0 ≤ h0.size) (f0 : Old Z n0 h0) (f1 : Sta Z Z.heap "java/lang/String" "COMPACT_STRINGS" "Z" (.int cs)) (f2 : Sta Z Z.heap "java/lang/Integer" "DigitOnes" "[B" (.ref d1)) (f3 : Sta Z Z.heap "java/lang/Integer" "DigitTens" "[B" (.ref d2)) (f4 : AI Z h0 d1 .byte 100 own_do) (f5 : AI Z h0 d2 .byte 100 own_dt) (f6 : Exa Z h0 a "com/example/wharfline/wharfline/runtime/Work") (f7 : Fld Z h0 a "com/example/wharfline/wharfline/runtime/Work" "connector" "Ljava/lang/String;" (.ref sr)) (f8 : Fld Z h0 a "com/example/wharfline/wharfline/runtime/Work" "task" "I" (.int y1)) (f9 : Exa Z h0 sr "java/lang/String") (f10 : Fld Z h0 sr "java/lang/String" "value" "[B" (.ref b)) (f11 : Fld Z h0 sr "java/lang/String" "coder" "B" (.int (0 : Int32))) (f12 : AI Z h0 b .byte n f) (hcs : ¬ cs = (0 : Int32)) (hz : z.toInt = (n : Int)) (hbt : ∀ q, own_bt (f q)) (hn2 : n ≤ 2) (hk1 : ¬ y1 = (-1 : Int32)) (hv : own_sv y1 v sg) (hd : own_nd v N) (hN : N ≤ 10) (hss : (own_f_rm_ss y1).toInt = ((N + sg : Nat) : Int)) :
    ConW l Z (⟨"com/example/wharfline/wharfline/runtime/Work", "toString", "()Ljava/lang/String;"⟩ : MethodName) prog_41_method_6_code 1 (some (.object "java/lang/String")) ({ frames := 6, cells := 6, slots := 46, locals := 113 } : Room) #[(.ref a)] h0 n0 consts_1 (fun rv hv => ∃ u : Addr, ∃ tv : Addr, rv = some (.ref u) ∧ h0.size ≤ u ∧ h0.size ≤ tv ∧ Keep h0 hv [] ∧ Exa Z hv u "java/lang/String" ∧ Fld Z hv u "java/lang/String" "value" "[B" (.ref tv) ∧ Fld Z hv u "java/lang/String" "coder" "B" (.int (0 : Int32)) ∧ AI Z hv tv .byte (n + 1 + (N + sg)) (own_fs f n v N sg)) := by
  refine ConW.enter (plainFor_of_name own_pn12) Z0 ?_
  intro p e s m below meth c T0 C hnm X0 HC0
  refine Go.cast (own_ef_rm_ts m a) ?_
  refine Go.aloadN C X0 (pc' := 1) d9_0 rfl rfl rfl ?_
  refine Go.callV C X0 (pc' := 4) (W := 0) (argsL := []) (rest := []) (a := a) (rm_is l Z a0 hw a y1 h0 n0 X0.sz f8) f6 (notFace_of_selects (args := #[]) (mvT C.2.1 (own_w hw 54 rfl))) (own_w hw 51 rfl) (own_w hw 52 rfl) (own_w hw 54 rfl) (own_w hw 53 rfl) (own_w hw 32 rfl) (own_w hw 55 rfl) (by decide) rfl rfl (lenOf own_pd3 rfl) rfl (Nat.le_of_eq rfl) (by decide) (by decide) (by decide) (by decide) d9_1 rfl (fun _ _ q => Nat.le_of_eq (congrArg Array.size q.2)) (fun T399 h399 v399 X399 P399 => ?_)
  obtain ⟨rfl, rfl⟩ := P399
  show Go p e below _ n0 _ _ _ T399 (mkF m 4 #[.val (.ref a)] [(.int (own_f_rm_is a y1))])
  refine Go.ifYes C X399 (pc' := 14) d9_4 ((if0 _ _).trans (teq (by unfold own_f_rm_is; rw [if_neg hk1])).1) (by decide) (by decide) ?_
  refine Go.newO C X399 (pc' := 17) (own_w hw 56 rfl) (own_w hw 57 rfl) (own_w hw 58 rfl) d9_14 (by decide) (by decide) rfl (fun T400 h400 b400 X400 g400 E400 Ex400 D400 N400 => ?_)
  have ne_d1_b400 : d1 ≠ b400 := Nat.ne_of_lt (Nat.lt_of_lt_of_eq f4.lt g400.symm)
  have ne_d2_b400 : d2 ≠ b400 := Nat.ne_of_lt (Nat.lt_of_lt_of_eq f5.lt g400.symm)
  have ne_a_b400 : a ≠ b400 := Nat.ne_of_lt (Nat.lt_of_lt_of_eq f6.lt g400.symm)
  have ne_sr_b400 : sr ≠ b400 := Nat.ne_of_lt (Nat.lt_of_lt_of_eq f9.lt g400.symm)
  have ne_b_b400 : b ≠ b400 := Nat.ne_of_lt (Nat.lt_of_lt_of_eq f12.lt g400.symm)
  have Q400 : h0.size ≤ b400 := Nat.le_trans (Keep.refl h0 []).1 (Nat.le_of_eq g400.symm)
  have K401 : Keep h0 h400 [] := (Keep.refl h0 []).ext E400
  have O402 : Old Z n0 h400 := f0.ext E400
  have A403 := f4.ext E400
  have A404 := f5.ext E400
  have E405 := f6.ext E400
  have F406 := f7.ext E400
  have F407 := f8.ext E400
  have E408 := f9.ext E400
  have F409 := f10.ext E400
  have F410 := f11.ext E400
  have A411 := f12.ext E400
  have F412 : Fld Z h400 b400 "java/lang/AbstractStringBuilder" "value" "[B" .null := D400 (Or.inl (own_w hw 71 rfl)) (ty := (.array .byte)) (by decide)
  have F413 : Fld Z h400 b400 "java/lang/AbstractStringBuilder" "coder" "B" (.int (0 : Int32)) := D400 (Or.inl (own_w hw 73 rfl)) (ty := .byte) (by decide)
  have F414 : Fld Z h400 b400 "java/lang/AbstractStringBuilder" "count" "I" (.int (0 : Int32)) := D400 (Or.inl (own_w hw 95 rfl)) (ty := .int) (by decide)
  refine Go.dup C X400 (pc' := 18) d9_17 rfl rfl ?_
  refine Go.callI C X400 (pc' := 21) (W := 1) (argsL := []) (rest := [(.ref b400)]) (a := b400) (rm_bi l Z a0 hw b400 cs h400 n0 X400.sz O402 f1 Ex400 F412 F413 F414 N400 hcs) rfl rfl (own_w hw 59 rfl) (own_w hw 60 rfl) (own_w hw 58 rfl) (own_w hw 61 rfl) (by decide) rfl rfl (lenOf own_pd26 rfl) rfl (Nat.le_of_eq rfl) (by decide) (by decide) (by decide) (by decide) d9_18 rfl (fun _ _ q => by obtain ⟨_, _, _, K, _⟩ := q; exact K.1) (fun T415 h415 v415 X415 P415 => ?_)
  obtain ⟨t415, rfl, D415_t, K415, O415_0, O415_1, O415_2, O415_3, O415_4, O415_5⟩ := P415
  have ne_d1_t415 : d1 ≠ t415 := Nat.ne_of_lt (Nat.lt_of_lt_of_le A403.lt D415_t)
  have ne_d2_t415 : d2 ≠ t415 := Nat.ne_of_lt (Nat.lt_of_lt_of_le A404.lt D415_t)
  have ne_a_t415 : a ≠ t415 := Nat.ne_of_lt (Nat.lt_of_lt_of_le E405.lt D415_t)
  have ne_sr_t415 : sr ≠ t415 := Nat.ne_of_lt (Nat.lt_of_lt_of_le E408.lt D415_t)
  have ne_b_t415 : b ≠ t415 := Nat.ne_of_lt (Nat.lt_of_lt_of_le A411.lt D415_t)
  have ne_b400_t415 : b400 ≠ t415 := Nat.ne_of_lt (Nat.lt_of_lt_of_le Ex400.lt D415_t)
  have N_t415 : n0 ≤ t415 := Nat.le_trans X400.sz D415_t
  have Q_t415 : h0.size ≤ t415 := Nat.le_trans K401.1 D415_t
  have K416 : Keep h0 h415 [] := K401.trans K415 (allS (Or.inr Q400) all0)
  have O417 : Old Z n0 h415 := O402.keep K415 (allS N400 all0)
  have A418 := A403.keep K415 (ninS ne_d1_b400 nin0)
  have A419 := A404.keep K415 (ninS ne_d2_b400 nin0)
  have E420 := E405.keep K415
  have F421 := F406.keep K415 (ninS ne_a_b400 nin0)
  have F422 := F407.keep K415 (ninS ne_a_b400 nin0)
  have E423 := E408.keep K415
  have F424 := F409.keep K415 (ninS ne_sr_b400 nin0)
  have F425 := F410.keep K415 (ninS ne_sr_b400 nin0)
  have A426 := A411.keep K415 (ninS ne_b_b400 nin0)
  have E427 := Ex400.keep K415
  show Go p e below _ n0 _ _ _ T415 (mkF m 21 #[.val (.ref a)] [(.ref b400)])
  refine Go.aloadN C X415 (pc' := 22) d9_21 rfl rfl rfl ?_
  refine Go.getF C X415 (pc' := 25) (host := "") (Or.inl (own_w hw 42 rfl)) Via.refl F421 d9_22 rfl (fun T428 X428 => ?_)
  refine Go.callV C X428 (pc' := 28) (W := 0) (argsL := [(.ref sr)]) (rest := []) (a := b400) (rm_bs l Z a0 hw b400 sr (0 : Int32) t415 (fun _ => 0) b n f z 0 cs h415 n0 X428.sz O417 f1 O415_0 O415_1 O415_2 O415_4 N_t415 E423 F424 F425 A426 O415_5 ne_sr_t415 ne_b_t415 O415_3 N400 ne_sr_b400 ne_b_b400 hcs hz hbt (by omega) rfl) O415_0 (notFace_of_selects (args := #[]) (mvT C.2.1 (own_w hw 77 rfl))) (own_w hw 74 rfl) (own_w hw 75 rfl) (own_w hw 77 rfl) (own_w hw 76 rfl) (own_w hw 58 rfl) (own_w hw 78 rfl) (by decide) rfl rfl (lenOf own_pd27 rfl) rfl (Nat.le_of_eq rfl) (by decide) (by decide) (by decide) (by decide) d9_25 rfl (fun _ _ q => by obtain ⟨_, K, _⟩ := q; exact K.1) (fun T429 h429 v429 X429 P429 => ?_)
  obtain ⟨rfl, K429, O429_0, O429_1, O429_2, O429_3, O429_4⟩ := P429
  have K430 : Keep h0 h429 [] := K416.trans K429 (allS (Or.inr Q400) (allS (Or.inr Q_t415) all0))
  have O431 : Old Z n0 h429 := O417.keep K429 (allS N400 (allS N_t415 all0))
  have A432 := A418.keep K429 (ninS ne_d1_b400 (ninS ne_d1_t415 nin0))
  have A433 := A419.keep K429 (ninS ne_d2_b400 (ninS ne_d2_t415 nin0))
  have E434 := E420.keep K429
  have F435 := F421.keep K429 (ninS ne_a_b400 (ninS ne_a_t415 nin0))
  have F436 := F422.keep K429 (ninS ne_a_b400 (ninS ne_a_t415 nin0))
  have E437 := E423.keep K429
  have F438 := F424.keep K429 (ninS ne_sr_b400 (ninS ne_sr_t415 nin0))
  have F439 := F425.keep K429 (ninS ne_sr_b400 (ninS ne_sr_t415 nin0))
  have A440 := A426.keep K429 (ninS ne_b_b400 (ninS ne_b_t415 nin0))
  have E441 := O415_0.keep K429
  show Go p e below _ n0 _ _ _ T429 (mkF m 28 #[.val (.ref a)] [(.ref b400)])
  have sf_b400 : b400 < h429.size ∧ Safe Z consts_1 s.vm h429 b400 := ⟨O429_0.lt, Safe.keep K430 (fun _ q => absurd q List.not_mem_nil) HC0 (Safe.new Q400)⟩
  have sf_t415 : t415 < h429.size ∧ Safe Z consts_1 s.vm h429 t415 := ⟨O429_4.lt, Safe.keep K430 (fun _ q => absurd q List.not_mem_nil) HC0 (Safe.new Q_t415)⟩
  refine Go.ldcB C X429 (pc' := 30) (text := "-") (n := 4) (z := 1) (vs := [.int 45]) (f := (fun _ => 45)) (own_ew hw) (CHv.keep K430 (fun _ q => absurd q List.not_mem_nil) HC0) (List.mem_of_getElem? (i := 0) rfl) (own_w hw 121 rfl) (own_sA hw) (by first | decide | (constructor <;> first | rfl | decide | simp)) (by decide) (by first | rfl | decide) own_one d9_28 (by decide) (by decide) (by decide) (by decide) rfl (fun T442 h442 a442 b442 X442 C E442 Ex442 Fc442 Fv442 Ab442 HC442 Li442 Ne442 Sf442 => ?_)
  have K443 : Keep h0 h442 [] := K430.ext E442
  have O444 : Old Z n0 h442 := O431.ext E442
  have A445 := A432.ext E442
  have A446 := A433.ext E442
  have E447 := E434.ext E442
  have F448 := F435.ext E442
  have F449 := F436.ext E442
  have E450 := E437.ext E442
  have F451 := F438.ext E442
  have F452 := F439.ext E442
  have A453 := A440.ext E442
  have E454 := O429_0.ext E442
  have F455 := O429_1.ext E442
  have F456 := O429_2.ext E442
  have F457 := O429_3.ext E442
  have A458 := O429_4.ext E442
  have A442 : AI Z h442 b442 .byte 1 (fun _ => 45) := Ab442
  have ne_a_b442 : a ≠ b442 := Ne442 _ _ _ E447 (own_w hw 31 rfl)
  have ne_sr_b442 : sr ≠ b442 := Ne442 _ _ _ E450 (own_w hw 1 rfl)
  have ne_b400_b442 : b400 ≠ b442 := Ne442 _ _ _ E454 (own_w hw 57 rfl)
  have ne_b400_a442 : b400 ≠ a442 := (Sf442 _ sf_b400.1 sf_b400.2).1
  have ne_t415_a442 : t415 ≠ a442 := (Sf442 _ sf_t415.1 sf_t415.2).1
  have ne_t415_b442 : t415 ≠ b442 := (Sf442 _ sf_t415.1 sf_t415.2).2
  have M442_ : h442.size ≤ h442.size := Nat.le_refl _
  show Go p e below _ n0 _ _ _ T442 (mkF m 30 #[.val (.ref a)] [(.ref a442), (.ref b400)])
  refine Go.callV C X442 (pc' := 33) (W := 0) (argsL := [(.ref a442)]) (rest := []) (a := b400) (rm_bs l Z a0 hw b400 a442 ((0 : Int32) + z) t415 (own_put (fun _ => 0) 0 n f) b442 1 (fun _ => 45) (1 : Int32) n cs h442 n0 X442.sz O444 f1 E454 F455 F456 A458 N_t415 Ex442 Fv442 Fc442 A442 O415_5 (Ne.symm ne_t415_a442) (Ne.symm ne_t415_b442) F457 N400 (Ne.symm ne_b400_a442) (Ne.symm ne_b400_b442) hcs rfl own_b45f (by omega) (own_tk hz)) E454 (notFace_of_selects (args := #[]) (mvT C.2.1 (own_w hw 77 rfl))) (own_w hw 74 rfl) (own_w hw 75 rfl) (own_w hw 77 rfl) (own_w hw 76 rfl) (own_w hw 58 rfl) (own_w hw 78 rfl) (by decide) rfl rfl (lenOf own_pd27 rfl) rfl (Nat.le_of_eq rfl) (by decide) (by decide) (by decide) (by decide) d9_30 rfl (fun _ _ q => by obtain ⟨_, K, _⟩ := q; exact K.1) (fun T459 h459 v459 X459 P459 => ?_)
  obtain ⟨rfl, K459, O459_0, O459_1, O459_2, O459_3, O459_4⟩ := P459
  have K460 : Keep h0 h459 [] := K443.trans K459 (allS (Or.inr Q400) (allS (Or.inr Q_t415) all0))
  have O461 : Old Z n0 h459 := O444.keep K459 (allS N400 (allS N_t415 all0))
  have A462 := A445.keep K459 (ninS ne_d1_b400 (ninS ne_d1_t415 nin0))
  have A463 := A446.keep K459 (ninS ne_d2_b400 (ninS ne_d2_t415 nin0))
  have E464 := E447.keep K459
  have F465 := F448.keep K459 (ninS ne_a_b400 (ninS ne_a_t415 nin0))
  have F466 := F449.keep K459 (ninS ne_a_b400 (ninS ne_a_t415 nin0))
  have E467 := E450.keep K459
  have F468 := F451.keep K459 (ninS ne_sr_b400 (ninS ne_sr_t415 nin0))
  have F469 := F452.keep K459 (ninS ne_sr_b400 (ninS ne_sr_t415 nin0))
  have A470 := A453.keep K459 (ninS ne_b_b400 (ninS ne_b_t415 nin0))
  have E471 := E454.keep K459
  have E472 := Ex442.keep K459
  have F473 := Fc442.keep K459 (ninS (Ne.symm ne_b400_a442) (ninS (Ne.symm ne_t415_a442) nin0))
  have F474 := Fv442.keep K459 (ninS (Ne.symm ne_b400_a442) (ninS (Ne.symm ne_t415_a442) nin0))
  have A475 := A442.keep K459 (ninS (Ne.symm ne_b400_b442) (ninS (Ne.symm ne_t415_b442) nin0))
  have M476 : h442.size ≤ h459.size := Nat.le_trans M442_ K459.1
  show Go p e below _ n0 _ _ _ T459 (mkF m 33 #[.val (.ref a)] [(.ref b400)])
  refine Go.aloadN C X459 (pc' := 34) d9_33 rfl rfl rfl ?_
  refine Go.getF C X459 (pc' := 37) (host := "") (Or.inl (own_w hw 44 rfl)) Via.refl F466 d9_34 rfl (fun T477 X477 => ?_)
  refine Go.callV C X477 (pc' := 40) (W := 0) (argsL := [(.int y1)]) (rest := []) (a := b400) (rm_bn l Z a0 hw b400 y1 t415 (own_put (own_put (fun _ => 0) 0 n f) n 1 (fun _ => 45)) (((0 : Int32) + z) + (1 : Int32)) (n + 1) v N sg cs d1 d2 h459 n0 X477.sz O461 f1 f2 f3 A462 A463 O459_0 O459_1 O459_2 O459_3 O459_4 N400 N_t415 O415_5 ne_d1_t415 ne_d2_t415 ne_d1_b400 ne_d2_b400 hcs (own_tk1 hz hn2) hv hd hss (by have := own_svs hv; omega)) O459_0 (notFace_of_selects (args := #[]) (mvT C.2.1 (own_w hw 127 rfl))) (own_w hw 124 rfl) (own_w hw 125 rfl) (own_w hw 127 rfl) (own_w hw 126 rfl) (own_w hw 58 rfl) (own_w hw 128 rfl) (by decide) rfl rfl (lenOf own_pd28 rfl) rfl (Nat.le_of_eq rfl) (by decide) (by decide) (by decide) (by decide) d9_37 rfl (fun _ _ q => by obtain ⟨_, K, _⟩ := q; exact K.1) (fun T478 h478 v478 X478 P478 => ?_)
  obtain ⟨rfl, K478, O478_0, O478_1, O478_2, O478_3, O478_4⟩ := P478
  have K479 : Keep h0 h478 [] := K460.trans K478 (allS (Or.inr Q400) (allS (Or.inr Q_t415) all0))
  have O480 : Old Z n0 h478 := O461.keep K478 (allS N400 (allS N_t415 all0))
  have A481 := A462.keep K478 (ninS ne_d1_b400 (ninS ne_d1_t415 nin0))
  have A482 := A463.keep K478 (ninS ne_d2_b400 (ninS ne_d2_t415 nin0))
  have E483 := E464.keep K478
  have F484 := F465.keep K478 (ninS ne_a_b400 (ninS ne_a_t415 nin0))
  have F485 := F466.keep K478 (ninS ne_a_b400 (ninS ne_a_t415 nin0))
  have E486 := E467.keep K478
  have F487 := F468.keep K478 (ninS ne_sr_b400 (ninS ne_sr_t415 nin0))
  have F488 := F469.keep K478 (ninS ne_sr_b400 (ninS ne_sr_t415 nin0))
  have A489 := A470.keep K478 (ninS ne_b_b400 (ninS ne_b_t415 nin0))
  have E490 := O459_0.keep K478
  have E491 := E472.keep K478
  have F492 := F473.keep K478 (ninS (Ne.symm ne_b400_a442) (ninS (Ne.symm ne_t415_a442) nin0))
  have F493 := F474.keep K478 (ninS (Ne.symm ne_b400_a442) (ninS (Ne.symm ne_t415_a442) nin0))
  have A494 := A475.keep K478 (ninS (Ne.symm ne_b400_b442) (ninS (Ne.symm ne_t415_b442) nin0))
  have M495 : h442.size ≤ h478.size := Nat.le_trans M476 K478.1
  show Go p e below _ n0 _ _ _ T478 (mkF m 40 #[.val (.ref a)] [(.ref b400)])
  refine Go.callV C X478 (pc' := 43) (W := 0) (argsL := []) (rest := []) (a := b400) (rm_bt l Z a0 hw b400 t415 (own_num (own_put (own_put (fun _ => 0) 0 n f) n 1 (fun _ => 45)) ((n + 1) + (N + sg)) v N sg) ((((0 : Int32) + z) + (1 : Int32)) + (own_f_rm_ss y1)) (n + 1 + (N + sg)) cs h478 n0 X478.sz O480 f1 O478_0 O478_1 O478_2 O478_3 O478_4 hcs (own_sumn (own_tk1 hz hn2) hss (by have := own_svs hv; omega)) (by have := own_svs hv; omega) (own_fsb (f := f) hbt)) O478_0 (notFace_of_selects (args := #[]) (mvT C.2.1 (own_w hw 149 rfl))) (own_w hw 146 rfl) (own_w hw 147 rfl) (own_w hw 149 rfl) (own_w hw 148 rfl) (own_w hw 58 rfl) (own_w hw 150 rfl) (by decide) rfl rfl (lenOf own_pd29 rfl) rfl (Nat.le_of_eq rfl) (by decide) (by decide) (by decide) (by decide) d9_40 rfl (fun _ _ q => by obtain ⟨_, _, _, _, _, K, _⟩ := q; exact K.1) (fun T496 h496 v496 X496 P496 => ?_)
  obtain ⟨u496, tv496, rfl, D496_u, D496_tv, K496, O496_0, O496_1, O496_2, O496_3⟩ := P496
  have ne_d1_u496 : d1 ≠ u496 := Nat.ne_of_lt (Nat.lt_of_lt_of_le A481.lt D496_u)
  have ne_d2_u496 : d2 ≠ u496 := Nat.ne_of_lt (Nat.lt_of_lt_of_le A482.lt D496_u)
  have ne_a_u496 : a ≠ u496 := Nat.ne_of_lt (Nat.lt_of_lt_of_le E483.lt D496_u)
  have ne_sr_u496 : sr ≠ u496 := Nat.ne_of_lt (Nat.lt_of_lt_of_le E486.lt D496_u)
  have ne_b_u496 : b ≠ u496 := Nat.ne_of_lt (Nat.lt_of_lt_of_le A489.lt D496_u)
  have ne_b400_u496 : b400 ≠ u496 := Nat.ne_of_lt (Nat.lt_of_lt_of_le O478_0.lt D496_u)
  have ne_t415_u496 : t415 ≠ u496 := Nat.ne_of_lt (Nat.lt_of_lt_of_le O478_4.lt D496_u)
  have ne_a442_u496 : a442 ≠ u496 := Nat.ne_of_lt (Nat.lt_of_lt_of_le E491.lt D496_u)
  have ne_b442_u496 : b442 ≠ u496 := Nat.ne_of_lt (Nat.lt_of_lt_of_le A494.lt D496_u)
  have N_u496 : n0 ≤ u496 := Nat.le_trans X478.sz D496_u
  have Q_u496 : h0.size ≤ u496 := Nat.le_trans K479.1 D496_u
  have ne_d1_tv496 : d1 ≠ tv496 := Nat.ne_of_lt (Nat.lt_of_lt_of_le A481.lt D496_tv)
  have ne_d2_tv496 : d2 ≠ tv496 := Nat.ne_of_lt (Nat.lt_of_lt_of_le A482.lt D496_tv)
  have ne_a_tv496 : a ≠ tv496 := Nat.ne_of_lt (Nat.lt_of_lt_of_le E483.lt D496_tv)
  have ne_sr_tv496 : sr ≠ tv496 := Nat.ne_of_lt (Nat.lt_of_lt_of_le E486.lt D496_tv)
  have ne_b_tv496 : b ≠ tv496 := Nat.ne_of_lt (Nat.lt_of_lt_of_le A489.lt D496_tv)
  have ne_b400_tv496 : b400 ≠ tv496 := Nat.ne_of_lt (Nat.lt_of_lt_of_le O478_0.lt D496_tv)
  have ne_t415_tv496 : t415 ≠ tv496 := Nat.ne_of_lt (Nat.lt_of_lt_of_le O478_4.lt D496_tv)
  have ne_a442_tv496 : a442 ≠ tv496 := Nat.ne_of_lt (Nat.lt_of_lt_of_le E491.lt D496_tv)
  have ne_b442_tv496 : b442 ≠ tv496 := Nat.ne_of_lt (Nat.lt_of_lt_of_le A494.lt D496_tv)
  have N_tv496 : n0 ≤ tv496 := Nat.le_trans X478.sz D496_tv
  have Q_tv496 : h0.size ≤ tv496 := Nat.le_trans K479.1 D496_tv
  have K497 : Keep h0 h496 [] := K479.trans K496 all0
  have O498 : Old Z n0 h496 := O480.keep K496 all0
  have A499 := A481.keep K496 nin0
  have A500 := A482.keep K496 nin0
  have E501 := E483.keep K496
  have F502 := F484.keep K496 nin0
  have F503 := F485.keep K496 nin0
  have E504 := E486.keep K496
  have F505 := F487.keep K496 nin0
  have F506 := F488.keep K496 nin0
  have A507 := A489.keep K496 nin0
  have E508 := O478_0.keep K496
  have E509 := E491.keep K496
  have F510 := F492.keep K496 nin0
  have F511 := F493.keep K496 nin0
  have A512 := A494.keep K496 nin0
  have M513 : h442.size ≤ h496.size := Nat.le_trans M495 K496.1
  have F514 := O478_1.keep K496 nin0
  have F515 := O478_2.keep K496 nin0
  have F516 := O478_3.keep K496 nin0
  have A517 := O478_4.keep K496 nin0
  show Go p e below _ n0 _ _ _ T496 (mkF m 43 #[.val (.ref a)] [(.ref u496)])
  refine Go.wide ?_
  exact Go.retA C X496 rfl d9_43 ⟨⟨u496, tv496, rfl, Q_u496, Q_tv496, K497, O496_0, O496_1, O496_2, O496_3⟩, M513⟩ (by decide) (by decide)
theorem own_ef_rm_ex (m : MethodId) (x0 : Int32) (x1 : Addr) (x2 : Int32) (x3 : Int32) (x4 : Int32) (x5 : Int64) : entryFrame m #[(.int x0), (.ref x1), (.int x2), (.int x3), (.int x4), (.long x5)] 11 = mkF m 0 #[.val (.int x0), .val (.ref x1), .val (.int x2), .val (.int x3), .val (.int x4), .val (.long x5), .second, .unset, .unset, .unset, .unset] [] := by first | (simp [entryFrame, mkF, argsToLocals, Value.category]; done) | rfl
theorem d44_0 : decode method_5_code 0 = .ok (.iload_n 0, 1) := by decide +kernel
theorem d44_1 : decode method_5_code 1 = .ok (.iload_n 2, 1) := by decide +kernel
theorem d44_2 : decode method_5_code 2 = .ok (.if_icmp .ge 9, 3) := by decide +kernel
theorem d44_5 : decode method_5_code 5 = .ok (.aload_n 1, 1) := by decide +kernel
theorem d44_6 : decode method_5_code 6 = .ok (.iload_n 0, 1) := by decide +kernel
theorem d44_7 : decode method_5_code 7 = .ok (.invokevirtual 69, 3) := by decide +kernel
theorem own_pd30 : parseMethodDescriptor "(I)C" = some ⟨[.int], some .char⟩ := by decide +kernel
theorem d44_10 : decode method_5_code 10 = .ok (.ireturn, 1) := by decide +kernel
theorem d44_11 : decode method_5_code 11 = .ok (.iload_n 0, 1) := by decide +kernel
theorem d44_12 : decode method_5_code 12 = .ok (.iload_n 2, 1) := by decide +kernel
theorem d44_13 : decode method_5_code 13 = .ok (.if_icmp .ne 6, 3) := by decide +kernel
theorem d44_16 : decode method_5_code 16 = .ok (.bipush 45, 2) := by decide +kernel
theorem d44_18 : decode method_5_code 18 = .ok (.ireturn, 1) := by decide +kernel
theorem d44_19 : decode method_5_code 19 = .ok (.iload_n 0, 1) := by decide +kernel
theorem d44_20 : decode method_5_code 20 = .ok (.iload_n 2, 1) := by decide +kernel
theorem d44_21 : decode method_5_code 21 = .ok (.isub, 1) := by decide +kernel
theorem d44_22 : decode method_5_code 22 = .ok (.iconst 1, 1) := by decide +kernel
theorem d44_23 : decode method_5_code 23 = .ok (.isub, 1) := by decide +kernel
theorem d44_24 : decode method_5_code 24 = .ok (.istore 7, 2) := by decide +kernel
theorem d44_26 : decode method_5_code 26 = .ok (.iload_n 3, 1) := by decide +kernel
theorem d44_27 : decode method_5_code 27 = .ok (.iconst 1, 1) := by decide +kernel
theorem d44_28 : decode method_5_code 28 = .ok (.if_icmp .ne 11, 3) := by decide +kernel
theorem d44_31 : decode method_5_code 31 = .ok (.iload 7, 2) := by decide +kernel
theorem d44_33 : decode method_5_code 33 = .ok (.ifCond .ne 6, 3) := by decide +kernel
theorem d44_36 : decode method_5_code 36 = .ok (.bipush 45, 2) := by decide +kernel
theorem d44_38 : decode method_5_code 38 = .ok (.ireturn, 1) := by decide +kernel
theorem d44_39 : decode method_5_code 39 = .ok (.iload 7, 2) := by decide +kernel
theorem d44_41 : decode method_5_code 41 = .ok (.iload_n 3, 1) := by decide +kernel
theorem d44_42 : decode method_5_code 42 = .ok (.isub, 1) := by decide +kernel
theorem d44_43 : decode method_5_code 43 = .ok (.istore 8, 2) := by decide +kernel
theorem d44_45 : decode method_5_code 45 = .ok (.iload 4, 2) := by decide +kernel
theorem d44_47 : decode method_5_code 47 = .ok (.iconst 1, 1) := by decide +kernel
theorem d44_48 : decode method_5_code 48 = .ok (.isub, 1) := by decide +kernel
theorem d44_49 : decode method_5_code 49 = .ok (.iload 8, 2) := by decide +kernel
theorem d44_51 : decode method_5_code 51 = .ok (.isub, 1) := by decide +kernel
theorem d44_52 : decode method_5_code 52 = .ok (.istore 9, 2) := by decide +kernel
theorem d44_54 : decode method_5_code 54 = .ok (.bipush 10, 2) := by decide +kernel
theorem d44_56 : decode method_5_code 56 = .ok (.newarray .long, 2) := by decide +kernel
theorem d44_58 : decode method_5_code 58 = .ok (.dup, 1) := by decide +kernel
theorem d44_59 : decode method_5_code 59 = .ok (.iconst 0, 1) := by decide +kernel
theorem d44_60 : decode method_5_code 60 = .ok (.lconst 1, 1) := by decide +kernel
theorem d44_61 : decode method_5_code 61 = .ok (.lastore, 1) := by decide +kernel
theorem d44_62 : decode method_5_code 62 = .ok (.dup, 1) := by decide +kernel
theorem d44_63 : decode method_5_code 63 = .ok (.iconst 1, 1) := by decide +kernel
theorem d44_64 : decode method_5_code 64 = .ok (.ldc2_w 51, 3) := by decide +kernel
theorem d44_67 : decode method_5_code 67 = .ok (.lastore, 1) := by decide +kernel
theorem d44_68 : decode method_5_code 68 = .ok (.dup, 1) := by decide +kernel
theorem d44_69 : decode method_5_code 69 = .ok (.iconst 2, 1) := by decide +kernel
theorem d44_70 : decode method_5_code 70 = .ok (.ldc2_w 53, 3) := by decide +kernel
theorem d44_73 : decode method_5_code 73 = .ok (.lastore, 1) := by decide +kernel
theorem d44_74 : decode method_5_code 74 = .ok (.dup, 1) := by decide +kernel
theorem d44_75 : decode method_5_code 75 = .ok (.iconst 3, 1) := by decide +kernel
theorem d44_76 : decode method_5_code 76 = .ok (.ldc2_w 55, 3) := by decide +kernel
theorem d44_79 : decode method_5_code 79 = .ok (.lastore, 1) := by decide +kernel
theorem d44_80 : decode method_5_code 80 = .ok (.dup, 1) := by decide +kernel
theorem d44_81 : decode method_5_code 81 = .ok (.iconst 4, 1) := by decide +kernel
theorem d44_82 : decode method_5_code 82 = .ok (.ldc2_w 57, 3) := by decide +kernel
theorem d44_85 : decode method_5_code 85 = .ok (.lastore, 1) := by decide +kernel
theorem d44_86 : decode method_5_code 86 = .ok (.dup, 1) := by decide +kernel
theorem d44_87 : decode method_5_code 87 = .ok (.iconst 5, 1) := by decide +kernel
theorem d44_88 : decode method_5_code 88 = .ok (.ldc2_w 59, 3) := by decide +kernel
theorem d44_91 : decode method_5_code 91 = .ok (.lastore, 1) := by decide +kernel
theorem d44_92 : decode method_5_code 92 = .ok (.dup, 1) := by decide +kernel
theorem d44_93 : decode method_5_code 93 = .ok (.bipush 6, 2) := by decide +kernel
theorem d44_95 : decode method_5_code 95 = .ok (.ldc2_w 61, 3) := by decide +kernel
theorem d44_98 : decode method_5_code 98 = .ok (.lastore, 1) := by decide +kernel
theorem d44_99 : decode method_5_code 99 = .ok (.dup, 1) := by decide +kernel
theorem d44_100 : decode method_5_code 100 = .ok (.bipush 7, 2) := by decide +kernel
theorem d44_102 : decode method_5_code 102 = .ok (.ldc2_w 63, 3) := by decide +kernel
theorem d44_105 : decode method_5_code 105 = .ok (.lastore, 1) := by decide +kernel
theorem d44_106 : decode method_5_code 106 = .ok (.dup, 1) := by decide +kernel
theorem d44_107 : decode method_5_code 107 = .ok (.bipush 8, 2) := by decide +kernel
theorem d44_109 : decode method_5_code 109 = .ok (.ldc2_w 65, 3) := by decide +kernel
theorem d44_112 : decode method_5_code 112 = .ok (.lastore, 1) := by decide +kernel
theorem d44_113 : decode method_5_code 113 = .ok (.dup, 1) := by decide +kernel
theorem d44_114 : decode method_5_code 114 = .ok (.bipush 9, 2) := by decide +kernel
theorem d44_116 : decode method_5_code 116 = .ok (.ldc2_w 67, 3) := by decide +kernel
theorem d44_119 : decode method_5_code 119 = .ok (.lastore, 1) := by decide +kernel
theorem d44_120 : decode method_5_code 120 = .ok (.astore 10, 2) := by decide +kernel
theorem d44_122 : decode method_5_code 122 = .ok (.bipush 48, 2) := by decide +kernel
theorem d44_124 : decode method_5_code 124 = .ok (.lload 5, 2) := by decide +kernel
theorem d44_126 : decode method_5_code 126 = .ok (.aload 10, 2) := by decide +kernel
theorem d44_128 : decode method_5_code 128 = .ok (.iload 9, 2) := by decide +kernel
theorem d44_130 : decode method_5_code 130 = .ok (.laload, 1) := by decide +kernel
theorem d44_131 : decode method_5_code 131 = .ok (.ldiv, 1) := by decide +kernel
theorem d44_132 : decode method_5_code 132 = .ok (.ldc2_w 51, 3) := by decide +kernel
theorem d44_135 : decode method_5_code 135 = .ok (.lrem, 1) := by decide +kernel
theorem d44_136 : decode method_5_code 136 = .ok (.l2i, 1) := by decide +kernel
theorem d44_137 : decode method_5_code 137 = .ok (.iadd, 1) := by decide +kernel
theorem d44_138 : decode method_5_code 138 = .ok (.i2c, 1) := by decide +kernel
theorem d44_139 : decode method_5_code 139 = .ok (.ireturn, 1) := by decide +kernel
set_option maxRecDepth 65536 in
set_option maxHeartbeats 40000000 in
theorem rm_ex (l : Launch) (Z : State) (a0 : Array Value) (hw : ∀ d ∈ tables_1, d.before a0 Z = true) (y0 : Int32) (sr : Addr) (y2 : Int32) (y3 : Int32) (y4 : Int32) (y5 : Int64) (b : Addr) (n : Nat) (f : Nat → Int32) (z : Int32) (ii : Nat) (sg : Nat) (N : Nat) (v : Nat) (cs : Int32) (sf : Value) (h0 : Heap) (n0 : Nat) (Z0 : n0 ≤ h0.size) (f0 : Old Z n0 h0) (f1 : Sta Z Z.heap "java/lang/String" "COMPACT_STRINGS" "Z" (.int cs)) (f2 : Sta Z Z.heap "jdk/internal/util/Preconditions" "SIOOBE_FORMATTER" "Ljava/util/function/BiFunction;" sf) (f3 : Exa Z h0 sr "java/lang/String") (f4 : Fld Z h0 sr "java/lang/String" "value" "[B" (.ref b)) (f5 : Fld Z h0 sr "java/lang/String" "coder" "B" (.int (0 : Int32))) (f6 : AI Z h0 b .byte n f) (hcs : ¬ cs = (0 : Int32)) (hsf : sf.isRef = true) (hz : z.toInt = (n : Int)) (hn2 : n ≤ 2) (hcl : y2.toInt = (n : Int)) (hsg : y3.toInt = (sg : Int)) (hs1 : sg ≤ 1) (hNN : y4.toInt = (N : Int)) (hN : N ≤ 10) (hvv : y5.toInt = (v : Int)) (hi : y0.toInt = (ii : Int)) (hlt : ii < n + 1 + (N + sg)) :
    Con l Z (⟨"com/example/wharfline/wharfline/runtime/WorkToStringPinLaw", "expected", "(ILjava/lang/String;IIIJ)C"⟩ : MethodName) method_5_code 11 (some .char) ({ frames := 4, cells := 1, slots := 10, locals := 53 } : Room) #[(.int y0), (.ref sr), (.int y2), (.int y3), (.int y4), (.long y5)] h0 n0 (fun rv hv => rv = some (.int (own_sx f n sg N v ii)) ∧ Keep h0 hv []) := by
  refine Con.enter (plainFor_of_name own_pn10) Z0 ?_
  intro p e s m below meth c T0 C hnm X0
  refine Go.cast (own_ef_rm_ex m y0 sr y2 y3 y4 y5) ?_
  refine Go.iloadN C X0 (pc' := 1) d44_0 rfl rfl ?_
  refine Go.iloadN C X0 (pc' := 2) d44_1 rfl rfl ?_
  by_cases c518 : y0 < y2
  · refine Go.icmpNo C X0 (pc' := 5) d44_2 (tlt c518).2.1 rfl ?_
    refine Go.aloadN C X0 (pc' := 6) d44_5 rfl rfl rfl ?_
    refine Go.iloadN C X0 (pc' := 7) d44_6 rfl rfl ?_
    refine Go.callV C X0 (pc' := 10) (W := 0) (argsL := [(.int y0)]) (rest := []) (a := sr) (rm_ca l Z a0 hw sr y0 b n f z ii cs sf h0 n0 X0.sz f0 f1 f2 f3 f4 f5 f6 hcs hsf hz hi ((own_jn hi hcl).mp c518)) f3 (notFace_of_selects (args := #[]) (mvT C.2.1 (own_w hw 202 rfl))) (own_w hw 199 rfl) (own_w hw 200 rfl) (own_w hw 202 rfl) (own_w hw 201 rfl) (own_w hw 2 rfl) (own_w hw 203 rfl) (by decide) rfl rfl (lenOf own_pd30 rfl) rfl (Nat.le_of_eq rfl) (by decide) (by decide) (by decide) (by decide) d44_7 rfl (fun _ _ q => Nat.le_of_eq (congrArg Array.size q.2)) (fun T519 h519 v519 X519 P519 => ?_)
    obtain ⟨rfl, rfl⟩ := P519
    show Go p e below _ n0 _ _ _ T519 (mkF m 10 #[.val (.int y0), .val (.ref sr), .val (.int y2), .val (.int y3), .val (.int y4), .val (.long y5), .second, .unset, .unset, .unset, .unset] [(.int (own_c8 (f ii)))])
    exact Go.retZ (t := .char) C X519 (z' := (own_c8 (f ii))) (congrArg Value.int (own_c8n (f ii))) d44_10 ⟨(congrArg (fun r => some (Value.int r)) (own_x1 ((own_jn hi hcl).mp c518))), (Keep.refl h0 [])⟩ (by decide) (by decide)
  · refine Go.icmpYes C X0 (pc' := 11) d44_2 (flt c518).2.1 (by decide) (by decide) ?_
    refine Go.iloadN C X0 (pc' := 12) d44_11 rfl rfl ?_
    refine Go.iloadN C X0 (pc' := 13) d44_12 rfl rfl ?_
    by_cases c520 : y0 = y2
    · refine Go.icmpNo C X0 (pc' := 16) d44_13 (teq c520).2 rfl ?_
      refine Go.bipush C X0 (pc' := 18) (v := (45 : Int32)) d44_16 rfl rfl ?_
      exact Go.retZ (t := .char) C X0 (z' := (45 : Int32)) (by decide) d44_18 ⟨(congrArg (fun r => some (Value.int r)) (own_x2 ((own_je hi hcl).mp c520))), (Keep.refl h0 [])⟩ (by decide) (by decide)
    · refine Go.icmpYes C X0 (pc' := 19) d44_13 (feq c520).2 (by decide) (by decide) ?_
      refine Go.iloadN C X0 (pc' := 20) d44_19 rfl rfl ?_
      refine Go.iloadN C X0 (pc' := 21) d44_20 rfl rfl ?_
      refine Go.isub C X0 (pc' := 22) d44_21 rfl ?_
      refine Go.iconst C X0 (pc' := 23) (v := (1 : Int32)) d44_22 rfl rfl ?_
      refine Go.isub C X0 (pc' := 24) d44_23 rfl ?_
      refine Go.istore C X0 (pc' := 26) (Ls' := #[.val (.int y0), .val (.ref sr), .val (.int y2), .val (.int y3), .val (.int y4), .val (.long y5), .second, .val (.int ((y0 - y2) - (1 : Int32))), .unset, .unset, .unset]) d44_24 rfl rfl ?_
      refine Go.iloadN C X0 (pc' := 27) d44_26 rfl rfl ?_
      refine Go.iconst C X0 (pc' := 28) (v := (1 : Int32)) d44_27 rfl rfl ?_
      by_cases c521 : y3 = (1 : Int32)
      · refine Go.icmpNo C X0 (pc' := 31) d44_28 (teq c521).2 rfl ?_
        refine Go.iload C X0 (pc' := 33) d44_31 rfl rfl ?_
        by_cases c522 : ((y0 - y2) - (1 : Int32)) = (0 : Int32)
        · refine Go.ifNo C X0 (pc' := 36) d44_33 ((if0 _ _).trans (teq c522).2) rfl ?_
          refine Go.bipush C X0 (pc' := 38) (v := (45 : Int32)) d44_36 rfl rfl ?_
          exact Go.retZ (t := .char) C X0 (z' := (45 : Int32)) (by decide) d44_38 ⟨(congrArg (fun r => some (Value.int r)) (own_x3 ⟨(own_je (d := sg) (n := 1) hsg rfl).mp c521, by have h1 := (own_je (d := ii - n - 1) (n := 0) (own_e7 hi hcl (by omega) (show n < ii by have h1 : ¬ ii < n := fun q => c518 ((own_jn hi hcl).mpr q); have h2 : ¬ ii = n := fun q => c520 ((own_je hi hcl).mpr q); omega)) rfl).mp c522; have := (show n < ii by have h1 : ¬ ii < n := fun q => c518 ((own_jn hi hcl).mpr q); have h2 : ¬ ii = n := fun q => c520 ((own_je hi hcl).mpr q); omega); omega⟩)), (Keep.refl h0 [])⟩ (by decide) (by decide)
        · refine Go.ifYes C X0 (pc' := 39) d44_33 ((if0 _ _).trans (feq c522).2) (by decide) (by decide) ?_
          refine Go.iload C X0 (pc' := 41) d44_39 rfl rfl ?_
          refine Go.iloadN C X0 (pc' := 42) d44_41 rfl rfl ?_
          refine Go.isub C X0 (pc' := 43) d44_42 rfl ?_
          refine Go.istore C X0 (pc' := 45) (Ls' := #[.val (.int y0), .val (.ref sr), .val (.int y2), .val (.int y3), .val (.int y4), .val (.long y5), .second, .val (.int ((y0 - y2) - (1 : Int32))), .val (.int (((y0 - y2) - (1 : Int32)) - y3)), .unset, .unset]) d44_43 rfl rfl ?_
          refine Go.iload C X0 (pc' := 47) d44_45 rfl rfl ?_
          refine Go.iconst C X0 (pc' := 48) (v := (1 : Int32)) d44_47 rfl rfl ?_
          refine Go.isub C X0 (pc' := 49) d44_48 rfl ?_
          refine Go.iload C X0 (pc' := 51) d44_49 rfl rfl ?_
          refine Go.isub C X0 (pc' := 52) d44_51 rfl ?_
          refine Go.istore C X0 (pc' := 54) (Ls' := #[.val (.int y0), .val (.ref sr), .val (.int y2), .val (.int y3), .val (.int y4), .val (.long y5), .second, .val (.int ((y0 - y2) - (1 : Int32))), .val (.int (((y0 - y2) - (1 : Int32)) - y3)), .val (.int ((y4 - (1 : Int32)) - (((y0 - y2) - (1 : Int32)) - y3))), .unset]) d44_52 rfl rfl ?_
          refine Go.bipush C X0 (pc' := 56) (v := (10 : Int32)) d44_54 rfl rfl ?_
          refine Go.newP C X0 (pc' := 58) (nn := 10) (cap := 10) (own_w hw 224 rfl) d44_56 rfl (by decide) (by decide) (by decide) (by decide) rfl (fun T523 h523 b523 k523 X523 g523 E523 Ar523 N523 => ?_)
          have ne_sr_b523 : sr ≠ b523 := Nat.ne_of_lt (Nat.lt_of_lt_of_eq f3.lt g523.symm)
          have ne_b_b523 : b ≠ b523 := Nat.ne_of_lt (Nat.lt_of_lt_of_eq f6.lt g523.symm)
          have Q523 : h0.size ≤ b523 := Nat.le_trans (Keep.refl h0 []).1 (Nat.le_of_eq g523.symm)
          have K524 : Keep h0 h523 [] := (Keep.refl h0 []).ext E523
          have O525 : Old Z n0 h523 := f0.ext E523
          have E526 := f3.ext E523
          have F527 := f4.ext E523
          have F528 := f5.ext E523
          have A529 := f6.ext E523
          have A523 : AJ Z h523 b523 10 (fun _ => 0) := AJ.new rfl Ar523
          refine Go.dup C X523 (pc' := 59) d44_58 rfl rfl ?_
          refine Go.iconst C X523 (pc' := 60) (v := (0 : Int32)) d44_59 rfl rfl ?_
          refine Go.lconst C X523 (pc' := 61) (v := (1 : Int64)) d44_60 rfl rfl ?_
          refine Go.lastore C X523 (pc' := 62) (i := 0) A523 rfl (by decide) N523 d44_61 rfl (fun T530 h530 X530 W530 A530 => ?_)
          have K531 : Keep h0 h530 [] := K524.wr W530 (Or.inr Q523)
          have O532 : Old Z n0 h530 := O525.wr W530 N523
          have E533 := E526.wr W530
          have F534 := F527.other W530 (Or.inl ne_sr_b523)
          have F535 := F528.other W530 (Or.inl ne_sr_b523)
          have A536 := A529.other W530 ne_b_b523
          refine Go.dup C X530 (pc' := 63) d44_62 rfl rfl ?_
          refine Go.iconst C X530 (pc' := 64) (v := (1 : Int32)) d44_63 rfl rfl ?_
          refine Go.ldc2 C X530 (pc' := 67) (own_w hw 194 rfl) d44_64 rfl ?_
          refine Go.lastore C X530 (pc' := 68) (i := 1) A530 rfl (by decide) N523 d44_67 rfl (fun T537 h537 X537 W537 A537 => ?_)
          have K538 : Keep h0 h537 [] := K531.wr W537 (Or.inr Q523)
          have O539 : Old Z n0 h537 := O532.wr W537 N523
          have E540 := E533.wr W537
          have F541 := F534.other W537 (Or.inl ne_sr_b523)
          have F542 := F535.other W537 (Or.inl ne_sr_b523)
          have A543 := A536.other W537 ne_b_b523
          refine Go.dup C X537 (pc' := 69) d44_68 rfl rfl ?_
          refine Go.iconst C X537 (pc' := 70) (v := (2 : Int32)) d44_69 rfl rfl ?_
          refine Go.ldc2 C X537 (pc' := 73) (own_w hw 225 rfl) d44_70 rfl ?_
          refine Go.lastore C X537 (pc' := 74) (i := 2) A537 rfl (by decide) N523 d44_73 rfl (fun T544 h544 X544 W544 A544 => ?_)
          have K545 : Keep h0 h544 [] := K538.wr W544 (Or.inr Q523)
          have O546 : Old Z n0 h544 := O539.wr W544 N523
          have E547 := E540.wr W544
          have F548 := F541.other W544 (Or.inl ne_sr_b523)
          have F549 := F542.other W544 (Or.inl ne_sr_b523)
          have A550 := A543.other W544 ne_b_b523
          refine Go.dup C X544 (pc' := 75) d44_74 rfl rfl ?_
          refine Go.iconst C X544 (pc' := 76) (v := (3 : Int32)) d44_75 rfl rfl ?_
          refine Go.ldc2 C X544 (pc' := 79) (own_w hw 226 rfl) d44_76 rfl ?_
          refine Go.lastore C X544 (pc' := 80) (i := 3) A544 rfl (by decide) N523 d44_79 rfl (fun T551 h551 X551 W551 A551 => ?_)
          have K552 : Keep h0 h551 [] := K545.wr W551 (Or.inr Q523)
          have O553 : Old Z n0 h551 := O546.wr W551 N523
          have E554 := E547.wr W551
          have F555 := F548.other W551 (Or.inl ne_sr_b523)
          have F556 := F549.other W551 (Or.inl ne_sr_b523)
          have A557 := A550.other W551 ne_b_b523
          refine Go.dup C X551 (pc' := 81) d44_80 rfl rfl ?_
          refine Go.iconst C X551 (pc' := 82) (v := (4 : Int32)) d44_81 rfl rfl ?_
          refine Go.ldc2 C X551 (pc' := 85) (own_w hw 227 rfl) d44_82 rfl ?_
          refine Go.lastore C X551 (pc' := 86) (i := 4) A551 rfl (by decide) N523 d44_85 rfl (fun T558 h558 X558 W558 A558 => ?_)
          have K559 : Keep h0 h558 [] := K552.wr W558 (Or.inr Q523)
          have O560 : Old Z n0 h558 := O553.wr W558 N523
          have E561 := E554.wr W558
          have F562 := F555.other W558 (Or.inl ne_sr_b523)
          have F563 := F556.other W558 (Or.inl ne_sr_b523)
          have A564 := A557.other W558 ne_b_b523
          refine Go.dup C X558 (pc' := 87) d44_86 rfl rfl ?_
          refine Go.iconst C X558 (pc' := 88) (v := (5 : Int32)) d44_87 rfl rfl ?_
          refine Go.ldc2 C X558 (pc' := 91) (own_w hw 228 rfl) d44_88 rfl ?_
          refine Go.lastore C X558 (pc' := 92) (i := 5) A558 rfl (by decide) N523 d44_91 rfl (fun T565 h565 X565 W565 A565 => ?_)
          have K566 : Keep h0 h565 [] := K559.wr W565 (Or.inr Q523)
          have O567 : Old Z n0 h565 := O560.wr W565 N523
          have E568 := E561.wr W565
          have F569 := F562.other W565 (Or.inl ne_sr_b523)
          have F570 := F563.other W565 (Or.inl ne_sr_b523)
          have A571 := A564.other W565 ne_b_b523
          refine Go.dup C X565 (pc' := 93) d44_92 rfl rfl ?_
          refine Go.bipush C X565 (pc' := 95) (v := (6 : Int32)) d44_93 rfl rfl ?_
          refine Go.ldc2 C X565 (pc' := 98) (own_w hw 229 rfl) d44_95 rfl ?_
          refine Go.lastore C X565 (pc' := 99) (i := 6) A565 rfl (by decide) N523 d44_98 rfl (fun T572 h572 X572 W572 A572 => ?_)
          have K573 : Keep h0 h572 [] := K566.wr W572 (Or.inr Q523)
          have O574 : Old Z n0 h572 := O567.wr W572 N523
          have E575 := E568.wr W572
          have F576 := F569.other W572 (Or.inl ne_sr_b523)
          have F577 := F570.other W572 (Or.inl ne_sr_b523)
          have A578 := A571.other W572 ne_b_b523
          refine Go.dup C X572 (pc' := 100) d44_99 rfl rfl ?_
          refine Go.bipush C X572 (pc' := 102) (v := (7 : Int32)) d44_100 rfl rfl ?_
          refine Go.ldc2 C X572 (pc' := 105) (own_w hw 230 rfl) d44_102 rfl ?_
          refine Go.lastore C X572 (pc' := 106) (i := 7) A572 rfl (by decide) N523 d44_105 rfl (fun T579 h579 X579 W579 A579 => ?_)
          have K580 : Keep h0 h579 [] := K573.wr W579 (Or.inr Q523)
          have O581 : Old Z n0 h579 := O574.wr W579 N523
          have E582 := E575.wr W579
          have F583 := F576.other W579 (Or.inl ne_sr_b523)
          have F584 := F577.other W579 (Or.inl ne_sr_b523)
          have A585 := A578.other W579 ne_b_b523
          refine Go.dup C X579 (pc' := 107) d44_106 rfl rfl ?_
          refine Go.bipush C X579 (pc' := 109) (v := (8 : Int32)) d44_107 rfl rfl ?_
          refine Go.ldc2 C X579 (pc' := 112) (own_w hw 231 rfl) d44_109 rfl ?_
          refine Go.lastore C X579 (pc' := 113) (i := 8) A579 rfl (by decide) N523 d44_112 rfl (fun T586 h586 X586 W586 A586 => ?_)
          have K587 : Keep h0 h586 [] := K580.wr W586 (Or.inr Q523)
          have O588 : Old Z n0 h586 := O581.wr W586 N523
          have E589 := E582.wr W586
          have F590 := F583.other W586 (Or.inl ne_sr_b523)
          have F591 := F584.other W586 (Or.inl ne_sr_b523)
          have A592 := A585.other W586 ne_b_b523
          refine Go.dup C X586 (pc' := 114) d44_113 rfl rfl ?_
          refine Go.bipush C X586 (pc' := 116) (v := (9 : Int32)) d44_114 rfl rfl ?_
          refine Go.ldc2 C X586 (pc' := 119) (own_w hw 232 rfl) d44_116 rfl ?_
          refine Go.lastore C X586 (pc' := 120) (i := 9) A586 rfl (by decide) N523 d44_119 rfl (fun T593 h593 X593 W593 A593 => ?_)
          have K594 : Keep h0 h593 [] := K587.wr W593 (Or.inr Q523)
          have O595 : Old Z n0 h593 := O588.wr W593 N523
          have E596 := E589.wr W593
          have F597 := F590.other W593 (Or.inl ne_sr_b523)
          have F598 := F591.other W593 (Or.inl ne_sr_b523)
          have A599 := A592.other W593 ne_b_b523
          refine Go.astore C X593 (pc' := 122) (Ls' := #[.val (.int y0), .val (.ref sr), .val (.int y2), .val (.int y3), .val (.int y4), .val (.long y5), .second, .val (.int ((y0 - y2) - (1 : Int32))), .val (.int (((y0 - y2) - (1 : Int32)) - y3)), .val (.int ((y4 - (1 : Int32)) - (((y0 - y2) - (1 : Int32)) - y3))), .val (.ref b523)]) d44_120 rfl rfl rfl ?_
          refine Go.bipush C X593 (pc' := 124) (v := (48 : Int32)) d44_122 rfl rfl ?_
          refine Go.lload C X593 (pc' := 126) d44_124 rfl rfl ?_
          refine Go.aload C X593 (pc' := 128) d44_126 rfl rfl rfl ?_
          refine Go.iload C X593 (pc' := 130) d44_128 rfl rfl ?_
          refine Go.laload C X593 (pc' := 131) (i := (N - 1 - (ii - n - 1 - sg))) (w := (own_p10 (N - 1 - (ii - n - 1 - sg)))) A593 (own_e9 (own_e7 hi hcl (by omega) (show n < ii by have h1 : ¬ ii < n := fun q => c518 ((own_jn hi hcl).mpr q); have h2 : ¬ ii = n := fun q => c520 ((own_je hi hcl).mpr q); omega)) hNN hsg (by have := (show n < ii by have h1 : ¬ ii < n := fun q => c518 ((own_jn hi hcl).mpr q); have h2 : ¬ ii = n := fun q => c520 ((own_je hi hcl).mpr q); omega); have := (show ¬ (sg = 1 ∧ ii = n + 1) from fun q => c522 ((own_je (d := ii - n - 1) (n := 0) (own_e7 hi hcl (by omega) (show n < ii by have h1 : ¬ ii < n := fun q => c518 ((own_jn hi hcl).mpr q); have h2 : ¬ ii = n := fun q => c520 ((own_je hi hcl).mpr q); omega)) rfl).mpr (by omega))); omega) (by have := (show n < ii by have h1 : ¬ ii < n := fun q => c518 ((own_jn hi hcl).mpr q); have h2 : ¬ ii = n := fun q => c520 ((own_je hi hcl).mpr q); omega); have := (show ¬ (sg = 1 ∧ ii = n + 1) from fun q => c522 ((own_je (d := ii - n - 1) (n := 0) (own_e7 hi hcl (by omega) (show n < ii by have h1 : ¬ ii < n := fun q => c518 ((own_jn hi hcl).mpr q); have h2 : ¬ ii = n := fun q => c520 ((own_je hi hcl).mpr q); omega)) rfl).mpr (by omega))); omega) hN (by omega)) (show (N - 1 - (ii - n - 1 - sg)) < 10 by omega) (own_pt _ (show (N - 1 - (ii - n - 1 - sg)) < 10 by omega)) d44_130 rfl ?_
          refine Go.ldiv C X593 (pc' := 132) d44_131 (own_p10n _ (show (N - 1 - (ii - n - 1 - sg)) < 10 by omega)) rfl ?_
          refine Go.ldc2 C X593 (pc' := 135) (own_w hw 194 rfl) d44_132 rfl ?_
          refine Go.lrem C X593 (pc' := 136) d44_135 (by decide) rfl ?_
          refine Go.l2i C X593 (pc' := 137) d44_136 rfl ?_
          refine Go.iadd C X593 (pc' := 138) d44_137 rfl ?_
          refine Go.i2c C X593 (pc' := 139) d44_138 rfl ?_
          exact Go.retZ (t := .char) C X593 (z' := (own_dg v (N - 1 - (ii - n - 1 - sg)))) (congrArg Value.int (own_exd hvv (show (N - 1 - (ii - n - 1 - sg)) < 10 by omega))) d44_139 ⟨(congrArg (fun r => some (Value.int r)) (own_x4 (show n < ii by have h1 : ¬ ii < n := fun q => c518 ((own_jn hi hcl).mpr q); have h2 : ¬ ii = n := fun q => c520 ((own_je hi hcl).mpr q); omega) (show ¬ (sg = 1 ∧ ii = n + 1) from fun q => c522 ((own_je (d := ii - n - 1) (n := 0) (own_e7 hi hcl (by omega) (show n < ii by have h1 : ¬ ii < n := fun q => c518 ((own_jn hi hcl).mpr q); have h2 : ¬ ii = n := fun q => c520 ((own_je hi hcl).mpr q); omega)) rfl).mpr (by omega))))), K594⟩ (by decide) (by decide)
      · refine Go.icmpYes C X0 (pc' := 39) d44_28 (feq c521).2 (by decide) (by decide) ?_
        refine Go.iload C X0 (pc' := 41) d44_39 rfl rfl ?_
        refine Go.iloadN C X0 (pc' := 42) d44_41 rfl rfl ?_
        refine Go.isub C X0 (pc' := 43) d44_42 rfl ?_
        refine Go.istore C X0 (pc' := 45) (Ls' := #[.val (.int y0), .val (.ref sr), .val (.int y2), .val (.int y3), .val (.int y4), .val (.long y5), .second, .val (.int ((y0 - y2) - (1 : Int32))), .val (.int (((y0 - y2) - (1 : Int32)) - y3)), .unset, .unset]) d44_43 rfl rfl ?_
        refine Go.iload C X0 (pc' := 47) d44_45 rfl rfl ?_
        refine Go.iconst C X0 (pc' := 48) (v := (1 : Int32)) d44_47 rfl rfl ?_
        refine Go.isub C X0 (pc' := 49) d44_48 rfl ?_
        refine Go.iload C X0 (pc' := 51) d44_49 rfl rfl ?_
        refine Go.isub C X0 (pc' := 52) d44_51 rfl ?_
        refine Go.istore C X0 (pc' := 54) (Ls' := #[.val (.int y0), .val (.ref sr), .val (.int y2), .val (.int y3), .val (.int y4), .val (.long y5), .second, .val (.int ((y0 - y2) - (1 : Int32))), .val (.int (((y0 - y2) - (1 : Int32)) - y3)), .val (.int ((y4 - (1 : Int32)) - (((y0 - y2) - (1 : Int32)) - y3))), .unset]) d44_52 rfl rfl ?_
        refine Go.bipush C X0 (pc' := 56) (v := (10 : Int32)) d44_54 rfl rfl ?_
        refine Go.newP C X0 (pc' := 58) (nn := 10) (cap := 10) (own_w hw 224 rfl) d44_56 rfl (by decide) (by decide) (by decide) (by decide) rfl (fun T600 h600 b600 k600 X600 g600 E600 Ar600 N600 => ?_)
        have ne_sr_b600 : sr ≠ b600 := Nat.ne_of_lt (Nat.lt_of_lt_of_eq f3.lt g600.symm)
        have ne_b_b600 : b ≠ b600 := Nat.ne_of_lt (Nat.lt_of_lt_of_eq f6.lt g600.symm)
        have Q600 : h0.size ≤ b600 := Nat.le_trans (Keep.refl h0 []).1 (Nat.le_of_eq g600.symm)
        have K601 : Keep h0 h600 [] := (Keep.refl h0 []).ext E600
        have O602 : Old Z n0 h600 := f0.ext E600
        have E603 := f3.ext E600
        have F604 := f4.ext E600
        have F605 := f5.ext E600
        have A606 := f6.ext E600
        have A600 : AJ Z h600 b600 10 (fun _ => 0) := AJ.new rfl Ar600
        refine Go.dup C X600 (pc' := 59) d44_58 rfl rfl ?_
        refine Go.iconst C X600 (pc' := 60) (v := (0 : Int32)) d44_59 rfl rfl ?_
        refine Go.lconst C X600 (pc' := 61) (v := (1 : Int64)) d44_60 rfl rfl ?_
        refine Go.lastore C X600 (pc' := 62) (i := 0) A600 rfl (by decide) N600 d44_61 rfl (fun T607 h607 X607 W607 A607 => ?_)
        have K608 : Keep h0 h607 [] := K601.wr W607 (Or.inr Q600)
        have O609 : Old Z n0 h607 := O602.wr W607 N600
        have E610 := E603.wr W607
        have F611 := F604.other W607 (Or.inl ne_sr_b600)
        have F612 := F605.other W607 (Or.inl ne_sr_b600)
        have A613 := A606.other W607 ne_b_b600
        refine Go.dup C X607 (pc' := 63) d44_62 rfl rfl ?_
        refine Go.iconst C X607 (pc' := 64) (v := (1 : Int32)) d44_63 rfl rfl ?_
        refine Go.ldc2 C X607 (pc' := 67) (own_w hw 194 rfl) d44_64 rfl ?_
        refine Go.lastore C X607 (pc' := 68) (i := 1) A607 rfl (by decide) N600 d44_67 rfl (fun T614 h614 X614 W614 A614 => ?_)
        have K615 : Keep h0 h614 [] := K608.wr W614 (Or.inr Q600)
        have O616 : Old Z n0 h614 := O609.wr W614 N600
        have E617 := E610.wr W614
        have F618 := F611.other W614 (Or.inl ne_sr_b600)
        have F619 := F612.other W614 (Or.inl ne_sr_b600)
        have A620 := A613.other W614 ne_b_b600
        refine Go.dup C X614 (pc' := 69) d44_68 rfl rfl ?_
        refine Go.iconst C X614 (pc' := 70) (v := (2 : Int32)) d44_69 rfl rfl ?_
        refine Go.ldc2 C X614 (pc' := 73) (own_w hw 225 rfl) d44_70 rfl ?_
        refine Go.lastore C X614 (pc' := 74) (i := 2) A614 rfl (by decide) N600 d44_73 rfl (fun T621 h621 X621 W621 A621 => ?_)
        have K622 : Keep h0 h621 [] := K615.wr W621 (Or.inr Q600)
        have O623 : Old Z n0 h621 := O616.wr W621 N600
        have E624 := E617.wr W621
        have F625 := F618.other W621 (Or.inl ne_sr_b600)
        have F626 := F619.other W621 (Or.inl ne_sr_b600)
        have A627 := A620.other W621 ne_b_b600
        refine Go.dup C X621 (pc' := 75) d44_74 rfl rfl ?_
        refine Go.iconst C X621 (pc' := 76) (v := (3 : Int32)) d44_75 rfl rfl ?_
        refine Go.ldc2 C X621 (pc' := 79) (own_w hw 226 rfl) d44_76 rfl ?_
        refine Go.lastore C X621 (pc' := 80) (i := 3) A621 rfl (by decide) N600 d44_79 rfl (fun T628 h628 X628 W628 A628 => ?_)
        have K629 : Keep h0 h628 [] := K622.wr W628 (Or.inr Q600)
        have O630 : Old Z n0 h628 := O623.wr W628 N600
        have E631 := E624.wr W628
        have F632 := F625.other W628 (Or.inl ne_sr_b600)
        have F633 := F626.other W628 (Or.inl ne_sr_b600)
        have A634 := A627.other W628 ne_b_b600
        refine Go.dup C X628 (pc' := 81) d44_80 rfl rfl ?_
        refine Go.iconst C X628 (pc' := 82) (v := (4 : Int32)) d44_81 rfl rfl ?_
        refine Go.ldc2 C X628 (pc' := 85) (own_w hw 227 rfl) d44_82 rfl ?_
        refine Go.lastore C X628 (pc' := 86) (i := 4) A628 rfl (by decide) N600 d44_85 rfl (fun T635 h635 X635 W635 A635 => ?_)
        have K636 : Keep h0 h635 [] := K629.wr W635 (Or.inr Q600)
        have O637 : Old Z n0 h635 := O630.wr W635 N600
        have E638 := E631.wr W635
        have F639 := F632.other W635 (Or.inl ne_sr_b600)
        have F640 := F633.other W635 (Or.inl ne_sr_b600)
        have A641 := A634.other W635 ne_b_b600
        refine Go.dup C X635 (pc' := 87) d44_86 rfl rfl ?_
        refine Go.iconst C X635 (pc' := 88) (v := (5 : Int32)) d44_87 rfl rfl ?_
        refine Go.ldc2 C X635 (pc' := 91) (own_w hw 228 rfl) d44_88 rfl ?_
        refine Go.lastore C X635 (pc' := 92) (i := 5) A635 rfl (by decide) N600 d44_91 rfl (fun T642 h642 X642 W642 A642 => ?_)
        have K643 : Keep h0 h642 [] := K636.wr W642 (Or.inr Q600)
        have O644 : Old Z n0 h642 := O637.wr W642 N600
        have E645 := E638.wr W642
        have F646 := F639.other W642 (Or.inl ne_sr_b600)
        have F647 := F640.other W642 (Or.inl ne_sr_b600)
        have A648 := A641.other W642 ne_b_b600
        refine Go.dup C X642 (pc' := 93) d44_92 rfl rfl ?_
        refine Go.bipush C X642 (pc' := 95) (v := (6 : Int32)) d44_93 rfl rfl ?_
        refine Go.ldc2 C X642 (pc' := 98) (own_w hw 229 rfl) d44_95 rfl ?_
        refine Go.lastore C X642 (pc' := 99) (i := 6) A642 rfl (by decide) N600 d44_98 rfl (fun T649 h649 X649 W649 A649 => ?_)
        have K650 : Keep h0 h649 [] := K643.wr W649 (Or.inr Q600)
        have O651 : Old Z n0 h649 := O644.wr W649 N600
        have E652 := E645.wr W649
        have F653 := F646.other W649 (Or.inl ne_sr_b600)
        have F654 := F647.other W649 (Or.inl ne_sr_b600)
        have A655 := A648.other W649 ne_b_b600
        refine Go.dup C X649 (pc' := 100) d44_99 rfl rfl ?_
        refine Go.bipush C X649 (pc' := 102) (v := (7 : Int32)) d44_100 rfl rfl ?_
        refine Go.ldc2 C X649 (pc' := 105) (own_w hw 230 rfl) d44_102 rfl ?_
        refine Go.lastore C X649 (pc' := 106) (i := 7) A649 rfl (by decide) N600 d44_105 rfl (fun T656 h656 X656 W656 A656 => ?_)
        have K657 : Keep h0 h656 [] := K650.wr W656 (Or.inr Q600)
        have O658 : Old Z n0 h656 := O651.wr W656 N600
        have E659 := E652.wr W656
        have F660 := F653.other W656 (Or.inl ne_sr_b600)
        have F661 := F654.other W656 (Or.inl ne_sr_b600)
        have A662 := A655.other W656 ne_b_b600
        refine Go.dup C X656 (pc' := 107) d44_106 rfl rfl ?_
        refine Go.bipush C X656 (pc' := 109) (v := (8 : Int32)) d44_107 rfl rfl ?_
        refine Go.ldc2 C X656 (pc' := 112) (own_w hw 231 rfl) d44_109 rfl ?_
        refine Go.lastore C X656 (pc' := 113) (i := 8) A656 rfl (by decide) N600 d44_112 rfl (fun T663 h663 X663 W663 A663 => ?_)
        have K664 : Keep h0 h663 [] := K657.wr W663 (Or.inr Q600)
        have O665 : Old Z n0 h663 := O658.wr W663 N600
        have E666 := E659.wr W663
        have F667 := F660.other W663 (Or.inl ne_sr_b600)
        have F668 := F661.other W663 (Or.inl ne_sr_b600)
        have A669 := A662.other W663 ne_b_b600
        refine Go.dup C X663 (pc' := 114) d44_113 rfl rfl ?_
        refine Go.bipush C X663 (pc' := 116) (v := (9 : Int32)) d44_114 rfl rfl ?_
        refine Go.ldc2 C X663 (pc' := 119) (own_w hw 232 rfl) d44_116 rfl ?_
        refine Go.lastore C X663 (pc' := 120) (i := 9) A663 rfl (by decide) N600 d44_119 rfl (fun T670 h670 X670 W670 A670 => ?_)
        have K671 : Keep h0 h670 [] := K664.wr W670 (Or.inr Q600)
        have O672 : Old Z n0 h670 := O665.wr W670 N600
        have E673 := E666.wr W670
        have F674 := F667.other W670 (Or.inl ne_sr_b600)
        have F675 := F668.other W670 (Or.inl ne_sr_b600)
        have A676 := A669.other W670 ne_b_b600
        refine Go.astore C X670 (pc' := 122) (Ls' := #[.val (.int y0), .val (.ref sr), .val (.int y2), .val (.int y3), .val (.int y4), .val (.long y5), .second, .val (.int ((y0 - y2) - (1 : Int32))), .val (.int (((y0 - y2) - (1 : Int32)) - y3)), .val (.int ((y4 - (1 : Int32)) - (((y0 - y2) - (1 : Int32)) - y3))), .val (.ref b600)]) d44_120 rfl rfl rfl ?_
        refine Go.bipush C X670 (pc' := 124) (v := (48 : Int32)) d44_122 rfl rfl ?_
        refine Go.lload C X670 (pc' := 126) d44_124 rfl rfl ?_
        refine Go.aload C X670 (pc' := 128) d44_126 rfl rfl rfl ?_
        refine Go.iload C X670 (pc' := 130) d44_128 rfl rfl ?_
        refine Go.laload C X670 (pc' := 131) (i := (N - 1 - (ii - n - 1 - sg))) (w := (own_p10 (N - 1 - (ii - n - 1 - sg)))) A670 (own_e9 (own_e7 hi hcl (by omega) (show n < ii by have h1 : ¬ ii < n := fun q => c518 ((own_jn hi hcl).mpr q); have h2 : ¬ ii = n := fun q => c520 ((own_je hi hcl).mpr q); omega)) hNN hsg (by have := (show n < ii by have h1 : ¬ ii < n := fun q => c518 ((own_jn hi hcl).mpr q); have h2 : ¬ ii = n := fun q => c520 ((own_je hi hcl).mpr q); omega); have := (show ¬ (sg = 1 ∧ ii = n + 1) from fun q => c521 ((own_je (d := sg) (n := 1) hsg rfl).mpr q.1)); omega) (by have := (show n < ii by have h1 : ¬ ii < n := fun q => c518 ((own_jn hi hcl).mpr q); have h2 : ¬ ii = n := fun q => c520 ((own_je hi hcl).mpr q); omega); have := (show ¬ (sg = 1 ∧ ii = n + 1) from fun q => c521 ((own_je (d := sg) (n := 1) hsg rfl).mpr q.1)); omega) hN (by omega)) (show (N - 1 - (ii - n - 1 - sg)) < 10 by omega) (own_pt _ (show (N - 1 - (ii - n - 1 - sg)) < 10 by omega)) d44_130 rfl ?_
        refine Go.ldiv C X670 (pc' := 132) d44_131 (own_p10n _ (show (N - 1 - (ii - n - 1 - sg)) < 10 by omega)) rfl ?_
        refine Go.ldc2 C X670 (pc' := 135) (own_w hw 194 rfl) d44_132 rfl ?_
        refine Go.lrem C X670 (pc' := 136) d44_135 (by decide) rfl ?_
        refine Go.l2i C X670 (pc' := 137) d44_136 rfl ?_
        refine Go.iadd C X670 (pc' := 138) d44_137 rfl ?_
        refine Go.i2c C X670 (pc' := 139) d44_138 rfl ?_
        exact Go.retZ (t := .char) C X670 (z' := (own_dg v (N - 1 - (ii - n - 1 - sg)))) (congrArg Value.int (own_exd hvv (show (N - 1 - (ii - n - 1 - sg)) < 10 by omega))) d44_139 ⟨(congrArg (fun r => some (Value.int r)) (own_x4 (show n < ii by have h1 : ¬ ii < n := fun q => c518 ((own_jn hi hcl).mpr q); have h2 : ¬ ii = n := fun q => c520 ((own_je hi hcl).mpr q); omega) (show ¬ (sg = 1 ∧ ii = n + 1) from fun q => c521 ((own_je (d := sg) (n := 1) hsg rfl).mpr q.1)))), K671⟩ (by decide) (by decide)
theorem own_ef_rm_cx (m : MethodId) (x0 : Addr) (x1 : Int32) (x2 : Int32) (x3 : Addr) (x4 : Int32) (x5 : Int32) (x6 : Int32) (x7 : Int64) : entryFrame m #[(.ref x0), (.int x1), (.int x2), (.ref x3), (.int x4), (.int x5), (.int x6), (.long x7)] 9 = mkF m 0 #[.val (.ref x0), .val (.int x1), .val (.int x2), .val (.ref x3), .val (.int x4), .val (.int x5), .val (.int x6), .val (.long x7), .second] [] := by first | (simp [entryFrame, mkF, argsToLocals, Value.category]; done) | rfl
theorem d38_0 : decode method_4_code 0 = .ok (.iload_n 1, 1) := by decide +kernel
theorem d38_1 : decode method_4_code 1 = .ok (.iload_n 2, 1) := by decide +kernel
theorem d38_2 : decode method_4_code 2 = .ok (.if_icmp .lt 5, 3) := by decide +kernel
theorem d38_7 : decode method_4_code 7 = .ok (.aload_n 0, 1) := by decide +kernel
theorem d38_8 : decode method_4_code 8 = .ok (.iload_n 1, 1) := by decide +kernel
theorem d38_9 : decode method_4_code 9 = .ok (.invokevirtual 69, 3) := by decide +kernel
theorem d38_12 : decode method_4_code 12 = .ok (.iload_n 1, 1) := by decide +kernel
theorem d38_13 : decode method_4_code 13 = .ok (.aload_n 3, 1) := by decide +kernel
theorem d38_14 : decode method_4_code 14 = .ok (.iload 4, 2) := by decide +kernel
theorem d38_16 : decode method_4_code 16 = .ok (.iload 5, 2) := by decide +kernel
theorem d38_18 : decode method_4_code 18 = .ok (.iload 6, 2) := by decide +kernel
theorem d38_20 : decode method_4_code 20 = .ok (.lload 7, 2) := by decide +kernel
theorem d38_22 : decode method_4_code 22 = .ok (.invokestatic 73, 3) := by decide +kernel
theorem own_pd31 : parseMethodDescriptor "(ILjava/lang/String;IIIJ)C" = some ⟨[.int, (.object "java/lang/String"), .int, .int, .int, .long], some .char⟩ := by decide +kernel
theorem d38_25 : decode method_4_code 25 = .ok (.if_icmp .ne 7, 3) := by decide +kernel
theorem d38_28 : decode method_4_code 28 = .ok (.iconst 1, 1) := by decide +kernel
theorem d38_29 : decode method_4_code 29 = .ok (.goto 4, 3) := by decide +kernel
theorem d38_33 : decode method_4_code 33 = .ok (.ireturn, 1) := by decide +kernel
theorem d38_5 : decode method_4_code 5 = .ok (.iconst 1, 1) := by decide +kernel
theorem d38_6 : decode method_4_code 6 = .ok (.ireturn, 1) := by decide +kernel
set_option maxRecDepth 65536 in
set_option maxHeartbeats 40000000 in
theorem rm_cx (l : Launch) (Z : State) (a0 : Array Value) (hw : ∀ d ∈ tables_1, d.before a0 Z = true) (ss : Addr) (y0 : Int32) (y1 : Int32) (sr : Addr) (y2 : Int32) (y3 : Int32) (y4 : Int32) (y5 : Int64) (sb : Addr) (g : Nat → Int32) (zl : Int32) (b : Addr) (n : Nat) (f : Nat → Int32) (z : Int32) (ii : Nat) (sg : Nat) (N : Nat) (v : Nat) (cs : Int32) (sf : Value) (h0 : Heap) (n0 : Nat) (Z0 : n0 ≤ h0.size) (f0 : Old Z n0 h0) (f1 : Sta Z Z.heap "java/lang/String" "COMPACT_STRINGS" "Z" (.int cs)) (f2 : Sta Z Z.heap "jdk/internal/util/Preconditions" "SIOOBE_FORMATTER" "Ljava/util/function/BiFunction;" sf) (f3 : Exa Z h0 ss "java/lang/String") (f4 : Fld Z h0 ss "java/lang/String" "value" "[B" (.ref sb)) (f5 : Fld Z h0 ss "java/lang/String" "coder" "B" (.int (0 : Int32))) (f6 : AI Z h0 sb .byte (n + 1 + (N + sg)) g) (f7 : Exa Z h0 sr "java/lang/String") (f8 : Fld Z h0 sr "java/lang/String" "value" "[B" (.ref b)) (f9 : Fld Z h0 sr "java/lang/String" "coder" "B" (.int (0 : Int32))) (f10 : AI Z h0 b .byte n f) (hcs : ¬ cs = (0 : Int32)) (hsf : sf.isRef = true) (hz : z.toInt = (n : Int)) (hn2 : n ≤ 2) (hcl : y2.toInt = (n : Int)) (hsg : y3.toInt = (sg : Int)) (hs1 : sg ≤ 1) (hNN : y4.toInt = (N : Int)) (hN : N ≤ 10) (hvv : y5.toInt = (v : Int)) (hi : y0.toInt = (ii : Int)) (hzl : zl.toInt = ((n + 1 + (N + sg) : Nat) : Int)) (hln : y1.toInt = ((n + 1 + (N + sg) : Nat) : Int)) (hkey : ∀ j, j < n + 1 + (N + sg) → own_c8 (g j) = own_sx f n sg N v j) :
    Con l Z (⟨"com/example/wharfline/wharfline/runtime/WorkToStringPinLaw", "chk", "(Ljava/lang/String;IILjava/lang/String;IIIJ)Z"⟩ : MethodName) method_4_code 9 (some .boolean) ({ frames := 5, cells := 1, slots := 10, locals := 76 } : Room) #[(.ref ss), (.int y0), (.int y1), (.ref sr), (.int y2), (.int y3), (.int y4), (.long y5)] h0 n0 (fun rv hv => rv = some (.int (1 : Int32)) ∧ Keep h0 hv []) := by
  refine Con.enter (plainFor_of_name own_pn10) Z0 ?_
  intro p e s m below meth c T0 C hnm X0
  refine Go.cast (own_ef_rm_cx m ss y0 y1 sr y2 y3 y4 y5) ?_
  refine Go.iloadN C X0 (pc' := 1) d38_0 rfl rfl ?_
  refine Go.iloadN C X0 (pc' := 2) d38_1 rfl rfl ?_
  by_cases c677 : y0 < y1
  · refine Go.icmpYes C X0 (pc' := 7) d38_2 (tlt c677).1 (by decide) (by decide) ?_
    refine Go.aloadN C X0 (pc' := 8) d38_7 rfl rfl rfl ?_
    refine Go.iloadN C X0 (pc' := 9) d38_8 rfl rfl ?_
    refine Go.callV C X0 (pc' := 12) (W := 0) (argsL := [(.int y0)]) (rest := []) (a := ss) (rm_ca l Z a0 hw ss y0 sb (n + 1 + (N + sg)) g zl ii cs sf h0 n0 X0.sz f0 f1 f2 f3 f4 f5 f6 hcs hsf hzl hi ((own_jn hi hln).mp c677)) f3 (notFace_of_selects (args := #[]) (mvT C.2.1 (own_w hw 202 rfl))) (own_w hw 199 rfl) (own_w hw 200 rfl) (own_w hw 202 rfl) (own_w hw 201 rfl) (own_w hw 2 rfl) (own_w hw 203 rfl) (by decide) rfl rfl (lenOf own_pd30 rfl) rfl (Nat.le_of_eq rfl) (by decide) (by decide) (by decide) (by decide) d38_9 rfl (fun _ _ q => Nat.le_of_eq (congrArg Array.size q.2)) (fun T678 h678 v678 X678 P678 => ?_)
    obtain ⟨rfl, rfl⟩ := P678
    show Go p e below _ n0 _ _ _ T678 (mkF m 12 #[.val (.ref ss), .val (.int y0), .val (.int y1), .val (.ref sr), .val (.int y2), .val (.int y3), .val (.int y4), .val (.long y5), .second] [(.int (own_c8 (g ii)))])
    refine Go.iloadN C X678 (pc' := 13) d38_12 rfl rfl ?_
    refine Go.aloadN C X678 (pc' := 14) d38_13 rfl rfl rfl ?_
    refine Go.iload C X678 (pc' := 16) d38_14 rfl rfl ?_
    refine Go.iload C X678 (pc' := 18) d38_16 rfl rfl ?_
    refine Go.iload C X678 (pc' := 20) d38_18 rfl rfl ?_
    refine Go.lload C X678 (pc' := 22) d38_20 rfl rfl ?_
    refine Go.callS C X678 (pc' := 25) (W := 1) (argsL := [(.int y0), (.ref sr), (.int y2), (.int y3), (.int y4), (.long y5)]) (rest := [(.int (own_c8 (g ii)))]) (rm_ex l Z a0 hw y0 sr y2 y3 y4 y5 b n f z ii sg N v cs sf h0 n0 X678.sz f0 f1 f2 f7 f8 f9 f10 hcs hsf hz hn2 hcl hsg hs1 hNN hN hvv hi ((own_jn hi hln).mp c677)) (own_w hw 221 rfl) (own_w hw 222 rfl) (own_w hw 192 rfl) (own_w hw 223 rfl) (by decide) rfl rfl (lenOf own_pd31 rfl) rfl (Nat.le_of_eq rfl) (by decide) (by decide) (by decide) (by decide) d38_22 rfl (fun _ _ q => by obtain ⟨_, K⟩ := q; exact K.1) (fun T679 h679 v679 X679 P679 => ?_)
    obtain ⟨rfl, K679⟩ := P679
    have K680 : Keep h0 h679 [] := (Keep.refl h0 []).trans K679 all0
    have O681 : Old Z n0 h679 := f0.keep K679 all0
    have E682 := f3.keep K679
    have F683 := f4.keep K679 nin0
    have F684 := f5.keep K679 nin0
    have A685 := f6.keep K679 nin0
    have E686 := f7.keep K679
    have F687 := f8.keep K679 nin0
    have F688 := f9.keep K679 nin0
    have A689 := f10.keep K679 nin0
    show Go p e below _ n0 _ _ _ T679 (mkF m 25 #[.val (.ref ss), .val (.int y0), .val (.int y1), .val (.ref sr), .val (.int y2), .val (.int y3), .val (.int y4), .val (.long y5), .second] [(.int (own_sx f n sg N v ii)), (.int (own_c8 (g ii)))])
    refine Go.icmpNo C X679 (pc' := 28) d38_25 (teq (hkey ii ((own_jn hi hln).mp c677))).2 rfl ?_
    refine Go.iconst C X679 (pc' := 29) (v := (1 : Int32)) d38_28 rfl rfl ?_
    refine Go.goto C X679 (pc' := 33) d38_29 (by decide) (by decide) ?_
    exact Go.retZ (t := .boolean) C X679 (z' := (1 : Int32)) (by decide) d38_33 ⟨rfl, K680⟩ (by decide) (by decide)
  · refine Go.icmpNo C X0 (pc' := 5) d38_2 (flt c677).1 rfl ?_
    refine Go.iconst C X0 (pc' := 6) (v := (1 : Int32)) d38_5 rfl rfl ?_
    exact Go.retZ (t := .boolean) C X0 (z' := (1 : Int32)) (by decide) d38_6 ⟨rfl, (Keep.refl h0 [])⟩ (by decide) (by decide)
theorem own_len {a b d : Int32} {n N sg : Nat} (ha : a.toInt = (n : Int)) (hb : b.toInt = (sg : Int)) (hd : d.toInt = (N : Int)) (hn : n ≤ 2) (hs : sg ≤ 1) (hN : N ≤ 10) : (((a + (1 : Int32)) + b) + d).toInt = ((n + 1 + (N + sg) : Nat) : Int) := by
  have e : (1 : Int32).toInt = 1 := rfl
  have h1 : (a + (1 : Int32)).toInt = (n : Int) + 1 := by rw [own_iadd (by omega) (by omega), ha, e]
  have h2 : ((a + (1 : Int32)) + b).toInt = (n : Int) + 1 + (sg : Int) := by rw [own_iadd (by omega) (by omega), h1, hb]
  rw [own_iadd (by omega) (by omega), h2, hd]; omega
theorem own_hcf {cf : Nat → Int32} {x : Int32} {i : Nat} (h : ∀ q, ¬ (255 : Int32) < cf q) (hx : ¬ (255 : Int32) < x) : ∀ q, ¬ (255 : Int32) < (fun q => if q = i then x else cf q) q := own_upd (R := fun z => ¬ (255 : Int32) < z) h hx
theorem own_hc0 : ∀ q : Nat, ¬ (255 : Int32) < (fun _ => (0 : Int32)) q := fun _ => (by decide : ¬ (255 : Int32) < 0)
theorem own_ef_rm0 (m : MethodId) (x0 : Int32) (x1 : Int32) (x2 : Int32) (x3 : Int32) (x4 : Int32) : entryFrame m #[(.int x0), (.int x1), (.int x2), (.int x3), (.int x4)] maxLocals = mkF m 0 #[.val (.int x0), .val (.int x1), .val (.int x2), .val (.int x3), .val (.int x4), .unset, .unset, .unset, .unset, .unset, .unset, .unset, .unset, .unset, .unset, .unset] [] := by first | (simp [entryFrame, mkF, argsToLocals, Value.category, maxLocals]; done) | rfl
theorem own_pd32 : parseMethodDescriptor "(Ljava/lang/String;I)V" = some ⟨[(.object "java/lang/String"), .int], none⟩ := by decide +kernel
theorem own_pd33 : parseMethodDescriptor "(Ljava/lang/Object;)Z" = some ⟨[(.object "java/lang/Object")], some .boolean⟩ := by decide +kernel
theorem own_pd34 : parseMethodDescriptor "(J)J" = some ⟨[.long], some .long⟩ := by decide +kernel
theorem own_pd35 : parseMethodDescriptor "(J)I" = some ⟨[.long], some .int⟩ := by decide +kernel
theorem own_pd36 : parseMethodDescriptor "(Ljava/lang/String;IILjava/lang/String;IIIJ)Z" = some ⟨[(.object "java/lang/String"), .int, .int, (.object "java/lang/String"), .int, .int, .int, .long], some .boolean⟩ := by decide +kernel
theorem own_pd37 : parseMethodDescriptor "(C)Ljava/lang/String;" = some ⟨[.char], some (.object "java/lang/String")⟩ := by decide +kernel
theorem own_pd38 : parseMethodDescriptor "([C)V" = some ⟨[(.array .char)], none⟩ := by decide +kernel
set_option maxRecDepth 65536 in
set_option maxHeartbeats 40000000 in
theorem rm0 (l : Launch) (Z : State) (a0 : Array Value) (hw : ∀ d ∈ tables_1, d.before a0 Z = true) (x0 x1 x2 x3 x4 : Int32) (cs : Int32) (sf : Value) (d1 d2 : Addr) (h0 : Heap) (n0 : Nat) (Z0 : n0 ≤ h0.size) (hO : Old Z n0 h0) (hS : Sta Z Z.heap "java/lang/String" "COMPACT_STRINGS" "Z" (.int cs)) (hcs : ¬ cs = (0 : Int32)) (hSF : Sta Z Z.heap "jdk/internal/util/Preconditions" "SIOOBE_FORMATTER" "Ljava/util/function/BiFunction;" sf) (hsf : sf.isRef = true) (h_d1 : Sta Z Z.heap "java/lang/Integer" "DigitOnes" "[B" (.ref d1)) (a_d1 : AI Z h0 d1 .byte 100 own_do) (h_d2 : Sta Z Z.heap "java/lang/Integer" "DigitTens" "[B" (.ref d2)) (a_d2 : AI Z h0 d2 .byte 100 own_dt) :
    ConW l Z x code maxLocals ret room_1 #[(.int x0), (.int x1), (.int x2), (.int x3), (.int x4)] h0 n0 consts_1 (fun rv hv => rv = some (.int 1)) := by
  refine ConW.enter (plainFor_of_name own_pn10) Z0 ?_
  intro p e s m below meth c T0 C hnm X0 HC0
  refine Go.cast (own_ef_rm0 m x0 x1 x2 x3 x4) ?_
  refine Go.iloadN C X0 (pc' := 1) at_0 rfl rfl ?_
  refine Go.iconst C X0 (pc' := 2) (v := (3 : Int32)) at_1 rfl rfl ?_
  refine Go.iand C X0 (pc' := 3) at_2 rfl ?_
  refine Go.iconst C X0 (pc' := 4) (v := (3 : Int32)) at_3 rfl rfl ?_
  refine Go.irem C X0 (pc' := 5) at_4 (by decide) rfl ?_
  refine Go.istore C X0 (pc' := 7) (Ls' := #[.val (.int x0), .val (.int x1), .val (.int x2), .val (.int x3), .val (.int x4), .val (.int ((x2 &&& (3 : Int32)) % (3 : Int32))), .unset, .unset, .unset, .unset, .unset, .unset, .unset, .unset, .unset, .unset]) at_5 rfl rfl ?_
  refine Go.iloadN C X0 (pc' := 8) at_7 rfl rfl ?_
  refine Go.sipush C X0 (pc' := 11) (v := (255 : Int32)) at_8 rfl rfl ?_
  refine Go.iand C X0 (pc' := 12) at_11 rfl ?_
  refine Go.i2c C X0 (pc' := 13) at_12 rfl ?_
  refine Go.istore C X0 (pc' := 15) (Ls' := #[.val (.int x0), .val (.int x1), .val (.int x2), .val (.int x3), .val (.int x4), .val (.int ((x2 &&& (3 : Int32)) % (3 : Int32))), .val (.int ((x0 &&& (255 : Int32))).toUInt32.toUInt16.toUInt32.toInt32), .unset, .unset, .unset, .unset, .unset, .unset, .unset, .unset, .unset]) at_13 rfl rfl ?_
  refine Go.iloadN C X0 (pc' := 16) at_15 rfl rfl ?_
  refine Go.sipush C X0 (pc' := 19) (v := (255 : Int32)) at_16 rfl rfl ?_
  refine Go.iand C X0 (pc' := 20) at_19 rfl ?_
  refine Go.i2c C X0 (pc' := 21) at_20 rfl ?_
  refine Go.istore C X0 (pc' := 23) (Ls' := #[.val (.int x0), .val (.int x1), .val (.int x2), .val (.int x3), .val (.int x4), .val (.int ((x2 &&& (3 : Int32)) % (3 : Int32))), .val (.int ((x0 &&& (255 : Int32))).toUInt32.toUInt16.toUInt32.toInt32), .val (.int ((x1 &&& (255 : Int32))).toUInt32.toUInt16.toUInt32.toInt32), .unset, .unset, .unset, .unset, .unset, .unset, .unset, .unset]) at_21 rfl rfl ?_
  rw [own_c8e x0, own_c8e x1]
  rcases (own_m3 x2) with q690 | q690 | q690
  · rw [q690]
    refine Go.iload C X0 (pc' := 25) at_23 rfl rfl ?_
    refine Go.ifNo C X0 (pc' := 28) at_25 ((if0 _ _).trans (teq (by decide)).2) rfl ?_
    refine Go.ldcB C X0 (pc' := 30) (text := "") (n := 0) (z := 0) (vs := []) (f := (fun _ => 0)) (own_ew hw) HC0 (List.mem_of_getElem? (i := 1) rfl) (own_w hw 251 rfl) (own_sA hw) (by first | decide | (constructor <;> first | rfl | decide | simp)) (by decide) (by first | rfl | decide) (fun i hi => absurd hi (Nat.not_lt_zero _)) at_28 (by decide) (by decide) (by decide) (by decide) rfl (fun T691 h691 a691 b691 X691 C E691 Ex691 Fc691 Fv691 Ab691 HC691 Li691 Ne691 Sf691 => ?_)
    have O692 : Old Z n0 h691 := hO.ext E691
    have K693 : Keep h0 h691 [] := (Keep.refl h0 []).ext E691
    have A694 := a_d1.ext E691
    have A695 := a_d2.ext E691
    have A691 : AI Z h691 b691 .byte 0 (fun _ => 0) := Ab691
    have M691_ : h691.size ≤ h691.size := Nat.le_refl _
    show Go p e below _ n0 _ _ _ T691 (mkF m 30 #[.val (.int x0), .val (.int x1), .val (.int x2), .val (.int x3), .val (.int x4), .val (.int (0 : Int32)), .val (.int (own_c8 x0)), .val (.int (own_c8 x1)), .unset, .unset, .unset, .unset, .unset, .unset, .unset, .unset] [(.ref a691)])
    refine Go.astore C X691 (pc' := 32) (Ls' := #[.val (.int x0), .val (.int x1), .val (.int x2), .val (.int x3), .val (.int x4), .val (.int (0 : Int32)), .val (.int (own_c8 x0)), .val (.int (own_c8 x1)), .val (.ref a691), .unset, .unset, .unset, .unset, .unset, .unset, .unset]) at_30 rfl rfl rfl ?_
    refine Go.goto C X691 (pc' := 73) at_32 (by decide) (by decide) ?_
    refine Go.iload C X691 (pc' := 75) at_73 rfl rfl ?_
    refine Go.iconst C X691 (pc' := 76) (v := (1 : Int32)) at_75 rfl rfl ?_
    refine Go.iand C X691 (pc' := 77) at_76 rfl ?_
    by_cases c696 : (x4 &&& (1 : Int32)) = (0 : Int32)
    · refine Go.ifYes C X691 (pc' := 84) at_77 ((if0 _ _).trans (teq c696).1) (by decide) (by decide) ?_
      refine Go.iloadN C X691 (pc' := 85) at_84 rfl rfl ?_
      refine Go.istore C X691 (pc' := 87) (Ls' := #[.val (.int x0), .val (.int x1), .val (.int x2), .val (.int x3), .val (.int x4), .val (.int (0 : Int32)), .val (.int (own_c8 x0)), .val (.int (own_c8 x1)), .val (.ref a691), .val (.int x3), .unset, .unset, .unset, .unset, .unset, .unset]) at_85 rfl rfl ?_
      by_cases c697 : x3 = (-1 : Int32)
      · rw [c697]
        refine Go.newO C X691 (pc' := 90) (own_w hw 30 rfl) (own_w hw 31 rfl) (own_w hw 32 rfl) at_87 (by decide) (by decide) rfl (fun T698 h698 b698 X698 g698 E698 Ex698 D698 N698 => ?_)
        have ne_d1_b698 : d1 ≠ b698 := Nat.ne_of_lt (Nat.lt_of_lt_of_eq A694.lt g698.symm)
        have ne_d2_b698 : d2 ≠ b698 := Nat.ne_of_lt (Nat.lt_of_lt_of_eq A695.lt g698.symm)
        have ne_a691_b698 : a691 ≠ b698 := Nat.ne_of_lt (Nat.lt_of_lt_of_eq Ex691.lt g698.symm)
        have ne_b691_b698 : b691 ≠ b698 := Nat.ne_of_lt (Nat.lt_of_lt_of_eq A691.lt g698.symm)
        have Q698 : h0.size ≤ b698 := Nat.le_trans K693.1 (Nat.le_of_eq g698.symm)
        have HC699 : CHv Z consts_1 _ h698 := CHv.ext E698 HC691
        have O700 : Old Z n0 h698 := O692.ext E698
        have K701 : Keep h0 h698 [] := K693.ext E698
        have A702 := A694.ext E698
        have A703 := A695.ext E698
        have E704 := Ex691.ext E698
        have F705 := Fc691.ext E698
        have F706 := Fv691.ext E698
        have A707 := A691.ext E698
        have M708 : h691.size ≤ h698.size := Nat.le_trans M691_ E698.1
        have F709 : Fld Z h698 b698 "com/example/wharfline/wharfline/runtime/Work" "connector" "Ljava/lang/String;" .null := D698 (Or.inr (own_w hw 43 rfl)) (ty := (.object "java/lang/String")) (by decide)
        have F710 : Fld Z h698 b698 "com/example/wharfline/wharfline/runtime/Work" "task" "I" (.int (0 : Int32)) := D698 (Or.inr (own_w hw 45 rfl)) (ty := .int) (by decide)
        refine Go.dup C X698 (pc' := 91) at_90 rfl rfl ?_
        refine Go.aload C X698 (pc' := 93) at_91 rfl rfl rfl ?_
        refine Go.iload C X698 (pc' := 95) at_93 rfl rfl ?_
        refine Go.callI C X698 (pc' := 98) (W := 1) (argsL := [(.ref a691), (.int (-1 : Int32))]) (rest := [(.ref b698)]) (a := b698) (rm_wi l Z a0 hw b698 a691 (-1 : Int32)  h698 n0 X698.sz Ex698 F709 F710 N698) rfl rfl (own_w hw 33 rfl) (own_w hw 34 rfl) (own_w hw 32 rfl) (own_w hw 35 rfl) (by decide) rfl rfl (lenOf own_pd32 rfl) rfl (Nat.le_of_eq rfl) (by decide) (by decide) (by decide) (by decide) at_95 rfl (fun _ _ q => by obtain ⟨_, K, _⟩ := q; exact K.1) (fun T711 h711 v711 X711 P711 => ?_)
        obtain ⟨rfl, K711, O711_0, O711_1, O711_2⟩ := P711
        have HC712 : CHv Z consts_1 _ h711 := CHv.keep K711 (allS (Safe.exa C.2.1.alike Ex698 (by decide) (by decide)) all0) HC699
        have O713 : Old Z n0 h711 := O700.keep K711 (allS N698 all0)
        have K714 : Keep h0 h711 [] := K701.trans K711 (allS (Or.inr Q698) all0)
        have A715 := A702.keep K711 (ninS ne_d1_b698 nin0)
        have A716 := A703.keep K711 (ninS ne_d2_b698 nin0)
        have E717 := E704.keep K711
        have F718 := F705.keep K711 (ninS ne_a691_b698 nin0)
        have F719 := F706.keep K711 (ninS ne_a691_b698 nin0)
        have A720 := A707.keep K711 (ninS ne_b691_b698 nin0)
        have M721 : h691.size ≤ h711.size := Nat.le_trans M708 K711.1
        have E722 := Ex698.keep K711
        show Go p e below _ n0 _ _ _ T711 (mkF m 98 #[.val (.int x0), .val (.int x1), .val (.int x2), .val (.int (-1 : Int32)), .val (.int x4), .val (.int (0 : Int32)), .val (.int (own_c8 x0)), .val (.int (own_c8 x1)), .val (.ref a691), .val (.int (-1 : Int32)), .unset, .unset, .unset, .unset, .unset, .unset] [(.ref b698)])
        refine Go.callV C X711 (pc' := 101) (W := 0) (argsL := []) (rest := []) (a := b698) (rm_t1 l Z a0 hw b698 a691 h711 n0 X711.sz O711_0 O711_1 O711_2) O711_0 (notFace_of_selects (args := #[]) (mvT C.2.1 (own_w hw 49 rfl))) (own_w hw 46 rfl) (own_w hw 47 rfl) (own_w hw 49 rfl) (own_w hw 48 rfl) (own_w hw 32 rfl) (own_w hw 50 rfl) (by decide) rfl rfl (lenOf own_pd29 rfl) rfl (Nat.le_of_eq rfl) (by decide) (by decide) (by decide) (by decide) at_98 rfl (fun _ _ q => Nat.le_of_eq (congrArg Array.size q.2)) (fun T723 h723 v723 X723 P723 => ?_)
        obtain ⟨rfl, rfl⟩ := P723
        show Go p e below _ n0 _ _ _ T723 (mkF m 101 #[.val (.int x0), .val (.int x1), .val (.int x2), .val (.int (-1 : Int32)), .val (.int x4), .val (.int (0 : Int32)), .val (.int (own_c8 x0)), .val (.int (own_c8 x1)), .val (.ref a691), .val (.int (-1 : Int32)), .unset, .unset, .unset, .unset, .unset, .unset] [(.ref a691)])
        refine Go.astore C X723 (pc' := 103) (Ls' := #[.val (.int x0), .val (.int x1), .val (.int x2), .val (.int (-1 : Int32)), .val (.int x4), .val (.int (0 : Int32)), .val (.int (own_c8 x0)), .val (.int (own_c8 x1)), .val (.ref a691), .val (.int (-1 : Int32)), .val (.ref a691), .unset, .unset, .unset, .unset, .unset]) at_101 rfl rfl rfl ?_
        refine Go.aload C X723 (pc' := 105) at_103 rfl rfl rfl ?_
        refine Go.ifnonnullYes C X723 (pc' := 110) at_105 (by decide) (by decide) ?_
        refine Go.iload C X723 (pc' := 112) at_110 rfl rfl ?_
        refine Go.iconst C X723 (pc' := 113) (v := (-1 : Int32)) at_112 rfl rfl ?_
        refine Go.icmpNo C X723 (pc' := 116) at_113 (teq (by decide)).2 rfl ?_
        refine Go.aload C X723 (pc' := 118) at_116 rfl rfl rfl ?_
        refine Go.aload C X723 (pc' := 120) at_118 rfl rfl rfl ?_
        refine Go.callV C X723 (pc' := 123) (W := 0) (argsL := [(.ref a691)]) (rest := []) (a := a691) (rm_eq l Z a0 hw a691 a691  h711 n0 X723.sz rfl) E717 (notFace_of_selects (args := #[]) (mvT C.2.1 (own_w hw 236 rfl))) (own_w hw 233 rfl) (own_w hw 234 rfl) (own_w hw 236 rfl) (own_w hw 235 rfl) (own_w hw 2 rfl) (own_w hw 237 rfl) (by decide) rfl rfl (lenOf own_pd33 rfl) rfl (Nat.le_of_eq rfl) (by decide) (by decide) (by decide) (by decide) at_120 rfl (fun _ _ q => Nat.le_of_eq (congrArg Array.size q.2)) (fun T724 h724 v724 X724 P724 => ?_)
        obtain ⟨rfl, rfl⟩ := P724
        show Go p e below _ n0 _ _ _ T724 (mkF m 123 #[.val (.int x0), .val (.int x1), .val (.int x2), .val (.int (-1 : Int32)), .val (.int x4), .val (.int (0 : Int32)), .val (.int (own_c8 x0)), .val (.int (own_c8 x1)), .val (.ref a691), .val (.int (-1 : Int32)), .val (.ref a691), .unset, .unset, .unset, .unset, .unset] [(.int (1 : Int32))])
        refine Go.wide ?_
        exact Go.retZ (t := .boolean) C X724 (z' := (1 : Int32)) (by decide) at_123 ⟨rfl, M721⟩ (by decide) (by decide)
      · obtain ⟨v, N, sg, hv, hd, hN, hss, hab, hdd⟩ := own_all x3
        refine Go.newO C X691 (pc' := 90) (own_w hw 30 rfl) (own_w hw 31 rfl) (own_w hw 32 rfl) at_87 (by decide) (by decide) rfl (fun T725 h725 b725 X725 g725 E725 Ex725 D725 N725 => ?_)
        have ne_d1_b725 : d1 ≠ b725 := Nat.ne_of_lt (Nat.lt_of_lt_of_eq A694.lt g725.symm)
        have ne_d2_b725 : d2 ≠ b725 := Nat.ne_of_lt (Nat.lt_of_lt_of_eq A695.lt g725.symm)
        have ne_a691_b725 : a691 ≠ b725 := Nat.ne_of_lt (Nat.lt_of_lt_of_eq Ex691.lt g725.symm)
        have ne_b691_b725 : b691 ≠ b725 := Nat.ne_of_lt (Nat.lt_of_lt_of_eq A691.lt g725.symm)
        have Q725 : h0.size ≤ b725 := Nat.le_trans K693.1 (Nat.le_of_eq g725.symm)
        have HC726 : CHv Z consts_1 _ h725 := CHv.ext E725 HC691
        have O727 : Old Z n0 h725 := O692.ext E725
        have K728 : Keep h0 h725 [] := K693.ext E725
        have A729 := A694.ext E725
        have A730 := A695.ext E725
        have E731 := Ex691.ext E725
        have F732 := Fc691.ext E725
        have F733 := Fv691.ext E725
        have A734 := A691.ext E725
        have M735 : h691.size ≤ h725.size := Nat.le_trans M691_ E725.1
        have F736 : Fld Z h725 b725 "com/example/wharfline/wharfline/runtime/Work" "connector" "Ljava/lang/String;" .null := D725 (Or.inr (own_w hw 43 rfl)) (ty := (.object "java/lang/String")) (by decide)
        have F737 : Fld Z h725 b725 "com/example/wharfline/wharfline/runtime/Work" "task" "I" (.int (0 : Int32)) := D725 (Or.inr (own_w hw 45 rfl)) (ty := .int) (by decide)
        refine Go.dup C X725 (pc' := 91) at_90 rfl rfl ?_
        refine Go.aload C X725 (pc' := 93) at_91 rfl rfl rfl ?_
        refine Go.iload C X725 (pc' := 95) at_93 rfl rfl ?_
        refine Go.callI C X725 (pc' := 98) (W := 1) (argsL := [(.ref a691), (.int x3)]) (rest := [(.ref b725)]) (a := b725) (rm_wi l Z a0 hw b725 a691 x3  h725 n0 X725.sz Ex725 F736 F737 N725) rfl rfl (own_w hw 33 rfl) (own_w hw 34 rfl) (own_w hw 32 rfl) (own_w hw 35 rfl) (by decide) rfl rfl (lenOf own_pd32 rfl) rfl (Nat.le_of_eq rfl) (by decide) (by decide) (by decide) (by decide) at_95 rfl (fun _ _ q => by obtain ⟨_, K, _⟩ := q; exact K.1) (fun T738 h738 v738 X738 P738 => ?_)
        obtain ⟨rfl, K738, O738_0, O738_1, O738_2⟩ := P738
        have HC739 : CHv Z consts_1 _ h738 := CHv.keep K738 (allS (Safe.exa C.2.1.alike Ex725 (by decide) (by decide)) all0) HC726
        have O740 : Old Z n0 h738 := O727.keep K738 (allS N725 all0)
        have K741 : Keep h0 h738 [] := K728.trans K738 (allS (Or.inr Q725) all0)
        have A742 := A729.keep K738 (ninS ne_d1_b725 nin0)
        have A743 := A730.keep K738 (ninS ne_d2_b725 nin0)
        have E744 := E731.keep K738
        have F745 := F732.keep K738 (ninS ne_a691_b725 nin0)
        have F746 := F733.keep K738 (ninS ne_a691_b725 nin0)
        have A747 := A734.keep K738 (ninS ne_b691_b725 nin0)
        have M748 : h691.size ≤ h738.size := Nat.le_trans M735 K738.1
        have E749 := Ex725.keep K738
        show Go p e below _ n0 _ _ _ T738 (mkF m 98 #[.val (.int x0), .val (.int x1), .val (.int x2), .val (.int x3), .val (.int x4), .val (.int (0 : Int32)), .val (.int (own_c8 x0)), .val (.int (own_c8 x1)), .val (.ref a691), .val (.int x3), .unset, .unset, .unset, .unset, .unset, .unset] [(.ref b725)])
        refine Go.callVW C X738 (pc' := 101) (W := 0) (argsL := []) (rest := []) (a := b725) (rm_ts l Z a0 hw b725 a691 b691 0 (fun _ => 0) (0 : Int32) x3 v N sg cs d1 d2 h738 n0 X738.sz O740 hS h_d1 h_d2 A742 A743 O738_0 O738_1 O738_2 E744 F746 F745 A747 hcs rfl own_zb (by decide) c697 hv hd hN hss) (own_ew hw) HC739 O738_0 (notFace_of_selects (args := #[]) (mvT C.2.1 (own_w hw 49 rfl))) (own_w hw 46 rfl) (own_w hw 47 rfl) (own_w hw 49 rfl) (own_w hw 48 rfl) (own_w hw 32 rfl) (own_w hw 50 rfl) (by decide) rfl rfl (lenOf own_pd29 rfl) rfl (Nat.le_of_eq rfl) (by decide) (by decide) (by decide) (by decide) at_98 rfl (fun T750 h750 v750 X750 C P750 => ?_)
        obtain ⟨u750, tv750, rfl, D750_u, D750_tv, K750, O750_0, O750_1, O750_2, O750_3⟩ := P750
        have ne_d1_u750 : d1 ≠ u750 := Nat.ne_of_lt (Nat.lt_of_lt_of_le A742.lt D750_u)
        have ne_d2_u750 : d2 ≠ u750 := Nat.ne_of_lt (Nat.lt_of_lt_of_le A743.lt D750_u)
        have ne_a691_u750 : a691 ≠ u750 := Nat.ne_of_lt (Nat.lt_of_lt_of_le E744.lt D750_u)
        have ne_b691_u750 : b691 ≠ u750 := Nat.ne_of_lt (Nat.lt_of_lt_of_le A747.lt D750_u)
        have ne_b725_u750 : b725 ≠ u750 := Nat.ne_of_lt (Nat.lt_of_lt_of_le O738_0.lt D750_u)
        have N_u750 : n0 ≤ u750 := Nat.le_trans X738.sz D750_u
        have Q_u750 : h0.size ≤ u750 := Nat.le_trans K741.1 D750_u
        have ne_d1_tv750 : d1 ≠ tv750 := Nat.ne_of_lt (Nat.lt_of_lt_of_le A742.lt D750_tv)
        have ne_d2_tv750 : d2 ≠ tv750 := Nat.ne_of_lt (Nat.lt_of_lt_of_le A743.lt D750_tv)
        have ne_a691_tv750 : a691 ≠ tv750 := Nat.ne_of_lt (Nat.lt_of_lt_of_le E744.lt D750_tv)
        have ne_b691_tv750 : b691 ≠ tv750 := Nat.ne_of_lt (Nat.lt_of_lt_of_le A747.lt D750_tv)
        have ne_b725_tv750 : b725 ≠ tv750 := Nat.ne_of_lt (Nat.lt_of_lt_of_le O738_0.lt D750_tv)
        have N_tv750 : n0 ≤ tv750 := Nat.le_trans X738.sz D750_tv
        have Q_tv750 : h0.size ≤ tv750 := Nat.le_trans K741.1 D750_tv
        have HC751 : CHv Z consts_1 _ h750 := CHv.keep K750 all0 HC739
        have O752 : Old Z n0 h750 := O740.keep K750 all0
        have K753 : Keep h0 h750 [] := K741.trans K750 all0
        have A754 := A742.keep K750 nin0
        have A755 := A743.keep K750 nin0
        have E756 := E744.keep K750
        have F757 := F745.keep K750 nin0
        have F758 := F746.keep K750 nin0
        have A759 := A747.keep K750 nin0
        have M760 : h691.size ≤ h750.size := Nat.le_trans M748 K750.1
        have E761 := O738_0.keep K750
        have F762 := O738_1.keep K750 nin0
        have F763 := O738_2.keep K750 nin0
        have M750_ : h750.size ≤ h750.size := Nat.le_refl _
        show Go p e below _ n0 _ _ _ T750 (mkF m 101 #[.val (.int x0), .val (.int x1), .val (.int x2), .val (.int x3), .val (.int x4), .val (.int (0 : Int32)), .val (.int (own_c8 x0)), .val (.int (own_c8 x1)), .val (.ref a691), .val (.int x3), .unset, .unset, .unset, .unset, .unset, .unset] [(.ref u750)])
        refine Go.astore C X750 (pc' := 103) (Ls' := #[.val (.int x0), .val (.int x1), .val (.int x2), .val (.int x3), .val (.int x4), .val (.int (0 : Int32)), .val (.int (own_c8 x0)), .val (.int (own_c8 x1)), .val (.ref a691), .val (.int x3), .val (.ref u750), .unset, .unset, .unset, .unset, .unset]) at_101 rfl rfl rfl ?_
        refine Go.aload C X750 (pc' := 105) at_103 rfl rfl rfl ?_
        refine Go.ifnonnullYes C X750 (pc' := 110) at_105 (by decide) (by decide) ?_
        refine Go.iload C X750 (pc' := 112) at_110 rfl rfl ?_
        refine Go.iconst C X750 (pc' := 113) (v := (-1 : Int32)) at_112 rfl rfl ?_
        refine Go.icmpYes C X750 (pc' := 124) at_113 (feq c697).2 (by decide) (by decide) ?_
        refine Go.iload C X750 (pc' := 126) at_124 rfl rfl ?_
        refine Go.i2l C X750 (pc' := 127) at_126 rfl ?_
        refine Go.callS C X750 (pc' := 130) (W := 0) (argsL := [(.long (x3).toInt64)]) (rest := []) (rm_ab l Z a0 hw (x3).toInt64 h750 n0 X750.sz ) (own_w hw 187 rfl) (own_w hw 188 rfl) (own_w hw 184 rfl) (own_w hw 189 rfl) (by decide) rfl rfl (lenOf own_pd34 rfl) rfl (Nat.le_of_eq rfl) (by decide) (by decide) (by decide) (by decide) at_127 rfl (fun _ _ q => Nat.le_of_eq (congrArg Array.size q.2)) (fun T764 h764 v764 X764 P764 => ?_)
        obtain ⟨rfl, rfl⟩ := P764
        show Go p e below _ n0 _ _ _ T764 (mkF m 130 #[.val (.int x0), .val (.int x1), .val (.int x2), .val (.int x3), .val (.int x4), .val (.int (0 : Int32)), .val (.int (own_c8 x0)), .val (.int (own_c8 x1)), .val (.ref a691), .val (.int x3), .val (.ref u750), .unset, .unset, .unset, .unset, .unset] [(.long (own_f_rm_ab (x3).toInt64))])
        refine Go.lstore C X764 (pc' := 132) (Ls' := #[.val (.int x0), .val (.int x1), .val (.int x2), .val (.int x3), .val (.int x4), .val (.int (0 : Int32)), .val (.int (own_c8 x0)), .val (.int (own_c8 x1)), .val (.ref a691), .val (.int x3), .val (.ref u750), .val (.long (own_f_rm_ab (x3).toInt64)), .second, .unset, .unset, .unset]) at_130 rfl rfl ?_
        refine Go.iload C X764 (pc' := 134) at_132 rfl rfl ?_
        by_cases c765 : x3 < (0 : Int32)
        · refine Go.ifNo C X764 (pc' := 137) at_134 ((if0 _ _).trans (tlt c765).2.1) rfl ?_
          refine Go.iconst C X764 (pc' := 138) (v := (1 : Int32)) at_137 rfl rfl ?_
          refine Go.goto C X764 (pc' := 142) at_138 (by decide) (by decide) ?_
          refine Go.istore C X764 (pc' := 144) (Ls' := #[.val (.int x0), .val (.int x1), .val (.int x2), .val (.int x3), .val (.int x4), .val (.int (0 : Int32)), .val (.int (own_c8 x0)), .val (.int (own_c8 x1)), .val (.ref a691), .val (.int x3), .val (.ref u750), .val (.long (own_f_rm_ab (x3).toInt64)), .second, .val (.int (1 : Int32)), .unset, .unset]) at_142 rfl rfl ?_
          refine Go.lload C X764 (pc' := 146) at_144 rfl rfl ?_
          refine Go.callS C X764 (pc' := 149) (W := 0) (argsL := [(.long (own_f_rm_ab (x3).toInt64))]) (rest := []) (rm_dd l Z a0 hw (own_f_rm_ab (x3).toInt64) h750 n0 X764.sz ) (own_w hw 190 rfl) (own_w hw 191 rfl) (own_w hw 192 rfl) (own_w hw 193 rfl) (by decide) rfl rfl (lenOf own_pd35 rfl) rfl (Nat.le_of_eq rfl) (by decide) (by decide) (by decide) (by decide) at_146 rfl (fun _ _ q => Nat.le_of_eq (congrArg Array.size q.2)) (fun T766 h766 v766 X766 P766 => ?_)
          obtain ⟨rfl, rfl⟩ := P766
          show Go p e below _ n0 _ _ _ T766 (mkF m 149 #[.val (.int x0), .val (.int x1), .val (.int x2), .val (.int x3), .val (.int x4), .val (.int (0 : Int32)), .val (.int (own_c8 x0)), .val (.int (own_c8 x1)), .val (.ref a691), .val (.int x3), .val (.ref u750), .val (.long (own_f_rm_ab (x3).toInt64)), .second, .val (.int (1 : Int32)), .unset, .unset] [(.int (own_f_rm_dd (own_f_rm_ab (x3).toInt64)))])
          refine Go.istore C X766 (pc' := 151) (Ls' := #[.val (.int x0), .val (.int x1), .val (.int x2), .val (.int x3), .val (.int x4), .val (.int (0 : Int32)), .val (.int (own_c8 x0)), .val (.int (own_c8 x1)), .val (.ref a691), .val (.int x3), .val (.ref u750), .val (.long (own_f_rm_ab (x3).toInt64)), .second, .val (.int (1 : Int32)), .val (.int (own_f_rm_dd (own_f_rm_ab (x3).toInt64))), .unset]) at_149 rfl rfl ?_
          refine Go.iload C X766 (pc' := 153) at_151 rfl rfl ?_
          refine Go.iconst C X766 (pc' := 154) (v := (1 : Int32)) at_153 rfl rfl ?_
          refine Go.iadd C X766 (pc' := 155) at_154 rfl ?_
          refine Go.iload C X766 (pc' := 157) at_155 rfl rfl ?_
          refine Go.iadd C X766 (pc' := 158) at_157 rfl ?_
          refine Go.iload C X766 (pc' := 160) at_158 rfl rfl ?_
          refine Go.iadd C X766 (pc' := 161) at_160 rfl ?_
          refine Go.istore C X766 (pc' := 163) (Ls' := #[.val (.int x0), .val (.int x1), .val (.int x2), .val (.int x3), .val (.int x4), .val (.int (0 : Int32)), .val (.int (own_c8 x0)), .val (.int (own_c8 x1)), .val (.ref a691), .val (.int x3), .val (.ref u750), .val (.long (own_f_rm_ab (x3).toInt64)), .second, .val (.int (1 : Int32)), .val (.int (own_f_rm_dd (own_f_rm_ab (x3).toInt64))), .val (.int ((((0 : Int32) + (1 : Int32)) + (1 : Int32)) + (own_f_rm_dd (own_f_rm_ab (x3).toInt64))))]) at_161 rfl rfl ?_
          have hL : (((((0 : Int32) + (1 : Int32)) + (1 : Int32)) + (own_f_rm_dd (own_f_rm_ab (x3).toInt64)))).toInt = (((0 + 1 + (N + sg)) : Nat) : Int) := (own_len (a := (0 : Int32)) rfl (own_s6n hv c765) hdd (by decide) (own_svs hv) hN)
          refine Go.aload C X766 (pc' := 165) at_163 rfl rfl rfl ?_
          refine Go.callV C X766 (pc' := 168) (W := 0) (argsL := []) (rest := []) (a := u750) (rm_ln l Z a0 hw u750 tv750 (0 + 1 + (N + sg)) (own_fs (fun _ => 0) 0 v N sg) ((((0 : Int32) + (1 : Int32)) + (1 : Int32)) + (own_f_rm_dd (own_f_rm_ab (x3).toInt64))) cs h750 n0 X766.sz O752 hS O750_0 O750_1 O750_2 O750_3 hcs hL) O750_0 (notFace_of_selects (args := #[]) (mvT C.2.1 (own_w hw 87 rfl))) (own_w hw 195 rfl) (own_w hw 85 rfl) (own_w hw 87 rfl) (own_w hw 86 rfl) (own_w hw 2 rfl) (own_w hw 88 rfl) (by decide) rfl rfl (lenOf own_pd12 rfl) rfl (Nat.le_of_eq rfl) (by decide) (by decide) (by decide) (by decide) at_165 rfl (fun _ _ q => Nat.le_of_eq (congrArg Array.size q.2)) (fun T767 h767 v767 X767 P767 => ?_)
          obtain ⟨rfl, rfl⟩ := P767
          show Go p e below _ n0 _ _ _ T767 (mkF m 168 #[.val (.int x0), .val (.int x1), .val (.int x2), .val (.int x3), .val (.int x4), .val (.int (0 : Int32)), .val (.int (own_c8 x0)), .val (.int (own_c8 x1)), .val (.ref a691), .val (.int x3), .val (.ref u750), .val (.long (own_f_rm_ab (x3).toInt64)), .second, .val (.int (1 : Int32)), .val (.int (own_f_rm_dd (own_f_rm_ab (x3).toInt64))), .val (.int ((((0 : Int32) + (1 : Int32)) + (1 : Int32)) + (own_f_rm_dd (own_f_rm_ab (x3).toInt64))))] [(.int ((((0 : Int32) + (1 : Int32)) + (1 : Int32)) + (own_f_rm_dd (own_f_rm_ab (x3).toInt64))))])
          refine Go.iload C X767 (pc' := 170) at_168 rfl rfl ?_
          refine Go.icmpYes C X767 (pc' := 175) at_170 (teq rfl).1 (by decide) (by decide) ?_
          refine Go.aload C X767 (pc' := 177) at_175 rfl rfl rfl ?_
          refine Go.iconst C X767 (pc' := 178) (v := (0 : Int32)) at_177 rfl rfl ?_
          refine Go.iload C X767 (pc' := 180) at_178 rfl rfl ?_
          refine Go.aload C X767 (pc' := 182) at_180 rfl rfl rfl ?_
          refine Go.iload C X767 (pc' := 184) at_182 rfl rfl ?_
          refine Go.iload C X767 (pc' := 186) at_184 rfl rfl ?_
          refine Go.iload C X767 (pc' := 188) at_186 rfl rfl ?_
          refine Go.lload C X767 (pc' := 190) at_188 rfl rfl ?_
          refine Go.callS C X767 (pc' := 193) (W := 0) (argsL := [(.ref u750), (.int (0 : Int32)), (.int ((((0 : Int32) + (1 : Int32)) + (1 : Int32)) + (own_f_rm_dd (own_f_rm_ab (x3).toInt64)))), (.ref a691), (.int (0 : Int32)), (.int (1 : Int32)), (.int (own_f_rm_dd (own_f_rm_ab (x3).toInt64))), (.long (own_f_rm_ab (x3).toInt64))]) (rest := []) (rm_cx l Z a0 hw u750 (0 : Int32) ((((0 : Int32) + (1 : Int32)) + (1 : Int32)) + (own_f_rm_dd (own_f_rm_ab (x3).toInt64))) a691 (0 : Int32) (1 : Int32) (own_f_rm_dd (own_f_rm_ab (x3).toInt64)) (own_f_rm_ab (x3).toInt64) tv750 (own_fs (fun _ => 0) 0 v N sg) ((((0 : Int32) + (1 : Int32)) + (1 : Int32)) + (own_f_rm_dd (own_f_rm_ab (x3).toInt64))) b691 0 (fun _ => 0) (0 : Int32) 0 sg N v cs sf h750 n0 X767.sz O752 hS hSF O750_0 O750_1 O750_2 O750_3 E756 F758 F757 A759 hcs hsf rfl (by decide) rfl (own_s6n hv c765) (own_svs hv) hdd hN hab rfl hL hL (own_key (own_svs hv) hd.1)) (own_w hw 196 rfl) (own_w hw 197 rfl) (own_w hw 192 rfl) (own_w hw 198 rfl) (by decide) rfl rfl (lenOf own_pd36 rfl) rfl (Nat.le_of_eq rfl) (by decide) (by decide) (by decide) (by decide) at_190 rfl (fun _ _ q => by obtain ⟨_, K⟩ := q; exact K.1) (fun T768 h768 v768 X768 P768 => ?_)
          obtain ⟨rfl, K768⟩ := P768
          have O769 : Old Z n0 h768 := O752.keep K768 all0
          have E770 := E756.keep K768
          have F771 := F757.keep K768 nin0
          have F772 := F758.keep K768 nin0
          have A773 := A759.keep K768 nin0
          have M774 : h691.size ≤ h768.size := Nat.le_trans M760 K768.1
          have E775 := O750_0.keep K768
          have F776 := O750_1.keep K768 nin0
          have F777 := O750_2.keep K768 nin0
          have A778 := O750_3.keep K768 nin0
          have M779 : h750.size ≤ h768.size := Nat.le_trans M750_ K768.1
          show Go p e below _ n0 _ _ _ T768 (mkF m 193 #[.val (.int x0), .val (.int x1), .val (.int x2), .val (.int x3), .val (.int x4), .val (.int (0 : Int32)), .val (.int (own_c8 x0)), .val (.int (own_c8 x1)), .val (.ref a691), .val (.int x3), .val (.ref u750), .val (.long (own_f_rm_ab (x3).toInt64)), .second, .val (.int (1 : Int32)), .val (.int (own_f_rm_dd (own_f_rm_ab (x3).toInt64))), .val (.int ((((0 : Int32) + (1 : Int32)) + (1 : Int32)) + (own_f_rm_dd (own_f_rm_ab (x3).toInt64))))] [(.int (1 : Int32))])
          refine Go.ifNo C X768 (pc' := 196) at_193 ((if0 _ _).trans (feq (by decide)).1) rfl ?_
          refine Go.aload C X768 (pc' := 198) at_196 rfl rfl rfl ?_
          refine Go.iconst C X768 (pc' := 199) (v := (1 : Int32)) at_198 rfl rfl ?_
          refine Go.iload C X768 (pc' := 201) at_199 rfl rfl ?_
          refine Go.aload C X768 (pc' := 203) at_201 rfl rfl rfl ?_
          refine Go.iload C X768 (pc' := 205) at_203 rfl rfl ?_
          refine Go.iload C X768 (pc' := 207) at_205 rfl rfl ?_
          refine Go.iload C X768 (pc' := 209) at_207 rfl rfl ?_
          refine Go.lload C X768 (pc' := 211) at_209 rfl rfl ?_
          refine Go.callS C X768 (pc' := 214) (W := 0) (argsL := [(.ref u750), (.int (1 : Int32)), (.int ((((0 : Int32) + (1 : Int32)) + (1 : Int32)) + (own_f_rm_dd (own_f_rm_ab (x3).toInt64)))), (.ref a691), (.int (0 : Int32)), (.int (1 : Int32)), (.int (own_f_rm_dd (own_f_rm_ab (x3).toInt64))), (.long (own_f_rm_ab (x3).toInt64))]) (rest := []) (rm_cx l Z a0 hw u750 (1 : Int32) ((((0 : Int32) + (1 : Int32)) + (1 : Int32)) + (own_f_rm_dd (own_f_rm_ab (x3).toInt64))) a691 (0 : Int32) (1 : Int32) (own_f_rm_dd (own_f_rm_ab (x3).toInt64)) (own_f_rm_ab (x3).toInt64) tv750 (own_fs (fun _ => 0) 0 v N sg) ((((0 : Int32) + (1 : Int32)) + (1 : Int32)) + (own_f_rm_dd (own_f_rm_ab (x3).toInt64))) b691 0 (fun _ => 0) (0 : Int32) 1 sg N v cs sf h768 n0 X768.sz O769 hS hSF E775 F776 F777 A778 E770 F772 F771 A773 hcs hsf rfl (by decide) rfl (own_s6n hv c765) (own_svs hv) hdd hN hab rfl hL hL (own_key (own_svs hv) hd.1)) (own_w hw 196 rfl) (own_w hw 197 rfl) (own_w hw 192 rfl) (own_w hw 198 rfl) (by decide) rfl rfl (lenOf own_pd36 rfl) rfl (Nat.le_of_eq rfl) (by decide) (by decide) (by decide) (by decide) at_211 rfl (fun _ _ q => by obtain ⟨_, K⟩ := q; exact K.1) (fun T780 h780 v780 X780 P780 => ?_)
          obtain ⟨rfl, K780⟩ := P780
          have O781 : Old Z n0 h780 := O769.keep K780 all0
          have E782 := E770.keep K780
          have F783 := F771.keep K780 nin0
          have F784 := F772.keep K780 nin0
          have A785 := A773.keep K780 nin0
          have M786 : h691.size ≤ h780.size := Nat.le_trans M774 K780.1
          have E787 := E775.keep K780
          have F788 := F776.keep K780 nin0
          have F789 := F777.keep K780 nin0
          have A790 := A778.keep K780 nin0
          have M791 : h750.size ≤ h780.size := Nat.le_trans M779 K780.1
          show Go p e below _ n0 _ _ _ T780 (mkF m 214 #[.val (.int x0), .val (.int x1), .val (.int x2), .val (.int x3), .val (.int x4), .val (.int (0 : Int32)), .val (.int (own_c8 x0)), .val (.int (own_c8 x1)), .val (.ref a691), .val (.int x3), .val (.ref u750), .val (.long (own_f_rm_ab (x3).toInt64)), .second, .val (.int (1 : Int32)), .val (.int (own_f_rm_dd (own_f_rm_ab (x3).toInt64))), .val (.int ((((0 : Int32) + (1 : Int32)) + (1 : Int32)) + (own_f_rm_dd (own_f_rm_ab (x3).toInt64))))] [(.int (1 : Int32))])
          refine Go.ifNo C X780 (pc' := 217) at_214 ((if0 _ _).trans (feq (by decide)).1) rfl ?_
          refine Go.aload C X780 (pc' := 219) at_217 rfl rfl rfl ?_
          refine Go.iconst C X780 (pc' := 220) (v := (2 : Int32)) at_219 rfl rfl ?_
          refine Go.iload C X780 (pc' := 222) at_220 rfl rfl ?_
          refine Go.aload C X780 (pc' := 224) at_222 rfl rfl rfl ?_
          refine Go.iload C X780 (pc' := 226) at_224 rfl rfl ?_
          refine Go.iload C X780 (pc' := 228) at_226 rfl rfl ?_
          refine Go.iload C X780 (pc' := 230) at_228 rfl rfl ?_
          refine Go.lload C X780 (pc' := 232) at_230 rfl rfl ?_
          refine Go.callS C X780 (pc' := 235) (W := 0) (argsL := [(.ref u750), (.int (2 : Int32)), (.int ((((0 : Int32) + (1 : Int32)) + (1 : Int32)) + (own_f_rm_dd (own_f_rm_ab (x3).toInt64)))), (.ref a691), (.int (0 : Int32)), (.int (1 : Int32)), (.int (own_f_rm_dd (own_f_rm_ab (x3).toInt64))), (.long (own_f_rm_ab (x3).toInt64))]) (rest := []) (rm_cx l Z a0 hw u750 (2 : Int32) ((((0 : Int32) + (1 : Int32)) + (1 : Int32)) + (own_f_rm_dd (own_f_rm_ab (x3).toInt64))) a691 (0 : Int32) (1 : Int32) (own_f_rm_dd (own_f_rm_ab (x3).toInt64)) (own_f_rm_ab (x3).toInt64) tv750 (own_fs (fun _ => 0) 0 v N sg) ((((0 : Int32) + (1 : Int32)) + (1 : Int32)) + (own_f_rm_dd (own_f_rm_ab (x3).toInt64))) b691 0 (fun _ => 0) (0 : Int32) 2 sg N v cs sf h780 n0 X780.sz O781 hS hSF E787 F788 F789 A790 E782 F784 F783 A785 hcs hsf rfl (by decide) rfl (own_s6n hv c765) (own_svs hv) hdd hN hab rfl hL hL (own_key (own_svs hv) hd.1)) (own_w hw 196 rfl) (own_w hw 197 rfl) (own_w hw 192 rfl) (own_w hw 198 rfl) (by decide) rfl rfl (lenOf own_pd36 rfl) rfl (Nat.le_of_eq rfl) (by decide) (by decide) (by decide) (by decide) at_232 rfl (fun _ _ q => by obtain ⟨_, K⟩ := q; exact K.1) (fun T792 h792 v792 X792 P792 => ?_)
          obtain ⟨rfl, K792⟩ := P792
          have O793 : Old Z n0 h792 := O781.keep K792 all0
          have E794 := E782.keep K792
          have F795 := F783.keep K792 nin0
          have F796 := F784.keep K792 nin0
          have A797 := A785.keep K792 nin0
          have M798 : h691.size ≤ h792.size := Nat.le_trans M786 K792.1
          have E799 := E787.keep K792
          have F800 := F788.keep K792 nin0
          have F801 := F789.keep K792 nin0
          have A802 := A790.keep K792 nin0
          have M803 : h750.size ≤ h792.size := Nat.le_trans M791 K792.1
          show Go p e below _ n0 _ _ _ T792 (mkF m 235 #[.val (.int x0), .val (.int x1), .val (.int x2), .val (.int x3), .val (.int x4), .val (.int (0 : Int32)), .val (.int (own_c8 x0)), .val (.int (own_c8 x1)), .val (.ref a691), .val (.int x3), .val (.ref u750), .val (.long (own_f_rm_ab (x3).toInt64)), .second, .val (.int (1 : Int32)), .val (.int (own_f_rm_dd (own_f_rm_ab (x3).toInt64))), .val (.int ((((0 : Int32) + (1 : Int32)) + (1 : Int32)) + (own_f_rm_dd (own_f_rm_ab (x3).toInt64))))] [(.int (1 : Int32))])
          refine Go.ifNo C X792 (pc' := 238) at_235 ((if0 _ _).trans (feq (by decide)).1) rfl ?_
          refine Go.aload C X792 (pc' := 240) at_238 rfl rfl rfl ?_
          refine Go.iconst C X792 (pc' := 241) (v := (3 : Int32)) at_240 rfl rfl ?_
          refine Go.iload C X792 (pc' := 243) at_241 rfl rfl ?_
          refine Go.aload C X792 (pc' := 245) at_243 rfl rfl rfl ?_
          refine Go.iload C X792 (pc' := 247) at_245 rfl rfl ?_
          refine Go.iload C X792 (pc' := 249) at_247 rfl rfl ?_
          refine Go.iload C X792 (pc' := 251) at_249 rfl rfl ?_
          refine Go.lload C X792 (pc' := 253) at_251 rfl rfl ?_
          refine Go.callS C X792 (pc' := 256) (W := 0) (argsL := [(.ref u750), (.int (3 : Int32)), (.int ((((0 : Int32) + (1 : Int32)) + (1 : Int32)) + (own_f_rm_dd (own_f_rm_ab (x3).toInt64)))), (.ref a691), (.int (0 : Int32)), (.int (1 : Int32)), (.int (own_f_rm_dd (own_f_rm_ab (x3).toInt64))), (.long (own_f_rm_ab (x3).toInt64))]) (rest := []) (rm_cx l Z a0 hw u750 (3 : Int32) ((((0 : Int32) + (1 : Int32)) + (1 : Int32)) + (own_f_rm_dd (own_f_rm_ab (x3).toInt64))) a691 (0 : Int32) (1 : Int32) (own_f_rm_dd (own_f_rm_ab (x3).toInt64)) (own_f_rm_ab (x3).toInt64) tv750 (own_fs (fun _ => 0) 0 v N sg) ((((0 : Int32) + (1 : Int32)) + (1 : Int32)) + (own_f_rm_dd (own_f_rm_ab (x3).toInt64))) b691 0 (fun _ => 0) (0 : Int32) 3 sg N v cs sf h792 n0 X792.sz O793 hS hSF E799 F800 F801 A802 E794 F796 F795 A797 hcs hsf rfl (by decide) rfl (own_s6n hv c765) (own_svs hv) hdd hN hab rfl hL hL (own_key (own_svs hv) hd.1)) (own_w hw 196 rfl) (own_w hw 197 rfl) (own_w hw 192 rfl) (own_w hw 198 rfl) (by decide) rfl rfl (lenOf own_pd36 rfl) rfl (Nat.le_of_eq rfl) (by decide) (by decide) (by decide) (by decide) at_253 rfl (fun _ _ q => by obtain ⟨_, K⟩ := q; exact K.1) (fun T804 h804 v804 X804 P804 => ?_)
          obtain ⟨rfl, K804⟩ := P804
          have O805 : Old Z n0 h804 := O793.keep K804 all0
          have E806 := E794.keep K804
          have F807 := F795.keep K804 nin0
          have F808 := F796.keep K804 nin0
          have A809 := A797.keep K804 nin0
          have M810 : h691.size ≤ h804.size := Nat.le_trans M798 K804.1
          have E811 := E799.keep K804
          have F812 := F800.keep K804 nin0
          have F813 := F801.keep K804 nin0
          have A814 := A802.keep K804 nin0
          have M815 : h750.size ≤ h804.size := Nat.le_trans M803 K804.1
          show Go p e below _ n0 _ _ _ T804 (mkF m 256 #[.val (.int x0), .val (.int x1), .val (.int x2), .val (.int x3), .val (.int x4), .val (.int (0 : Int32)), .val (.int (own_c8 x0)), .val (.int (own_c8 x1)), .val (.ref a691), .val (.int x3), .val (.ref u750), .val (.long (own_f_rm_ab (x3).toInt64)), .second, .val (.int (1 : Int32)), .val (.int (own_f_rm_dd (own_f_rm_ab (x3).toInt64))), .val (.int ((((0 : Int32) + (1 : Int32)) + (1 : Int32)) + (own_f_rm_dd (own_f_rm_ab (x3).toInt64))))] [(.int (1 : Int32))])
          refine Go.ifNo C X804 (pc' := 259) at_256 ((if0 _ _).trans (feq (by decide)).1) rfl ?_
          refine Go.aload C X804 (pc' := 261) at_259 rfl rfl rfl ?_
          refine Go.iconst C X804 (pc' := 262) (v := (4 : Int32)) at_261 rfl rfl ?_
          refine Go.iload C X804 (pc' := 264) at_262 rfl rfl ?_
          refine Go.aload C X804 (pc' := 266) at_264 rfl rfl rfl ?_
          refine Go.iload C X804 (pc' := 268) at_266 rfl rfl ?_
          refine Go.iload C X804 (pc' := 270) at_268 rfl rfl ?_
          refine Go.iload C X804 (pc' := 272) at_270 rfl rfl ?_
          refine Go.lload C X804 (pc' := 274) at_272 rfl rfl ?_
          refine Go.callS C X804 (pc' := 277) (W := 0) (argsL := [(.ref u750), (.int (4 : Int32)), (.int ((((0 : Int32) + (1 : Int32)) + (1 : Int32)) + (own_f_rm_dd (own_f_rm_ab (x3).toInt64)))), (.ref a691), (.int (0 : Int32)), (.int (1 : Int32)), (.int (own_f_rm_dd (own_f_rm_ab (x3).toInt64))), (.long (own_f_rm_ab (x3).toInt64))]) (rest := []) (rm_cx l Z a0 hw u750 (4 : Int32) ((((0 : Int32) + (1 : Int32)) + (1 : Int32)) + (own_f_rm_dd (own_f_rm_ab (x3).toInt64))) a691 (0 : Int32) (1 : Int32) (own_f_rm_dd (own_f_rm_ab (x3).toInt64)) (own_f_rm_ab (x3).toInt64) tv750 (own_fs (fun _ => 0) 0 v N sg) ((((0 : Int32) + (1 : Int32)) + (1 : Int32)) + (own_f_rm_dd (own_f_rm_ab (x3).toInt64))) b691 0 (fun _ => 0) (0 : Int32) 4 sg N v cs sf h804 n0 X804.sz O805 hS hSF E811 F812 F813 A814 E806 F808 F807 A809 hcs hsf rfl (by decide) rfl (own_s6n hv c765) (own_svs hv) hdd hN hab rfl hL hL (own_key (own_svs hv) hd.1)) (own_w hw 196 rfl) (own_w hw 197 rfl) (own_w hw 192 rfl) (own_w hw 198 rfl) (by decide) rfl rfl (lenOf own_pd36 rfl) rfl (Nat.le_of_eq rfl) (by decide) (by decide) (by decide) (by decide) at_274 rfl (fun _ _ q => by obtain ⟨_, K⟩ := q; exact K.1) (fun T816 h816 v816 X816 P816 => ?_)
          obtain ⟨rfl, K816⟩ := P816
          have O817 : Old Z n0 h816 := O805.keep K816 all0
          have E818 := E806.keep K816
          have F819 := F807.keep K816 nin0
          have F820 := F808.keep K816 nin0
          have A821 := A809.keep K816 nin0
          have M822 : h691.size ≤ h816.size := Nat.le_trans M810 K816.1
          have E823 := E811.keep K816
          have F824 := F812.keep K816 nin0
          have F825 := F813.keep K816 nin0
          have A826 := A814.keep K816 nin0
          have M827 : h750.size ≤ h816.size := Nat.le_trans M815 K816.1
          show Go p e below _ n0 _ _ _ T816 (mkF m 277 #[.val (.int x0), .val (.int x1), .val (.int x2), .val (.int x3), .val (.int x4), .val (.int (0 : Int32)), .val (.int (own_c8 x0)), .val (.int (own_c8 x1)), .val (.ref a691), .val (.int x3), .val (.ref u750), .val (.long (own_f_rm_ab (x3).toInt64)), .second, .val (.int (1 : Int32)), .val (.int (own_f_rm_dd (own_f_rm_ab (x3).toInt64))), .val (.int ((((0 : Int32) + (1 : Int32)) + (1 : Int32)) + (own_f_rm_dd (own_f_rm_ab (x3).toInt64))))] [(.int (1 : Int32))])
          refine Go.ifNo C X816 (pc' := 280) at_277 ((if0 _ _).trans (feq (by decide)).1) rfl ?_
          refine Go.aload C X816 (pc' := 282) at_280 rfl rfl rfl ?_
          refine Go.iconst C X816 (pc' := 283) (v := (5 : Int32)) at_282 rfl rfl ?_
          refine Go.iload C X816 (pc' := 285) at_283 rfl rfl ?_
          refine Go.aload C X816 (pc' := 287) at_285 rfl rfl rfl ?_
          refine Go.iload C X816 (pc' := 289) at_287 rfl rfl ?_
          refine Go.iload C X816 (pc' := 291) at_289 rfl rfl ?_
          refine Go.iload C X816 (pc' := 293) at_291 rfl rfl ?_
          refine Go.lload C X816 (pc' := 295) at_293 rfl rfl ?_
          refine Go.callS C X816 (pc' := 298) (W := 0) (argsL := [(.ref u750), (.int (5 : Int32)), (.int ((((0 : Int32) + (1 : Int32)) + (1 : Int32)) + (own_f_rm_dd (own_f_rm_ab (x3).toInt64)))), (.ref a691), (.int (0 : Int32)), (.int (1 : Int32)), (.int (own_f_rm_dd (own_f_rm_ab (x3).toInt64))), (.long (own_f_rm_ab (x3).toInt64))]) (rest := []) (rm_cx l Z a0 hw u750 (5 : Int32) ((((0 : Int32) + (1 : Int32)) + (1 : Int32)) + (own_f_rm_dd (own_f_rm_ab (x3).toInt64))) a691 (0 : Int32) (1 : Int32) (own_f_rm_dd (own_f_rm_ab (x3).toInt64)) (own_f_rm_ab (x3).toInt64) tv750 (own_fs (fun _ => 0) 0 v N sg) ((((0 : Int32) + (1 : Int32)) + (1 : Int32)) + (own_f_rm_dd (own_f_rm_ab (x3).toInt64))) b691 0 (fun _ => 0) (0 : Int32) 5 sg N v cs sf h816 n0 X816.sz O817 hS hSF E823 F824 F825 A826 E818 F820 F819 A821 hcs hsf rfl (by decide) rfl (own_s6n hv c765) (own_svs hv) hdd hN hab rfl hL hL (own_key (own_svs hv) hd.1)) (own_w hw 196 rfl) (own_w hw 197 rfl) (own_w hw 192 rfl) (own_w hw 198 rfl) (by decide) rfl rfl (lenOf own_pd36 rfl) rfl (Nat.le_of_eq rfl) (by decide) (by decide) (by decide) (by decide) at_295 rfl (fun _ _ q => by obtain ⟨_, K⟩ := q; exact K.1) (fun T828 h828 v828 X828 P828 => ?_)
          obtain ⟨rfl, K828⟩ := P828
          have O829 : Old Z n0 h828 := O817.keep K828 all0
          have E830 := E818.keep K828
          have F831 := F819.keep K828 nin0
          have F832 := F820.keep K828 nin0
          have A833 := A821.keep K828 nin0
          have M834 : h691.size ≤ h828.size := Nat.le_trans M822 K828.1
          have E835 := E823.keep K828
          have F836 := F824.keep K828 nin0
          have F837 := F825.keep K828 nin0
          have A838 := A826.keep K828 nin0
          have M839 : h750.size ≤ h828.size := Nat.le_trans M827 K828.1
          show Go p e below _ n0 _ _ _ T828 (mkF m 298 #[.val (.int x0), .val (.int x1), .val (.int x2), .val (.int x3), .val (.int x4), .val (.int (0 : Int32)), .val (.int (own_c8 x0)), .val (.int (own_c8 x1)), .val (.ref a691), .val (.int x3), .val (.ref u750), .val (.long (own_f_rm_ab (x3).toInt64)), .second, .val (.int (1 : Int32)), .val (.int (own_f_rm_dd (own_f_rm_ab (x3).toInt64))), .val (.int ((((0 : Int32) + (1 : Int32)) + (1 : Int32)) + (own_f_rm_dd (own_f_rm_ab (x3).toInt64))))] [(.int (1 : Int32))])
          refine Go.ifNo C X828 (pc' := 301) at_298 ((if0 _ _).trans (feq (by decide)).1) rfl ?_
          refine Go.aload C X828 (pc' := 303) at_301 rfl rfl rfl ?_
          refine Go.bipush C X828 (pc' := 305) (v := (6 : Int32)) at_303 rfl rfl ?_
          refine Go.iload C X828 (pc' := 307) at_305 rfl rfl ?_
          refine Go.aload C X828 (pc' := 309) at_307 rfl rfl rfl ?_
          refine Go.iload C X828 (pc' := 311) at_309 rfl rfl ?_
          refine Go.iload C X828 (pc' := 313) at_311 rfl rfl ?_
          refine Go.iload C X828 (pc' := 315) at_313 rfl rfl ?_
          refine Go.lload C X828 (pc' := 317) at_315 rfl rfl ?_
          refine Go.callS C X828 (pc' := 320) (W := 0) (argsL := [(.ref u750), (.int (6 : Int32)), (.int ((((0 : Int32) + (1 : Int32)) + (1 : Int32)) + (own_f_rm_dd (own_f_rm_ab (x3).toInt64)))), (.ref a691), (.int (0 : Int32)), (.int (1 : Int32)), (.int (own_f_rm_dd (own_f_rm_ab (x3).toInt64))), (.long (own_f_rm_ab (x3).toInt64))]) (rest := []) (rm_cx l Z a0 hw u750 (6 : Int32) ((((0 : Int32) + (1 : Int32)) + (1 : Int32)) + (own_f_rm_dd (own_f_rm_ab (x3).toInt64))) a691 (0 : Int32) (1 : Int32) (own_f_rm_dd (own_f_rm_ab (x3).toInt64)) (own_f_rm_ab (x3).toInt64) tv750 (own_fs (fun _ => 0) 0 v N sg) ((((0 : Int32) + (1 : Int32)) + (1 : Int32)) + (own_f_rm_dd (own_f_rm_ab (x3).toInt64))) b691 0 (fun _ => 0) (0 : Int32) 6 sg N v cs sf h828 n0 X828.sz O829 hS hSF E835 F836 F837 A838 E830 F832 F831 A833 hcs hsf rfl (by decide) rfl (own_s6n hv c765) (own_svs hv) hdd hN hab rfl hL hL (own_key (own_svs hv) hd.1)) (own_w hw 196 rfl) (own_w hw 197 rfl) (own_w hw 192 rfl) (own_w hw 198 rfl) (by decide) rfl rfl (lenOf own_pd36 rfl) rfl (Nat.le_of_eq rfl) (by decide) (by decide) (by decide) (by decide) at_317 rfl (fun _ _ q => by obtain ⟨_, K⟩ := q; exact K.1) (fun T840 h840 v840 X840 P840 => ?_)
          obtain ⟨rfl, K840⟩ := P840
          have O841 : Old Z n0 h840 := O829.keep K840 all0
          have E842 := E830.keep K840
          have F843 := F831.keep K840 nin0
          have F844 := F832.keep K840 nin0
          have A845 := A833.keep K840 nin0
          have M846 : h691.size ≤ h840.size := Nat.le_trans M834 K840.1
          have E847 := E835.keep K840
          have F848 := F836.keep K840 nin0
          have F849 := F837.keep K840 nin0
          have A850 := A838.keep K840 nin0
          have M851 : h750.size ≤ h840.size := Nat.le_trans M839 K840.1
          show Go p e below _ n0 _ _ _ T840 (mkF m 320 #[.val (.int x0), .val (.int x1), .val (.int x2), .val (.int x3), .val (.int x4), .val (.int (0 : Int32)), .val (.int (own_c8 x0)), .val (.int (own_c8 x1)), .val (.ref a691), .val (.int x3), .val (.ref u750), .val (.long (own_f_rm_ab (x3).toInt64)), .second, .val (.int (1 : Int32)), .val (.int (own_f_rm_dd (own_f_rm_ab (x3).toInt64))), .val (.int ((((0 : Int32) + (1 : Int32)) + (1 : Int32)) + (own_f_rm_dd (own_f_rm_ab (x3).toInt64))))] [(.int (1 : Int32))])
          refine Go.ifNo C X840 (pc' := 323) at_320 ((if0 _ _).trans (feq (by decide)).1) rfl ?_
          refine Go.aload C X840 (pc' := 325) at_323 rfl rfl rfl ?_
          refine Go.bipush C X840 (pc' := 327) (v := (7 : Int32)) at_325 rfl rfl ?_
          refine Go.iload C X840 (pc' := 329) at_327 rfl rfl ?_
          refine Go.aload C X840 (pc' := 331) at_329 rfl rfl rfl ?_
          refine Go.iload C X840 (pc' := 333) at_331 rfl rfl ?_
          refine Go.iload C X840 (pc' := 335) at_333 rfl rfl ?_
          refine Go.iload C X840 (pc' := 337) at_335 rfl rfl ?_
          refine Go.lload C X840 (pc' := 339) at_337 rfl rfl ?_
          refine Go.callS C X840 (pc' := 342) (W := 0) (argsL := [(.ref u750), (.int (7 : Int32)), (.int ((((0 : Int32) + (1 : Int32)) + (1 : Int32)) + (own_f_rm_dd (own_f_rm_ab (x3).toInt64)))), (.ref a691), (.int (0 : Int32)), (.int (1 : Int32)), (.int (own_f_rm_dd (own_f_rm_ab (x3).toInt64))), (.long (own_f_rm_ab (x3).toInt64))]) (rest := []) (rm_cx l Z a0 hw u750 (7 : Int32) ((((0 : Int32) + (1 : Int32)) + (1 : Int32)) + (own_f_rm_dd (own_f_rm_ab (x3).toInt64))) a691 (0 : Int32) (1 : Int32) (own_f_rm_dd (own_f_rm_ab (x3).toInt64)) (own_f_rm_ab (x3).toInt64) tv750 (own_fs (fun _ => 0) 0 v N sg) ((((0 : Int32) + (1 : Int32)) + (1 : Int32)) + (own_f_rm_dd (own_f_rm_ab (x3).toInt64))) b691 0 (fun _ => 0) (0 : Int32) 7 sg N v cs sf h840 n0 X840.sz O841 hS hSF E847 F848 F849 A850 E842 F844 F843 A845 hcs hsf rfl (by decide) rfl (own_s6n hv c765) (own_svs hv) hdd hN hab rfl hL hL (own_key (own_svs hv) hd.1)) (own_w hw 196 rfl) (own_w hw 197 rfl) (own_w hw 192 rfl) (own_w hw 198 rfl) (by decide) rfl rfl (lenOf own_pd36 rfl) rfl (Nat.le_of_eq rfl) (by decide) (by decide) (by decide) (by decide) at_339 rfl (fun _ _ q => by obtain ⟨_, K⟩ := q; exact K.1) (fun T852 h852 v852 X852 P852 => ?_)
          obtain ⟨rfl, K852⟩ := P852
          have O853 : Old Z n0 h852 := O841.keep K852 all0
          have E854 := E842.keep K852
          have F855 := F843.keep K852 nin0
          have F856 := F844.keep K852 nin0
          have A857 := A845.keep K852 nin0
          have M858 : h691.size ≤ h852.size := Nat.le_trans M846 K852.1
          have E859 := E847.keep K852
          have F860 := F848.keep K852 nin0
          have F861 := F849.keep K852 nin0
          have A862 := A850.keep K852 nin0
          have M863 : h750.size ≤ h852.size := Nat.le_trans M851 K852.1
          show Go p e below _ n0 _ _ _ T852 (mkF m 342 #[.val (.int x0), .val (.int x1), .val (.int x2), .val (.int x3), .val (.int x4), .val (.int (0 : Int32)), .val (.int (own_c8 x0)), .val (.int (own_c8 x1)), .val (.ref a691), .val (.int x3), .val (.ref u750), .val (.long (own_f_rm_ab (x3).toInt64)), .second, .val (.int (1 : Int32)), .val (.int (own_f_rm_dd (own_f_rm_ab (x3).toInt64))), .val (.int ((((0 : Int32) + (1 : Int32)) + (1 : Int32)) + (own_f_rm_dd (own_f_rm_ab (x3).toInt64))))] [(.int (1 : Int32))])
          refine Go.ifNo C X852 (pc' := 345) at_342 ((if0 _ _).trans (feq (by decide)).1) rfl ?_
          refine Go.aload C X852 (pc' := 347) at_345 rfl rfl rfl ?_
          refine Go.bipush C X852 (pc' := 349) (v := (8 : Int32)) at_347 rfl rfl ?_
          refine Go.iload C X852 (pc' := 351) at_349 rfl rfl ?_
          refine Go.aload C X852 (pc' := 353) at_351 rfl rfl rfl ?_
          refine Go.iload C X852 (pc' := 355) at_353 rfl rfl ?_
          refine Go.iload C X852 (pc' := 357) at_355 rfl rfl ?_
          refine Go.iload C X852 (pc' := 359) at_357 rfl rfl ?_
          refine Go.lload C X852 (pc' := 361) at_359 rfl rfl ?_
          refine Go.callS C X852 (pc' := 364) (W := 0) (argsL := [(.ref u750), (.int (8 : Int32)), (.int ((((0 : Int32) + (1 : Int32)) + (1 : Int32)) + (own_f_rm_dd (own_f_rm_ab (x3).toInt64)))), (.ref a691), (.int (0 : Int32)), (.int (1 : Int32)), (.int (own_f_rm_dd (own_f_rm_ab (x3).toInt64))), (.long (own_f_rm_ab (x3).toInt64))]) (rest := []) (rm_cx l Z a0 hw u750 (8 : Int32) ((((0 : Int32) + (1 : Int32)) + (1 : Int32)) + (own_f_rm_dd (own_f_rm_ab (x3).toInt64))) a691 (0 : Int32) (1 : Int32) (own_f_rm_dd (own_f_rm_ab (x3).toInt64)) (own_f_rm_ab (x3).toInt64) tv750 (own_fs (fun _ => 0) 0 v N sg) ((((0 : Int32) + (1 : Int32)) + (1 : Int32)) + (own_f_rm_dd (own_f_rm_ab (x3).toInt64))) b691 0 (fun _ => 0) (0 : Int32) 8 sg N v cs sf h852 n0 X852.sz O853 hS hSF E859 F860 F861 A862 E854 F856 F855 A857 hcs hsf rfl (by decide) rfl (own_s6n hv c765) (own_svs hv) hdd hN hab rfl hL hL (own_key (own_svs hv) hd.1)) (own_w hw 196 rfl) (own_w hw 197 rfl) (own_w hw 192 rfl) (own_w hw 198 rfl) (by decide) rfl rfl (lenOf own_pd36 rfl) rfl (Nat.le_of_eq rfl) (by decide) (by decide) (by decide) (by decide) at_361 rfl (fun _ _ q => by obtain ⟨_, K⟩ := q; exact K.1) (fun T864 h864 v864 X864 P864 => ?_)
          obtain ⟨rfl, K864⟩ := P864
          have O865 : Old Z n0 h864 := O853.keep K864 all0
          have E866 := E854.keep K864
          have F867 := F855.keep K864 nin0
          have F868 := F856.keep K864 nin0
          have A869 := A857.keep K864 nin0
          have M870 : h691.size ≤ h864.size := Nat.le_trans M858 K864.1
          have E871 := E859.keep K864
          have F872 := F860.keep K864 nin0
          have F873 := F861.keep K864 nin0
          have A874 := A862.keep K864 nin0
          have M875 : h750.size ≤ h864.size := Nat.le_trans M863 K864.1
          show Go p e below _ n0 _ _ _ T864 (mkF m 364 #[.val (.int x0), .val (.int x1), .val (.int x2), .val (.int x3), .val (.int x4), .val (.int (0 : Int32)), .val (.int (own_c8 x0)), .val (.int (own_c8 x1)), .val (.ref a691), .val (.int x3), .val (.ref u750), .val (.long (own_f_rm_ab (x3).toInt64)), .second, .val (.int (1 : Int32)), .val (.int (own_f_rm_dd (own_f_rm_ab (x3).toInt64))), .val (.int ((((0 : Int32) + (1 : Int32)) + (1 : Int32)) + (own_f_rm_dd (own_f_rm_ab (x3).toInt64))))] [(.int (1 : Int32))])
          refine Go.ifNo C X864 (pc' := 367) at_364 ((if0 _ _).trans (feq (by decide)).1) rfl ?_
          refine Go.aload C X864 (pc' := 369) at_367 rfl rfl rfl ?_
          refine Go.bipush C X864 (pc' := 371) (v := (9 : Int32)) at_369 rfl rfl ?_
          refine Go.iload C X864 (pc' := 373) at_371 rfl rfl ?_
          refine Go.aload C X864 (pc' := 375) at_373 rfl rfl rfl ?_
          refine Go.iload C X864 (pc' := 377) at_375 rfl rfl ?_
          refine Go.iload C X864 (pc' := 379) at_377 rfl rfl ?_
          refine Go.iload C X864 (pc' := 381) at_379 rfl rfl ?_
          refine Go.lload C X864 (pc' := 383) at_381 rfl rfl ?_
          refine Go.callS C X864 (pc' := 386) (W := 0) (argsL := [(.ref u750), (.int (9 : Int32)), (.int ((((0 : Int32) + (1 : Int32)) + (1 : Int32)) + (own_f_rm_dd (own_f_rm_ab (x3).toInt64)))), (.ref a691), (.int (0 : Int32)), (.int (1 : Int32)), (.int (own_f_rm_dd (own_f_rm_ab (x3).toInt64))), (.long (own_f_rm_ab (x3).toInt64))]) (rest := []) (rm_cx l Z a0 hw u750 (9 : Int32) ((((0 : Int32) + (1 : Int32)) + (1 : Int32)) + (own_f_rm_dd (own_f_rm_ab (x3).toInt64))) a691 (0 : Int32) (1 : Int32) (own_f_rm_dd (own_f_rm_ab (x3).toInt64)) (own_f_rm_ab (x3).toInt64) tv750 (own_fs (fun _ => 0) 0 v N sg) ((((0 : Int32) + (1 : Int32)) + (1 : Int32)) + (own_f_rm_dd (own_f_rm_ab (x3).toInt64))) b691 0 (fun _ => 0) (0 : Int32) 9 sg N v cs sf h864 n0 X864.sz O865 hS hSF E871 F872 F873 A874 E866 F868 F867 A869 hcs hsf rfl (by decide) rfl (own_s6n hv c765) (own_svs hv) hdd hN hab rfl hL hL (own_key (own_svs hv) hd.1)) (own_w hw 196 rfl) (own_w hw 197 rfl) (own_w hw 192 rfl) (own_w hw 198 rfl) (by decide) rfl rfl (lenOf own_pd36 rfl) rfl (Nat.le_of_eq rfl) (by decide) (by decide) (by decide) (by decide) at_383 rfl (fun _ _ q => by obtain ⟨_, K⟩ := q; exact K.1) (fun T876 h876 v876 X876 P876 => ?_)
          obtain ⟨rfl, K876⟩ := P876
          have O877 : Old Z n0 h876 := O865.keep K876 all0
          have E878 := E866.keep K876
          have F879 := F867.keep K876 nin0
          have F880 := F868.keep K876 nin0
          have A881 := A869.keep K876 nin0
          have M882 : h691.size ≤ h876.size := Nat.le_trans M870 K876.1
          have E883 := E871.keep K876
          have F884 := F872.keep K876 nin0
          have F885 := F873.keep K876 nin0
          have A886 := A874.keep K876 nin0
          have M887 : h750.size ≤ h876.size := Nat.le_trans M875 K876.1
          show Go p e below _ n0 _ _ _ T876 (mkF m 386 #[.val (.int x0), .val (.int x1), .val (.int x2), .val (.int x3), .val (.int x4), .val (.int (0 : Int32)), .val (.int (own_c8 x0)), .val (.int (own_c8 x1)), .val (.ref a691), .val (.int x3), .val (.ref u750), .val (.long (own_f_rm_ab (x3).toInt64)), .second, .val (.int (1 : Int32)), .val (.int (own_f_rm_dd (own_f_rm_ab (x3).toInt64))), .val (.int ((((0 : Int32) + (1 : Int32)) + (1 : Int32)) + (own_f_rm_dd (own_f_rm_ab (x3).toInt64))))] [(.int (1 : Int32))])
          refine Go.ifNo C X876 (pc' := 389) at_386 ((if0 _ _).trans (feq (by decide)).1) rfl ?_
          refine Go.aload C X876 (pc' := 391) at_389 rfl rfl rfl ?_
          refine Go.bipush C X876 (pc' := 393) (v := (10 : Int32)) at_391 rfl rfl ?_
          refine Go.iload C X876 (pc' := 395) at_393 rfl rfl ?_
          refine Go.aload C X876 (pc' := 397) at_395 rfl rfl rfl ?_
          refine Go.iload C X876 (pc' := 399) at_397 rfl rfl ?_
          refine Go.iload C X876 (pc' := 401) at_399 rfl rfl ?_
          refine Go.iload C X876 (pc' := 403) at_401 rfl rfl ?_
          refine Go.lload C X876 (pc' := 405) at_403 rfl rfl ?_
          refine Go.callS C X876 (pc' := 408) (W := 0) (argsL := [(.ref u750), (.int (10 : Int32)), (.int ((((0 : Int32) + (1 : Int32)) + (1 : Int32)) + (own_f_rm_dd (own_f_rm_ab (x3).toInt64)))), (.ref a691), (.int (0 : Int32)), (.int (1 : Int32)), (.int (own_f_rm_dd (own_f_rm_ab (x3).toInt64))), (.long (own_f_rm_ab (x3).toInt64))]) (rest := []) (rm_cx l Z a0 hw u750 (10 : Int32) ((((0 : Int32) + (1 : Int32)) + (1 : Int32)) + (own_f_rm_dd (own_f_rm_ab (x3).toInt64))) a691 (0 : Int32) (1 : Int32) (own_f_rm_dd (own_f_rm_ab (x3).toInt64)) (own_f_rm_ab (x3).toInt64) tv750 (own_fs (fun _ => 0) 0 v N sg) ((((0 : Int32) + (1 : Int32)) + (1 : Int32)) + (own_f_rm_dd (own_f_rm_ab (x3).toInt64))) b691 0 (fun _ => 0) (0 : Int32) 10 sg N v cs sf h876 n0 X876.sz O877 hS hSF E883 F884 F885 A886 E878 F880 F879 A881 hcs hsf rfl (by decide) rfl (own_s6n hv c765) (own_svs hv) hdd hN hab rfl hL hL (own_key (own_svs hv) hd.1)) (own_w hw 196 rfl) (own_w hw 197 rfl) (own_w hw 192 rfl) (own_w hw 198 rfl) (by decide) rfl rfl (lenOf own_pd36 rfl) rfl (Nat.le_of_eq rfl) (by decide) (by decide) (by decide) (by decide) at_405 rfl (fun _ _ q => by obtain ⟨_, K⟩ := q; exact K.1) (fun T888 h888 v888 X888 P888 => ?_)
          obtain ⟨rfl, K888⟩ := P888
          have O889 : Old Z n0 h888 := O877.keep K888 all0
          have E890 := E878.keep K888
          have F891 := F879.keep K888 nin0
          have F892 := F880.keep K888 nin0
          have A893 := A881.keep K888 nin0
          have M894 : h691.size ≤ h888.size := Nat.le_trans M882 K888.1
          have E895 := E883.keep K888
          have F896 := F884.keep K888 nin0
          have F897 := F885.keep K888 nin0
          have A898 := A886.keep K888 nin0
          have M899 : h750.size ≤ h888.size := Nat.le_trans M887 K888.1
          show Go p e below _ n0 _ _ _ T888 (mkF m 408 #[.val (.int x0), .val (.int x1), .val (.int x2), .val (.int x3), .val (.int x4), .val (.int (0 : Int32)), .val (.int (own_c8 x0)), .val (.int (own_c8 x1)), .val (.ref a691), .val (.int x3), .val (.ref u750), .val (.long (own_f_rm_ab (x3).toInt64)), .second, .val (.int (1 : Int32)), .val (.int (own_f_rm_dd (own_f_rm_ab (x3).toInt64))), .val (.int ((((0 : Int32) + (1 : Int32)) + (1 : Int32)) + (own_f_rm_dd (own_f_rm_ab (x3).toInt64))))] [(.int (1 : Int32))])
          refine Go.ifNo C X888 (pc' := 411) at_408 ((if0 _ _).trans (feq (by decide)).1) rfl ?_
          refine Go.aload C X888 (pc' := 413) at_411 rfl rfl rfl ?_
          refine Go.bipush C X888 (pc' := 415) (v := (11 : Int32)) at_413 rfl rfl ?_
          refine Go.iload C X888 (pc' := 417) at_415 rfl rfl ?_
          refine Go.aload C X888 (pc' := 419) at_417 rfl rfl rfl ?_
          refine Go.iload C X888 (pc' := 421) at_419 rfl rfl ?_
          refine Go.iload C X888 (pc' := 423) at_421 rfl rfl ?_
          refine Go.iload C X888 (pc' := 425) at_423 rfl rfl ?_
          refine Go.lload C X888 (pc' := 427) at_425 rfl rfl ?_
          refine Go.callS C X888 (pc' := 430) (W := 0) (argsL := [(.ref u750), (.int (11 : Int32)), (.int ((((0 : Int32) + (1 : Int32)) + (1 : Int32)) + (own_f_rm_dd (own_f_rm_ab (x3).toInt64)))), (.ref a691), (.int (0 : Int32)), (.int (1 : Int32)), (.int (own_f_rm_dd (own_f_rm_ab (x3).toInt64))), (.long (own_f_rm_ab (x3).toInt64))]) (rest := []) (rm_cx l Z a0 hw u750 (11 : Int32) ((((0 : Int32) + (1 : Int32)) + (1 : Int32)) + (own_f_rm_dd (own_f_rm_ab (x3).toInt64))) a691 (0 : Int32) (1 : Int32) (own_f_rm_dd (own_f_rm_ab (x3).toInt64)) (own_f_rm_ab (x3).toInt64) tv750 (own_fs (fun _ => 0) 0 v N sg) ((((0 : Int32) + (1 : Int32)) + (1 : Int32)) + (own_f_rm_dd (own_f_rm_ab (x3).toInt64))) b691 0 (fun _ => 0) (0 : Int32) 11 sg N v cs sf h888 n0 X888.sz O889 hS hSF E895 F896 F897 A898 E890 F892 F891 A893 hcs hsf rfl (by decide) rfl (own_s6n hv c765) (own_svs hv) hdd hN hab rfl hL hL (own_key (own_svs hv) hd.1)) (own_w hw 196 rfl) (own_w hw 197 rfl) (own_w hw 192 rfl) (own_w hw 198 rfl) (by decide) rfl rfl (lenOf own_pd36 rfl) rfl (Nat.le_of_eq rfl) (by decide) (by decide) (by decide) (by decide) at_427 rfl (fun _ _ q => by obtain ⟨_, K⟩ := q; exact K.1) (fun T900 h900 v900 X900 P900 => ?_)
          obtain ⟨rfl, K900⟩ := P900
          have O901 : Old Z n0 h900 := O889.keep K900 all0
          have E902 := E890.keep K900
          have F903 := F891.keep K900 nin0
          have F904 := F892.keep K900 nin0
          have A905 := A893.keep K900 nin0
          have M906 : h691.size ≤ h900.size := Nat.le_trans M894 K900.1
          have E907 := E895.keep K900
          have F908 := F896.keep K900 nin0
          have F909 := F897.keep K900 nin0
          have A910 := A898.keep K900 nin0
          have M911 : h750.size ≤ h900.size := Nat.le_trans M899 K900.1
          show Go p e below _ n0 _ _ _ T900 (mkF m 430 #[.val (.int x0), .val (.int x1), .val (.int x2), .val (.int x3), .val (.int x4), .val (.int (0 : Int32)), .val (.int (own_c8 x0)), .val (.int (own_c8 x1)), .val (.ref a691), .val (.int x3), .val (.ref u750), .val (.long (own_f_rm_ab (x3).toInt64)), .second, .val (.int (1 : Int32)), .val (.int (own_f_rm_dd (own_f_rm_ab (x3).toInt64))), .val (.int ((((0 : Int32) + (1 : Int32)) + (1 : Int32)) + (own_f_rm_dd (own_f_rm_ab (x3).toInt64))))] [(.int (1 : Int32))])
          refine Go.ifNo C X900 (pc' := 433) at_430 ((if0 _ _).trans (feq (by decide)).1) rfl ?_
          refine Go.aload C X900 (pc' := 435) at_433 rfl rfl rfl ?_
          refine Go.bipush C X900 (pc' := 437) (v := (12 : Int32)) at_435 rfl rfl ?_
          refine Go.iload C X900 (pc' := 439) at_437 rfl rfl ?_
          refine Go.aload C X900 (pc' := 441) at_439 rfl rfl rfl ?_
          refine Go.iload C X900 (pc' := 443) at_441 rfl rfl ?_
          refine Go.iload C X900 (pc' := 445) at_443 rfl rfl ?_
          refine Go.iload C X900 (pc' := 447) at_445 rfl rfl ?_
          refine Go.lload C X900 (pc' := 449) at_447 rfl rfl ?_
          refine Go.callS C X900 (pc' := 452) (W := 0) (argsL := [(.ref u750), (.int (12 : Int32)), (.int ((((0 : Int32) + (1 : Int32)) + (1 : Int32)) + (own_f_rm_dd (own_f_rm_ab (x3).toInt64)))), (.ref a691), (.int (0 : Int32)), (.int (1 : Int32)), (.int (own_f_rm_dd (own_f_rm_ab (x3).toInt64))), (.long (own_f_rm_ab (x3).toInt64))]) (rest := []) (rm_cx l Z a0 hw u750 (12 : Int32) ((((0 : Int32) + (1 : Int32)) + (1 : Int32)) + (own_f_rm_dd (own_f_rm_ab (x3).toInt64))) a691 (0 : Int32) (1 : Int32) (own_f_rm_dd (own_f_rm_ab (x3).toInt64)) (own_f_rm_ab (x3).toInt64) tv750 (own_fs (fun _ => 0) 0 v N sg) ((((0 : Int32) + (1 : Int32)) + (1 : Int32)) + (own_f_rm_dd (own_f_rm_ab (x3).toInt64))) b691 0 (fun _ => 0) (0 : Int32) 12 sg N v cs sf h900 n0 X900.sz O901 hS hSF E907 F908 F909 A910 E902 F904 F903 A905 hcs hsf rfl (by decide) rfl (own_s6n hv c765) (own_svs hv) hdd hN hab rfl hL hL (own_key (own_svs hv) hd.1)) (own_w hw 196 rfl) (own_w hw 197 rfl) (own_w hw 192 rfl) (own_w hw 198 rfl) (by decide) rfl rfl (lenOf own_pd36 rfl) rfl (Nat.le_of_eq rfl) (by decide) (by decide) (by decide) (by decide) at_449 rfl (fun _ _ q => by obtain ⟨_, K⟩ := q; exact K.1) (fun T912 h912 v912 X912 P912 => ?_)
          obtain ⟨rfl, K912⟩ := P912
          have O913 : Old Z n0 h912 := O901.keep K912 all0
          have E914 := E902.keep K912
          have F915 := F903.keep K912 nin0
          have F916 := F904.keep K912 nin0
          have A917 := A905.keep K912 nin0
          have M918 : h691.size ≤ h912.size := Nat.le_trans M906 K912.1
          have E919 := E907.keep K912
          have F920 := F908.keep K912 nin0
          have F921 := F909.keep K912 nin0
          have A922 := A910.keep K912 nin0
          have M923 : h750.size ≤ h912.size := Nat.le_trans M911 K912.1
          show Go p e below _ n0 _ _ _ T912 (mkF m 452 #[.val (.int x0), .val (.int x1), .val (.int x2), .val (.int x3), .val (.int x4), .val (.int (0 : Int32)), .val (.int (own_c8 x0)), .val (.int (own_c8 x1)), .val (.ref a691), .val (.int x3), .val (.ref u750), .val (.long (own_f_rm_ab (x3).toInt64)), .second, .val (.int (1 : Int32)), .val (.int (own_f_rm_dd (own_f_rm_ab (x3).toInt64))), .val (.int ((((0 : Int32) + (1 : Int32)) + (1 : Int32)) + (own_f_rm_dd (own_f_rm_ab (x3).toInt64))))] [(.int (1 : Int32))])
          refine Go.ifNo C X912 (pc' := 455) at_452 ((if0 _ _).trans (feq (by decide)).1) rfl ?_
          refine Go.aload C X912 (pc' := 457) at_455 rfl rfl rfl ?_
          refine Go.bipush C X912 (pc' := 459) (v := (13 : Int32)) at_457 rfl rfl ?_
          refine Go.iload C X912 (pc' := 461) at_459 rfl rfl ?_
          refine Go.aload C X912 (pc' := 463) at_461 rfl rfl rfl ?_
          refine Go.iload C X912 (pc' := 465) at_463 rfl rfl ?_
          refine Go.iload C X912 (pc' := 467) at_465 rfl rfl ?_
          refine Go.iload C X912 (pc' := 469) at_467 rfl rfl ?_
          refine Go.lload C X912 (pc' := 471) at_469 rfl rfl ?_
          refine Go.callS C X912 (pc' := 474) (W := 0) (argsL := [(.ref u750), (.int (13 : Int32)), (.int ((((0 : Int32) + (1 : Int32)) + (1 : Int32)) + (own_f_rm_dd (own_f_rm_ab (x3).toInt64)))), (.ref a691), (.int (0 : Int32)), (.int (1 : Int32)), (.int (own_f_rm_dd (own_f_rm_ab (x3).toInt64))), (.long (own_f_rm_ab (x3).toInt64))]) (rest := []) (rm_cx l Z a0 hw u750 (13 : Int32) ((((0 : Int32) + (1 : Int32)) + (1 : Int32)) + (own_f_rm_dd (own_f_rm_ab (x3).toInt64))) a691 (0 : Int32) (1 : Int32) (own_f_rm_dd (own_f_rm_ab (x3).toInt64)) (own_f_rm_ab (x3).toInt64) tv750 (own_fs (fun _ => 0) 0 v N sg) ((((0 : Int32) + (1 : Int32)) + (1 : Int32)) + (own_f_rm_dd (own_f_rm_ab (x3).toInt64))) b691 0 (fun _ => 0) (0 : Int32) 13 sg N v cs sf h912 n0 X912.sz O913 hS hSF E919 F920 F921 A922 E914 F916 F915 A917 hcs hsf rfl (by decide) rfl (own_s6n hv c765) (own_svs hv) hdd hN hab rfl hL hL (own_key (own_svs hv) hd.1)) (own_w hw 196 rfl) (own_w hw 197 rfl) (own_w hw 192 rfl) (own_w hw 198 rfl) (by decide) rfl rfl (lenOf own_pd36 rfl) rfl (Nat.le_of_eq rfl) (by decide) (by decide) (by decide) (by decide) at_471 rfl (fun _ _ q => by obtain ⟨_, K⟩ := q; exact K.1) (fun T924 h924 v924 X924 P924 => ?_)
          obtain ⟨rfl, K924⟩ := P924
          have O925 : Old Z n0 h924 := O913.keep K924 all0
          have E926 := E914.keep K924
          have F927 := F915.keep K924 nin0
          have F928 := F916.keep K924 nin0
          have A929 := A917.keep K924 nin0
          have M930 : h691.size ≤ h924.size := Nat.le_trans M918 K924.1
          have E931 := E919.keep K924
          have F932 := F920.keep K924 nin0
          have F933 := F921.keep K924 nin0
          have A934 := A922.keep K924 nin0
          have M935 : h750.size ≤ h924.size := Nat.le_trans M923 K924.1
          show Go p e below _ n0 _ _ _ T924 (mkF m 474 #[.val (.int x0), .val (.int x1), .val (.int x2), .val (.int x3), .val (.int x4), .val (.int (0 : Int32)), .val (.int (own_c8 x0)), .val (.int (own_c8 x1)), .val (.ref a691), .val (.int x3), .val (.ref u750), .val (.long (own_f_rm_ab (x3).toInt64)), .second, .val (.int (1 : Int32)), .val (.int (own_f_rm_dd (own_f_rm_ab (x3).toInt64))), .val (.int ((((0 : Int32) + (1 : Int32)) + (1 : Int32)) + (own_f_rm_dd (own_f_rm_ab (x3).toInt64))))] [(.int (1 : Int32))])
          refine Go.ifNo C X924 (pc' := 477) at_474 ((if0 _ _).trans (feq (by decide)).1) rfl ?_
          refine Go.iconst C X924 (pc' := 478) (v := (1 : Int32)) at_477 rfl rfl ?_
          refine Go.goto C X924 (pc' := 482) at_478 (by decide) (by decide) ?_
          refine Go.wide ?_
          exact Go.retZ (t := .boolean) C X924 (z' := (1 : Int32)) (by decide) at_482 ⟨⟨rfl, M930⟩, M935⟩ (by decide) (by decide)
        · refine Go.ifYes C X764 (pc' := 141) at_134 ((if0 _ _).trans (flt c765).2.1) (by decide) (by decide) ?_
          refine Go.iconst C X764 (pc' := 142) (v := (0 : Int32)) at_141 rfl rfl ?_
          refine Go.istore C X764 (pc' := 144) (Ls' := #[.val (.int x0), .val (.int x1), .val (.int x2), .val (.int x3), .val (.int x4), .val (.int (0 : Int32)), .val (.int (own_c8 x0)), .val (.int (own_c8 x1)), .val (.ref a691), .val (.int x3), .val (.ref u750), .val (.long (own_f_rm_ab (x3).toInt64)), .second, .val (.int (0 : Int32)), .unset, .unset]) at_142 rfl rfl ?_
          refine Go.lload C X764 (pc' := 146) at_144 rfl rfl ?_
          refine Go.callS C X764 (pc' := 149) (W := 0) (argsL := [(.long (own_f_rm_ab (x3).toInt64))]) (rest := []) (rm_dd l Z a0 hw (own_f_rm_ab (x3).toInt64) h750 n0 X764.sz ) (own_w hw 190 rfl) (own_w hw 191 rfl) (own_w hw 192 rfl) (own_w hw 193 rfl) (by decide) rfl rfl (lenOf own_pd35 rfl) rfl (Nat.le_of_eq rfl) (by decide) (by decide) (by decide) (by decide) at_146 rfl (fun _ _ q => Nat.le_of_eq (congrArg Array.size q.2)) (fun T936 h936 v936 X936 P936 => ?_)
          obtain ⟨rfl, rfl⟩ := P936
          show Go p e below _ n0 _ _ _ T936 (mkF m 149 #[.val (.int x0), .val (.int x1), .val (.int x2), .val (.int x3), .val (.int x4), .val (.int (0 : Int32)), .val (.int (own_c8 x0)), .val (.int (own_c8 x1)), .val (.ref a691), .val (.int x3), .val (.ref u750), .val (.long (own_f_rm_ab (x3).toInt64)), .second, .val (.int (0 : Int32)), .unset, .unset] [(.int (own_f_rm_dd (own_f_rm_ab (x3).toInt64)))])
          refine Go.istore C X936 (pc' := 151) (Ls' := #[.val (.int x0), .val (.int x1), .val (.int x2), .val (.int x3), .val (.int x4), .val (.int (0 : Int32)), .val (.int (own_c8 x0)), .val (.int (own_c8 x1)), .val (.ref a691), .val (.int x3), .val (.ref u750), .val (.long (own_f_rm_ab (x3).toInt64)), .second, .val (.int (0 : Int32)), .val (.int (own_f_rm_dd (own_f_rm_ab (x3).toInt64))), .unset]) at_149 rfl rfl ?_
          refine Go.iload C X936 (pc' := 153) at_151 rfl rfl ?_
          refine Go.iconst C X936 (pc' := 154) (v := (1 : Int32)) at_153 rfl rfl ?_
          refine Go.iadd C X936 (pc' := 155) at_154 rfl ?_
          refine Go.iload C X936 (pc' := 157) at_155 rfl rfl ?_
          refine Go.iadd C X936 (pc' := 158) at_157 rfl ?_
          refine Go.iload C X936 (pc' := 160) at_158 rfl rfl ?_
          refine Go.iadd C X936 (pc' := 161) at_160 rfl ?_
          refine Go.istore C X936 (pc' := 163) (Ls' := #[.val (.int x0), .val (.int x1), .val (.int x2), .val (.int x3), .val (.int x4), .val (.int (0 : Int32)), .val (.int (own_c8 x0)), .val (.int (own_c8 x1)), .val (.ref a691), .val (.int x3), .val (.ref u750), .val (.long (own_f_rm_ab (x3).toInt64)), .second, .val (.int (0 : Int32)), .val (.int (own_f_rm_dd (own_f_rm_ab (x3).toInt64))), .val (.int ((((0 : Int32) + (1 : Int32)) + (0 : Int32)) + (own_f_rm_dd (own_f_rm_ab (x3).toInt64))))]) at_161 rfl rfl ?_
          have hL : (((((0 : Int32) + (1 : Int32)) + (0 : Int32)) + (own_f_rm_dd (own_f_rm_ab (x3).toInt64)))).toInt = (((0 + 1 + (N + sg)) : Nat) : Int) := (own_len (a := (0 : Int32)) rfl (own_s6p hv c765) hdd (by decide) (own_svs hv) hN)
          refine Go.aload C X936 (pc' := 165) at_163 rfl rfl rfl ?_
          refine Go.callV C X936 (pc' := 168) (W := 0) (argsL := []) (rest := []) (a := u750) (rm_ln l Z a0 hw u750 tv750 (0 + 1 + (N + sg)) (own_fs (fun _ => 0) 0 v N sg) ((((0 : Int32) + (1 : Int32)) + (0 : Int32)) + (own_f_rm_dd (own_f_rm_ab (x3).toInt64))) cs h750 n0 X936.sz O752 hS O750_0 O750_1 O750_2 O750_3 hcs hL) O750_0 (notFace_of_selects (args := #[]) (mvT C.2.1 (own_w hw 87 rfl))) (own_w hw 195 rfl) (own_w hw 85 rfl) (own_w hw 87 rfl) (own_w hw 86 rfl) (own_w hw 2 rfl) (own_w hw 88 rfl) (by decide) rfl rfl (lenOf own_pd12 rfl) rfl (Nat.le_of_eq rfl) (by decide) (by decide) (by decide) (by decide) at_165 rfl (fun _ _ q => Nat.le_of_eq (congrArg Array.size q.2)) (fun T937 h937 v937 X937 P937 => ?_)
          obtain ⟨rfl, rfl⟩ := P937
          show Go p e below _ n0 _ _ _ T937 (mkF m 168 #[.val (.int x0), .val (.int x1), .val (.int x2), .val (.int x3), .val (.int x4), .val (.int (0 : Int32)), .val (.int (own_c8 x0)), .val (.int (own_c8 x1)), .val (.ref a691), .val (.int x3), .val (.ref u750), .val (.long (own_f_rm_ab (x3).toInt64)), .second, .val (.int (0 : Int32)), .val (.int (own_f_rm_dd (own_f_rm_ab (x3).toInt64))), .val (.int ((((0 : Int32) + (1 : Int32)) + (0 : Int32)) + (own_f_rm_dd (own_f_rm_ab (x3).toInt64))))] [(.int ((((0 : Int32) + (1 : Int32)) + (0 : Int32)) + (own_f_rm_dd (own_f_rm_ab (x3).toInt64))))])
          refine Go.iload C X937 (pc' := 170) at_168 rfl rfl ?_
          refine Go.icmpYes C X937 (pc' := 175) at_170 (teq rfl).1 (by decide) (by decide) ?_
          refine Go.aload C X937 (pc' := 177) at_175 rfl rfl rfl ?_
          refine Go.iconst C X937 (pc' := 178) (v := (0 : Int32)) at_177 rfl rfl ?_
          refine Go.iload C X937 (pc' := 180) at_178 rfl rfl ?_
          refine Go.aload C X937 (pc' := 182) at_180 rfl rfl rfl ?_
          refine Go.iload C X937 (pc' := 184) at_182 rfl rfl ?_
          refine Go.iload C X937 (pc' := 186) at_184 rfl rfl ?_
          refine Go.iload C X937 (pc' := 188) at_186 rfl rfl ?_
          refine Go.lload C X937 (pc' := 190) at_188 rfl rfl ?_
          refine Go.callS C X937 (pc' := 193) (W := 0) (argsL := [(.ref u750), (.int (0 : Int32)), (.int ((((0 : Int32) + (1 : Int32)) + (0 : Int32)) + (own_f_rm_dd (own_f_rm_ab (x3).toInt64)))), (.ref a691), (.int (0 : Int32)), (.int (0 : Int32)), (.int (own_f_rm_dd (own_f_rm_ab (x3).toInt64))), (.long (own_f_rm_ab (x3).toInt64))]) (rest := []) (rm_cx l Z a0 hw u750 (0 : Int32) ((((0 : Int32) + (1 : Int32)) + (0 : Int32)) + (own_f_rm_dd (own_f_rm_ab (x3).toInt64))) a691 (0 : Int32) (0 : Int32) (own_f_rm_dd (own_f_rm_ab (x3).toInt64)) (own_f_rm_ab (x3).toInt64) tv750 (own_fs (fun _ => 0) 0 v N sg) ((((0 : Int32) + (1 : Int32)) + (0 : Int32)) + (own_f_rm_dd (own_f_rm_ab (x3).toInt64))) b691 0 (fun _ => 0) (0 : Int32) 0 sg N v cs sf h750 n0 X937.sz O752 hS hSF O750_0 O750_1 O750_2 O750_3 E756 F758 F757 A759 hcs hsf rfl (by decide) rfl (own_s6p hv c765) (own_svs hv) hdd hN hab rfl hL hL (own_key (own_svs hv) hd.1)) (own_w hw 196 rfl) (own_w hw 197 rfl) (own_w hw 192 rfl) (own_w hw 198 rfl) (by decide) rfl rfl (lenOf own_pd36 rfl) rfl (Nat.le_of_eq rfl) (by decide) (by decide) (by decide) (by decide) at_190 rfl (fun _ _ q => by obtain ⟨_, K⟩ := q; exact K.1) (fun T938 h938 v938 X938 P938 => ?_)
          obtain ⟨rfl, K938⟩ := P938
          have O939 : Old Z n0 h938 := O752.keep K938 all0
          have E940 := E756.keep K938
          have F941 := F757.keep K938 nin0
          have F942 := F758.keep K938 nin0
          have A943 := A759.keep K938 nin0
          have M944 : h691.size ≤ h938.size := Nat.le_trans M760 K938.1
          have E945 := O750_0.keep K938
          have F946 := O750_1.keep K938 nin0
          have F947 := O750_2.keep K938 nin0
          have A948 := O750_3.keep K938 nin0
          have M949 : h750.size ≤ h938.size := Nat.le_trans M750_ K938.1
          show Go p e below _ n0 _ _ _ T938 (mkF m 193 #[.val (.int x0), .val (.int x1), .val (.int x2), .val (.int x3), .val (.int x4), .val (.int (0 : Int32)), .val (.int (own_c8 x0)), .val (.int (own_c8 x1)), .val (.ref a691), .val (.int x3), .val (.ref u750), .val (.long (own_f_rm_ab (x3).toInt64)), .second, .val (.int (0 : Int32)), .val (.int (own_f_rm_dd (own_f_rm_ab (x3).toInt64))), .val (.int ((((0 : Int32) + (1 : Int32)) + (0 : Int32)) + (own_f_rm_dd (own_f_rm_ab (x3).toInt64))))] [(.int (1 : Int32))])
          refine Go.ifNo C X938 (pc' := 196) at_193 ((if0 _ _).trans (feq (by decide)).1) rfl ?_
          refine Go.aload C X938 (pc' := 198) at_196 rfl rfl rfl ?_
          refine Go.iconst C X938 (pc' := 199) (v := (1 : Int32)) at_198 rfl rfl ?_
          refine Go.iload C X938 (pc' := 201) at_199 rfl rfl ?_
          refine Go.aload C X938 (pc' := 203) at_201 rfl rfl rfl ?_
          refine Go.iload C X938 (pc' := 205) at_203 rfl rfl ?_
          refine Go.iload C X938 (pc' := 207) at_205 rfl rfl ?_
          refine Go.iload C X938 (pc' := 209) at_207 rfl rfl ?_
          refine Go.lload C X938 (pc' := 211) at_209 rfl rfl ?_
          refine Go.callS C X938 (pc' := 214) (W := 0) (argsL := [(.ref u750), (.int (1 : Int32)), (.int ((((0 : Int32) + (1 : Int32)) + (0 : Int32)) + (own_f_rm_dd (own_f_rm_ab (x3).toInt64)))), (.ref a691), (.int (0 : Int32)), (.int (0 : Int32)), (.int (own_f_rm_dd (own_f_rm_ab (x3).toInt64))), (.long (own_f_rm_ab (x3).toInt64))]) (rest := []) (rm_cx l Z a0 hw u750 (1 : Int32) ((((0 : Int32) + (1 : Int32)) + (0 : Int32)) + (own_f_rm_dd (own_f_rm_ab (x3).toInt64))) a691 (0 : Int32) (0 : Int32) (own_f_rm_dd (own_f_rm_ab (x3).toInt64)) (own_f_rm_ab (x3).toInt64) tv750 (own_fs (fun _ => 0) 0 v N sg) ((((0 : Int32) + (1 : Int32)) + (0 : Int32)) + (own_f_rm_dd (own_f_rm_ab (x3).toInt64))) b691 0 (fun _ => 0) (0 : Int32) 1 sg N v cs sf h938 n0 X938.sz O939 hS hSF E945 F946 F947 A948 E940 F942 F941 A943 hcs hsf rfl (by decide) rfl (own_s6p hv c765) (own_svs hv) hdd hN hab rfl hL hL (own_key (own_svs hv) hd.1)) (own_w hw 196 rfl) (own_w hw 197 rfl) (own_w hw 192 rfl) (own_w hw 198 rfl) (by decide) rfl rfl (lenOf own_pd36 rfl) rfl (Nat.le_of_eq rfl) (by decide) (by decide) (by decide) (by decide) at_211 rfl (fun _ _ q => by obtain ⟨_, K⟩ := q; exact K.1) (fun T950 h950 v950 X950 P950 => ?_)
          obtain ⟨rfl, K950⟩ := P950
          have O951 : Old Z n0 h950 := O939.keep K950 all0
          have E952 := E940.keep K950
          have F953 := F941.keep K950 nin0
          have F954 := F942.keep K950 nin0
          have A955 := A943.keep K950 nin0
          have M956 : h691.size ≤ h950.size := Nat.le_trans M944 K950.1
          have E957 := E945.keep K950
          have F958 := F946.keep K950 nin0
          have F959 := F947.keep K950 nin0
          have A960 := A948.keep K950 nin0
          have M961 : h750.size ≤ h950.size := Nat.le_trans M949 K950.1
          show Go p e below _ n0 _ _ _ T950 (mkF m 214 #[.val (.int x0), .val (.int x1), .val (.int x2), .val (.int x3), .val (.int x4), .val (.int (0 : Int32)), .val (.int (own_c8 x0)), .val (.int (own_c8 x1)), .val (.ref a691), .val (.int x3), .val (.ref u750), .val (.long (own_f_rm_ab (x3).toInt64)), .second, .val (.int (0 : Int32)), .val (.int (own_f_rm_dd (own_f_rm_ab (x3).toInt64))), .val (.int ((((0 : Int32) + (1 : Int32)) + (0 : Int32)) + (own_f_rm_dd (own_f_rm_ab (x3).toInt64))))] [(.int (1 : Int32))])
          refine Go.ifNo C X950 (pc' := 217) at_214 ((if0 _ _).trans (feq (by decide)).1) rfl ?_
          refine Go.aload C X950 (pc' := 219) at_217 rfl rfl rfl ?_
          refine Go.iconst C X950 (pc' := 220) (v := (2 : Int32)) at_219 rfl rfl ?_
          refine Go.iload C X950 (pc' := 222) at_220 rfl rfl ?_
          refine Go.aload C X950 (pc' := 224) at_222 rfl rfl rfl ?_
          refine Go.iload C X950 (pc' := 226) at_224 rfl rfl ?_
          refine Go.iload C X950 (pc' := 228) at_226 rfl rfl ?_
          refine Go.iload C X950 (pc' := 230) at_228 rfl rfl ?_
          refine Go.lload C X950 (pc' := 232) at_230 rfl rfl ?_
          refine Go.callS C X950 (pc' := 235) (W := 0) (argsL := [(.ref u750), (.int (2 : Int32)), (.int ((((0 : Int32) + (1 : Int32)) + (0 : Int32)) + (own_f_rm_dd (own_f_rm_ab (x3).toInt64)))), (.ref a691), (.int (0 : Int32)), (.int (0 : Int32)), (.int (own_f_rm_dd (own_f_rm_ab (x3).toInt64))), (.long (own_f_rm_ab (x3).toInt64))]) (rest := []) (rm_cx l Z a0 hw u750 (2 : Int32) ((((0 : Int32) + (1 : Int32)) + (0 : Int32)) + (own_f_rm_dd (own_f_rm_ab (x3).toInt64))) a691 (0 : Int32) (0 : Int32) (own_f_rm_dd (own_f_rm_ab (x3).toInt64)) (own_f_rm_ab (x3).toInt64) tv750 (own_fs (fun _ => 0) 0 v N sg) ((((0 : Int32) + (1 : Int32)) + (0 : Int32)) + (own_f_rm_dd (own_f_rm_ab (x3).toInt64))) b691 0 (fun _ => 0) (0 : Int32) 2 sg N v cs sf h950 n0 X950.sz O951 hS hSF E957 F958 F959 A960 E952 F954 F953 A955 hcs hsf rfl (by decide) rfl (own_s6p hv c765) (own_svs hv) hdd hN hab rfl hL hL (own_key (own_svs hv) hd.1)) (own_w hw 196 rfl) (own_w hw 197 rfl) (own_w hw 192 rfl) (own_w hw 198 rfl) (by decide) rfl rfl (lenOf own_pd36 rfl) rfl (Nat.le_of_eq rfl) (by decide) (by decide) (by decide) (by decide) at_232 rfl (fun _ _ q => by obtain ⟨_, K⟩ := q; exact K.1) (fun T962 h962 v962 X962 P962 => ?_)
          obtain ⟨rfl, K962⟩ := P962
          have O963 : Old Z n0 h962 := O951.keep K962 all0
          have E964 := E952.keep K962
          have F965 := F953.keep K962 nin0
          have F966 := F954.keep K962 nin0
          have A967 := A955.keep K962 nin0
          have M968 : h691.size ≤ h962.size := Nat.le_trans M956 K962.1
          have E969 := E957.keep K962
          have F970 := F958.keep K962 nin0
          have F971 := F959.keep K962 nin0
          have A972 := A960.keep K962 nin0
          have M973 : h750.size ≤ h962.size := Nat.le_trans M961 K962.1
          show Go p e below _ n0 _ _ _ T962 (mkF m 235 #[.val (.int x0), .val (.int x1), .val (.int x2), .val (.int x3), .val (.int x4), .val (.int (0 : Int32)), .val (.int (own_c8 x0)), .val (.int (own_c8 x1)), .val (.ref a691), .val (.int x3), .val (.ref u750), .val (.long (own_f_rm_ab (x3).toInt64)), .second, .val (.int (0 : Int32)), .val (.int (own_f_rm_dd (own_f_rm_ab (x3).toInt64))), .val (.int ((((0 : Int32) + (1 : Int32)) + (0 : Int32)) + (own_f_rm_dd (own_f_rm_ab (x3).toInt64))))] [(.int (1 : Int32))])
          refine Go.ifNo C X962 (pc' := 238) at_235 ((if0 _ _).trans (feq (by decide)).1) rfl ?_
          refine Go.aload C X962 (pc' := 240) at_238 rfl rfl rfl ?_
          refine Go.iconst C X962 (pc' := 241) (v := (3 : Int32)) at_240 rfl rfl ?_
          refine Go.iload C X962 (pc' := 243) at_241 rfl rfl ?_
          refine Go.aload C X962 (pc' := 245) at_243 rfl rfl rfl ?_
          refine Go.iload C X962 (pc' := 247) at_245 rfl rfl ?_
          refine Go.iload C X962 (pc' := 249) at_247 rfl rfl ?_
          refine Go.iload C X962 (pc' := 251) at_249 rfl rfl ?_
          refine Go.lload C X962 (pc' := 253) at_251 rfl rfl ?_
          refine Go.callS C X962 (pc' := 256) (W := 0) (argsL := [(.ref u750), (.int (3 : Int32)), (.int ((((0 : Int32) + (1 : Int32)) + (0 : Int32)) + (own_f_rm_dd (own_f_rm_ab (x3).toInt64)))), (.ref a691), (.int (0 : Int32)), (.int (0 : Int32)), (.int (own_f_rm_dd (own_f_rm_ab (x3).toInt64))), (.long (own_f_rm_ab (x3).toInt64))]) (rest := []) (rm_cx l Z a0 hw u750 (3 : Int32) ((((0 : Int32) + (1 : Int32)) + (0 : Int32)) + (own_f_rm_dd (own_f_rm_ab (x3).toInt64))) a691 (0 : Int32) (0 : Int32) (own_f_rm_dd (own_f_rm_ab (x3).toInt64)) (own_f_rm_ab (x3).toInt64) tv750 (own_fs (fun _ => 0) 0 v N sg) ((((0 : Int32) + (1 : Int32)) + (0 : Int32)) + (own_f_rm_dd (own_f_rm_ab (x3).toInt64))) b691 0 (fun _ => 0) (0 : Int32) 3 sg N v cs sf h962 n0 X962.sz O963 hS hSF E969 F970 F971 A972 E964 F966 F965 A967 hcs hsf rfl (by decide) rfl (own_s6p hv c765) (own_svs hv) hdd hN hab rfl hL hL (own_key (own_svs hv) hd.1)) (own_w hw 196 rfl) (own_w hw 197 rfl) (own_w hw 192 rfl) (own_w hw 198 rfl) (by decide) rfl rfl (lenOf own_pd36 rfl) rfl (Nat.le_of_eq rfl) (by decide) (by decide) (by decide) (by decide) at_253 rfl (fun _ _ q => by obtain ⟨_, K⟩ := q; exact K.1) (fun T974 h974 v974 X974 P974 => ?_)
          obtain ⟨rfl, K974⟩ := P974
          have O975 : Old Z n0 h974 := O963.keep K974 all0
          have E976 := E964.keep K974
          have F977 := F965.keep K974 nin0
          have F978 := F966.keep K974 nin0
          have A979 := A967.keep K974 nin0
          have M980 : h691.size ≤ h974.size := Nat.le_trans M968 K974.1
          have E981 := E969.keep K974
          have F982 := F970.keep K974 nin0
          have F983 := F971.keep K974 nin0
          have A984 := A972.keep K974 nin0
          have M985 : h750.size ≤ h974.size := Nat.le_trans M973 K974.1
          show Go p e below _ n0 _ _ _ T974 (mkF m 256 #[.val (.int x0), .val (.int x1), .val (.int x2), .val (.int x3), .val (.int x4), .val (.int (0 : Int32)), .val (.int (own_c8 x0)), .val (.int (own_c8 x1)), .val (.ref a691), .val (.int x3), .val (.ref u750), .val (.long (own_f_rm_ab (x3).toInt64)), .second, .val (.int (0 : Int32)), .val (.int (own_f_rm_dd (own_f_rm_ab (x3).toInt64))), .val (.int ((((0 : Int32) + (1 : Int32)) + (0 : Int32)) + (own_f_rm_dd (own_f_rm_ab (x3).toInt64))))] [(.int (1 : Int32))])
          refine Go.ifNo C X974 (pc' := 259) at_256 ((if0 _ _).trans (feq (by decide)).1) rfl ?_
          refine Go.aload C X974 (pc' := 261) at_259 rfl rfl rfl ?_
          refine Go.iconst C X974 (pc' := 262) (v := (4 : Int32)) at_261 rfl rfl ?_
          refine Go.iload C X974 (pc' := 264) at_262 rfl rfl ?_
          refine Go.aload C X974 (pc' := 266) at_264 rfl rfl rfl ?_
          refine Go.iload C X974 (pc' := 268) at_266 rfl rfl ?_
          refine Go.iload C X974 (pc' := 270) at_268 rfl rfl ?_
          refine Go.iload C X974 (pc' := 272) at_270 rfl rfl ?_
          refine Go.lload C X974 (pc' := 274) at_272 rfl rfl ?_
          refine Go.callS C X974 (pc' := 277) (W := 0) (argsL := [(.ref u750), (.int (4 : Int32)), (.int ((((0 : Int32) + (1 : Int32)) + (0 : Int32)) + (own_f_rm_dd (own_f_rm_ab (x3).toInt64)))), (.ref a691), (.int (0 : Int32)), (.int (0 : Int32)), (.int (own_f_rm_dd (own_f_rm_ab (x3).toInt64))), (.long (own_f_rm_ab (x3).toInt64))]) (rest := []) (rm_cx l Z a0 hw u750 (4 : Int32) ((((0 : Int32) + (1 : Int32)) + (0 : Int32)) + (own_f_rm_dd (own_f_rm_ab (x3).toInt64))) a691 (0 : Int32) (0 : Int32) (own_f_rm_dd (own_f_rm_ab (x3).toInt64)) (own_f_rm_ab (x3).toInt64) tv750 (own_fs (fun _ => 0) 0 v N sg) ((((0 : Int32) + (1 : Int32)) + (0 : Int32)) + (own_f_rm_dd (own_f_rm_ab (x3).toInt64))) b691 0 (fun _ => 0) (0 : Int32) 4 sg N v cs sf h974 n0 X974.sz O975 hS hSF E981 F982 F983 A984 E976 F978 F977 A979 hcs hsf rfl (by decide) rfl (own_s6p hv c765) (own_svs hv) hdd hN hab rfl hL hL (own_key (own_svs hv) hd.1)) (own_w hw 196 rfl) (own_w hw 197 rfl) (own_w hw 192 rfl) (own_w hw 198 rfl) (by decide) rfl rfl (lenOf own_pd36 rfl) rfl (Nat.le_of_eq rfl) (by decide) (by decide) (by decide) (by decide) at_274 rfl (fun _ _ q => by obtain ⟨_, K⟩ := q; exact K.1) (fun T986 h986 v986 X986 P986 => ?_)
          obtain ⟨rfl, K986⟩ := P986
          have O987 : Old Z n0 h986 := O975.keep K986 all0
          have E988 := E976.keep K986
          have F989 := F977.keep K986 nin0
          have F990 := F978.keep K986 nin0
          have A991 := A979.keep K986 nin0
          have M992 : h691.size ≤ h986.size := Nat.le_trans M980 K986.1
          have E993 := E981.keep K986
          have F994 := F982.keep K986 nin0
          have F995 := F983.keep K986 nin0
          have A996 := A984.keep K986 nin0
          have M997 : h750.size ≤ h986.size := Nat.le_trans M985 K986.1
          show Go p e below _ n0 _ _ _ T986 (mkF m 277 #[.val (.int x0), .val (.int x1), .val (.int x2), .val (.int x3), .val (.int x4), .val (.int (0 : Int32)), .val (.int (own_c8 x0)), .val (.int (own_c8 x1)), .val (.ref a691), .val (.int x3), .val (.ref u750), .val (.long (own_f_rm_ab (x3).toInt64)), .second, .val (.int (0 : Int32)), .val (.int (own_f_rm_dd (own_f_rm_ab (x3).toInt64))), .val (.int ((((0 : Int32) + (1 : Int32)) + (0 : Int32)) + (own_f_rm_dd (own_f_rm_ab (x3).toInt64))))] [(.int (1 : Int32))])
          refine Go.ifNo C X986 (pc' := 280) at_277 ((if0 _ _).trans (feq (by decide)).1) rfl ?_
          refine Go.aload C X986 (pc' := 282) at_280 rfl rfl rfl ?_
          refine Go.iconst C X986 (pc' := 283) (v := (5 : Int32)) at_282 rfl rfl ?_
          refine Go.iload C X986 (pc' := 285) at_283 rfl rfl ?_
          refine Go.aload C X986 (pc' := 287) at_285 rfl rfl rfl ?_
          refine Go.iload C X986 (pc' := 289) at_287 rfl rfl ?_
          refine Go.iload C X986 (pc' := 291) at_289 rfl rfl ?_
          refine Go.iload C X986 (pc' := 293) at_291 rfl rfl ?_
          refine Go.lload C X986 (pc' := 295) at_293 rfl rfl ?_
          refine Go.callS C X986 (pc' := 298) (W := 0) (argsL := [(.ref u750), (.int (5 : Int32)), (.int ((((0 : Int32) + (1 : Int32)) + (0 : Int32)) + (own_f_rm_dd (own_f_rm_ab (x3).toInt64)))), (.ref a691), (.int (0 : Int32)), (.int (0 : Int32)), (.int (own_f_rm_dd (own_f_rm_ab (x3).toInt64))), (.long (own_f_rm_ab (x3).toInt64))]) (rest := []) (rm_cx l Z a0 hw u750 (5 : Int32) ((((0 : Int32) + (1 : Int32)) + (0 : Int32)) + (own_f_rm_dd (own_f_rm_ab (x3).toInt64))) a691 (0 : Int32) (0 : Int32) (own_f_rm_dd (own_f_rm_ab (x3).toInt64)) (own_f_rm_ab (x3).toInt64) tv750 (own_fs (fun _ => 0) 0 v N sg) ((((0 : Int32) + (1 : Int32)) + (0 : Int32)) + (own_f_rm_dd (own_f_rm_ab (x3).toInt64))) b691 0 (fun _ => 0) (0 : Int32) 5 sg N v cs sf h986 n0 X986.sz O987 hS hSF E993 F994 F995 A996 E988 F990 F989 A991 hcs hsf rfl (by decide) rfl (own_s6p hv c765) (own_svs hv) hdd hN hab rfl hL hL (own_key (own_svs hv) hd.1)) (own_w hw 196 rfl) (own_w hw 197 rfl) (own_w hw 192 rfl) (own_w hw 198 rfl) (by decide) rfl rfl (lenOf own_pd36 rfl) rfl (Nat.le_of_eq rfl) (by decide) (by decide) (by decide) (by decide) at_295 rfl (fun _ _ q => by obtain ⟨_, K⟩ := q; exact K.1) (fun T998 h998 v998 X998 P998 => ?_)
          obtain ⟨rfl, K998⟩ := P998
          have O999 : Old Z n0 h998 := O987.keep K998 all0
          have E1000 := E988.keep K998
          have F1001 := F989.keep K998 nin0
          have F1002 := F990.keep K998 nin0
          have A1003 := A991.keep K998 nin0
          have M1004 : h691.size ≤ h998.size := Nat.le_trans M992 K998.1
          have E1005 := E993.keep K998
          have F1006 := F994.keep K998 nin0
          have F1007 := F995.keep K998 nin0
          have A1008 := A996.keep K998 nin0
          have M1009 : h750.size ≤ h998.size := Nat.le_trans M997 K998.1
          show Go p e below _ n0 _ _ _ T998 (mkF m 298 #[.val (.int x0), .val (.int x1), .val (.int x2), .val (.int x3), .val (.int x4), .val (.int (0 : Int32)), .val (.int (own_c8 x0)), .val (.int (own_c8 x1)), .val (.ref a691), .val (.int x3), .val (.ref u750), .val (.long (own_f_rm_ab (x3).toInt64)), .second, .val (.int (0 : Int32)), .val (.int (own_f_rm_dd (own_f_rm_ab (x3).toInt64))), .val (.int ((((0 : Int32) + (1 : Int32)) + (0 : Int32)) + (own_f_rm_dd (own_f_rm_ab (x3).toInt64))))] [(.int (1 : Int32))])
          refine Go.ifNo C X998 (pc' := 301) at_298 ((if0 _ _).trans (feq (by decide)).1) rfl ?_
          refine Go.aload C X998 (pc' := 303) at_301 rfl rfl rfl ?_
          refine Go.bipush C X998 (pc' := 305) (v := (6 : Int32)) at_303 rfl rfl ?_
          refine Go.iload C X998 (pc' := 307) at_305 rfl rfl ?_
          refine Go.aload C X998 (pc' := 309) at_307 rfl rfl rfl ?_
          refine Go.iload C X998 (pc' := 311) at_309 rfl rfl ?_
          refine Go.iload C X998 (pc' := 313) at_311 rfl rfl ?_
          refine Go.iload C X998 (pc' := 315) at_313 rfl rfl ?_
          refine Go.lload C X998 (pc' := 317) at_315 rfl rfl ?_
          refine Go.callS C X998 (pc' := 320) (W := 0) (argsL := [(.ref u750), (.int (6 : Int32)), (.int ((((0 : Int32) + (1 : Int32)) + (0 : Int32)) + (own_f_rm_dd (own_f_rm_ab (x3).toInt64)))), (.ref a691), (.int (0 : Int32)), (.int (0 : Int32)), (.int (own_f_rm_dd (own_f_rm_ab (x3).toInt64))), (.long (own_f_rm_ab (x3).toInt64))]) (rest := []) (rm_cx l Z a0 hw u750 (6 : Int32) ((((0 : Int32) + (1 : Int32)) + (0 : Int32)) + (own_f_rm_dd (own_f_rm_ab (x3).toInt64))) a691 (0 : Int32) (0 : Int32) (own_f_rm_dd (own_f_rm_ab (x3).toInt64)) (own_f_rm_ab (x3).toInt64) tv750 (own_fs (fun _ => 0) 0 v N sg) ((((0 : Int32) + (1 : Int32)) + (0 : Int32)) + (own_f_rm_dd (own_f_rm_ab (x3).toInt64))) b691 0 (fun _ => 0) (0 : Int32) 6 sg N v cs sf h998 n0 X998.sz O999 hS hSF E1005 F1006 F1007 A1008 E1000 F1002 F1001 A1003 hcs hsf rfl (by decide) rfl (own_s6p hv c765) (own_svs hv) hdd hN hab rfl hL hL (own_key (own_svs hv) hd.1)) (own_w hw 196 rfl) (own_w hw 197 rfl) (own_w hw 192 rfl) (own_w hw 198 rfl) (by decide) rfl rfl (lenOf own_pd36 rfl) rfl (Nat.le_of_eq rfl) (by decide) (by decide) (by decide) (by decide) at_317 rfl (fun _ _ q => by obtain ⟨_, K⟩ := q; exact K.1) (fun T1010 h1010 v1010 X1010 P1010 => ?_)
          obtain ⟨rfl, K1010⟩ := P1010
          have O1011 : Old Z n0 h1010 := O999.keep K1010 all0
          have E1012 := E1000.keep K1010
          have F1013 := F1001.keep K1010 nin0
          have F1014 := F1002.keep K1010 nin0
          have A1015 := A1003.keep K1010 nin0
          have M1016 : h691.size ≤ h1010.size := Nat.le_trans M1004 K1010.1
          have E1017 := E1005.keep K1010
          have F1018 := F1006.keep K1010 nin0
          have F1019 := F1007.keep K1010 nin0
          have A1020 := A1008.keep K1010 nin0
          have M1021 : h750.size ≤ h1010.size := Nat.le_trans M1009 K1010.1
          show Go p e below _ n0 _ _ _ T1010 (mkF m 320 #[.val (.int x0), .val (.int x1), .val (.int x2), .val (.int x3), .val (.int x4), .val (.int (0 : Int32)), .val (.int (own_c8 x0)), .val (.int (own_c8 x1)), .val (.ref a691), .val (.int x3), .val (.ref u750), .val (.long (own_f_rm_ab (x3).toInt64)), .second, .val (.int (0 : Int32)), .val (.int (own_f_rm_dd (own_f_rm_ab (x3).toInt64))), .val (.int ((((0 : Int32) + (1 : Int32)) + (0 : Int32)) + (own_f_rm_dd (own_f_rm_ab (x3).toInt64))))] [(.int (1 : Int32))])
          refine Go.ifNo C X1010 (pc' := 323) at_320 ((if0 _ _).trans (feq (by decide)).1) rfl ?_
          refine Go.aload C X1010 (pc' := 325) at_323 rfl rfl rfl ?_
          refine Go.bipush C X1010 (pc' := 327) (v := (7 : Int32)) at_325 rfl rfl ?_
          refine Go.iload C X1010 (pc' := 329) at_327 rfl rfl ?_
          refine Go.aload C X1010 (pc' := 331) at_329 rfl rfl rfl ?_
          refine Go.iload C X1010 (pc' := 333) at_331 rfl rfl ?_
          refine Go.iload C X1010 (pc' := 335) at_333 rfl rfl ?_
          refine Go.iload C X1010 (pc' := 337) at_335 rfl rfl ?_
          refine Go.lload C X1010 (pc' := 339) at_337 rfl rfl ?_
          refine Go.callS C X1010 (pc' := 342) (W := 0) (argsL := [(.ref u750), (.int (7 : Int32)), (.int ((((0 : Int32) + (1 : Int32)) + (0 : Int32)) + (own_f_rm_dd (own_f_rm_ab (x3).toInt64)))), (.ref a691), (.int (0 : Int32)), (.int (0 : Int32)), (.int (own_f_rm_dd (own_f_rm_ab (x3).toInt64))), (.long (own_f_rm_ab (x3).toInt64))]) (rest := []) (rm_cx l Z a0 hw u750 (7 : Int32) ((((0 : Int32) + (1 : Int32)) + (0 : Int32)) + (own_f_rm_dd (own_f_rm_ab (x3).toInt64))) a691 (0 : Int32) (0 : Int32) (own_f_rm_dd (own_f_rm_ab (x3).toInt64)) (own_f_rm_ab (x3).toInt64) tv750 (own_fs (fun _ => 0) 0 v N sg) ((((0 : Int32) + (1 : Int32)) + (0 : Int32)) + (own_f_rm_dd (own_f_rm_ab (x3).toInt64))) b691 0 (fun _ => 0) (0 : Int32) 7 sg N v cs sf h1010 n0 X1010.sz O1011 hS hSF E1017 F1018 F1019 A1020 E1012 F1014 F1013 A1015 hcs hsf rfl (by decide) rfl (own_s6p hv c765) (own_svs hv) hdd hN hab rfl hL hL (own_key (own_svs hv) hd.1)) (own_w hw 196 rfl) (own_w hw 197 rfl) (own_w hw 192 rfl) (own_w hw 198 rfl) (by decide) rfl rfl (lenOf own_pd36 rfl) rfl (Nat.le_of_eq rfl) (by decide) (by decide) (by decide) (by decide) at_339 rfl (fun _ _ q => by obtain ⟨_, K⟩ := q; exact K.1) (fun T1022 h1022 v1022 X1022 P1022 => ?_)
          obtain ⟨rfl, K1022⟩ := P1022
          have O1023 : Old Z n0 h1022 := O1011.keep K1022 all0
          have E1024 := E1012.keep K1022
          have F1025 := F1013.keep K1022 nin0
          have F1026 := F1014.keep K1022 nin0
          have A1027 := A1015.keep K1022 nin0
          have M1028 : h691.size ≤ h1022.size := Nat.le_trans M1016 K1022.1
          have E1029 := E1017.keep K1022
          have F1030 := F1018.keep K1022 nin0
          have F1031 := F1019.keep K1022 nin0
          have A1032 := A1020.keep K1022 nin0
          have M1033 : h750.size ≤ h1022.size := Nat.le_trans M1021 K1022.1
          show Go p e below _ n0 _ _ _ T1022 (mkF m 342 #[.val (.int x0), .val (.int x1), .val (.int x2), .val (.int x3), .val (.int x4), .val (.int (0 : Int32)), .val (.int (own_c8 x0)), .val (.int (own_c8 x1)), .val (.ref a691), .val (.int x3), .val (.ref u750), .val (.long (own_f_rm_ab (x3).toInt64)), .second, .val (.int (0 : Int32)), .val (.int (own_f_rm_dd (own_f_rm_ab (x3).toInt64))), .val (.int ((((0 : Int32) + (1 : Int32)) + (0 : Int32)) + (own_f_rm_dd (own_f_rm_ab (x3).toInt64))))] [(.int (1 : Int32))])
          refine Go.ifNo C X1022 (pc' := 345) at_342 ((if0 _ _).trans (feq (by decide)).1) rfl ?_
          refine Go.aload C X1022 (pc' := 347) at_345 rfl rfl rfl ?_
          refine Go.bipush C X1022 (pc' := 349) (v := (8 : Int32)) at_347 rfl rfl ?_
          refine Go.iload C X1022 (pc' := 351) at_349 rfl rfl ?_
          refine Go.aload C X1022 (pc' := 353) at_351 rfl rfl rfl ?_
          refine Go.iload C X1022 (pc' := 355) at_353 rfl rfl ?_
          refine Go.iload C X1022 (pc' := 357) at_355 rfl rfl ?_
          refine Go.iload C X1022 (pc' := 359) at_357 rfl rfl ?_
          refine Go.lload C X1022 (pc' := 361) at_359 rfl rfl ?_
          refine Go.callS C X1022 (pc' := 364) (W := 0) (argsL := [(.ref u750), (.int (8 : Int32)), (.int ((((0 : Int32) + (1 : Int32)) + (0 : Int32)) + (own_f_rm_dd (own_f_rm_ab (x3).toInt64)))), (.ref a691), (.int (0 : Int32)), (.int (0 : Int32)), (.int (own_f_rm_dd (own_f_rm_ab (x3).toInt64))), (.long (own_f_rm_ab (x3).toInt64))]) (rest := []) (rm_cx l Z a0 hw u750 (8 : Int32) ((((0 : Int32) + (1 : Int32)) + (0 : Int32)) + (own_f_rm_dd (own_f_rm_ab (x3).toInt64))) a691 (0 : Int32) (0 : Int32) (own_f_rm_dd (own_f_rm_ab (x3).toInt64)) (own_f_rm_ab (x3).toInt64) tv750 (own_fs (fun _ => 0) 0 v N sg) ((((0 : Int32) + (1 : Int32)) + (0 : Int32)) + (own_f_rm_dd (own_f_rm_ab (x3).toInt64))) b691 0 (fun _ => 0) (0 : Int32) 8 sg N v cs sf h1022 n0 X1022.sz O1023 hS hSF E1029 F1030 F1031 A1032 E1024 F1026 F1025 A1027 hcs hsf rfl (by decide) rfl (own_s6p hv c765) (own_svs hv) hdd hN hab rfl hL hL (own_key (own_svs hv) hd.1)) (own_w hw 196 rfl) (own_w hw 197 rfl) (own_w hw 192 rfl) (own_w hw 198 rfl) (by decide) rfl rfl (lenOf own_pd36 rfl) rfl (Nat.le_of_eq rfl) (by decide) (by decide) (by decide) (by decide) at_361 rfl (fun _ _ q => by obtain ⟨_, K⟩ := q; exact K.1) (fun T1034 h1034 v1034 X1034 P1034 => ?_)
          obtain ⟨rfl, K1034⟩ := P1034
          have O1035 : Old Z n0 h1034 := O1023.keep K1034 all0
          have E1036 := E1024.keep K1034
          have F1037 := F1025.keep K1034 nin0
          have F1038 := F1026.keep K1034 nin0
          have A1039 := A1027.keep K1034 nin0
          have M1040 : h691.size ≤ h1034.size := Nat.le_trans M1028 K1034.1
          have E1041 := E1029.keep K1034
          have F1042 := F1030.keep K1034 nin0
          have F1043 := F1031.keep K1034 nin0
          have A1044 := A1032.keep K1034 nin0
          have M1045 : h750.size ≤ h1034.size := Nat.le_trans M1033 K1034.1
          show Go p e below _ n0 _ _ _ T1034 (mkF m 364 #[.val (.int x0), .val (.int x1), .val (.int x2), .val (.int x3), .val (.int x4), .val (.int (0 : Int32)), .val (.int (own_c8 x0)), .val (.int (own_c8 x1)), .val (.ref a691), .val (.int x3), .val (.ref u750), .val (.long (own_f_rm_ab (x3).toInt64)), .second, .val (.int (0 : Int32)), .val (.int (own_f_rm_dd (own_f_rm_ab (x3).toInt64))), .val (.int ((((0 : Int32) + (1 : Int32)) + (0 : Int32)) + (own_f_rm_dd (own_f_rm_ab (x3).toInt64))))] [(.int (1 : Int32))])
          refine Go.ifNo C X1034 (pc' := 367) at_364 ((if0 _ _).trans (feq (by decide)).1) rfl ?_
          refine Go.aload C X1034 (pc' := 369) at_367 rfl rfl rfl ?_
          refine Go.bipush C X1034 (pc' := 371) (v := (9 : Int32)) at_369 rfl rfl ?_
          refine Go.iload C X1034 (pc' := 373) at_371 rfl rfl ?_
          refine Go.aload C X1034 (pc' := 375) at_373 rfl rfl rfl ?_
          refine Go.iload C X1034 (pc' := 377) at_375 rfl rfl ?_
          refine Go.iload C X1034 (pc' := 379) at_377 rfl rfl ?_
          refine Go.iload C X1034 (pc' := 381) at_379 rfl rfl ?_
          refine Go.lload C X1034 (pc' := 383) at_381 rfl rfl ?_
          refine Go.callS C X1034 (pc' := 386) (W := 0) (argsL := [(.ref u750), (.int (9 : Int32)), (.int ((((0 : Int32) + (1 : Int32)) + (0 : Int32)) + (own_f_rm_dd (own_f_rm_ab (x3).toInt64)))), (.ref a691), (.int (0 : Int32)), (.int (0 : Int32)), (.int (own_f_rm_dd (own_f_rm_ab (x3).toInt64))), (.long (own_f_rm_ab (x3).toInt64))]) (rest := []) (rm_cx l Z a0 hw u750 (9 : Int32) ((((0 : Int32) + (1 : Int32)) + (0 : Int32)) + (own_f_rm_dd (own_f_rm_ab (x3).toInt64))) a691 (0 : Int32) (0 : Int32) (own_f_rm_dd (own_f_rm_ab (x3).toInt64)) (own_f_rm_ab (x3).toInt64) tv750 (own_fs (fun _ => 0) 0 v N sg) ((((0 : Int32) + (1 : Int32)) + (0 : Int32)) + (own_f_rm_dd (own_f_rm_ab (x3).toInt64))) b691 0 (fun _ => 0) (0 : Int32) 9 sg N v cs sf h1034 n0 X1034.sz O1035 hS hSF E1041 F1042 F1043 A1044 E1036 F1038 F1037 A1039 hcs hsf rfl (by decide) rfl (own_s6p hv c765) (own_svs hv) hdd hN hab rfl hL hL (own_key (own_svs hv) hd.1)) (own_w hw 196 rfl) (own_w hw 197 rfl) (own_w hw 192 rfl) (own_w hw 198 rfl) (by decide) rfl rfl (lenOf own_pd36 rfl) rfl (Nat.le_of_eq rfl) (by decide) (by decide) (by decide) (by decide) at_383 rfl (fun _ _ q => by obtain ⟨_, K⟩ := q; exact K.1) (fun T1046 h1046 v1046 X1046 P1046 => ?_)
          obtain ⟨rfl, K1046⟩ := P1046
          have O1047 : Old Z n0 h1046 := O1035.keep K1046 all0
          have E1048 := E1036.keep K1046
          have F1049 := F1037.keep K1046 nin0
          have F1050 := F1038.keep K1046 nin0
          have A1051 := A1039.keep K1046 nin0
          have M1052 : h691.size ≤ h1046.size := Nat.le_trans M1040 K1046.1
          have E1053 := E1041.keep K1046
          have F1054 := F1042.keep K1046 nin0
          have F1055 := F1043.keep K1046 nin0
          have A1056 := A1044.keep K1046 nin0
          have M1057 : h750.size ≤ h1046.size := Nat.le_trans M1045 K1046.1
          show Go p e below _ n0 _ _ _ T1046 (mkF m 386 #[.val (.int x0), .val (.int x1), .val (.int x2), .val (.int x3), .val (.int x4), .val (.int (0 : Int32)), .val (.int (own_c8 x0)), .val (.int (own_c8 x1)), .val (.ref a691), .val (.int x3), .val (.ref u750), .val (.long (own_f_rm_ab (x3).toInt64)), .second, .val (.int (0 : Int32)), .val (.int (own_f_rm_dd (own_f_rm_ab (x3).toInt64))), .val (.int ((((0 : Int32) + (1 : Int32)) + (0 : Int32)) + (own_f_rm_dd (own_f_rm_ab (x3).toInt64))))] [(.int (1 : Int32))])
          refine Go.ifNo C X1046 (pc' := 389) at_386 ((if0 _ _).trans (feq (by decide)).1) rfl ?_
          refine Go.aload C X1046 (pc' := 391) at_389 rfl rfl rfl ?_
          refine Go.bipush C X1046 (pc' := 393) (v := (10 : Int32)) at_391 rfl rfl ?_
          refine Go.iload C X1046 (pc' := 395) at_393 rfl rfl ?_
          refine Go.aload C X1046 (pc' := 397) at_395 rfl rfl rfl ?_
          refine Go.iload C X1046 (pc' := 399) at_397 rfl rfl ?_
          refine Go.iload C X1046 (pc' := 401) at_399 rfl rfl ?_
          refine Go.iload C X1046 (pc' := 403) at_401 rfl rfl ?_
          refine Go.lload C X1046 (pc' := 405) at_403 rfl rfl ?_
          refine Go.callS C X1046 (pc' := 408) (W := 0) (argsL := [(.ref u750), (.int (10 : Int32)), (.int ((((0 : Int32) + (1 : Int32)) + (0 : Int32)) + (own_f_rm_dd (own_f_rm_ab (x3).toInt64)))), (.ref a691), (.int (0 : Int32)), (.int (0 : Int32)), (.int (own_f_rm_dd (own_f_rm_ab (x3).toInt64))), (.long (own_f_rm_ab (x3).toInt64))]) (rest := []) (rm_cx l Z a0 hw u750 (10 : Int32) ((((0 : Int32) + (1 : Int32)) + (0 : Int32)) + (own_f_rm_dd (own_f_rm_ab (x3).toInt64))) a691 (0 : Int32) (0 : Int32) (own_f_rm_dd (own_f_rm_ab (x3).toInt64)) (own_f_rm_ab (x3).toInt64) tv750 (own_fs (fun _ => 0) 0 v N sg) ((((0 : Int32) + (1 : Int32)) + (0 : Int32)) + (own_f_rm_dd (own_f_rm_ab (x3).toInt64))) b691 0 (fun _ => 0) (0 : Int32) 10 sg N v cs sf h1046 n0 X1046.sz O1047 hS hSF E1053 F1054 F1055 A1056 E1048 F1050 F1049 A1051 hcs hsf rfl (by decide) rfl (own_s6p hv c765) (own_svs hv) hdd hN hab rfl hL hL (own_key (own_svs hv) hd.1)) (own_w hw 196 rfl) (own_w hw 197 rfl) (own_w hw 192 rfl) (own_w hw 198 rfl) (by decide) rfl rfl (lenOf own_pd36 rfl) rfl (Nat.le_of_eq rfl) (by decide) (by decide) (by decide) (by decide) at_405 rfl (fun _ _ q => by obtain ⟨_, K⟩ := q; exact K.1) (fun T1058 h1058 v1058 X1058 P1058 => ?_)
          obtain ⟨rfl, K1058⟩ := P1058
          have O1059 : Old Z n0 h1058 := O1047.keep K1058 all0
          have E1060 := E1048.keep K1058
          have F1061 := F1049.keep K1058 nin0
          have F1062 := F1050.keep K1058 nin0
          have A1063 := A1051.keep K1058 nin0
          have M1064 : h691.size ≤ h1058.size := Nat.le_trans M1052 K1058.1
          have E1065 := E1053.keep K1058
          have F1066 := F1054.keep K1058 nin0
          have F1067 := F1055.keep K1058 nin0
          have A1068 := A1056.keep K1058 nin0
          have M1069 : h750.size ≤ h1058.size := Nat.le_trans M1057 K1058.1
          show Go p e below _ n0 _ _ _ T1058 (mkF m 408 #[.val (.int x0), .val (.int x1), .val (.int x2), .val (.int x3), .val (.int x4), .val (.int (0 : Int32)), .val (.int (own_c8 x0)), .val (.int (own_c8 x1)), .val (.ref a691), .val (.int x3), .val (.ref u750), .val (.long (own_f_rm_ab (x3).toInt64)), .second, .val (.int (0 : Int32)), .val (.int (own_f_rm_dd (own_f_rm_ab (x3).toInt64))), .val (.int ((((0 : Int32) + (1 : Int32)) + (0 : Int32)) + (own_f_rm_dd (own_f_rm_ab (x3).toInt64))))] [(.int (1 : Int32))])
          refine Go.ifNo C X1058 (pc' := 411) at_408 ((if0 _ _).trans (feq (by decide)).1) rfl ?_
          refine Go.aload C X1058 (pc' := 413) at_411 rfl rfl rfl ?_
          refine Go.bipush C X1058 (pc' := 415) (v := (11 : Int32)) at_413 rfl rfl ?_
          refine Go.iload C X1058 (pc' := 417) at_415 rfl rfl ?_
          refine Go.aload C X1058 (pc' := 419) at_417 rfl rfl rfl ?_
          refine Go.iload C X1058 (pc' := 421) at_419 rfl rfl ?_
          refine Go.iload C X1058 (pc' := 423) at_421 rfl rfl ?_
          refine Go.iload C X1058 (pc' := 425) at_423 rfl rfl ?_
          refine Go.lload C X1058 (pc' := 427) at_425 rfl rfl ?_
          refine Go.callS C X1058 (pc' := 430) (W := 0) (argsL := [(.ref u750), (.int (11 : Int32)), (.int ((((0 : Int32) + (1 : Int32)) + (0 : Int32)) + (own_f_rm_dd (own_f_rm_ab (x3).toInt64)))), (.ref a691), (.int (0 : Int32)), (.int (0 : Int32)), (.int (own_f_rm_dd (own_f_rm_ab (x3).toInt64))), (.long (own_f_rm_ab (x3).toInt64))]) (rest := []) (rm_cx l Z a0 hw u750 (11 : Int32) ((((0 : Int32) + (1 : Int32)) + (0 : Int32)) + (own_f_rm_dd (own_f_rm_ab (x3).toInt64))) a691 (0 : Int32) (0 : Int32) (own_f_rm_dd (own_f_rm_ab (x3).toInt64)) (own_f_rm_ab (x3).toInt64) tv750 (own_fs (fun _ => 0) 0 v N sg) ((((0 : Int32) + (1 : Int32)) + (0 : Int32)) + (own_f_rm_dd (own_f_rm_ab (x3).toInt64))) b691 0 (fun _ => 0) (0 : Int32) 11 sg N v cs sf h1058 n0 X1058.sz O1059 hS hSF E1065 F1066 F1067 A1068 E1060 F1062 F1061 A1063 hcs hsf rfl (by decide) rfl (own_s6p hv c765) (own_svs hv) hdd hN hab rfl hL hL (own_key (own_svs hv) hd.1)) (own_w hw 196 rfl) (own_w hw 197 rfl) (own_w hw 192 rfl) (own_w hw 198 rfl) (by decide) rfl rfl (lenOf own_pd36 rfl) rfl (Nat.le_of_eq rfl) (by decide) (by decide) (by decide) (by decide) at_427 rfl (fun _ _ q => by obtain ⟨_, K⟩ := q; exact K.1) (fun T1070 h1070 v1070 X1070 P1070 => ?_)
          obtain ⟨rfl, K1070⟩ := P1070
          have O1071 : Old Z n0 h1070 := O1059.keep K1070 all0
          have E1072 := E1060.keep K1070
          have F1073 := F1061.keep K1070 nin0
          have F1074 := F1062.keep K1070 nin0
          have A1075 := A1063.keep K1070 nin0
          have M1076 : h691.size ≤ h1070.size := Nat.le_trans M1064 K1070.1
          have E1077 := E1065.keep K1070
          have F1078 := F1066.keep K1070 nin0
          have F1079 := F1067.keep K1070 nin0
          have A1080 := A1068.keep K1070 nin0
          have M1081 : h750.size ≤ h1070.size := Nat.le_trans M1069 K1070.1
          show Go p e below _ n0 _ _ _ T1070 (mkF m 430 #[.val (.int x0), .val (.int x1), .val (.int x2), .val (.int x3), .val (.int x4), .val (.int (0 : Int32)), .val (.int (own_c8 x0)), .val (.int (own_c8 x1)), .val (.ref a691), .val (.int x3), .val (.ref u750), .val (.long (own_f_rm_ab (x3).toInt64)), .second, .val (.int (0 : Int32)), .val (.int (own_f_rm_dd (own_f_rm_ab (x3).toInt64))), .val (.int ((((0 : Int32) + (1 : Int32)) + (0 : Int32)) + (own_f_rm_dd (own_f_rm_ab (x3).toInt64))))] [(.int (1 : Int32))])
          refine Go.ifNo C X1070 (pc' := 433) at_430 ((if0 _ _).trans (feq (by decide)).1) rfl ?_
          refine Go.aload C X1070 (pc' := 435) at_433 rfl rfl rfl ?_
          refine Go.bipush C X1070 (pc' := 437) (v := (12 : Int32)) at_435 rfl rfl ?_
          refine Go.iload C X1070 (pc' := 439) at_437 rfl rfl ?_
          refine Go.aload C X1070 (pc' := 441) at_439 rfl rfl rfl ?_
          refine Go.iload C X1070 (pc' := 443) at_441 rfl rfl ?_
          refine Go.iload C X1070 (pc' := 445) at_443 rfl rfl ?_
          refine Go.iload C X1070 (pc' := 447) at_445 rfl rfl ?_
          refine Go.lload C X1070 (pc' := 449) at_447 rfl rfl ?_
          refine Go.callS C X1070 (pc' := 452) (W := 0) (argsL := [(.ref u750), (.int (12 : Int32)), (.int ((((0 : Int32) + (1 : Int32)) + (0 : Int32)) + (own_f_rm_dd (own_f_rm_ab (x3).toInt64)))), (.ref a691), (.int (0 : Int32)), (.int (0 : Int32)), (.int (own_f_rm_dd (own_f_rm_ab (x3).toInt64))), (.long (own_f_rm_ab (x3).toInt64))]) (rest := []) (rm_cx l Z a0 hw u750 (12 : Int32) ((((0 : Int32) + (1 : Int32)) + (0 : Int32)) + (own_f_rm_dd (own_f_rm_ab (x3).toInt64))) a691 (0 : Int32) (0 : Int32) (own_f_rm_dd (own_f_rm_ab (x3).toInt64)) (own_f_rm_ab (x3).toInt64) tv750 (own_fs (fun _ => 0) 0 v N sg) ((((0 : Int32) + (1 : Int32)) + (0 : Int32)) + (own_f_rm_dd (own_f_rm_ab (x3).toInt64))) b691 0 (fun _ => 0) (0 : Int32) 12 sg N v cs sf h1070 n0 X1070.sz O1071 hS hSF E1077 F1078 F1079 A1080 E1072 F1074 F1073 A1075 hcs hsf rfl (by decide) rfl (own_s6p hv c765) (own_svs hv) hdd hN hab rfl hL hL (own_key (own_svs hv) hd.1)) (own_w hw 196 rfl) (own_w hw 197 rfl) (own_w hw 192 rfl) (own_w hw 198 rfl) (by decide) rfl rfl (lenOf own_pd36 rfl) rfl (Nat.le_of_eq rfl) (by decide) (by decide) (by decide) (by decide) at_449 rfl (fun _ _ q => by obtain ⟨_, K⟩ := q; exact K.1) (fun T1082 h1082 v1082 X1082 P1082 => ?_)
          obtain ⟨rfl, K1082⟩ := P1082
          have O1083 : Old Z n0 h1082 := O1071.keep K1082 all0
          have E1084 := E1072.keep K1082
          have F1085 := F1073.keep K1082 nin0
          have F1086 := F1074.keep K1082 nin0
          have A1087 := A1075.keep K1082 nin0
          have M1088 : h691.size ≤ h1082.size := Nat.le_trans M1076 K1082.1
          have E1089 := E1077.keep K1082
          have F1090 := F1078.keep K1082 nin0
          have F1091 := F1079.keep K1082 nin0
          have A1092 := A1080.keep K1082 nin0
          have M1093 : h750.size ≤ h1082.size := Nat.le_trans M1081 K1082.1
          show Go p e below _ n0 _ _ _ T1082 (mkF m 452 #[.val (.int x0), .val (.int x1), .val (.int x2), .val (.int x3), .val (.int x4), .val (.int (0 : Int32)), .val (.int (own_c8 x0)), .val (.int (own_c8 x1)), .val (.ref a691), .val (.int x3), .val (.ref u750), .val (.long (own_f_rm_ab (x3).toInt64)), .second, .val (.int (0 : Int32)), .val (.int (own_f_rm_dd (own_f_rm_ab (x3).toInt64))), .val (.int ((((0 : Int32) + (1 : Int32)) + (0 : Int32)) + (own_f_rm_dd (own_f_rm_ab (x3).toInt64))))] [(.int (1 : Int32))])
          refine Go.ifNo C X1082 (pc' := 455) at_452 ((if0 _ _).trans (feq (by decide)).1) rfl ?_
          refine Go.aload C X1082 (pc' := 457) at_455 rfl rfl rfl ?_
          refine Go.bipush C X1082 (pc' := 459) (v := (13 : Int32)) at_457 rfl rfl ?_
          refine Go.iload C X1082 (pc' := 461) at_459 rfl rfl ?_
          refine Go.aload C X1082 (pc' := 463) at_461 rfl rfl rfl ?_
          refine Go.iload C X1082 (pc' := 465) at_463 rfl rfl ?_
          refine Go.iload C X1082 (pc' := 467) at_465 rfl rfl ?_
          refine Go.iload C X1082 (pc' := 469) at_467 rfl rfl ?_
          refine Go.lload C X1082 (pc' := 471) at_469 rfl rfl ?_
          refine Go.callS C X1082 (pc' := 474) (W := 0) (argsL := [(.ref u750), (.int (13 : Int32)), (.int ((((0 : Int32) + (1 : Int32)) + (0 : Int32)) + (own_f_rm_dd (own_f_rm_ab (x3).toInt64)))), (.ref a691), (.int (0 : Int32)), (.int (0 : Int32)), (.int (own_f_rm_dd (own_f_rm_ab (x3).toInt64))), (.long (own_f_rm_ab (x3).toInt64))]) (rest := []) (rm_cx l Z a0 hw u750 (13 : Int32) ((((0 : Int32) + (1 : Int32)) + (0 : Int32)) + (own_f_rm_dd (own_f_rm_ab (x3).toInt64))) a691 (0 : Int32) (0 : Int32) (own_f_rm_dd (own_f_rm_ab (x3).toInt64)) (own_f_rm_ab (x3).toInt64) tv750 (own_fs (fun _ => 0) 0 v N sg) ((((0 : Int32) + (1 : Int32)) + (0 : Int32)) + (own_f_rm_dd (own_f_rm_ab (x3).toInt64))) b691 0 (fun _ => 0) (0 : Int32) 13 sg N v cs sf h1082 n0 X1082.sz O1083 hS hSF E1089 F1090 F1091 A1092 E1084 F1086 F1085 A1087 hcs hsf rfl (by decide) rfl (own_s6p hv c765) (own_svs hv) hdd hN hab rfl hL hL (own_key (own_svs hv) hd.1)) (own_w hw 196 rfl) (own_w hw 197 rfl) (own_w hw 192 rfl) (own_w hw 198 rfl) (by decide) rfl rfl (lenOf own_pd36 rfl) rfl (Nat.le_of_eq rfl) (by decide) (by decide) (by decide) (by decide) at_471 rfl (fun _ _ q => by obtain ⟨_, K⟩ := q; exact K.1) (fun T1094 h1094 v1094 X1094 P1094 => ?_)
          obtain ⟨rfl, K1094⟩ := P1094
          have O1095 : Old Z n0 h1094 := O1083.keep K1094 all0
          have E1096 := E1084.keep K1094
          have F1097 := F1085.keep K1094 nin0
          have F1098 := F1086.keep K1094 nin0
          have A1099 := A1087.keep K1094 nin0
          have M1100 : h691.size ≤ h1094.size := Nat.le_trans M1088 K1094.1
          have E1101 := E1089.keep K1094
          have F1102 := F1090.keep K1094 nin0
          have F1103 := F1091.keep K1094 nin0
          have A1104 := A1092.keep K1094 nin0
          have M1105 : h750.size ≤ h1094.size := Nat.le_trans M1093 K1094.1
          show Go p e below _ n0 _ _ _ T1094 (mkF m 474 #[.val (.int x0), .val (.int x1), .val (.int x2), .val (.int x3), .val (.int x4), .val (.int (0 : Int32)), .val (.int (own_c8 x0)), .val (.int (own_c8 x1)), .val (.ref a691), .val (.int x3), .val (.ref u750), .val (.long (own_f_rm_ab (x3).toInt64)), .second, .val (.int (0 : Int32)), .val (.int (own_f_rm_dd (own_f_rm_ab (x3).toInt64))), .val (.int ((((0 : Int32) + (1 : Int32)) + (0 : Int32)) + (own_f_rm_dd (own_f_rm_ab (x3).toInt64))))] [(.int (1 : Int32))])
          refine Go.ifNo C X1094 (pc' := 477) at_474 ((if0 _ _).trans (feq (by decide)).1) rfl ?_
          refine Go.iconst C X1094 (pc' := 478) (v := (1 : Int32)) at_477 rfl rfl ?_
          refine Go.goto C X1094 (pc' := 482) at_478 (by decide) (by decide) ?_
          refine Go.wide ?_
          exact Go.retZ (t := .boolean) C X1094 (z' := (1 : Int32)) (by decide) at_482 ⟨⟨rfl, M1100⟩, M1105⟩ (by decide) (by decide)
    · refine Go.ifNo C X691 (pc' := 80) at_77 ((if0 _ _).trans (feq c696).1) rfl ?_
      refine Go.iconst C X691 (pc' := 81) (v := (-1 : Int32)) at_80 rfl rfl ?_
      refine Go.goto C X691 (pc' := 85) at_81 (by decide) (by decide) ?_
      refine Go.istore C X691 (pc' := 87) (Ls' := #[.val (.int x0), .val (.int x1), .val (.int x2), .val (.int x3), .val (.int x4), .val (.int (0 : Int32)), .val (.int (own_c8 x0)), .val (.int (own_c8 x1)), .val (.ref a691), .val (.int (-1 : Int32)), .unset, .unset, .unset, .unset, .unset, .unset]) at_85 rfl rfl ?_
      refine Go.newO C X691 (pc' := 90) (own_w hw 30 rfl) (own_w hw 31 rfl) (own_w hw 32 rfl) at_87 (by decide) (by decide) rfl (fun T1106 h1106 b1106 X1106 g1106 E1106 Ex1106 D1106 N1106 => ?_)
      have ne_d1_b1106 : d1 ≠ b1106 := Nat.ne_of_lt (Nat.lt_of_lt_of_eq A694.lt g1106.symm)
      have ne_d2_b1106 : d2 ≠ b1106 := Nat.ne_of_lt (Nat.lt_of_lt_of_eq A695.lt g1106.symm)
      have ne_a691_b1106 : a691 ≠ b1106 := Nat.ne_of_lt (Nat.lt_of_lt_of_eq Ex691.lt g1106.symm)
      have ne_b691_b1106 : b691 ≠ b1106 := Nat.ne_of_lt (Nat.lt_of_lt_of_eq A691.lt g1106.symm)
      have Q1106 : h0.size ≤ b1106 := Nat.le_trans K693.1 (Nat.le_of_eq g1106.symm)
      have HC1107 : CHv Z consts_1 _ h1106 := CHv.ext E1106 HC691
      have O1108 : Old Z n0 h1106 := O692.ext E1106
      have K1109 : Keep h0 h1106 [] := K693.ext E1106
      have A1110 := A694.ext E1106
      have A1111 := A695.ext E1106
      have E1112 := Ex691.ext E1106
      have F1113 := Fc691.ext E1106
      have F1114 := Fv691.ext E1106
      have A1115 := A691.ext E1106
      have M1116 : h691.size ≤ h1106.size := Nat.le_trans M691_ E1106.1
      have F1117 : Fld Z h1106 b1106 "com/example/wharfline/wharfline/runtime/Work" "connector" "Ljava/lang/String;" .null := D1106 (Or.inr (own_w hw 43 rfl)) (ty := (.object "java/lang/String")) (by decide)
      have F1118 : Fld Z h1106 b1106 "com/example/wharfline/wharfline/runtime/Work" "task" "I" (.int (0 : Int32)) := D1106 (Or.inr (own_w hw 45 rfl)) (ty := .int) (by decide)
      refine Go.dup C X1106 (pc' := 91) at_90 rfl rfl ?_
      refine Go.aload C X1106 (pc' := 93) at_91 rfl rfl rfl ?_
      refine Go.iload C X1106 (pc' := 95) at_93 rfl rfl ?_
      refine Go.callI C X1106 (pc' := 98) (W := 1) (argsL := [(.ref a691), (.int (-1 : Int32))]) (rest := [(.ref b1106)]) (a := b1106) (rm_wi l Z a0 hw b1106 a691 (-1 : Int32)  h1106 n0 X1106.sz Ex1106 F1117 F1118 N1106) rfl rfl (own_w hw 33 rfl) (own_w hw 34 rfl) (own_w hw 32 rfl) (own_w hw 35 rfl) (by decide) rfl rfl (lenOf own_pd32 rfl) rfl (Nat.le_of_eq rfl) (by decide) (by decide) (by decide) (by decide) at_95 rfl (fun _ _ q => by obtain ⟨_, K, _⟩ := q; exact K.1) (fun T1119 h1119 v1119 X1119 P1119 => ?_)
      obtain ⟨rfl, K1119, O1119_0, O1119_1, O1119_2⟩ := P1119
      have HC1120 : CHv Z consts_1 _ h1119 := CHv.keep K1119 (allS (Safe.exa C.2.1.alike Ex1106 (by decide) (by decide)) all0) HC1107
      have O1121 : Old Z n0 h1119 := O1108.keep K1119 (allS N1106 all0)
      have K1122 : Keep h0 h1119 [] := K1109.trans K1119 (allS (Or.inr Q1106) all0)
      have A1123 := A1110.keep K1119 (ninS ne_d1_b1106 nin0)
      have A1124 := A1111.keep K1119 (ninS ne_d2_b1106 nin0)
      have E1125 := E1112.keep K1119
      have F1126 := F1113.keep K1119 (ninS ne_a691_b1106 nin0)
      have F1127 := F1114.keep K1119 (ninS ne_a691_b1106 nin0)
      have A1128 := A1115.keep K1119 (ninS ne_b691_b1106 nin0)
      have M1129 : h691.size ≤ h1119.size := Nat.le_trans M1116 K1119.1
      have E1130 := Ex1106.keep K1119
      show Go p e below _ n0 _ _ _ T1119 (mkF m 98 #[.val (.int x0), .val (.int x1), .val (.int x2), .val (.int x3), .val (.int x4), .val (.int (0 : Int32)), .val (.int (own_c8 x0)), .val (.int (own_c8 x1)), .val (.ref a691), .val (.int (-1 : Int32)), .unset, .unset, .unset, .unset, .unset, .unset] [(.ref b1106)])
      refine Go.callV C X1119 (pc' := 101) (W := 0) (argsL := []) (rest := []) (a := b1106) (rm_t1 l Z a0 hw b1106 a691 h1119 n0 X1119.sz O1119_0 O1119_1 O1119_2) O1119_0 (notFace_of_selects (args := #[]) (mvT C.2.1 (own_w hw 49 rfl))) (own_w hw 46 rfl) (own_w hw 47 rfl) (own_w hw 49 rfl) (own_w hw 48 rfl) (own_w hw 32 rfl) (own_w hw 50 rfl) (by decide) rfl rfl (lenOf own_pd29 rfl) rfl (Nat.le_of_eq rfl) (by decide) (by decide) (by decide) (by decide) at_98 rfl (fun _ _ q => Nat.le_of_eq (congrArg Array.size q.2)) (fun T1131 h1131 v1131 X1131 P1131 => ?_)
      obtain ⟨rfl, rfl⟩ := P1131
      show Go p e below _ n0 _ _ _ T1131 (mkF m 101 #[.val (.int x0), .val (.int x1), .val (.int x2), .val (.int x3), .val (.int x4), .val (.int (0 : Int32)), .val (.int (own_c8 x0)), .val (.int (own_c8 x1)), .val (.ref a691), .val (.int (-1 : Int32)), .unset, .unset, .unset, .unset, .unset, .unset] [(.ref a691)])
      refine Go.astore C X1131 (pc' := 103) (Ls' := #[.val (.int x0), .val (.int x1), .val (.int x2), .val (.int x3), .val (.int x4), .val (.int (0 : Int32)), .val (.int (own_c8 x0)), .val (.int (own_c8 x1)), .val (.ref a691), .val (.int (-1 : Int32)), .val (.ref a691), .unset, .unset, .unset, .unset, .unset]) at_101 rfl rfl rfl ?_
      refine Go.aload C X1131 (pc' := 105) at_103 rfl rfl rfl ?_
      refine Go.ifnonnullYes C X1131 (pc' := 110) at_105 (by decide) (by decide) ?_
      refine Go.iload C X1131 (pc' := 112) at_110 rfl rfl ?_
      refine Go.iconst C X1131 (pc' := 113) (v := (-1 : Int32)) at_112 rfl rfl ?_
      refine Go.icmpNo C X1131 (pc' := 116) at_113 (teq (by decide)).2 rfl ?_
      refine Go.aload C X1131 (pc' := 118) at_116 rfl rfl rfl ?_
      refine Go.aload C X1131 (pc' := 120) at_118 rfl rfl rfl ?_
      refine Go.callV C X1131 (pc' := 123) (W := 0) (argsL := [(.ref a691)]) (rest := []) (a := a691) (rm_eq l Z a0 hw a691 a691  h1119 n0 X1131.sz rfl) E1125 (notFace_of_selects (args := #[]) (mvT C.2.1 (own_w hw 236 rfl))) (own_w hw 233 rfl) (own_w hw 234 rfl) (own_w hw 236 rfl) (own_w hw 235 rfl) (own_w hw 2 rfl) (own_w hw 237 rfl) (by decide) rfl rfl (lenOf own_pd33 rfl) rfl (Nat.le_of_eq rfl) (by decide) (by decide) (by decide) (by decide) at_120 rfl (fun _ _ q => Nat.le_of_eq (congrArg Array.size q.2)) (fun T1132 h1132 v1132 X1132 P1132 => ?_)
      obtain ⟨rfl, rfl⟩ := P1132
      show Go p e below _ n0 _ _ _ T1132 (mkF m 123 #[.val (.int x0), .val (.int x1), .val (.int x2), .val (.int x3), .val (.int x4), .val (.int (0 : Int32)), .val (.int (own_c8 x0)), .val (.int (own_c8 x1)), .val (.ref a691), .val (.int (-1 : Int32)), .val (.ref a691), .unset, .unset, .unset, .unset, .unset] [(.int (1 : Int32))])
      refine Go.wide ?_
      exact Go.retZ (t := .boolean) C X1132 (z' := (1 : Int32)) (by decide) at_123 ⟨rfl, M1129⟩ (by decide) (by decide)
  · rw [q690]
    refine Go.iload C X0 (pc' := 25) at_23 rfl rfl ?_
    refine Go.ifYes C X0 (pc' := 35) at_25 ((if0 _ _).trans (feq (by decide)).2) (by decide) (by decide) ?_
    refine Go.iload C X0 (pc' := 37) at_35 rfl rfl ?_
    refine Go.iconst C X0 (pc' := 38) (v := (1 : Int32)) at_37 rfl rfl ?_
    refine Go.icmpNo C X0 (pc' := 41) at_38 (teq (by decide)).2 rfl ?_
    refine Go.iload C X0 (pc' := 43) at_41 rfl rfl ?_
    refine Go.callS C X0 (pc' := 46) (W := 0) (argsL := [(.int (own_c8 x0))]) (rest := []) (rm_vo l Z a0 hw (own_c8 x0) cs h0 n0 X0.sz hO hS hcs (own_n255 x0)) (own_w hw 238 rfl) (own_w hw 239 rfl) (own_w hw 2 rfl) (own_w hw 240 rfl) (by decide) rfl rfl (lenOf own_pd37 rfl) rfl (Nat.le_of_eq rfl) (by decide) (by decide) (by decide) (by decide) at_43 rfl (fun _ _ q => by obtain ⟨_, _, _, _, _, K, _⟩ := q; exact K.1) (fun T1133 h1133 v1133 X1133 P1133 => ?_)
    obtain ⟨u1133, b11133, rfl, D1133_u, D1133_b1, K1133, O1133_0, O1133_1, O1133_2, O1133_3⟩ := P1133
    have ne_d1_u1133 : d1 ≠ u1133 := Nat.ne_of_lt (Nat.lt_of_lt_of_le a_d1.lt D1133_u)
    have ne_d2_u1133 : d2 ≠ u1133 := Nat.ne_of_lt (Nat.lt_of_lt_of_le a_d2.lt D1133_u)
    have N_u1133 : n0 ≤ u1133 := Nat.le_trans X0.sz D1133_u
    have Q_u1133 : h0.size ≤ u1133 := Nat.le_trans (Keep.refl h0 []).1 D1133_u
    have ne_d1_b11133 : d1 ≠ b11133 := Nat.ne_of_lt (Nat.lt_of_lt_of_le a_d1.lt D1133_b1)
    have ne_d2_b11133 : d2 ≠ b11133 := Nat.ne_of_lt (Nat.lt_of_lt_of_le a_d2.lt D1133_b1)
    have N_b11133 : n0 ≤ b11133 := Nat.le_trans X0.sz D1133_b1
    have Q_b11133 : h0.size ≤ b11133 := Nat.le_trans (Keep.refl h0 []).1 D1133_b1
    have O1134 : Old Z n0 h1133 := hO.keep K1133 all0
    have K1135 : Keep h0 h1133 [] := (Keep.refl h0 []).trans K1133 all0
    have A1136 := a_d1.keep K1133 nin0
    have A1137 := a_d2.keep K1133 nin0
    show Go p e below _ n0 _ _ _ T1133 (mkF m 46 #[.val (.int x0), .val (.int x1), .val (.int x2), .val (.int x3), .val (.int x4), .val (.int (1 : Int32)), .val (.int (own_c8 x0)), .val (.int (own_c8 x1)), .unset, .unset, .unset, .unset, .unset, .unset, .unset, .unset] [(.ref u1133)])
    refine Go.astore C X1133 (pc' := 48) (Ls' := #[.val (.int x0), .val (.int x1), .val (.int x2), .val (.int x3), .val (.int x4), .val (.int (1 : Int32)), .val (.int (own_c8 x0)), .val (.int (own_c8 x1)), .val (.ref u1133), .unset, .unset, .unset, .unset, .unset, .unset, .unset]) at_46 rfl rfl rfl ?_
    refine Go.goto C X1133 (pc' := 73) at_48 (by decide) (by decide) ?_
    refine Go.iload C X1133 (pc' := 75) at_73 rfl rfl ?_
    refine Go.iconst C X1133 (pc' := 76) (v := (1 : Int32)) at_75 rfl rfl ?_
    refine Go.iand C X1133 (pc' := 77) at_76 rfl ?_
    by_cases c1138 : (x4 &&& (1 : Int32)) = (0 : Int32)
    · refine Go.ifYes C X1133 (pc' := 84) at_77 ((if0 _ _).trans (teq c1138).1) (by decide) (by decide) ?_
      refine Go.iloadN C X1133 (pc' := 85) at_84 rfl rfl ?_
      refine Go.istore C X1133 (pc' := 87) (Ls' := #[.val (.int x0), .val (.int x1), .val (.int x2), .val (.int x3), .val (.int x4), .val (.int (1 : Int32)), .val (.int (own_c8 x0)), .val (.int (own_c8 x1)), .val (.ref u1133), .val (.int x3), .unset, .unset, .unset, .unset, .unset, .unset]) at_85 rfl rfl ?_
      by_cases c1139 : x3 = (-1 : Int32)
      · rw [c1139]
        refine Go.newO C X1133 (pc' := 90) (own_w hw 30 rfl) (own_w hw 31 rfl) (own_w hw 32 rfl) at_87 (by decide) (by decide) rfl (fun T1140 h1140 b1140 X1140 g1140 E1140 Ex1140 D1140 N1140 => ?_)
        have ne_d1_b1140 : d1 ≠ b1140 := Nat.ne_of_lt (Nat.lt_of_lt_of_eq A1136.lt g1140.symm)
        have ne_d2_b1140 : d2 ≠ b1140 := Nat.ne_of_lt (Nat.lt_of_lt_of_eq A1137.lt g1140.symm)
        have ne_u1133_b1140 : u1133 ≠ b1140 := Nat.ne_of_lt (Nat.lt_of_lt_of_eq O1133_0.lt g1140.symm)
        have ne_b11133_b1140 : b11133 ≠ b1140 := Nat.ne_of_lt (Nat.lt_of_lt_of_eq O1133_3.lt g1140.symm)
        have Q1140 : h0.size ≤ b1140 := Nat.le_trans K1135.1 (Nat.le_of_eq g1140.symm)
        have O1141 : Old Z n0 h1140 := O1134.ext E1140
        have K1142 : Keep h0 h1140 [] := K1135.ext E1140
        have A1143 := A1136.ext E1140
        have A1144 := A1137.ext E1140
        have E1145 := O1133_0.ext E1140
        have F1146 := O1133_1.ext E1140
        have F1147 := O1133_2.ext E1140
        have A1148 := O1133_3.ext E1140
        have F1149 : Fld Z h1140 b1140 "com/example/wharfline/wharfline/runtime/Work" "connector" "Ljava/lang/String;" .null := D1140 (Or.inr (own_w hw 43 rfl)) (ty := (.object "java/lang/String")) (by decide)
        have F1150 : Fld Z h1140 b1140 "com/example/wharfline/wharfline/runtime/Work" "task" "I" (.int (0 : Int32)) := D1140 (Or.inr (own_w hw 45 rfl)) (ty := .int) (by decide)
        refine Go.dup C X1140 (pc' := 91) at_90 rfl rfl ?_
        refine Go.aload C X1140 (pc' := 93) at_91 rfl rfl rfl ?_
        refine Go.iload C X1140 (pc' := 95) at_93 rfl rfl ?_
        refine Go.callI C X1140 (pc' := 98) (W := 1) (argsL := [(.ref u1133), (.int (-1 : Int32))]) (rest := [(.ref b1140)]) (a := b1140) (rm_wi l Z a0 hw b1140 u1133 (-1 : Int32)  h1140 n0 X1140.sz Ex1140 F1149 F1150 N1140) rfl rfl (own_w hw 33 rfl) (own_w hw 34 rfl) (own_w hw 32 rfl) (own_w hw 35 rfl) (by decide) rfl rfl (lenOf own_pd32 rfl) rfl (Nat.le_of_eq rfl) (by decide) (by decide) (by decide) (by decide) at_95 rfl (fun _ _ q => by obtain ⟨_, K, _⟩ := q; exact K.1) (fun T1151 h1151 v1151 X1151 P1151 => ?_)
        obtain ⟨rfl, K1151, O1151_0, O1151_1, O1151_2⟩ := P1151
        have O1152 : Old Z n0 h1151 := O1141.keep K1151 (allS N1140 all0)
        have K1153 : Keep h0 h1151 [] := K1142.trans K1151 (allS (Or.inr Q1140) all0)
        have A1154 := A1143.keep K1151 (ninS ne_d1_b1140 nin0)
        have A1155 := A1144.keep K1151 (ninS ne_d2_b1140 nin0)
        have E1156 := E1145.keep K1151
        have F1157 := F1146.keep K1151 (ninS ne_u1133_b1140 nin0)
        have F1158 := F1147.keep K1151 (ninS ne_u1133_b1140 nin0)
        have A1159 := A1148.keep K1151 (ninS ne_b11133_b1140 nin0)
        have E1160 := Ex1140.keep K1151
        show Go p e below _ n0 _ _ _ T1151 (mkF m 98 #[.val (.int x0), .val (.int x1), .val (.int x2), .val (.int (-1 : Int32)), .val (.int x4), .val (.int (1 : Int32)), .val (.int (own_c8 x0)), .val (.int (own_c8 x1)), .val (.ref u1133), .val (.int (-1 : Int32)), .unset, .unset, .unset, .unset, .unset, .unset] [(.ref b1140)])
        refine Go.callV C X1151 (pc' := 101) (W := 0) (argsL := []) (rest := []) (a := b1140) (rm_t1 l Z a0 hw b1140 u1133 h1151 n0 X1151.sz O1151_0 O1151_1 O1151_2) O1151_0 (notFace_of_selects (args := #[]) (mvT C.2.1 (own_w hw 49 rfl))) (own_w hw 46 rfl) (own_w hw 47 rfl) (own_w hw 49 rfl) (own_w hw 48 rfl) (own_w hw 32 rfl) (own_w hw 50 rfl) (by decide) rfl rfl (lenOf own_pd29 rfl) rfl (Nat.le_of_eq rfl) (by decide) (by decide) (by decide) (by decide) at_98 rfl (fun _ _ q => Nat.le_of_eq (congrArg Array.size q.2)) (fun T1161 h1161 v1161 X1161 P1161 => ?_)
        obtain ⟨rfl, rfl⟩ := P1161
        show Go p e below _ n0 _ _ _ T1161 (mkF m 101 #[.val (.int x0), .val (.int x1), .val (.int x2), .val (.int (-1 : Int32)), .val (.int x4), .val (.int (1 : Int32)), .val (.int (own_c8 x0)), .val (.int (own_c8 x1)), .val (.ref u1133), .val (.int (-1 : Int32)), .unset, .unset, .unset, .unset, .unset, .unset] [(.ref u1133)])
        refine Go.astore C X1161 (pc' := 103) (Ls' := #[.val (.int x0), .val (.int x1), .val (.int x2), .val (.int (-1 : Int32)), .val (.int x4), .val (.int (1 : Int32)), .val (.int (own_c8 x0)), .val (.int (own_c8 x1)), .val (.ref u1133), .val (.int (-1 : Int32)), .val (.ref u1133), .unset, .unset, .unset, .unset, .unset]) at_101 rfl rfl rfl ?_
        refine Go.aload C X1161 (pc' := 105) at_103 rfl rfl rfl ?_
        refine Go.ifnonnullYes C X1161 (pc' := 110) at_105 (by decide) (by decide) ?_
        refine Go.iload C X1161 (pc' := 112) at_110 rfl rfl ?_
        refine Go.iconst C X1161 (pc' := 113) (v := (-1 : Int32)) at_112 rfl rfl ?_
        refine Go.icmpNo C X1161 (pc' := 116) at_113 (teq (by decide)).2 rfl ?_
        refine Go.aload C X1161 (pc' := 118) at_116 rfl rfl rfl ?_
        refine Go.aload C X1161 (pc' := 120) at_118 rfl rfl rfl ?_
        refine Go.callV C X1161 (pc' := 123) (W := 0) (argsL := [(.ref u1133)]) (rest := []) (a := u1133) (rm_eq l Z a0 hw u1133 u1133  h1151 n0 X1161.sz rfl) E1156 (notFace_of_selects (args := #[]) (mvT C.2.1 (own_w hw 236 rfl))) (own_w hw 233 rfl) (own_w hw 234 rfl) (own_w hw 236 rfl) (own_w hw 235 rfl) (own_w hw 2 rfl) (own_w hw 237 rfl) (by decide) rfl rfl (lenOf own_pd33 rfl) rfl (Nat.le_of_eq rfl) (by decide) (by decide) (by decide) (by decide) at_120 rfl (fun _ _ q => Nat.le_of_eq (congrArg Array.size q.2)) (fun T1162 h1162 v1162 X1162 P1162 => ?_)
        obtain ⟨rfl, rfl⟩ := P1162
        show Go p e below _ n0 _ _ _ T1162 (mkF m 123 #[.val (.int x0), .val (.int x1), .val (.int x2), .val (.int (-1 : Int32)), .val (.int x4), .val (.int (1 : Int32)), .val (.int (own_c8 x0)), .val (.int (own_c8 x1)), .val (.ref u1133), .val (.int (-1 : Int32)), .val (.ref u1133), .unset, .unset, .unset, .unset, .unset] [(.int (1 : Int32))])
        refine Go.wide ?_
        exact Go.retZ (t := .boolean) C X1162 (z' := (1 : Int32)) (by decide) at_123 rfl (by decide) (by decide)
      · obtain ⟨v, N, sg, hv, hd, hN, hss, hab, hdd⟩ := own_all x3
        refine Go.newO C X1133 (pc' := 90) (own_w hw 30 rfl) (own_w hw 31 rfl) (own_w hw 32 rfl) at_87 (by decide) (by decide) rfl (fun T1163 h1163 b1163 X1163 g1163 E1163 Ex1163 D1163 N1163 => ?_)
        have ne_d1_b1163 : d1 ≠ b1163 := Nat.ne_of_lt (Nat.lt_of_lt_of_eq A1136.lt g1163.symm)
        have ne_d2_b1163 : d2 ≠ b1163 := Nat.ne_of_lt (Nat.lt_of_lt_of_eq A1137.lt g1163.symm)
        have ne_u1133_b1163 : u1133 ≠ b1163 := Nat.ne_of_lt (Nat.lt_of_lt_of_eq O1133_0.lt g1163.symm)
        have ne_b11133_b1163 : b11133 ≠ b1163 := Nat.ne_of_lt (Nat.lt_of_lt_of_eq O1133_3.lt g1163.symm)
        have Q1163 : h0.size ≤ b1163 := Nat.le_trans K1135.1 (Nat.le_of_eq g1163.symm)
        have O1164 : Old Z n0 h1163 := O1134.ext E1163
        have K1165 : Keep h0 h1163 [] := K1135.ext E1163
        have A1166 := A1136.ext E1163
        have A1167 := A1137.ext E1163
        have E1168 := O1133_0.ext E1163
        have F1169 := O1133_1.ext E1163
        have F1170 := O1133_2.ext E1163
        have A1171 := O1133_3.ext E1163
        have F1172 : Fld Z h1163 b1163 "com/example/wharfline/wharfline/runtime/Work" "connector" "Ljava/lang/String;" .null := D1163 (Or.inr (own_w hw 43 rfl)) (ty := (.object "java/lang/String")) (by decide)
        have F1173 : Fld Z h1163 b1163 "com/example/wharfline/wharfline/runtime/Work" "task" "I" (.int (0 : Int32)) := D1163 (Or.inr (own_w hw 45 rfl)) (ty := .int) (by decide)
        refine Go.dup C X1163 (pc' := 91) at_90 rfl rfl ?_
        refine Go.aload C X1163 (pc' := 93) at_91 rfl rfl rfl ?_
        refine Go.iload C X1163 (pc' := 95) at_93 rfl rfl ?_
        refine Go.callI C X1163 (pc' := 98) (W := 1) (argsL := [(.ref u1133), (.int x3)]) (rest := [(.ref b1163)]) (a := b1163) (rm_wi l Z a0 hw b1163 u1133 x3  h1163 n0 X1163.sz Ex1163 F1172 F1173 N1163) rfl rfl (own_w hw 33 rfl) (own_w hw 34 rfl) (own_w hw 32 rfl) (own_w hw 35 rfl) (by decide) rfl rfl (lenOf own_pd32 rfl) rfl (Nat.le_of_eq rfl) (by decide) (by decide) (by decide) (by decide) at_95 rfl (fun _ _ q => by obtain ⟨_, K, _⟩ := q; exact K.1) (fun T1174 h1174 v1174 X1174 P1174 => ?_)
        obtain ⟨rfl, K1174, O1174_0, O1174_1, O1174_2⟩ := P1174
        have O1175 : Old Z n0 h1174 := O1164.keep K1174 (allS N1163 all0)
        have K1176 : Keep h0 h1174 [] := K1165.trans K1174 (allS (Or.inr Q1163) all0)
        have A1177 := A1166.keep K1174 (ninS ne_d1_b1163 nin0)
        have A1178 := A1167.keep K1174 (ninS ne_d2_b1163 nin0)
        have E1179 := E1168.keep K1174
        have F1180 := F1169.keep K1174 (ninS ne_u1133_b1163 nin0)
        have F1181 := F1170.keep K1174 (ninS ne_u1133_b1163 nin0)
        have A1182 := A1171.keep K1174 (ninS ne_b11133_b1163 nin0)
        have E1183 := Ex1163.keep K1174
        show Go p e below _ n0 _ _ _ T1174 (mkF m 98 #[.val (.int x0), .val (.int x1), .val (.int x2), .val (.int x3), .val (.int x4), .val (.int (1 : Int32)), .val (.int (own_c8 x0)), .val (.int (own_c8 x1)), .val (.ref u1133), .val (.int x3), .unset, .unset, .unset, .unset, .unset, .unset] [(.ref b1163)])
        refine Go.callVW C X1174 (pc' := 101) (W := 0) (argsL := []) (rest := []) (a := b1163) (rm_ts l Z a0 hw b1163 u1133 b11133 1 (own_b1 (own_c8 x0)) (1 : Int32) x3 v N sg cs d1 d2 h1174 n0 X1174.sz O1175 hS h_d1 h_d2 A1177 A1178 O1174_0 O1174_1 O1174_2 E1179 F1180 F1181 A1182 hcs rfl (own_b1b _) (by decide) c1139 hv hd hN hss) (own_ew hw) (CHv.keep K1176 (fun _ q => absurd q List.not_mem_nil) HC0) O1174_0 (notFace_of_selects (args := #[]) (mvT C.2.1 (own_w hw 49 rfl))) (own_w hw 46 rfl) (own_w hw 47 rfl) (own_w hw 49 rfl) (own_w hw 48 rfl) (own_w hw 32 rfl) (own_w hw 50 rfl) (by decide) rfl rfl (lenOf own_pd29 rfl) rfl (Nat.le_of_eq rfl) (by decide) (by decide) (by decide) (by decide) at_98 rfl (fun T1184 h1184 v1184 X1184 C P1184 => ?_)
        obtain ⟨u1184, tv1184, rfl, D1184_u, D1184_tv, K1184, O1184_0, O1184_1, O1184_2, O1184_3⟩ := P1184
        have ne_d1_u1184 : d1 ≠ u1184 := Nat.ne_of_lt (Nat.lt_of_lt_of_le A1177.lt D1184_u)
        have ne_d2_u1184 : d2 ≠ u1184 := Nat.ne_of_lt (Nat.lt_of_lt_of_le A1178.lt D1184_u)
        have ne_u1133_u1184 : u1133 ≠ u1184 := Nat.ne_of_lt (Nat.lt_of_lt_of_le E1179.lt D1184_u)
        have ne_b11133_u1184 : b11133 ≠ u1184 := Nat.ne_of_lt (Nat.lt_of_lt_of_le A1182.lt D1184_u)
        have ne_b1163_u1184 : b1163 ≠ u1184 := Nat.ne_of_lt (Nat.lt_of_lt_of_le O1174_0.lt D1184_u)
        have N_u1184 : n0 ≤ u1184 := Nat.le_trans X1174.sz D1184_u
        have Q_u1184 : h0.size ≤ u1184 := Nat.le_trans K1176.1 D1184_u
        have ne_d1_tv1184 : d1 ≠ tv1184 := Nat.ne_of_lt (Nat.lt_of_lt_of_le A1177.lt D1184_tv)
        have ne_d2_tv1184 : d2 ≠ tv1184 := Nat.ne_of_lt (Nat.lt_of_lt_of_le A1178.lt D1184_tv)
        have ne_u1133_tv1184 : u1133 ≠ tv1184 := Nat.ne_of_lt (Nat.lt_of_lt_of_le E1179.lt D1184_tv)
        have ne_b11133_tv1184 : b11133 ≠ tv1184 := Nat.ne_of_lt (Nat.lt_of_lt_of_le A1182.lt D1184_tv)
        have ne_b1163_tv1184 : b1163 ≠ tv1184 := Nat.ne_of_lt (Nat.lt_of_lt_of_le O1174_0.lt D1184_tv)
        have N_tv1184 : n0 ≤ tv1184 := Nat.le_trans X1174.sz D1184_tv
        have Q_tv1184 : h0.size ≤ tv1184 := Nat.le_trans K1176.1 D1184_tv
        have O1185 : Old Z n0 h1184 := O1175.keep K1184 all0
        have K1186 : Keep h0 h1184 [] := K1176.trans K1184 all0
        have A1187 := A1177.keep K1184 nin0
        have A1188 := A1178.keep K1184 nin0
        have E1189 := E1179.keep K1184
        have F1190 := F1180.keep K1184 nin0
        have F1191 := F1181.keep K1184 nin0
        have A1192 := A1182.keep K1184 nin0
        have E1193 := O1174_0.keep K1184
        have F1194 := O1174_1.keep K1184 nin0
        have F1195 := O1174_2.keep K1184 nin0
        have M1184_ : h1184.size ≤ h1184.size := Nat.le_refl _
        show Go p e below _ n0 _ _ _ T1184 (mkF m 101 #[.val (.int x0), .val (.int x1), .val (.int x2), .val (.int x3), .val (.int x4), .val (.int (1 : Int32)), .val (.int (own_c8 x0)), .val (.int (own_c8 x1)), .val (.ref u1133), .val (.int x3), .unset, .unset, .unset, .unset, .unset, .unset] [(.ref u1184)])
        refine Go.astore C X1184 (pc' := 103) (Ls' := #[.val (.int x0), .val (.int x1), .val (.int x2), .val (.int x3), .val (.int x4), .val (.int (1 : Int32)), .val (.int (own_c8 x0)), .val (.int (own_c8 x1)), .val (.ref u1133), .val (.int x3), .val (.ref u1184), .unset, .unset, .unset, .unset, .unset]) at_101 rfl rfl rfl ?_
        refine Go.aload C X1184 (pc' := 105) at_103 rfl rfl rfl ?_
        refine Go.ifnonnullYes C X1184 (pc' := 110) at_105 (by decide) (by decide) ?_
        refine Go.iload C X1184 (pc' := 112) at_110 rfl rfl ?_
        refine Go.iconst C X1184 (pc' := 113) (v := (-1 : Int32)) at_112 rfl rfl ?_
        refine Go.icmpYes C X1184 (pc' := 124) at_113 (feq c1139).2 (by decide) (by decide) ?_
        refine Go.iload C X1184 (pc' := 126) at_124 rfl rfl ?_
        refine Go.i2l C X1184 (pc' := 127) at_126 rfl ?_
        refine Go.callS C X1184 (pc' := 130) (W := 0) (argsL := [(.long (x3).toInt64)]) (rest := []) (rm_ab l Z a0 hw (x3).toInt64 h1184 n0 X1184.sz ) (own_w hw 187 rfl) (own_w hw 188 rfl) (own_w hw 184 rfl) (own_w hw 189 rfl) (by decide) rfl rfl (lenOf own_pd34 rfl) rfl (Nat.le_of_eq rfl) (by decide) (by decide) (by decide) (by decide) at_127 rfl (fun _ _ q => Nat.le_of_eq (congrArg Array.size q.2)) (fun T1196 h1196 v1196 X1196 P1196 => ?_)
        obtain ⟨rfl, rfl⟩ := P1196
        show Go p e below _ n0 _ _ _ T1196 (mkF m 130 #[.val (.int x0), .val (.int x1), .val (.int x2), .val (.int x3), .val (.int x4), .val (.int (1 : Int32)), .val (.int (own_c8 x0)), .val (.int (own_c8 x1)), .val (.ref u1133), .val (.int x3), .val (.ref u1184), .unset, .unset, .unset, .unset, .unset] [(.long (own_f_rm_ab (x3).toInt64))])
        refine Go.lstore C X1196 (pc' := 132) (Ls' := #[.val (.int x0), .val (.int x1), .val (.int x2), .val (.int x3), .val (.int x4), .val (.int (1 : Int32)), .val (.int (own_c8 x0)), .val (.int (own_c8 x1)), .val (.ref u1133), .val (.int x3), .val (.ref u1184), .val (.long (own_f_rm_ab (x3).toInt64)), .second, .unset, .unset, .unset]) at_130 rfl rfl ?_
        refine Go.iload C X1196 (pc' := 134) at_132 rfl rfl ?_
        by_cases c1197 : x3 < (0 : Int32)
        · refine Go.ifNo C X1196 (pc' := 137) at_134 ((if0 _ _).trans (tlt c1197).2.1) rfl ?_
          refine Go.iconst C X1196 (pc' := 138) (v := (1 : Int32)) at_137 rfl rfl ?_
          refine Go.goto C X1196 (pc' := 142) at_138 (by decide) (by decide) ?_
          refine Go.istore C X1196 (pc' := 144) (Ls' := #[.val (.int x0), .val (.int x1), .val (.int x2), .val (.int x3), .val (.int x4), .val (.int (1 : Int32)), .val (.int (own_c8 x0)), .val (.int (own_c8 x1)), .val (.ref u1133), .val (.int x3), .val (.ref u1184), .val (.long (own_f_rm_ab (x3).toInt64)), .second, .val (.int (1 : Int32)), .unset, .unset]) at_142 rfl rfl ?_
          refine Go.lload C X1196 (pc' := 146) at_144 rfl rfl ?_
          refine Go.callS C X1196 (pc' := 149) (W := 0) (argsL := [(.long (own_f_rm_ab (x3).toInt64))]) (rest := []) (rm_dd l Z a0 hw (own_f_rm_ab (x3).toInt64) h1184 n0 X1196.sz ) (own_w hw 190 rfl) (own_w hw 191 rfl) (own_w hw 192 rfl) (own_w hw 193 rfl) (by decide) rfl rfl (lenOf own_pd35 rfl) rfl (Nat.le_of_eq rfl) (by decide) (by decide) (by decide) (by decide) at_146 rfl (fun _ _ q => Nat.le_of_eq (congrArg Array.size q.2)) (fun T1198 h1198 v1198 X1198 P1198 => ?_)
          obtain ⟨rfl, rfl⟩ := P1198
          show Go p e below _ n0 _ _ _ T1198 (mkF m 149 #[.val (.int x0), .val (.int x1), .val (.int x2), .val (.int x3), .val (.int x4), .val (.int (1 : Int32)), .val (.int (own_c8 x0)), .val (.int (own_c8 x1)), .val (.ref u1133), .val (.int x3), .val (.ref u1184), .val (.long (own_f_rm_ab (x3).toInt64)), .second, .val (.int (1 : Int32)), .unset, .unset] [(.int (own_f_rm_dd (own_f_rm_ab (x3).toInt64)))])
          refine Go.istore C X1198 (pc' := 151) (Ls' := #[.val (.int x0), .val (.int x1), .val (.int x2), .val (.int x3), .val (.int x4), .val (.int (1 : Int32)), .val (.int (own_c8 x0)), .val (.int (own_c8 x1)), .val (.ref u1133), .val (.int x3), .val (.ref u1184), .val (.long (own_f_rm_ab (x3).toInt64)), .second, .val (.int (1 : Int32)), .val (.int (own_f_rm_dd (own_f_rm_ab (x3).toInt64))), .unset]) at_149 rfl rfl ?_
          refine Go.iload C X1198 (pc' := 153) at_151 rfl rfl ?_
          refine Go.iconst C X1198 (pc' := 154) (v := (1 : Int32)) at_153 rfl rfl ?_
          refine Go.iadd C X1198 (pc' := 155) at_154 rfl ?_
          refine Go.iload C X1198 (pc' := 157) at_155 rfl rfl ?_
          refine Go.iadd C X1198 (pc' := 158) at_157 rfl ?_
          refine Go.iload C X1198 (pc' := 160) at_158 rfl rfl ?_
          refine Go.iadd C X1198 (pc' := 161) at_160 rfl ?_
          refine Go.istore C X1198 (pc' := 163) (Ls' := #[.val (.int x0), .val (.int x1), .val (.int x2), .val (.int x3), .val (.int x4), .val (.int (1 : Int32)), .val (.int (own_c8 x0)), .val (.int (own_c8 x1)), .val (.ref u1133), .val (.int x3), .val (.ref u1184), .val (.long (own_f_rm_ab (x3).toInt64)), .second, .val (.int (1 : Int32)), .val (.int (own_f_rm_dd (own_f_rm_ab (x3).toInt64))), .val (.int ((((1 : Int32) + (1 : Int32)) + (1 : Int32)) + (own_f_rm_dd (own_f_rm_ab (x3).toInt64))))]) at_161 rfl rfl ?_
          have hL : (((((1 : Int32) + (1 : Int32)) + (1 : Int32)) + (own_f_rm_dd (own_f_rm_ab (x3).toInt64)))).toInt = (((1 + 1 + (N + sg)) : Nat) : Int) := (own_len (a := (1 : Int32)) rfl (own_s6n hv c1197) hdd (by decide) (own_svs hv) hN)
          refine Go.aload C X1198 (pc' := 165) at_163 rfl rfl rfl ?_
          refine Go.callV C X1198 (pc' := 168) (W := 0) (argsL := []) (rest := []) (a := u1184) (rm_ln l Z a0 hw u1184 tv1184 (1 + 1 + (N + sg)) (own_fs (own_b1 (own_c8 x0)) 1 v N sg) ((((1 : Int32) + (1 : Int32)) + (1 : Int32)) + (own_f_rm_dd (own_f_rm_ab (x3).toInt64))) cs h1184 n0 X1198.sz O1185 hS O1184_0 O1184_1 O1184_2 O1184_3 hcs hL) O1184_0 (notFace_of_selects (args := #[]) (mvT C.2.1 (own_w hw 87 rfl))) (own_w hw 195 rfl) (own_w hw 85 rfl) (own_w hw 87 rfl) (own_w hw 86 rfl) (own_w hw 2 rfl) (own_w hw 88 rfl) (by decide) rfl rfl (lenOf own_pd12 rfl) rfl (Nat.le_of_eq rfl) (by decide) (by decide) (by decide) (by decide) at_165 rfl (fun _ _ q => Nat.le_of_eq (congrArg Array.size q.2)) (fun T1199 h1199 v1199 X1199 P1199 => ?_)
          obtain ⟨rfl, rfl⟩ := P1199
          show Go p e below _ n0 _ _ _ T1199 (mkF m 168 #[.val (.int x0), .val (.int x1), .val (.int x2), .val (.int x3), .val (.int x4), .val (.int (1 : Int32)), .val (.int (own_c8 x0)), .val (.int (own_c8 x1)), .val (.ref u1133), .val (.int x3), .val (.ref u1184), .val (.long (own_f_rm_ab (x3).toInt64)), .second, .val (.int (1 : Int32)), .val (.int (own_f_rm_dd (own_f_rm_ab (x3).toInt64))), .val (.int ((((1 : Int32) + (1 : Int32)) + (1 : Int32)) + (own_f_rm_dd (own_f_rm_ab (x3).toInt64))))] [(.int ((((1 : Int32) + (1 : Int32)) + (1 : Int32)) + (own_f_rm_dd (own_f_rm_ab (x3).toInt64))))])
          refine Go.iload C X1199 (pc' := 170) at_168 rfl rfl ?_
          refine Go.icmpYes C X1199 (pc' := 175) at_170 (teq rfl).1 (by decide) (by decide) ?_
          refine Go.aload C X1199 (pc' := 177) at_175 rfl rfl rfl ?_
          refine Go.iconst C X1199 (pc' := 178) (v := (0 : Int32)) at_177 rfl rfl ?_
          refine Go.iload C X1199 (pc' := 180) at_178 rfl rfl ?_
          refine Go.aload C X1199 (pc' := 182) at_180 rfl rfl rfl ?_
          refine Go.iload C X1199 (pc' := 184) at_182 rfl rfl ?_
          refine Go.iload C X1199 (pc' := 186) at_184 rfl rfl ?_
          refine Go.iload C X1199 (pc' := 188) at_186 rfl rfl ?_
          refine Go.lload C X1199 (pc' := 190) at_188 rfl rfl ?_
          refine Go.callS C X1199 (pc' := 193) (W := 0) (argsL := [(.ref u1184), (.int (0 : Int32)), (.int ((((1 : Int32) + (1 : Int32)) + (1 : Int32)) + (own_f_rm_dd (own_f_rm_ab (x3).toInt64)))), (.ref u1133), (.int (1 : Int32)), (.int (1 : Int32)), (.int (own_f_rm_dd (own_f_rm_ab (x3).toInt64))), (.long (own_f_rm_ab (x3).toInt64))]) (rest := []) (rm_cx l Z a0 hw u1184 (0 : Int32) ((((1 : Int32) + (1 : Int32)) + (1 : Int32)) + (own_f_rm_dd (own_f_rm_ab (x3).toInt64))) u1133 (1 : Int32) (1 : Int32) (own_f_rm_dd (own_f_rm_ab (x3).toInt64)) (own_f_rm_ab (x3).toInt64) tv1184 (own_fs (own_b1 (own_c8 x0)) 1 v N sg) ((((1 : Int32) + (1 : Int32)) + (1 : Int32)) + (own_f_rm_dd (own_f_rm_ab (x3).toInt64))) b11133 1 (own_b1 (own_c8 x0)) (1 : Int32) 0 sg N v cs sf h1184 n0 X1199.sz O1185 hS hSF O1184_0 O1184_1 O1184_2 O1184_3 E1189 F1190 F1191 A1192 hcs hsf rfl (by decide) rfl (own_s6n hv c1197) (own_svs hv) hdd hN hab rfl hL hL (own_key (own_svs hv) hd.1)) (own_w hw 196 rfl) (own_w hw 197 rfl) (own_w hw 192 rfl) (own_w hw 198 rfl) (by decide) rfl rfl (lenOf own_pd36 rfl) rfl (Nat.le_of_eq rfl) (by decide) (by decide) (by decide) (by decide) at_190 rfl (fun _ _ q => by obtain ⟨_, K⟩ := q; exact K.1) (fun T1200 h1200 v1200 X1200 P1200 => ?_)
          obtain ⟨rfl, K1200⟩ := P1200
          have O1201 : Old Z n0 h1200 := O1185.keep K1200 all0
          have E1202 := E1189.keep K1200
          have F1203 := F1190.keep K1200 nin0
          have F1204 := F1191.keep K1200 nin0
          have A1205 := A1192.keep K1200 nin0
          have E1206 := O1184_0.keep K1200
          have F1207 := O1184_1.keep K1200 nin0
          have F1208 := O1184_2.keep K1200 nin0
          have A1209 := O1184_3.keep K1200 nin0
          have M1210 : h1184.size ≤ h1200.size := Nat.le_trans M1184_ K1200.1
          show Go p e below _ n0 _ _ _ T1200 (mkF m 193 #[.val (.int x0), .val (.int x1), .val (.int x2), .val (.int x3), .val (.int x4), .val (.int (1 : Int32)), .val (.int (own_c8 x0)), .val (.int (own_c8 x1)), .val (.ref u1133), .val (.int x3), .val (.ref u1184), .val (.long (own_f_rm_ab (x3).toInt64)), .second, .val (.int (1 : Int32)), .val (.int (own_f_rm_dd (own_f_rm_ab (x3).toInt64))), .val (.int ((((1 : Int32) + (1 : Int32)) + (1 : Int32)) + (own_f_rm_dd (own_f_rm_ab (x3).toInt64))))] [(.int (1 : Int32))])
          refine Go.ifNo C X1200 (pc' := 196) at_193 ((if0 _ _).trans (feq (by decide)).1) rfl ?_
          refine Go.aload C X1200 (pc' := 198) at_196 rfl rfl rfl ?_
          refine Go.iconst C X1200 (pc' := 199) (v := (1 : Int32)) at_198 rfl rfl ?_
          refine Go.iload C X1200 (pc' := 201) at_199 rfl rfl ?_
          refine Go.aload C X1200 (pc' := 203) at_201 rfl rfl rfl ?_
          refine Go.iload C X1200 (pc' := 205) at_203 rfl rfl ?_
          refine Go.iload C X1200 (pc' := 207) at_205 rfl rfl ?_
          refine Go.iload C X1200 (pc' := 209) at_207 rfl rfl ?_
          refine Go.lload C X1200 (pc' := 211) at_209 rfl rfl ?_
          refine Go.callS C X1200 (pc' := 214) (W := 0) (argsL := [(.ref u1184), (.int (1 : Int32)), (.int ((((1 : Int32) + (1 : Int32)) + (1 : Int32)) + (own_f_rm_dd (own_f_rm_ab (x3).toInt64)))), (.ref u1133), (.int (1 : Int32)), (.int (1 : Int32)), (.int (own_f_rm_dd (own_f_rm_ab (x3).toInt64))), (.long (own_f_rm_ab (x3).toInt64))]) (rest := []) (rm_cx l Z a0 hw u1184 (1 : Int32) ((((1 : Int32) + (1 : Int32)) + (1 : Int32)) + (own_f_rm_dd (own_f_rm_ab (x3).toInt64))) u1133 (1 : Int32) (1 : Int32) (own_f_rm_dd (own_f_rm_ab (x3).toInt64)) (own_f_rm_ab (x3).toInt64) tv1184 (own_fs (own_b1 (own_c8 x0)) 1 v N sg) ((((1 : Int32) + (1 : Int32)) + (1 : Int32)) + (own_f_rm_dd (own_f_rm_ab (x3).toInt64))) b11133 1 (own_b1 (own_c8 x0)) (1 : Int32) 1 sg N v cs sf h1200 n0 X1200.sz O1201 hS hSF E1206 F1207 F1208 A1209 E1202 F1203 F1204 A1205 hcs hsf rfl (by decide) rfl (own_s6n hv c1197) (own_svs hv) hdd hN hab rfl hL hL (own_key (own_svs hv) hd.1)) (own_w hw 196 rfl) (own_w hw 197 rfl) (own_w hw 192 rfl) (own_w hw 198 rfl) (by decide) rfl rfl (lenOf own_pd36 rfl) rfl (Nat.le_of_eq rfl) (by decide) (by decide) (by decide) (by decide) at_211 rfl (fun _ _ q => by obtain ⟨_, K⟩ := q; exact K.1) (fun T1211 h1211 v1211 X1211 P1211 => ?_)
          obtain ⟨rfl, K1211⟩ := P1211
          have O1212 : Old Z n0 h1211 := O1201.keep K1211 all0
          have E1213 := E1202.keep K1211
          have F1214 := F1203.keep K1211 nin0
          have F1215 := F1204.keep K1211 nin0
          have A1216 := A1205.keep K1211 nin0
          have E1217 := E1206.keep K1211
          have F1218 := F1207.keep K1211 nin0
          have F1219 := F1208.keep K1211 nin0
          have A1220 := A1209.keep K1211 nin0
          have M1221 : h1184.size ≤ h1211.size := Nat.le_trans M1210 K1211.1
          show Go p e below _ n0 _ _ _ T1211 (mkF m 214 #[.val (.int x0), .val (.int x1), .val (.int x2), .val (.int x3), .val (.int x4), .val (.int (1 : Int32)), .val (.int (own_c8 x0)), .val (.int (own_c8 x1)), .val (.ref u1133), .val (.int x3), .val (.ref u1184), .val (.long (own_f_rm_ab (x3).toInt64)), .second, .val (.int (1 : Int32)), .val (.int (own_f_rm_dd (own_f_rm_ab (x3).toInt64))), .val (.int ((((1 : Int32) + (1 : Int32)) + (1 : Int32)) + (own_f_rm_dd (own_f_rm_ab (x3).toInt64))))] [(.int (1 : Int32))])
          refine Go.ifNo C X1211 (pc' := 217) at_214 ((if0 _ _).trans (feq (by decide)).1) rfl ?_
          refine Go.aload C X1211 (pc' := 219) at_217 rfl rfl rfl ?_
          refine Go.iconst C X1211 (pc' := 220) (v := (2 : Int32)) at_219 rfl rfl ?_
          refine Go.iload C X1211 (pc' := 222) at_220 rfl rfl ?_
          refine Go.aload C X1211 (pc' := 224) at_222 rfl rfl rfl ?_
          refine Go.iload C X1211 (pc' := 226) at_224 rfl rfl ?_
          refine Go.iload C X1211 (pc' := 228) at_226 rfl rfl ?_
          refine Go.iload C X1211 (pc' := 230) at_228 rfl rfl ?_
          refine Go.lload C X1211 (pc' := 232) at_230 rfl rfl ?_
          refine Go.callS C X1211 (pc' := 235) (W := 0) (argsL := [(.ref u1184), (.int (2 : Int32)), (.int ((((1 : Int32) + (1 : Int32)) + (1 : Int32)) + (own_f_rm_dd (own_f_rm_ab (x3).toInt64)))), (.ref u1133), (.int (1 : Int32)), (.int (1 : Int32)), (.int (own_f_rm_dd (own_f_rm_ab (x3).toInt64))), (.long (own_f_rm_ab (x3).toInt64))]) (rest := []) (rm_cx l Z a0 hw u1184 (2 : Int32) ((((1 : Int32) + (1 : Int32)) + (1 : Int32)) + (own_f_rm_dd (own_f_rm_ab (x3).toInt64))) u1133 (1 : Int32) (1 : Int32) (own_f_rm_dd (own_f_rm_ab (x3).toInt64)) (own_f_rm_ab (x3).toInt64) tv1184 (own_fs (own_b1 (own_c8 x0)) 1 v N sg) ((((1 : Int32) + (1 : Int32)) + (1 : Int32)) + (own_f_rm_dd (own_f_rm_ab (x3).toInt64))) b11133 1 (own_b1 (own_c8 x0)) (1 : Int32) 2 sg N v cs sf h1211 n0 X1211.sz O1212 hS hSF E1217 F1218 F1219 A1220 E1213 F1214 F1215 A1216 hcs hsf rfl (by decide) rfl (own_s6n hv c1197) (own_svs hv) hdd hN hab rfl hL hL (own_key (own_svs hv) hd.1)) (own_w hw 196 rfl) (own_w hw 197 rfl) (own_w hw 192 rfl) (own_w hw 198 rfl) (by decide) rfl rfl (lenOf own_pd36 rfl) rfl (Nat.le_of_eq rfl) (by decide) (by decide) (by decide) (by decide) at_232 rfl (fun _ _ q => by obtain ⟨_, K⟩ := q; exact K.1) (fun T1222 h1222 v1222 X1222 P1222 => ?_)
          obtain ⟨rfl, K1222⟩ := P1222
          have O1223 : Old Z n0 h1222 := O1212.keep K1222 all0
          have E1224 := E1213.keep K1222
          have F1225 := F1214.keep K1222 nin0
          have F1226 := F1215.keep K1222 nin0
          have A1227 := A1216.keep K1222 nin0
          have E1228 := E1217.keep K1222
          have F1229 := F1218.keep K1222 nin0
          have F1230 := F1219.keep K1222 nin0
          have A1231 := A1220.keep K1222 nin0
          have M1232 : h1184.size ≤ h1222.size := Nat.le_trans M1221 K1222.1
          show Go p e below _ n0 _ _ _ T1222 (mkF m 235 #[.val (.int x0), .val (.int x1), .val (.int x2), .val (.int x3), .val (.int x4), .val (.int (1 : Int32)), .val (.int (own_c8 x0)), .val (.int (own_c8 x1)), .val (.ref u1133), .val (.int x3), .val (.ref u1184), .val (.long (own_f_rm_ab (x3).toInt64)), .second, .val (.int (1 : Int32)), .val (.int (own_f_rm_dd (own_f_rm_ab (x3).toInt64))), .val (.int ((((1 : Int32) + (1 : Int32)) + (1 : Int32)) + (own_f_rm_dd (own_f_rm_ab (x3).toInt64))))] [(.int (1 : Int32))])
          refine Go.ifNo C X1222 (pc' := 238) at_235 ((if0 _ _).trans (feq (by decide)).1) rfl ?_
          refine Go.aload C X1222 (pc' := 240) at_238 rfl rfl rfl ?_
          refine Go.iconst C X1222 (pc' := 241) (v := (3 : Int32)) at_240 rfl rfl ?_
          refine Go.iload C X1222 (pc' := 243) at_241 rfl rfl ?_
          refine Go.aload C X1222 (pc' := 245) at_243 rfl rfl rfl ?_
          refine Go.iload C X1222 (pc' := 247) at_245 rfl rfl ?_
          refine Go.iload C X1222 (pc' := 249) at_247 rfl rfl ?_
          refine Go.iload C X1222 (pc' := 251) at_249 rfl rfl ?_
          refine Go.lload C X1222 (pc' := 253) at_251 rfl rfl ?_
          refine Go.callS C X1222 (pc' := 256) (W := 0) (argsL := [(.ref u1184), (.int (3 : Int32)), (.int ((((1 : Int32) + (1 : Int32)) + (1 : Int32)) + (own_f_rm_dd (own_f_rm_ab (x3).toInt64)))), (.ref u1133), (.int (1 : Int32)), (.int (1 : Int32)), (.int (own_f_rm_dd (own_f_rm_ab (x3).toInt64))), (.long (own_f_rm_ab (x3).toInt64))]) (rest := []) (rm_cx l Z a0 hw u1184 (3 : Int32) ((((1 : Int32) + (1 : Int32)) + (1 : Int32)) + (own_f_rm_dd (own_f_rm_ab (x3).toInt64))) u1133 (1 : Int32) (1 : Int32) (own_f_rm_dd (own_f_rm_ab (x3).toInt64)) (own_f_rm_ab (x3).toInt64) tv1184 (own_fs (own_b1 (own_c8 x0)) 1 v N sg) ((((1 : Int32) + (1 : Int32)) + (1 : Int32)) + (own_f_rm_dd (own_f_rm_ab (x3).toInt64))) b11133 1 (own_b1 (own_c8 x0)) (1 : Int32) 3 sg N v cs sf h1222 n0 X1222.sz O1223 hS hSF E1228 F1229 F1230 A1231 E1224 F1225 F1226 A1227 hcs hsf rfl (by decide) rfl (own_s6n hv c1197) (own_svs hv) hdd hN hab rfl hL hL (own_key (own_svs hv) hd.1)) (own_w hw 196 rfl) (own_w hw 197 rfl) (own_w hw 192 rfl) (own_w hw 198 rfl) (by decide) rfl rfl (lenOf own_pd36 rfl) rfl (Nat.le_of_eq rfl) (by decide) (by decide) (by decide) (by decide) at_253 rfl (fun _ _ q => by obtain ⟨_, K⟩ := q; exact K.1) (fun T1233 h1233 v1233 X1233 P1233 => ?_)
          obtain ⟨rfl, K1233⟩ := P1233
          have O1234 : Old Z n0 h1233 := O1223.keep K1233 all0
          have E1235 := E1224.keep K1233
          have F1236 := F1225.keep K1233 nin0
          have F1237 := F1226.keep K1233 nin0
          have A1238 := A1227.keep K1233 nin0
          have E1239 := E1228.keep K1233
          have F1240 := F1229.keep K1233 nin0
          have F1241 := F1230.keep K1233 nin0
          have A1242 := A1231.keep K1233 nin0
          have M1243 : h1184.size ≤ h1233.size := Nat.le_trans M1232 K1233.1
          show Go p e below _ n0 _ _ _ T1233 (mkF m 256 #[.val (.int x0), .val (.int x1), .val (.int x2), .val (.int x3), .val (.int x4), .val (.int (1 : Int32)), .val (.int (own_c8 x0)), .val (.int (own_c8 x1)), .val (.ref u1133), .val (.int x3), .val (.ref u1184), .val (.long (own_f_rm_ab (x3).toInt64)), .second, .val (.int (1 : Int32)), .val (.int (own_f_rm_dd (own_f_rm_ab (x3).toInt64))), .val (.int ((((1 : Int32) + (1 : Int32)) + (1 : Int32)) + (own_f_rm_dd (own_f_rm_ab (x3).toInt64))))] [(.int (1 : Int32))])
          refine Go.ifNo C X1233 (pc' := 259) at_256 ((if0 _ _).trans (feq (by decide)).1) rfl ?_
          refine Go.aload C X1233 (pc' := 261) at_259 rfl rfl rfl ?_
          refine Go.iconst C X1233 (pc' := 262) (v := (4 : Int32)) at_261 rfl rfl ?_
          refine Go.iload C X1233 (pc' := 264) at_262 rfl rfl ?_
          refine Go.aload C X1233 (pc' := 266) at_264 rfl rfl rfl ?_
          refine Go.iload C X1233 (pc' := 268) at_266 rfl rfl ?_
          refine Go.iload C X1233 (pc' := 270) at_268 rfl rfl ?_
          refine Go.iload C X1233 (pc' := 272) at_270 rfl rfl ?_
          refine Go.lload C X1233 (pc' := 274) at_272 rfl rfl ?_
          refine Go.callS C X1233 (pc' := 277) (W := 0) (argsL := [(.ref u1184), (.int (4 : Int32)), (.int ((((1 : Int32) + (1 : Int32)) + (1 : Int32)) + (own_f_rm_dd (own_f_rm_ab (x3).toInt64)))), (.ref u1133), (.int (1 : Int32)), (.int (1 : Int32)), (.int (own_f_rm_dd (own_f_rm_ab (x3).toInt64))), (.long (own_f_rm_ab (x3).toInt64))]) (rest := []) (rm_cx l Z a0 hw u1184 (4 : Int32) ((((1 : Int32) + (1 : Int32)) + (1 : Int32)) + (own_f_rm_dd (own_f_rm_ab (x3).toInt64))) u1133 (1 : Int32) (1 : Int32) (own_f_rm_dd (own_f_rm_ab (x3).toInt64)) (own_f_rm_ab (x3).toInt64) tv1184 (own_fs (own_b1 (own_c8 x0)) 1 v N sg) ((((1 : Int32) + (1 : Int32)) + (1 : Int32)) + (own_f_rm_dd (own_f_rm_ab (x3).toInt64))) b11133 1 (own_b1 (own_c8 x0)) (1 : Int32) 4 sg N v cs sf h1233 n0 X1233.sz O1234 hS hSF E1239 F1240 F1241 A1242 E1235 F1236 F1237 A1238 hcs hsf rfl (by decide) rfl (own_s6n hv c1197) (own_svs hv) hdd hN hab rfl hL hL (own_key (own_svs hv) hd.1)) (own_w hw 196 rfl) (own_w hw 197 rfl) (own_w hw 192 rfl) (own_w hw 198 rfl) (by decide) rfl rfl (lenOf own_pd36 rfl) rfl (Nat.le_of_eq rfl) (by decide) (by decide) (by decide) (by decide) at_274 rfl (fun _ _ q => by obtain ⟨_, K⟩ := q; exact K.1) (fun T1244 h1244 v1244 X1244 P1244 => ?_)
          obtain ⟨rfl, K1244⟩ := P1244
          have O1245 : Old Z n0 h1244 := O1234.keep K1244 all0
          have E1246 := E1235.keep K1244
          have F1247 := F1236.keep K1244 nin0
          have F1248 := F1237.keep K1244 nin0
          have A1249 := A1238.keep K1244 nin0
          have E1250 := E1239.keep K1244
          have F1251 := F1240.keep K1244 nin0
          have F1252 := F1241.keep K1244 nin0
          have A1253 := A1242.keep K1244 nin0
          have M1254 : h1184.size ≤ h1244.size := Nat.le_trans M1243 K1244.1
          show Go p e below _ n0 _ _ _ T1244 (mkF m 277 #[.val (.int x0), .val (.int x1), .val (.int x2), .val (.int x3), .val (.int x4), .val (.int (1 : Int32)), .val (.int (own_c8 x0)), .val (.int (own_c8 x1)), .val (.ref u1133), .val (.int x3), .val (.ref u1184), .val (.long (own_f_rm_ab (x3).toInt64)), .second, .val (.int (1 : Int32)), .val (.int (own_f_rm_dd (own_f_rm_ab (x3).toInt64))), .val (.int ((((1 : Int32) + (1 : Int32)) + (1 : Int32)) + (own_f_rm_dd (own_f_rm_ab (x3).toInt64))))] [(.int (1 : Int32))])
          refine Go.ifNo C X1244 (pc' := 280) at_277 ((if0 _ _).trans (feq (by decide)).1) rfl ?_
          refine Go.aload C X1244 (pc' := 282) at_280 rfl rfl rfl ?_
          refine Go.iconst C X1244 (pc' := 283) (v := (5 : Int32)) at_282 rfl rfl ?_
          refine Go.iload C X1244 (pc' := 285) at_283 rfl rfl ?_
          refine Go.aload C X1244 (pc' := 287) at_285 rfl rfl rfl ?_
          refine Go.iload C X1244 (pc' := 289) at_287 rfl rfl ?_
          refine Go.iload C X1244 (pc' := 291) at_289 rfl rfl ?_
          refine Go.iload C X1244 (pc' := 293) at_291 rfl rfl ?_
          refine Go.lload C X1244 (pc' := 295) at_293 rfl rfl ?_
          refine Go.callS C X1244 (pc' := 298) (W := 0) (argsL := [(.ref u1184), (.int (5 : Int32)), (.int ((((1 : Int32) + (1 : Int32)) + (1 : Int32)) + (own_f_rm_dd (own_f_rm_ab (x3).toInt64)))), (.ref u1133), (.int (1 : Int32)), (.int (1 : Int32)), (.int (own_f_rm_dd (own_f_rm_ab (x3).toInt64))), (.long (own_f_rm_ab (x3).toInt64))]) (rest := []) (rm_cx l Z a0 hw u1184 (5 : Int32) ((((1 : Int32) + (1 : Int32)) + (1 : Int32)) + (own_f_rm_dd (own_f_rm_ab (x3).toInt64))) u1133 (1 : Int32) (1 : Int32) (own_f_rm_dd (own_f_rm_ab (x3).toInt64)) (own_f_rm_ab (x3).toInt64) tv1184 (own_fs (own_b1 (own_c8 x0)) 1 v N sg) ((((1 : Int32) + (1 : Int32)) + (1 : Int32)) + (own_f_rm_dd (own_f_rm_ab (x3).toInt64))) b11133 1 (own_b1 (own_c8 x0)) (1 : Int32) 5 sg N v cs sf h1244 n0 X1244.sz O1245 hS hSF E1250 F1251 F1252 A1253 E1246 F1247 F1248 A1249 hcs hsf rfl (by decide) rfl (own_s6n hv c1197) (own_svs hv) hdd hN hab rfl hL hL (own_key (own_svs hv) hd.1)) (own_w hw 196 rfl) (own_w hw 197 rfl) (own_w hw 192 rfl) (own_w hw 198 rfl) (by decide) rfl rfl (lenOf own_pd36 rfl) rfl (Nat.le_of_eq rfl) (by decide) (by decide) (by decide) (by decide) at_295 rfl (fun _ _ q => by obtain ⟨_, K⟩ := q; exact K.1) (fun T1255 h1255 v1255 X1255 P1255 => ?_)
          obtain ⟨rfl, K1255⟩ := P1255
          have O1256 : Old Z n0 h1255 := O1245.keep K1255 all0
          have E1257 := E1246.keep K1255
          have F1258 := F1247.keep K1255 nin0
          have F1259 := F1248.keep K1255 nin0
          have A1260 := A1249.keep K1255 nin0
          have E1261 := E1250.keep K1255
          have F1262 := F1251.keep K1255 nin0
          have F1263 := F1252.keep K1255 nin0
          have A1264 := A1253.keep K1255 nin0
          have M1265 : h1184.size ≤ h1255.size := Nat.le_trans M1254 K1255.1
          show Go p e below _ n0 _ _ _ T1255 (mkF m 298 #[.val (.int x0), .val (.int x1), .val (.int x2), .val (.int x3), .val (.int x4), .val (.int (1 : Int32)), .val (.int (own_c8 x0)), .val (.int (own_c8 x1)), .val (.ref u1133), .val (.int x3), .val (.ref u1184), .val (.long (own_f_rm_ab (x3).toInt64)), .second, .val (.int (1 : Int32)), .val (.int (own_f_rm_dd (own_f_rm_ab (x3).toInt64))), .val (.int ((((1 : Int32) + (1 : Int32)) + (1 : Int32)) + (own_f_rm_dd (own_f_rm_ab (x3).toInt64))))] [(.int (1 : Int32))])
          refine Go.ifNo C X1255 (pc' := 301) at_298 ((if0 _ _).trans (feq (by decide)).1) rfl ?_
          refine Go.aload C X1255 (pc' := 303) at_301 rfl rfl rfl ?_
          refine Go.bipush C X1255 (pc' := 305) (v := (6 : Int32)) at_303 rfl rfl ?_
          refine Go.iload C X1255 (pc' := 307) at_305 rfl rfl ?_
          refine Go.aload C X1255 (pc' := 309) at_307 rfl rfl rfl ?_
          refine Go.iload C X1255 (pc' := 311) at_309 rfl rfl ?_
          refine Go.iload C X1255 (pc' := 313) at_311 rfl rfl ?_
          refine Go.iload C X1255 (pc' := 315) at_313 rfl rfl ?_
          refine Go.lload C X1255 (pc' := 317) at_315 rfl rfl ?_
          refine Go.callS C X1255 (pc' := 320) (W := 0) (argsL := [(.ref u1184), (.int (6 : Int32)), (.int ((((1 : Int32) + (1 : Int32)) + (1 : Int32)) + (own_f_rm_dd (own_f_rm_ab (x3).toInt64)))), (.ref u1133), (.int (1 : Int32)), (.int (1 : Int32)), (.int (own_f_rm_dd (own_f_rm_ab (x3).toInt64))), (.long (own_f_rm_ab (x3).toInt64))]) (rest := []) (rm_cx l Z a0 hw u1184 (6 : Int32) ((((1 : Int32) + (1 : Int32)) + (1 : Int32)) + (own_f_rm_dd (own_f_rm_ab (x3).toInt64))) u1133 (1 : Int32) (1 : Int32) (own_f_rm_dd (own_f_rm_ab (x3).toInt64)) (own_f_rm_ab (x3).toInt64) tv1184 (own_fs (own_b1 (own_c8 x0)) 1 v N sg) ((((1 : Int32) + (1 : Int32)) + (1 : Int32)) + (own_f_rm_dd (own_f_rm_ab (x3).toInt64))) b11133 1 (own_b1 (own_c8 x0)) (1 : Int32) 6 sg N v cs sf h1255 n0 X1255.sz O1256 hS hSF E1261 F1262 F1263 A1264 E1257 F1258 F1259 A1260 hcs hsf rfl (by decide) rfl (own_s6n hv c1197) (own_svs hv) hdd hN hab rfl hL hL (own_key (own_svs hv) hd.1)) (own_w hw 196 rfl) (own_w hw 197 rfl) (own_w hw 192 rfl) (own_w hw 198 rfl) (by decide) rfl rfl (lenOf own_pd36 rfl) rfl (Nat.le_of_eq rfl) (by decide) (by decide) (by decide) (by decide) at_317 rfl (fun _ _ q => by obtain ⟨_, K⟩ := q; exact K.1) (fun T1266 h1266 v1266 X1266 P1266 => ?_)
          obtain ⟨rfl, K1266⟩ := P1266
          have O1267 : Old Z n0 h1266 := O1256.keep K1266 all0
          have E1268 := E1257.keep K1266
          have F1269 := F1258.keep K1266 nin0
          have F1270 := F1259.keep K1266 nin0
          have A1271 := A1260.keep K1266 nin0
          have E1272 := E1261.keep K1266
          have F1273 := F1262.keep K1266 nin0
          have F1274 := F1263.keep K1266 nin0
          have A1275 := A1264.keep K1266 nin0
          have M1276 : h1184.size ≤ h1266.size := Nat.le_trans M1265 K1266.1
          show Go p e below _ n0 _ _ _ T1266 (mkF m 320 #[.val (.int x0), .val (.int x1), .val (.int x2), .val (.int x3), .val (.int x4), .val (.int (1 : Int32)), .val (.int (own_c8 x0)), .val (.int (own_c8 x1)), .val (.ref u1133), .val (.int x3), .val (.ref u1184), .val (.long (own_f_rm_ab (x3).toInt64)), .second, .val (.int (1 : Int32)), .val (.int (own_f_rm_dd (own_f_rm_ab (x3).toInt64))), .val (.int ((((1 : Int32) + (1 : Int32)) + (1 : Int32)) + (own_f_rm_dd (own_f_rm_ab (x3).toInt64))))] [(.int (1 : Int32))])
          refine Go.ifNo C X1266 (pc' := 323) at_320 ((if0 _ _).trans (feq (by decide)).1) rfl ?_
          refine Go.aload C X1266 (pc' := 325) at_323 rfl rfl rfl ?_
          refine Go.bipush C X1266 (pc' := 327) (v := (7 : Int32)) at_325 rfl rfl ?_
          refine Go.iload C X1266 (pc' := 329) at_327 rfl rfl ?_
          refine Go.aload C X1266 (pc' := 331) at_329 rfl rfl rfl ?_
          refine Go.iload C X1266 (pc' := 333) at_331 rfl rfl ?_
          refine Go.iload C X1266 (pc' := 335) at_333 rfl rfl ?_
          refine Go.iload C X1266 (pc' := 337) at_335 rfl rfl ?_
          refine Go.lload C X1266 (pc' := 339) at_337 rfl rfl ?_
          refine Go.callS C X1266 (pc' := 342) (W := 0) (argsL := [(.ref u1184), (.int (7 : Int32)), (.int ((((1 : Int32) + (1 : Int32)) + (1 : Int32)) + (own_f_rm_dd (own_f_rm_ab (x3).toInt64)))), (.ref u1133), (.int (1 : Int32)), (.int (1 : Int32)), (.int (own_f_rm_dd (own_f_rm_ab (x3).toInt64))), (.long (own_f_rm_ab (x3).toInt64))]) (rest := []) (rm_cx l Z a0 hw u1184 (7 : Int32) ((((1 : Int32) + (1 : Int32)) + (1 : Int32)) + (own_f_rm_dd (own_f_rm_ab (x3).toInt64))) u1133 (1 : Int32) (1 : Int32) (own_f_rm_dd (own_f_rm_ab (x3).toInt64)) (own_f_rm_ab (x3).toInt64) tv1184 (own_fs (own_b1 (own_c8 x0)) 1 v N sg) ((((1 : Int32) + (1 : Int32)) + (1 : Int32)) + (own_f_rm_dd (own_f_rm_ab (x3).toInt64))) b11133 1 (own_b1 (own_c8 x0)) (1 : Int32) 7 sg N v cs sf h1266 n0 X1266.sz O1267 hS hSF E1272 F1273 F1274 A1275 E1268 F1269 F1270 A1271 hcs hsf rfl (by decide) rfl (own_s6n hv c1197) (own_svs hv) hdd hN hab rfl hL hL (own_key (own_svs hv) hd.1)) (own_w hw 196 rfl) (own_w hw 197 rfl) (own_w hw 192 rfl) (own_w hw 198 rfl) (by decide) rfl rfl (lenOf own_pd36 rfl) rfl (Nat.le_of_eq rfl) (by decide) (by decide) (by decide) (by decide) at_339 rfl (fun _ _ q => by obtain ⟨_, K⟩ := q; exact K.1) (fun T1277 h1277 v1277 X1277 P1277 => ?_)
          obtain ⟨rfl, K1277⟩ := P1277
          have O1278 : Old Z n0 h1277 := O1267.keep K1277 all0
          have E1279 := E1268.keep K1277
          have F1280 := F1269.keep K1277 nin0
          have F1281 := F1270.keep K1277 nin0
          have A1282 := A1271.keep K1277 nin0
          have E1283 := E1272.keep K1277
          have F1284 := F1273.keep K1277 nin0
          have F1285 := F1274.keep K1277 nin0
          have A1286 := A1275.keep K1277 nin0
          have M1287 : h1184.size ≤ h1277.size := Nat.le_trans M1276 K1277.1
          show Go p e below _ n0 _ _ _ T1277 (mkF m 342 #[.val (.int x0), .val (.int x1), .val (.int x2), .val (.int x3), .val (.int x4), .val (.int (1 : Int32)), .val (.int (own_c8 x0)), .val (.int (own_c8 x1)), .val (.ref u1133), .val (.int x3), .val (.ref u1184), .val (.long (own_f_rm_ab (x3).toInt64)), .second, .val (.int (1 : Int32)), .val (.int (own_f_rm_dd (own_f_rm_ab (x3).toInt64))), .val (.int ((((1 : Int32) + (1 : Int32)) + (1 : Int32)) + (own_f_rm_dd (own_f_rm_ab (x3).toInt64))))] [(.int (1 : Int32))])
          refine Go.ifNo C X1277 (pc' := 345) at_342 ((if0 _ _).trans (feq (by decide)).1) rfl ?_
          refine Go.aload C X1277 (pc' := 347) at_345 rfl rfl rfl ?_
          refine Go.bipush C X1277 (pc' := 349) (v := (8 : Int32)) at_347 rfl rfl ?_
          refine Go.iload C X1277 (pc' := 351) at_349 rfl rfl ?_
          refine Go.aload C X1277 (pc' := 353) at_351 rfl rfl rfl ?_
          refine Go.iload C X1277 (pc' := 355) at_353 rfl rfl ?_
          refine Go.iload C X1277 (pc' := 357) at_355 rfl rfl ?_
          refine Go.iload C X1277 (pc' := 359) at_357 rfl rfl ?_
          refine Go.lload C X1277 (pc' := 361) at_359 rfl rfl ?_
          refine Go.callS C X1277 (pc' := 364) (W := 0) (argsL := [(.ref u1184), (.int (8 : Int32)), (.int ((((1 : Int32) + (1 : Int32)) + (1 : Int32)) + (own_f_rm_dd (own_f_rm_ab (x3).toInt64)))), (.ref u1133), (.int (1 : Int32)), (.int (1 : Int32)), (.int (own_f_rm_dd (own_f_rm_ab (x3).toInt64))), (.long (own_f_rm_ab (x3).toInt64))]) (rest := []) (rm_cx l Z a0 hw u1184 (8 : Int32) ((((1 : Int32) + (1 : Int32)) + (1 : Int32)) + (own_f_rm_dd (own_f_rm_ab (x3).toInt64))) u1133 (1 : Int32) (1 : Int32) (own_f_rm_dd (own_f_rm_ab (x3).toInt64)) (own_f_rm_ab (x3).toInt64) tv1184 (own_fs (own_b1 (own_c8 x0)) 1 v N sg) ((((1 : Int32) + (1 : Int32)) + (1 : Int32)) + (own_f_rm_dd (own_f_rm_ab (x3).toInt64))) b11133 1 (own_b1 (own_c8 x0)) (1 : Int32) 8 sg N v cs sf h1277 n0 X1277.sz O1278 hS hSF E1283 F1284 F1285 A1286 E1279 F1280 F1281 A1282 hcs hsf rfl (by decide) rfl (own_s6n hv c1197) (own_svs hv) hdd hN hab rfl hL hL (own_key (own_svs hv) hd.1)) (own_w hw 196 rfl) (own_w hw 197 rfl) (own_w hw 192 rfl) (own_w hw 198 rfl) (by decide) rfl rfl (lenOf own_pd36 rfl) rfl (Nat.le_of_eq rfl) (by decide) (by decide) (by decide) (by decide) at_361 rfl (fun _ _ q => by obtain ⟨_, K⟩ := q; exact K.1) (fun T1288 h1288 v1288 X1288 P1288 => ?_)
          obtain ⟨rfl, K1288⟩ := P1288
          have O1289 : Old Z n0 h1288 := O1278.keep K1288 all0
          have E1290 := E1279.keep K1288
          have F1291 := F1280.keep K1288 nin0
          have F1292 := F1281.keep K1288 nin0
          have A1293 := A1282.keep K1288 nin0
          have E1294 := E1283.keep K1288
          have F1295 := F1284.keep K1288 nin0
          have F1296 := F1285.keep K1288 nin0
          have A1297 := A1286.keep K1288 nin0
          have M1298 : h1184.size ≤ h1288.size := Nat.le_trans M1287 K1288.1
          show Go p e below _ n0 _ _ _ T1288 (mkF m 364 #[.val (.int x0), .val (.int x1), .val (.int x2), .val (.int x3), .val (.int x4), .val (.int (1 : Int32)), .val (.int (own_c8 x0)), .val (.int (own_c8 x1)), .val (.ref u1133), .val (.int x3), .val (.ref u1184), .val (.long (own_f_rm_ab (x3).toInt64)), .second, .val (.int (1 : Int32)), .val (.int (own_f_rm_dd (own_f_rm_ab (x3).toInt64))), .val (.int ((((1 : Int32) + (1 : Int32)) + (1 : Int32)) + (own_f_rm_dd (own_f_rm_ab (x3).toInt64))))] [(.int (1 : Int32))])
          refine Go.ifNo C X1288 (pc' := 367) at_364 ((if0 _ _).trans (feq (by decide)).1) rfl ?_
          refine Go.aload C X1288 (pc' := 369) at_367 rfl rfl rfl ?_
          refine Go.bipush C X1288 (pc' := 371) (v := (9 : Int32)) at_369 rfl rfl ?_
          refine Go.iload C X1288 (pc' := 373) at_371 rfl rfl ?_
          refine Go.aload C X1288 (pc' := 375) at_373 rfl rfl rfl ?_
          refine Go.iload C X1288 (pc' := 377) at_375 rfl rfl ?_
          refine Go.iload C X1288 (pc' := 379) at_377 rfl rfl ?_
          refine Go.iload C X1288 (pc' := 381) at_379 rfl rfl ?_
          refine Go.lload C X1288 (pc' := 383) at_381 rfl rfl ?_
          refine Go.callS C X1288 (pc' := 386) (W := 0) (argsL := [(.ref u1184), (.int (9 : Int32)), (.int ((((1 : Int32) + (1 : Int32)) + (1 : Int32)) + (own_f_rm_dd (own_f_rm_ab (x3).toInt64)))), (.ref u1133), (.int (1 : Int32)), (.int (1 : Int32)), (.int (own_f_rm_dd (own_f_rm_ab (x3).toInt64))), (.long (own_f_rm_ab (x3).toInt64))]) (rest := []) (rm_cx l Z a0 hw u1184 (9 : Int32) ((((1 : Int32) + (1 : Int32)) + (1 : Int32)) + (own_f_rm_dd (own_f_rm_ab (x3).toInt64))) u1133 (1 : Int32) (1 : Int32) (own_f_rm_dd (own_f_rm_ab (x3).toInt64)) (own_f_rm_ab (x3).toInt64) tv1184 (own_fs (own_b1 (own_c8 x0)) 1 v N sg) ((((1 : Int32) + (1 : Int32)) + (1 : Int32)) + (own_f_rm_dd (own_f_rm_ab (x3).toInt64))) b11133 1 (own_b1 (own_c8 x0)) (1 : Int32) 9 sg N v cs sf h1288 n0 X1288.sz O1289 hS hSF E1294 F1295 F1296 A1297 E1290 F1291 F1292 A1293 hcs hsf rfl (by decide) rfl (own_s6n hv c1197) (own_svs hv) hdd hN hab rfl hL hL (own_key (own_svs hv) hd.1)) (own_w hw 196 rfl) (own_w hw 197 rfl) (own_w hw 192 rfl) (own_w hw 198 rfl) (by decide) rfl rfl (lenOf own_pd36 rfl) rfl (Nat.le_of_eq rfl) (by decide) (by decide) (by decide) (by decide) at_383 rfl (fun _ _ q => by obtain ⟨_, K⟩ := q; exact K.1) (fun T1299 h1299 v1299 X1299 P1299 => ?_)
          obtain ⟨rfl, K1299⟩ := P1299
          have O1300 : Old Z n0 h1299 := O1289.keep K1299 all0
          have E1301 := E1290.keep K1299
          have F1302 := F1291.keep K1299 nin0
          have F1303 := F1292.keep K1299 nin0
          have A1304 := A1293.keep K1299 nin0
          have E1305 := E1294.keep K1299
          have F1306 := F1295.keep K1299 nin0
          have F1307 := F1296.keep K1299 nin0
          have A1308 := A1297.keep K1299 nin0
          have M1309 : h1184.size ≤ h1299.size := Nat.le_trans M1298 K1299.1
          show Go p e below _ n0 _ _ _ T1299 (mkF m 386 #[.val (.int x0), .val (.int x1), .val (.int x2), .val (.int x3), .val (.int x4), .val (.int (1 : Int32)), .val (.int (own_c8 x0)), .val (.int (own_c8 x1)), .val (.ref u1133), .val (.int x3), .val (.ref u1184), .val (.long (own_f_rm_ab (x3).toInt64)), .second, .val (.int (1 : Int32)), .val (.int (own_f_rm_dd (own_f_rm_ab (x3).toInt64))), .val (.int ((((1 : Int32) + (1 : Int32)) + (1 : Int32)) + (own_f_rm_dd (own_f_rm_ab (x3).toInt64))))] [(.int (1 : Int32))])
          refine Go.ifNo C X1299 (pc' := 389) at_386 ((if0 _ _).trans (feq (by decide)).1) rfl ?_
          refine Go.aload C X1299 (pc' := 391) at_389 rfl rfl rfl ?_
          refine Go.bipush C X1299 (pc' := 393) (v := (10 : Int32)) at_391 rfl rfl ?_
          refine Go.iload C X1299 (pc' := 395) at_393 rfl rfl ?_
          refine Go.aload C X1299 (pc' := 397) at_395 rfl rfl rfl ?_
          refine Go.iload C X1299 (pc' := 399) at_397 rfl rfl ?_
          refine Go.iload C X1299 (pc' := 401) at_399 rfl rfl ?_
          refine Go.iload C X1299 (pc' := 403) at_401 rfl rfl ?_
          refine Go.lload C X1299 (pc' := 405) at_403 rfl rfl ?_
          refine Go.callS C X1299 (pc' := 408) (W := 0) (argsL := [(.ref u1184), (.int (10 : Int32)), (.int ((((1 : Int32) + (1 : Int32)) + (1 : Int32)) + (own_f_rm_dd (own_f_rm_ab (x3).toInt64)))), (.ref u1133), (.int (1 : Int32)), (.int (1 : Int32)), (.int (own_f_rm_dd (own_f_rm_ab (x3).toInt64))), (.long (own_f_rm_ab (x3).toInt64))]) (rest := []) (rm_cx l Z a0 hw u1184 (10 : Int32) ((((1 : Int32) + (1 : Int32)) + (1 : Int32)) + (own_f_rm_dd (own_f_rm_ab (x3).toInt64))) u1133 (1 : Int32) (1 : Int32) (own_f_rm_dd (own_f_rm_ab (x3).toInt64)) (own_f_rm_ab (x3).toInt64) tv1184 (own_fs (own_b1 (own_c8 x0)) 1 v N sg) ((((1 : Int32) + (1 : Int32)) + (1 : Int32)) + (own_f_rm_dd (own_f_rm_ab (x3).toInt64))) b11133 1 (own_b1 (own_c8 x0)) (1 : Int32) 10 sg N v cs sf h1299 n0 X1299.sz O1300 hS hSF E1305 F1306 F1307 A1308 E1301 F1302 F1303 A1304 hcs hsf rfl (by decide) rfl (own_s6n hv c1197) (own_svs hv) hdd hN hab rfl hL hL (own_key (own_svs hv) hd.1)) (own_w hw 196 rfl) (own_w hw 197 rfl) (own_w hw 192 rfl) (own_w hw 198 rfl) (by decide) rfl rfl (lenOf own_pd36 rfl) rfl (Nat.le_of_eq rfl) (by decide) (by decide) (by decide) (by decide) at_405 rfl (fun _ _ q => by obtain ⟨_, K⟩ := q; exact K.1) (fun T1310 h1310 v1310 X1310 P1310 => ?_)
          obtain ⟨rfl, K1310⟩ := P1310
          have O1311 : Old Z n0 h1310 := O1300.keep K1310 all0
          have E1312 := E1301.keep K1310
          have F1313 := F1302.keep K1310 nin0
          have F1314 := F1303.keep K1310 nin0
          have A1315 := A1304.keep K1310 nin0
          have E1316 := E1305.keep K1310
          have F1317 := F1306.keep K1310 nin0
          have F1318 := F1307.keep K1310 nin0
          have A1319 := A1308.keep K1310 nin0
          have M1320 : h1184.size ≤ h1310.size := Nat.le_trans M1309 K1310.1
          show Go p e below _ n0 _ _ _ T1310 (mkF m 408 #[.val (.int x0), .val (.int x1), .val (.int x2), .val (.int x3), .val (.int x4), .val (.int (1 : Int32)), .val (.int (own_c8 x0)), .val (.int (own_c8 x1)), .val (.ref u1133), .val (.int x3), .val (.ref u1184), .val (.long (own_f_rm_ab (x3).toInt64)), .second, .val (.int (1 : Int32)), .val (.int (own_f_rm_dd (own_f_rm_ab (x3).toInt64))), .val (.int ((((1 : Int32) + (1 : Int32)) + (1 : Int32)) + (own_f_rm_dd (own_f_rm_ab (x3).toInt64))))] [(.int (1 : Int32))])
          refine Go.ifNo C X1310 (pc' := 411) at_408 ((if0 _ _).trans (feq (by decide)).1) rfl ?_
          refine Go.aload C X1310 (pc' := 413) at_411 rfl rfl rfl ?_
          refine Go.bipush C X1310 (pc' := 415) (v := (11 : Int32)) at_413 rfl rfl ?_
          refine Go.iload C X1310 (pc' := 417) at_415 rfl rfl ?_
          refine Go.aload C X1310 (pc' := 419) at_417 rfl rfl rfl ?_
          refine Go.iload C X1310 (pc' := 421) at_419 rfl rfl ?_
          refine Go.iload C X1310 (pc' := 423) at_421 rfl rfl ?_
          refine Go.iload C X1310 (pc' := 425) at_423 rfl rfl ?_
          refine Go.lload C X1310 (pc' := 427) at_425 rfl rfl ?_
          refine Go.callS C X1310 (pc' := 430) (W := 0) (argsL := [(.ref u1184), (.int (11 : Int32)), (.int ((((1 : Int32) + (1 : Int32)) + (1 : Int32)) + (own_f_rm_dd (own_f_rm_ab (x3).toInt64)))), (.ref u1133), (.int (1 : Int32)), (.int (1 : Int32)), (.int (own_f_rm_dd (own_f_rm_ab (x3).toInt64))), (.long (own_f_rm_ab (x3).toInt64))]) (rest := []) (rm_cx l Z a0 hw u1184 (11 : Int32) ((((1 : Int32) + (1 : Int32)) + (1 : Int32)) + (own_f_rm_dd (own_f_rm_ab (x3).toInt64))) u1133 (1 : Int32) (1 : Int32) (own_f_rm_dd (own_f_rm_ab (x3).toInt64)) (own_f_rm_ab (x3).toInt64) tv1184 (own_fs (own_b1 (own_c8 x0)) 1 v N sg) ((((1 : Int32) + (1 : Int32)) + (1 : Int32)) + (own_f_rm_dd (own_f_rm_ab (x3).toInt64))) b11133 1 (own_b1 (own_c8 x0)) (1 : Int32) 11 sg N v cs sf h1310 n0 X1310.sz O1311 hS hSF E1316 F1317 F1318 A1319 E1312 F1313 F1314 A1315 hcs hsf rfl (by decide) rfl (own_s6n hv c1197) (own_svs hv) hdd hN hab rfl hL hL (own_key (own_svs hv) hd.1)) (own_w hw 196 rfl) (own_w hw 197 rfl) (own_w hw 192 rfl) (own_w hw 198 rfl) (by decide) rfl rfl (lenOf own_pd36 rfl) rfl (Nat.le_of_eq rfl) (by decide) (by decide) (by decide) (by decide) at_427 rfl (fun _ _ q => by obtain ⟨_, K⟩ := q; exact K.1) (fun T1321 h1321 v1321 X1321 P1321 => ?_)
          obtain ⟨rfl, K1321⟩ := P1321
          have O1322 : Old Z n0 h1321 := O1311.keep K1321 all0
          have E1323 := E1312.keep K1321
          have F1324 := F1313.keep K1321 nin0
          have F1325 := F1314.keep K1321 nin0
          have A1326 := A1315.keep K1321 nin0
          have E1327 := E1316.keep K1321
          have F1328 := F1317.keep K1321 nin0
          have F1329 := F1318.keep K1321 nin0
          have A1330 := A1319.keep K1321 nin0
          have M1331 : h1184.size ≤ h1321.size := Nat.le_trans M1320 K1321.1
          show Go p e below _ n0 _ _ _ T1321 (mkF m 430 #[.val (.int x0), .val (.int x1), .val (.int x2), .val (.int x3), .val (.int x4), .val (.int (1 : Int32)), .val (.int (own_c8 x0)), .val (.int (own_c8 x1)), .val (.ref u1133), .val (.int x3), .val (.ref u1184), .val (.long (own_f_rm_ab (x3).toInt64)), .second, .val (.int (1 : Int32)), .val (.int (own_f_rm_dd (own_f_rm_ab (x3).toInt64))), .val (.int ((((1 : Int32) + (1 : Int32)) + (1 : Int32)) + (own_f_rm_dd (own_f_rm_ab (x3).toInt64))))] [(.int (1 : Int32))])
          refine Go.ifNo C X1321 (pc' := 433) at_430 ((if0 _ _).trans (feq (by decide)).1) rfl ?_
          refine Go.aload C X1321 (pc' := 435) at_433 rfl rfl rfl ?_
          refine Go.bipush C X1321 (pc' := 437) (v := (12 : Int32)) at_435 rfl rfl ?_
          refine Go.iload C X1321 (pc' := 439) at_437 rfl rfl ?_
          refine Go.aload C X1321 (pc' := 441) at_439 rfl rfl rfl ?_
          refine Go.iload C X1321 (pc' := 443) at_441 rfl rfl ?_
          refine Go.iload C X1321 (pc' := 445) at_443 rfl rfl ?_
          refine Go.iload C X1321 (pc' := 447) at_445 rfl rfl ?_
          refine Go.lload C X1321 (pc' := 449) at_447 rfl rfl ?_
          refine Go.callS C X1321 (pc' := 452) (W := 0) (argsL := [(.ref u1184), (.int (12 : Int32)), (.int ((((1 : Int32) + (1 : Int32)) + (1 : Int32)) + (own_f_rm_dd (own_f_rm_ab (x3).toInt64)))), (.ref u1133), (.int (1 : Int32)), (.int (1 : Int32)), (.int (own_f_rm_dd (own_f_rm_ab (x3).toInt64))), (.long (own_f_rm_ab (x3).toInt64))]) (rest := []) (rm_cx l Z a0 hw u1184 (12 : Int32) ((((1 : Int32) + (1 : Int32)) + (1 : Int32)) + (own_f_rm_dd (own_f_rm_ab (x3).toInt64))) u1133 (1 : Int32) (1 : Int32) (own_f_rm_dd (own_f_rm_ab (x3).toInt64)) (own_f_rm_ab (x3).toInt64) tv1184 (own_fs (own_b1 (own_c8 x0)) 1 v N sg) ((((1 : Int32) + (1 : Int32)) + (1 : Int32)) + (own_f_rm_dd (own_f_rm_ab (x3).toInt64))) b11133 1 (own_b1 (own_c8 x0)) (1 : Int32) 12 sg N v cs sf h1321 n0 X1321.sz O1322 hS hSF E1327 F1328 F1329 A1330 E1323 F1324 F1325 A1326 hcs hsf rfl (by decide) rfl (own_s6n hv c1197) (own_svs hv) hdd hN hab rfl hL hL (own_key (own_svs hv) hd.1)) (own_w hw 196 rfl) (own_w hw 197 rfl) (own_w hw 192 rfl) (own_w hw 198 rfl) (by decide) rfl rfl (lenOf own_pd36 rfl) rfl (Nat.le_of_eq rfl) (by decide) (by decide) (by decide) (by decide) at_449 rfl (fun _ _ q => by obtain ⟨_, K⟩ := q; exact K.1) (fun T1332 h1332 v1332 X1332 P1332 => ?_)
          obtain ⟨rfl, K1332⟩ := P1332
          have O1333 : Old Z n0 h1332 := O1322.keep K1332 all0
          have E1334 := E1323.keep K1332
          have F1335 := F1324.keep K1332 nin0
          have F1336 := F1325.keep K1332 nin0
          have A1337 := A1326.keep K1332 nin0
          have E1338 := E1327.keep K1332
          have F1339 := F1328.keep K1332 nin0
          have F1340 := F1329.keep K1332 nin0
          have A1341 := A1330.keep K1332 nin0
          have M1342 : h1184.size ≤ h1332.size := Nat.le_trans M1331 K1332.1
          show Go p e below _ n0 _ _ _ T1332 (mkF m 452 #[.val (.int x0), .val (.int x1), .val (.int x2), .val (.int x3), .val (.int x4), .val (.int (1 : Int32)), .val (.int (own_c8 x0)), .val (.int (own_c8 x1)), .val (.ref u1133), .val (.int x3), .val (.ref u1184), .val (.long (own_f_rm_ab (x3).toInt64)), .second, .val (.int (1 : Int32)), .val (.int (own_f_rm_dd (own_f_rm_ab (x3).toInt64))), .val (.int ((((1 : Int32) + (1 : Int32)) + (1 : Int32)) + (own_f_rm_dd (own_f_rm_ab (x3).toInt64))))] [(.int (1 : Int32))])
          refine Go.ifNo C X1332 (pc' := 455) at_452 ((if0 _ _).trans (feq (by decide)).1) rfl ?_
          refine Go.aload C X1332 (pc' := 457) at_455 rfl rfl rfl ?_
          refine Go.bipush C X1332 (pc' := 459) (v := (13 : Int32)) at_457 rfl rfl ?_
          refine Go.iload C X1332 (pc' := 461) at_459 rfl rfl ?_
          refine Go.aload C X1332 (pc' := 463) at_461 rfl rfl rfl ?_
          refine Go.iload C X1332 (pc' := 465) at_463 rfl rfl ?_
          refine Go.iload C X1332 (pc' := 467) at_465 rfl rfl ?_
          refine Go.iload C X1332 (pc' := 469) at_467 rfl rfl ?_
          refine Go.lload C X1332 (pc' := 471) at_469 rfl rfl ?_
          refine Go.callS C X1332 (pc' := 474) (W := 0) (argsL := [(.ref u1184), (.int (13 : Int32)), (.int ((((1 : Int32) + (1 : Int32)) + (1 : Int32)) + (own_f_rm_dd (own_f_rm_ab (x3).toInt64)))), (.ref u1133), (.int (1 : Int32)), (.int (1 : Int32)), (.int (own_f_rm_dd (own_f_rm_ab (x3).toInt64))), (.long (own_f_rm_ab (x3).toInt64))]) (rest := []) (rm_cx l Z a0 hw u1184 (13 : Int32) ((((1 : Int32) + (1 : Int32)) + (1 : Int32)) + (own_f_rm_dd (own_f_rm_ab (x3).toInt64))) u1133 (1 : Int32) (1 : Int32) (own_f_rm_dd (own_f_rm_ab (x3).toInt64)) (own_f_rm_ab (x3).toInt64) tv1184 (own_fs (own_b1 (own_c8 x0)) 1 v N sg) ((((1 : Int32) + (1 : Int32)) + (1 : Int32)) + (own_f_rm_dd (own_f_rm_ab (x3).toInt64))) b11133 1 (own_b1 (own_c8 x0)) (1 : Int32) 13 sg N v cs sf h1332 n0 X1332.sz O1333 hS hSF E1338 F1339 F1340 A1341 E1334 F1335 F1336 A1337 hcs hsf rfl (by decide) rfl (own_s6n hv c1197) (own_svs hv) hdd hN hab rfl hL hL (own_key (own_svs hv) hd.1)) (own_w hw 196 rfl) (own_w hw 197 rfl) (own_w hw 192 rfl) (own_w hw 198 rfl) (by decide) rfl rfl (lenOf own_pd36 rfl) rfl (Nat.le_of_eq rfl) (by decide) (by decide) (by decide) (by decide) at_471 rfl (fun _ _ q => by obtain ⟨_, K⟩ := q; exact K.1) (fun T1343 h1343 v1343 X1343 P1343 => ?_)
          obtain ⟨rfl, K1343⟩ := P1343
          have O1344 : Old Z n0 h1343 := O1333.keep K1343 all0
          have E1345 := E1334.keep K1343
          have F1346 := F1335.keep K1343 nin0
          have F1347 := F1336.keep K1343 nin0
          have A1348 := A1337.keep K1343 nin0
          have E1349 := E1338.keep K1343
          have F1350 := F1339.keep K1343 nin0
          have F1351 := F1340.keep K1343 nin0
          have A1352 := A1341.keep K1343 nin0
          have M1353 : h1184.size ≤ h1343.size := Nat.le_trans M1342 K1343.1
          show Go p e below _ n0 _ _ _ T1343 (mkF m 474 #[.val (.int x0), .val (.int x1), .val (.int x2), .val (.int x3), .val (.int x4), .val (.int (1 : Int32)), .val (.int (own_c8 x0)), .val (.int (own_c8 x1)), .val (.ref u1133), .val (.int x3), .val (.ref u1184), .val (.long (own_f_rm_ab (x3).toInt64)), .second, .val (.int (1 : Int32)), .val (.int (own_f_rm_dd (own_f_rm_ab (x3).toInt64))), .val (.int ((((1 : Int32) + (1 : Int32)) + (1 : Int32)) + (own_f_rm_dd (own_f_rm_ab (x3).toInt64))))] [(.int (1 : Int32))])
          refine Go.ifNo C X1343 (pc' := 477) at_474 ((if0 _ _).trans (feq (by decide)).1) rfl ?_
          refine Go.iconst C X1343 (pc' := 478) (v := (1 : Int32)) at_477 rfl rfl ?_
          refine Go.goto C X1343 (pc' := 482) at_478 (by decide) (by decide) ?_
          refine Go.wide ?_
          exact Go.retZ (t := .boolean) C X1343 (z' := (1 : Int32)) (by decide) at_482 ⟨rfl, M1353⟩ (by decide) (by decide)
        · refine Go.ifYes C X1196 (pc' := 141) at_134 ((if0 _ _).trans (flt c1197).2.1) (by decide) (by decide) ?_
          refine Go.iconst C X1196 (pc' := 142) (v := (0 : Int32)) at_141 rfl rfl ?_
          refine Go.istore C X1196 (pc' := 144) (Ls' := #[.val (.int x0), .val (.int x1), .val (.int x2), .val (.int x3), .val (.int x4), .val (.int (1 : Int32)), .val (.int (own_c8 x0)), .val (.int (own_c8 x1)), .val (.ref u1133), .val (.int x3), .val (.ref u1184), .val (.long (own_f_rm_ab (x3).toInt64)), .second, .val (.int (0 : Int32)), .unset, .unset]) at_142 rfl rfl ?_
          refine Go.lload C X1196 (pc' := 146) at_144 rfl rfl ?_
          refine Go.callS C X1196 (pc' := 149) (W := 0) (argsL := [(.long (own_f_rm_ab (x3).toInt64))]) (rest := []) (rm_dd l Z a0 hw (own_f_rm_ab (x3).toInt64) h1184 n0 X1196.sz ) (own_w hw 190 rfl) (own_w hw 191 rfl) (own_w hw 192 rfl) (own_w hw 193 rfl) (by decide) rfl rfl (lenOf own_pd35 rfl) rfl (Nat.le_of_eq rfl) (by decide) (by decide) (by decide) (by decide) at_146 rfl (fun _ _ q => Nat.le_of_eq (congrArg Array.size q.2)) (fun T1354 h1354 v1354 X1354 P1354 => ?_)
          obtain ⟨rfl, rfl⟩ := P1354
          show Go p e below _ n0 _ _ _ T1354 (mkF m 149 #[.val (.int x0), .val (.int x1), .val (.int x2), .val (.int x3), .val (.int x4), .val (.int (1 : Int32)), .val (.int (own_c8 x0)), .val (.int (own_c8 x1)), .val (.ref u1133), .val (.int x3), .val (.ref u1184), .val (.long (own_f_rm_ab (x3).toInt64)), .second, .val (.int (0 : Int32)), .unset, .unset] [(.int (own_f_rm_dd (own_f_rm_ab (x3).toInt64)))])
          refine Go.istore C X1354 (pc' := 151) (Ls' := #[.val (.int x0), .val (.int x1), .val (.int x2), .val (.int x3), .val (.int x4), .val (.int (1 : Int32)), .val (.int (own_c8 x0)), .val (.int (own_c8 x1)), .val (.ref u1133), .val (.int x3), .val (.ref u1184), .val (.long (own_f_rm_ab (x3).toInt64)), .second, .val (.int (0 : Int32)), .val (.int (own_f_rm_dd (own_f_rm_ab (x3).toInt64))), .unset]) at_149 rfl rfl ?_
          refine Go.iload C X1354 (pc' := 153) at_151 rfl rfl ?_
          refine Go.iconst C X1354 (pc' := 154) (v := (1 : Int32)) at_153 rfl rfl ?_
          refine Go.iadd C X1354 (pc' := 155) at_154 rfl ?_
          refine Go.iload C X1354 (pc' := 157) at_155 rfl rfl ?_
          refine Go.iadd C X1354 (pc' := 158) at_157 rfl ?_
          refine Go.iload C X1354 (pc' := 160) at_158 rfl rfl ?_
          refine Go.iadd C X1354 (pc' := 161) at_160 rfl ?_
          refine Go.istore C X1354 (pc' := 163) (Ls' := #[.val (.int x0), .val (.int x1), .val (.int x2), .val (.int x3), .val (.int x4), .val (.int (1 : Int32)), .val (.int (own_c8 x0)), .val (.int (own_c8 x1)), .val (.ref u1133), .val (.int x3), .val (.ref u1184), .val (.long (own_f_rm_ab (x3).toInt64)), .second, .val (.int (0 : Int32)), .val (.int (own_f_rm_dd (own_f_rm_ab (x3).toInt64))), .val (.int ((((1 : Int32) + (1 : Int32)) + (0 : Int32)) + (own_f_rm_dd (own_f_rm_ab (x3).toInt64))))]) at_161 rfl rfl ?_
          have hL : (((((1 : Int32) + (1 : Int32)) + (0 : Int32)) + (own_f_rm_dd (own_f_rm_ab (x3).toInt64)))).toInt = (((1 + 1 + (N + sg)) : Nat) : Int) := (own_len (a := (1 : Int32)) rfl (own_s6p hv c1197) hdd (by decide) (own_svs hv) hN)
          refine Go.aload C X1354 (pc' := 165) at_163 rfl rfl rfl ?_
          refine Go.callV C X1354 (pc' := 168) (W := 0) (argsL := []) (rest := []) (a := u1184) (rm_ln l Z a0 hw u1184 tv1184 (1 + 1 + (N + sg)) (own_fs (own_b1 (own_c8 x0)) 1 v N sg) ((((1 : Int32) + (1 : Int32)) + (0 : Int32)) + (own_f_rm_dd (own_f_rm_ab (x3).toInt64))) cs h1184 n0 X1354.sz O1185 hS O1184_0 O1184_1 O1184_2 O1184_3 hcs hL) O1184_0 (notFace_of_selects (args := #[]) (mvT C.2.1 (own_w hw 87 rfl))) (own_w hw 195 rfl) (own_w hw 85 rfl) (own_w hw 87 rfl) (own_w hw 86 rfl) (own_w hw 2 rfl) (own_w hw 88 rfl) (by decide) rfl rfl (lenOf own_pd12 rfl) rfl (Nat.le_of_eq rfl) (by decide) (by decide) (by decide) (by decide) at_165 rfl (fun _ _ q => Nat.le_of_eq (congrArg Array.size q.2)) (fun T1355 h1355 v1355 X1355 P1355 => ?_)
          obtain ⟨rfl, rfl⟩ := P1355
          show Go p e below _ n0 _ _ _ T1355 (mkF m 168 #[.val (.int x0), .val (.int x1), .val (.int x2), .val (.int x3), .val (.int x4), .val (.int (1 : Int32)), .val (.int (own_c8 x0)), .val (.int (own_c8 x1)), .val (.ref u1133), .val (.int x3), .val (.ref u1184), .val (.long (own_f_rm_ab (x3).toInt64)), .second, .val (.int (0 : Int32)), .val (.int (own_f_rm_dd (own_f_rm_ab (x3).toInt64))), .val (.int ((((1 : Int32) + (1 : Int32)) + (0 : Int32)) + (own_f_rm_dd (own_f_rm_ab (x3).toInt64))))] [(.int ((((1 : Int32) + (1 : Int32)) + (0 : Int32)) + (own_f_rm_dd (own_f_rm_ab (x3).toInt64))))])
          refine Go.iload C X1355 (pc' := 170) at_168 rfl rfl ?_
          refine Go.icmpYes C X1355 (pc' := 175) at_170 (teq rfl).1 (by decide) (by decide) ?_
          refine Go.aload C X1355 (pc' := 177) at_175 rfl rfl rfl ?_
          refine Go.iconst C X1355 (pc' := 178) (v := (0 : Int32)) at_177 rfl rfl ?_
          refine Go.iload C X1355 (pc' := 180) at_178 rfl rfl ?_
          refine Go.aload C X1355 (pc' := 182) at_180 rfl rfl rfl ?_
          refine Go.iload C X1355 (pc' := 184) at_182 rfl rfl ?_
          refine Go.iload C X1355 (pc' := 186) at_184 rfl rfl ?_
          refine Go.iload C X1355 (pc' := 188) at_186 rfl rfl ?_
          refine Go.lload C X1355 (pc' := 190) at_188 rfl rfl ?_
          refine Go.callS C X1355 (pc' := 193) (W := 0) (argsL := [(.ref u1184), (.int (0 : Int32)), (.int ((((1 : Int32) + (1 : Int32)) + (0 : Int32)) + (own_f_rm_dd (own_f_rm_ab (x3).toInt64)))), (.ref u1133), (.int (1 : Int32)), (.int (0 : Int32)), (.int (own_f_rm_dd (own_f_rm_ab (x3).toInt64))), (.long (own_f_rm_ab (x3).toInt64))]) (rest := []) (rm_cx l Z a0 hw u1184 (0 : Int32) ((((1 : Int32) + (1 : Int32)) + (0 : Int32)) + (own_f_rm_dd (own_f_rm_ab (x3).toInt64))) u1133 (1 : Int32) (0 : Int32) (own_f_rm_dd (own_f_rm_ab (x3).toInt64)) (own_f_rm_ab (x3).toInt64) tv1184 (own_fs (own_b1 (own_c8 x0)) 1 v N sg) ((((1 : Int32) + (1 : Int32)) + (0 : Int32)) + (own_f_rm_dd (own_f_rm_ab (x3).toInt64))) b11133 1 (own_b1 (own_c8 x0)) (1 : Int32) 0 sg N v cs sf h1184 n0 X1355.sz O1185 hS hSF O1184_0 O1184_1 O1184_2 O1184_3 E1189 F1190 F1191 A1192 hcs hsf rfl (by decide) rfl (own_s6p hv c1197) (own_svs hv) hdd hN hab rfl hL hL (own_key (own_svs hv) hd.1)) (own_w hw 196 rfl) (own_w hw 197 rfl) (own_w hw 192 rfl) (own_w hw 198 rfl) (by decide) rfl rfl (lenOf own_pd36 rfl) rfl (Nat.le_of_eq rfl) (by decide) (by decide) (by decide) (by decide) at_190 rfl (fun _ _ q => by obtain ⟨_, K⟩ := q; exact K.1) (fun T1356 h1356 v1356 X1356 P1356 => ?_)
          obtain ⟨rfl, K1356⟩ := P1356
          have O1357 : Old Z n0 h1356 := O1185.keep K1356 all0
          have E1358 := E1189.keep K1356
          have F1359 := F1190.keep K1356 nin0
          have F1360 := F1191.keep K1356 nin0
          have A1361 := A1192.keep K1356 nin0
          have E1362 := O1184_0.keep K1356
          have F1363 := O1184_1.keep K1356 nin0
          have F1364 := O1184_2.keep K1356 nin0
          have A1365 := O1184_3.keep K1356 nin0
          have M1366 : h1184.size ≤ h1356.size := Nat.le_trans M1184_ K1356.1
          show Go p e below _ n0 _ _ _ T1356 (mkF m 193 #[.val (.int x0), .val (.int x1), .val (.int x2), .val (.int x3), .val (.int x4), .val (.int (1 : Int32)), .val (.int (own_c8 x0)), .val (.int (own_c8 x1)), .val (.ref u1133), .val (.int x3), .val (.ref u1184), .val (.long (own_f_rm_ab (x3).toInt64)), .second, .val (.int (0 : Int32)), .val (.int (own_f_rm_dd (own_f_rm_ab (x3).toInt64))), .val (.int ((((1 : Int32) + (1 : Int32)) + (0 : Int32)) + (own_f_rm_dd (own_f_rm_ab (x3).toInt64))))] [(.int (1 : Int32))])
          refine Go.ifNo C X1356 (pc' := 196) at_193 ((if0 _ _).trans (feq (by decide)).1) rfl ?_
          refine Go.aload C X1356 (pc' := 198) at_196 rfl rfl rfl ?_
          refine Go.iconst C X1356 (pc' := 199) (v := (1 : Int32)) at_198 rfl rfl ?_
          refine Go.iload C X1356 (pc' := 201) at_199 rfl rfl ?_
          refine Go.aload C X1356 (pc' := 203) at_201 rfl rfl rfl ?_
          refine Go.iload C X1356 (pc' := 205) at_203 rfl rfl ?_
          refine Go.iload C X1356 (pc' := 207) at_205 rfl rfl ?_
          refine Go.iload C X1356 (pc' := 209) at_207 rfl rfl ?_
          refine Go.lload C X1356 (pc' := 211) at_209 rfl rfl ?_
          refine Go.callS C X1356 (pc' := 214) (W := 0) (argsL := [(.ref u1184), (.int (1 : Int32)), (.int ((((1 : Int32) + (1 : Int32)) + (0 : Int32)) + (own_f_rm_dd (own_f_rm_ab (x3).toInt64)))), (.ref u1133), (.int (1 : Int32)), (.int (0 : Int32)), (.int (own_f_rm_dd (own_f_rm_ab (x3).toInt64))), (.long (own_f_rm_ab (x3).toInt64))]) (rest := []) (rm_cx l Z a0 hw u1184 (1 : Int32) ((((1 : Int32) + (1 : Int32)) + (0 : Int32)) + (own_f_rm_dd (own_f_rm_ab (x3).toInt64))) u1133 (1 : Int32) (0 : Int32) (own_f_rm_dd (own_f_rm_ab (x3).toInt64)) (own_f_rm_ab (x3).toInt64) tv1184 (own_fs (own_b1 (own_c8 x0)) 1 v N sg) ((((1 : Int32) + (1 : Int32)) + (0 : Int32)) + (own_f_rm_dd (own_f_rm_ab (x3).toInt64))) b11133 1 (own_b1 (own_c8 x0)) (1 : Int32) 1 sg N v cs sf h1356 n0 X1356.sz O1357 hS hSF E1362 F1363 F1364 A1365 E1358 F1359 F1360 A1361 hcs hsf rfl (by decide) rfl (own_s6p hv c1197) (own_svs hv) hdd hN hab rfl hL hL (own_key (own_svs hv) hd.1)) (own_w hw 196 rfl) (own_w hw 197 rfl) (own_w hw 192 rfl) (own_w hw 198 rfl) (by decide) rfl rfl (lenOf own_pd36 rfl) rfl (Nat.le_of_eq rfl) (by decide) (by decide) (by decide) (by decide) at_211 rfl (fun _ _ q => by obtain ⟨_, K⟩ := q; exact K.1) (fun T1367 h1367 v1367 X1367 P1367 => ?_)
          obtain ⟨rfl, K1367⟩ := P1367
          have O1368 : Old Z n0 h1367 := O1357.keep K1367 all0
          have E1369 := E1358.keep K1367
          have F1370 := F1359.keep K1367 nin0
          have F1371 := F1360.keep K1367 nin0
          have A1372 := A1361.keep K1367 nin0
          have E1373 := E1362.keep K1367
          have F1374 := F1363.keep K1367 nin0
          have F1375 := F1364.keep K1367 nin0
          have A1376 := A1365.keep K1367 nin0
          have M1377 : h1184.size ≤ h1367.size := Nat.le_trans M1366 K1367.1
          show Go p e below _ n0 _ _ _ T1367 (mkF m 214 #[.val (.int x0), .val (.int x1), .val (.int x2), .val (.int x3), .val (.int x4), .val (.int (1 : Int32)), .val (.int (own_c8 x0)), .val (.int (own_c8 x1)), .val (.ref u1133), .val (.int x3), .val (.ref u1184), .val (.long (own_f_rm_ab (x3).toInt64)), .second, .val (.int (0 : Int32)), .val (.int (own_f_rm_dd (own_f_rm_ab (x3).toInt64))), .val (.int ((((1 : Int32) + (1 : Int32)) + (0 : Int32)) + (own_f_rm_dd (own_f_rm_ab (x3).toInt64))))] [(.int (1 : Int32))])
          refine Go.ifNo C X1367 (pc' := 217) at_214 ((if0 _ _).trans (feq (by decide)).1) rfl ?_
          refine Go.aload C X1367 (pc' := 219) at_217 rfl rfl rfl ?_
          refine Go.iconst C X1367 (pc' := 220) (v := (2 : Int32)) at_219 rfl rfl ?_
          refine Go.iload C X1367 (pc' := 222) at_220 rfl rfl ?_
          refine Go.aload C X1367 (pc' := 224) at_222 rfl rfl rfl ?_
          refine Go.iload C X1367 (pc' := 226) at_224 rfl rfl ?_
          refine Go.iload C X1367 (pc' := 228) at_226 rfl rfl ?_
          refine Go.iload C X1367 (pc' := 230) at_228 rfl rfl ?_
          refine Go.lload C X1367 (pc' := 232) at_230 rfl rfl ?_
          refine Go.callS C X1367 (pc' := 235) (W := 0) (argsL := [(.ref u1184), (.int (2 : Int32)), (.int ((((1 : Int32) + (1 : Int32)) + (0 : Int32)) + (own_f_rm_dd (own_f_rm_ab (x3).toInt64)))), (.ref u1133), (.int (1 : Int32)), (.int (0 : Int32)), (.int (own_f_rm_dd (own_f_rm_ab (x3).toInt64))), (.long (own_f_rm_ab (x3).toInt64))]) (rest := []) (rm_cx l Z a0 hw u1184 (2 : Int32) ((((1 : Int32) + (1 : Int32)) + (0 : Int32)) + (own_f_rm_dd (own_f_rm_ab (x3).toInt64))) u1133 (1 : Int32) (0 : Int32) (own_f_rm_dd (own_f_rm_ab (x3).toInt64)) (own_f_rm_ab (x3).toInt64) tv1184 (own_fs (own_b1 (own_c8 x0)) 1 v N sg) ((((1 : Int32) + (1 : Int32)) + (0 : Int32)) + (own_f_rm_dd (own_f_rm_ab (x3).toInt64))) b11133 1 (own_b1 (own_c8 x0)) (1 : Int32) 2 sg N v cs sf h1367 n0 X1367.sz O1368 hS hSF E1373 F1374 F1375 A1376 E1369 F1370 F1371 A1372 hcs hsf rfl (by decide) rfl (own_s6p hv c1197) (own_svs hv) hdd hN hab rfl hL hL (own_key (own_svs hv) hd.1)) (own_w hw 196 rfl) (own_w hw 197 rfl) (own_w hw 192 rfl) (own_w hw 198 rfl) (by decide) rfl rfl (lenOf own_pd36 rfl) rfl (Nat.le_of_eq rfl) (by decide) (by decide) (by decide) (by decide) at_232 rfl (fun _ _ q => by obtain ⟨_, K⟩ := q; exact K.1) (fun T1378 h1378 v1378 X1378 P1378 => ?_)
          obtain ⟨rfl, K1378⟩ := P1378
          have O1379 : Old Z n0 h1378 := O1368.keep K1378 all0
          have E1380 := E1369.keep K1378
          have F1381 := F1370.keep K1378 nin0
          have F1382 := F1371.keep K1378 nin0
          have A1383 := A1372.keep K1378 nin0
          have E1384 := E1373.keep K1378
          have F1385 := F1374.keep K1378 nin0
          have F1386 := F1375.keep K1378 nin0
          have A1387 := A1376.keep K1378 nin0
          have M1388 : h1184.size ≤ h1378.size := Nat.le_trans M1377 K1378.1
          show Go p e below _ n0 _ _ _ T1378 (mkF m 235 #[.val (.int x0), .val (.int x1), .val (.int x2), .val (.int x3), .val (.int x4), .val (.int (1 : Int32)), .val (.int (own_c8 x0)), .val (.int (own_c8 x1)), .val (.ref u1133), .val (.int x3), .val (.ref u1184), .val (.long (own_f_rm_ab (x3).toInt64)), .second, .val (.int (0 : Int32)), .val (.int (own_f_rm_dd (own_f_rm_ab (x3).toInt64))), .val (.int ((((1 : Int32) + (1 : Int32)) + (0 : Int32)) + (own_f_rm_dd (own_f_rm_ab (x3).toInt64))))] [(.int (1 : Int32))])
          refine Go.ifNo C X1378 (pc' := 238) at_235 ((if0 _ _).trans (feq (by decide)).1) rfl ?_
          refine Go.aload C X1378 (pc' := 240) at_238 rfl rfl rfl ?_
          refine Go.iconst C X1378 (pc' := 241) (v := (3 : Int32)) at_240 rfl rfl ?_
          refine Go.iload C X1378 (pc' := 243) at_241 rfl rfl ?_
          refine Go.aload C X1378 (pc' := 245) at_243 rfl rfl rfl ?_
          refine Go.iload C X1378 (pc' := 247) at_245 rfl rfl ?_
          refine Go.iload C X1378 (pc' := 249) at_247 rfl rfl ?_
          refine Go.iload C X1378 (pc' := 251) at_249 rfl rfl ?_
          refine Go.lload C X1378 (pc' := 253) at_251 rfl rfl ?_
          refine Go.callS C X1378 (pc' := 256) (W := 0) (argsL := [(.ref u1184), (.int (3 : Int32)), (.int ((((1 : Int32) + (1 : Int32)) + (0 : Int32)) + (own_f_rm_dd (own_f_rm_ab (x3).toInt64)))), (.ref u1133), (.int (1 : Int32)), (.int (0 : Int32)), (.int (own_f_rm_dd (own_f_rm_ab (x3).toInt64))), (.long (own_f_rm_ab (x3).toInt64))]) (rest := []) (rm_cx l Z a0 hw u1184 (3 : Int32) ((((1 : Int32) + (1 : Int32)) + (0 : Int32)) + (own_f_rm_dd (own_f_rm_ab (x3).toInt64))) u1133 (1 : Int32) (0 : Int32) (own_f_rm_dd (own_f_rm_ab (x3).toInt64)) (own_f_rm_ab (x3).toInt64) tv1184 (own_fs (own_b1 (own_c8 x0)) 1 v N sg) ((((1 : Int32) + (1 : Int32)) + (0 : Int32)) + (own_f_rm_dd (own_f_rm_ab (x3).toInt64))) b11133 1 (own_b1 (own_c8 x0)) (1 : Int32) 3 sg N v cs sf h1378 n0 X1378.sz O1379 hS hSF E1384 F1385 F1386 A1387 E1380 F1381 F1382 A1383 hcs hsf rfl (by decide) rfl (own_s6p hv c1197) (own_svs hv) hdd hN hab rfl hL hL (own_key (own_svs hv) hd.1)) (own_w hw 196 rfl) (own_w hw 197 rfl) (own_w hw 192 rfl) (own_w hw 198 rfl) (by decide) rfl rfl (lenOf own_pd36 rfl) rfl (Nat.le_of_eq rfl) (by decide) (by decide) (by decide) (by decide) at_253 rfl (fun _ _ q => by obtain ⟨_, K⟩ := q; exact K.1) (fun T1389 h1389 v1389 X1389 P1389 => ?_)
          obtain ⟨rfl, K1389⟩ := P1389
          have O1390 : Old Z n0 h1389 := O1379.keep K1389 all0
          have E1391 := E1380.keep K1389
          have F1392 := F1381.keep K1389 nin0
          have F1393 := F1382.keep K1389 nin0
          have A1394 := A1383.keep K1389 nin0
          have E1395 := E1384.keep K1389
          have F1396 := F1385.keep K1389 nin0
          have F1397 := F1386.keep K1389 nin0
          have A1398 := A1387.keep K1389 nin0
          have M1399 : h1184.size ≤ h1389.size := Nat.le_trans M1388 K1389.1
          show Go p e below _ n0 _ _ _ T1389 (mkF m 256 #[.val (.int x0), .val (.int x1), .val (.int x2), .val (.int x3), .val (.int x4), .val (.int (1 : Int32)), .val (.int (own_c8 x0)), .val (.int (own_c8 x1)), .val (.ref u1133), .val (.int x3), .val (.ref u1184), .val (.long (own_f_rm_ab (x3).toInt64)), .second, .val (.int (0 : Int32)), .val (.int (own_f_rm_dd (own_f_rm_ab (x3).toInt64))), .val (.int ((((1 : Int32) + (1 : Int32)) + (0 : Int32)) + (own_f_rm_dd (own_f_rm_ab (x3).toInt64))))] [(.int (1 : Int32))])
          refine Go.ifNo C X1389 (pc' := 259) at_256 ((if0 _ _).trans (feq (by decide)).1) rfl ?_
          refine Go.aload C X1389 (pc' := 261) at_259 rfl rfl rfl ?_
          refine Go.iconst C X1389 (pc' := 262) (v := (4 : Int32)) at_261 rfl rfl ?_
          refine Go.iload C X1389 (pc' := 264) at_262 rfl rfl ?_
          refine Go.aload C X1389 (pc' := 266) at_264 rfl rfl rfl ?_
          refine Go.iload C X1389 (pc' := 268) at_266 rfl rfl ?_
          refine Go.iload C X1389 (pc' := 270) at_268 rfl rfl ?_
          refine Go.iload C X1389 (pc' := 272) at_270 rfl rfl ?_
          refine Go.lload C X1389 (pc' := 274) at_272 rfl rfl ?_
          refine Go.callS C X1389 (pc' := 277) (W := 0) (argsL := [(.ref u1184), (.int (4 : Int32)), (.int ((((1 : Int32) + (1 : Int32)) + (0 : Int32)) + (own_f_rm_dd (own_f_rm_ab (x3).toInt64)))), (.ref u1133), (.int (1 : Int32)), (.int (0 : Int32)), (.int (own_f_rm_dd (own_f_rm_ab (x3).toInt64))), (.long (own_f_rm_ab (x3).toInt64))]) (rest := []) (rm_cx l Z a0 hw u1184 (4 : Int32) ((((1 : Int32) + (1 : Int32)) + (0 : Int32)) + (own_f_rm_dd (own_f_rm_ab (x3).toInt64))) u1133 (1 : Int32) (0 : Int32) (own_f_rm_dd (own_f_rm_ab (x3).toInt64)) (own_f_rm_ab (x3).toInt64) tv1184 (own_fs (own_b1 (own_c8 x0)) 1 v N sg) ((((1 : Int32) + (1 : Int32)) + (0 : Int32)) + (own_f_rm_dd (own_f_rm_ab (x3).toInt64))) b11133 1 (own_b1 (own_c8 x0)) (1 : Int32) 4 sg N v cs sf h1389 n0 X1389.sz O1390 hS hSF E1395 F1396 F1397 A1398 E1391 F1392 F1393 A1394 hcs hsf rfl (by decide) rfl (own_s6p hv c1197) (own_svs hv) hdd hN hab rfl hL hL (own_key (own_svs hv) hd.1)) (own_w hw 196 rfl) (own_w hw 197 rfl) (own_w hw 192 rfl) (own_w hw 198 rfl) (by decide) rfl rfl (lenOf own_pd36 rfl) rfl (Nat.le_of_eq rfl) (by decide) (by decide) (by decide) (by decide) at_274 rfl (fun _ _ q => by obtain ⟨_, K⟩ := q; exact K.1) (fun T1400 h1400 v1400 X1400 P1400 => ?_)
          obtain ⟨rfl, K1400⟩ := P1400
          have O1401 : Old Z n0 h1400 := O1390.keep K1400 all0
          have E1402 := E1391.keep K1400
          have F1403 := F1392.keep K1400 nin0
          have F1404 := F1393.keep K1400 nin0
          have A1405 := A1394.keep K1400 nin0
          have E1406 := E1395.keep K1400
          have F1407 := F1396.keep K1400 nin0
          have F1408 := F1397.keep K1400 nin0
          have A1409 := A1398.keep K1400 nin0
          have M1410 : h1184.size ≤ h1400.size := Nat.le_trans M1399 K1400.1
          show Go p e below _ n0 _ _ _ T1400 (mkF m 277 #[.val (.int x0), .val (.int x1), .val (.int x2), .val (.int x3), .val (.int x4), .val (.int (1 : Int32)), .val (.int (own_c8 x0)), .val (.int (own_c8 x1)), .val (.ref u1133), .val (.int x3), .val (.ref u1184), .val (.long (own_f_rm_ab (x3).toInt64)), .second, .val (.int (0 : Int32)), .val (.int (own_f_rm_dd (own_f_rm_ab (x3).toInt64))), .val (.int ((((1 : Int32) + (1 : Int32)) + (0 : Int32)) + (own_f_rm_dd (own_f_rm_ab (x3).toInt64))))] [(.int (1 : Int32))])
          refine Go.ifNo C X1400 (pc' := 280) at_277 ((if0 _ _).trans (feq (by decide)).1) rfl ?_
          refine Go.aload C X1400 (pc' := 282) at_280 rfl rfl rfl ?_
          refine Go.iconst C X1400 (pc' := 283) (v := (5 : Int32)) at_282 rfl rfl ?_
          refine Go.iload C X1400 (pc' := 285) at_283 rfl rfl ?_
          refine Go.aload C X1400 (pc' := 287) at_285 rfl rfl rfl ?_
          refine Go.iload C X1400 (pc' := 289) at_287 rfl rfl ?_
          refine Go.iload C X1400 (pc' := 291) at_289 rfl rfl ?_
          refine Go.iload C X1400 (pc' := 293) at_291 rfl rfl ?_
          refine Go.lload C X1400 (pc' := 295) at_293 rfl rfl ?_
          refine Go.callS C X1400 (pc' := 298) (W := 0) (argsL := [(.ref u1184), (.int (5 : Int32)), (.int ((((1 : Int32) + (1 : Int32)) + (0 : Int32)) + (own_f_rm_dd (own_f_rm_ab (x3).toInt64)))), (.ref u1133), (.int (1 : Int32)), (.int (0 : Int32)), (.int (own_f_rm_dd (own_f_rm_ab (x3).toInt64))), (.long (own_f_rm_ab (x3).toInt64))]) (rest := []) (rm_cx l Z a0 hw u1184 (5 : Int32) ((((1 : Int32) + (1 : Int32)) + (0 : Int32)) + (own_f_rm_dd (own_f_rm_ab (x3).toInt64))) u1133 (1 : Int32) (0 : Int32) (own_f_rm_dd (own_f_rm_ab (x3).toInt64)) (own_f_rm_ab (x3).toInt64) tv1184 (own_fs (own_b1 (own_c8 x0)) 1 v N sg) ((((1 : Int32) + (1 : Int32)) + (0 : Int32)) + (own_f_rm_dd (own_f_rm_ab (x3).toInt64))) b11133 1 (own_b1 (own_c8 x0)) (1 : Int32) 5 sg N v cs sf h1400 n0 X1400.sz O1401 hS hSF E1406 F1407 F1408 A1409 E1402 F1403 F1404 A1405 hcs hsf rfl (by decide) rfl (own_s6p hv c1197) (own_svs hv) hdd hN hab rfl hL hL (own_key (own_svs hv) hd.1)) (own_w hw 196 rfl) (own_w hw 197 rfl) (own_w hw 192 rfl) (own_w hw 198 rfl) (by decide) rfl rfl (lenOf own_pd36 rfl) rfl (Nat.le_of_eq rfl) (by decide) (by decide) (by decide) (by decide) at_295 rfl (fun _ _ q => by obtain ⟨_, K⟩ := q; exact K.1) (fun T1411 h1411 v1411 X1411 P1411 => ?_)
          obtain ⟨rfl, K1411⟩ := P1411
          have O1412 : Old Z n0 h1411 := O1401.keep K1411 all0
          have E1413 := E1402.keep K1411
          have F1414 := F1403.keep K1411 nin0
          have F1415 := F1404.keep K1411 nin0
          have A1416 := A1405.keep K1411 nin0
          have E1417 := E1406.keep K1411
          have F1418 := F1407.keep K1411 nin0
          have F1419 := F1408.keep K1411 nin0
          have A1420 := A1409.keep K1411 nin0
          have M1421 : h1184.size ≤ h1411.size := Nat.le_trans M1410 K1411.1
          show Go p e below _ n0 _ _ _ T1411 (mkF m 298 #[.val (.int x0), .val (.int x1), .val (.int x2), .val (.int x3), .val (.int x4), .val (.int (1 : Int32)), .val (.int (own_c8 x0)), .val (.int (own_c8 x1)), .val (.ref u1133), .val (.int x3), .val (.ref u1184), .val (.long (own_f_rm_ab (x3).toInt64)), .second, .val (.int (0 : Int32)), .val (.int (own_f_rm_dd (own_f_rm_ab (x3).toInt64))), .val (.int ((((1 : Int32) + (1 : Int32)) + (0 : Int32)) + (own_f_rm_dd (own_f_rm_ab (x3).toInt64))))] [(.int (1 : Int32))])
          refine Go.ifNo C X1411 (pc' := 301) at_298 ((if0 _ _).trans (feq (by decide)).1) rfl ?_
          refine Go.aload C X1411 (pc' := 303) at_301 rfl rfl rfl ?_
          refine Go.bipush C X1411 (pc' := 305) (v := (6 : Int32)) at_303 rfl rfl ?_
          refine Go.iload C X1411 (pc' := 307) at_305 rfl rfl ?_
          refine Go.aload C X1411 (pc' := 309) at_307 rfl rfl rfl ?_
          refine Go.iload C X1411 (pc' := 311) at_309 rfl rfl ?_
          refine Go.iload C X1411 (pc' := 313) at_311 rfl rfl ?_
          refine Go.iload C X1411 (pc' := 315) at_313 rfl rfl ?_
          refine Go.lload C X1411 (pc' := 317) at_315 rfl rfl ?_
          refine Go.callS C X1411 (pc' := 320) (W := 0) (argsL := [(.ref u1184), (.int (6 : Int32)), (.int ((((1 : Int32) + (1 : Int32)) + (0 : Int32)) + (own_f_rm_dd (own_f_rm_ab (x3).toInt64)))), (.ref u1133), (.int (1 : Int32)), (.int (0 : Int32)), (.int (own_f_rm_dd (own_f_rm_ab (x3).toInt64))), (.long (own_f_rm_ab (x3).toInt64))]) (rest := []) (rm_cx l Z a0 hw u1184 (6 : Int32) ((((1 : Int32) + (1 : Int32)) + (0 : Int32)) + (own_f_rm_dd (own_f_rm_ab (x3).toInt64))) u1133 (1 : Int32) (0 : Int32) (own_f_rm_dd (own_f_rm_ab (x3).toInt64)) (own_f_rm_ab (x3).toInt64) tv1184 (own_fs (own_b1 (own_c8 x0)) 1 v N sg) ((((1 : Int32) + (1 : Int32)) + (0 : Int32)) + (own_f_rm_dd (own_f_rm_ab (x3).toInt64))) b11133 1 (own_b1 (own_c8 x0)) (1 : Int32) 6 sg N v cs sf h1411 n0 X1411.sz O1412 hS hSF E1417 F1418 F1419 A1420 E1413 F1414 F1415 A1416 hcs hsf rfl (by decide) rfl (own_s6p hv c1197) (own_svs hv) hdd hN hab rfl hL hL (own_key (own_svs hv) hd.1)) (own_w hw 196 rfl) (own_w hw 197 rfl) (own_w hw 192 rfl) (own_w hw 198 rfl) (by decide) rfl rfl (lenOf own_pd36 rfl) rfl (Nat.le_of_eq rfl) (by decide) (by decide) (by decide) (by decide) at_317 rfl (fun _ _ q => by obtain ⟨_, K⟩ := q; exact K.1) (fun T1422 h1422 v1422 X1422 P1422 => ?_)
          obtain ⟨rfl, K1422⟩ := P1422
          have O1423 : Old Z n0 h1422 := O1412.keep K1422 all0
          have E1424 := E1413.keep K1422
          have F1425 := F1414.keep K1422 nin0
          have F1426 := F1415.keep K1422 nin0
          have A1427 := A1416.keep K1422 nin0
          have E1428 := E1417.keep K1422
          have F1429 := F1418.keep K1422 nin0
          have F1430 := F1419.keep K1422 nin0
          have A1431 := A1420.keep K1422 nin0
          have M1432 : h1184.size ≤ h1422.size := Nat.le_trans M1421 K1422.1
          show Go p e below _ n0 _ _ _ T1422 (mkF m 320 #[.val (.int x0), .val (.int x1), .val (.int x2), .val (.int x3), .val (.int x4), .val (.int (1 : Int32)), .val (.int (own_c8 x0)), .val (.int (own_c8 x1)), .val (.ref u1133), .val (.int x3), .val (.ref u1184), .val (.long (own_f_rm_ab (x3).toInt64)), .second, .val (.int (0 : Int32)), .val (.int (own_f_rm_dd (own_f_rm_ab (x3).toInt64))), .val (.int ((((1 : Int32) + (1 : Int32)) + (0 : Int32)) + (own_f_rm_dd (own_f_rm_ab (x3).toInt64))))] [(.int (1 : Int32))])
          refine Go.ifNo C X1422 (pc' := 323) at_320 ((if0 _ _).trans (feq (by decide)).1) rfl ?_
          refine Go.aload C X1422 (pc' := 325) at_323 rfl rfl rfl ?_
          refine Go.bipush C X1422 (pc' := 327) (v := (7 : Int32)) at_325 rfl rfl ?_
          refine Go.iload C X1422 (pc' := 329) at_327 rfl rfl ?_
          refine Go.aload C X1422 (pc' := 331) at_329 rfl rfl rfl ?_
          refine Go.iload C X1422 (pc' := 333) at_331 rfl rfl ?_
          refine Go.iload C X1422 (pc' := 335) at_333 rfl rfl ?_
          refine Go.iload C X1422 (pc' := 337) at_335 rfl rfl ?_
          refine Go.lload C X1422 (pc' := 339) at_337 rfl rfl ?_
          refine Go.callS C X1422 (pc' := 342) (W := 0) (argsL := [(.ref u1184), (.int (7 : Int32)), (.int ((((1 : Int32) + (1 : Int32)) + (0 : Int32)) + (own_f_rm_dd (own_f_rm_ab (x3).toInt64)))), (.ref u1133), (.int (1 : Int32)), (.int (0 : Int32)), (.int (own_f_rm_dd (own_f_rm_ab (x3).toInt64))), (.long (own_f_rm_ab (x3).toInt64))]) (rest := []) (rm_cx l Z a0 hw u1184 (7 : Int32) ((((1 : Int32) + (1 : Int32)) + (0 : Int32)) + (own_f_rm_dd (own_f_rm_ab (x3).toInt64))) u1133 (1 : Int32) (0 : Int32) (own_f_rm_dd (own_f_rm_ab (x3).toInt64)) (own_f_rm_ab (x3).toInt64) tv1184 (own_fs (own_b1 (own_c8 x0)) 1 v N sg) ((((1 : Int32) + (1 : Int32)) + (0 : Int32)) + (own_f_rm_dd (own_f_rm_ab (x3).toInt64))) b11133 1 (own_b1 (own_c8 x0)) (1 : Int32) 7 sg N v cs sf h1422 n0 X1422.sz O1423 hS hSF E1428 F1429 F1430 A1431 E1424 F1425 F1426 A1427 hcs hsf rfl (by decide) rfl (own_s6p hv c1197) (own_svs hv) hdd hN hab rfl hL hL (own_key (own_svs hv) hd.1)) (own_w hw 196 rfl) (own_w hw 197 rfl) (own_w hw 192 rfl) (own_w hw 198 rfl) (by decide) rfl rfl (lenOf own_pd36 rfl) rfl (Nat.le_of_eq rfl) (by decide) (by decide) (by decide) (by decide) at_339 rfl (fun _ _ q => by obtain ⟨_, K⟩ := q; exact K.1) (fun T1433 h1433 v1433 X1433 P1433 => ?_)
          obtain ⟨rfl, K1433⟩ := P1433
          have O1434 : Old Z n0 h1433 := O1423.keep K1433 all0
          have E1435 := E1424.keep K1433
          have F1436 := F1425.keep K1433 nin0
          have F1437 := F1426.keep K1433 nin0
          have A1438 := A1427.keep K1433 nin0
          have E1439 := E1428.keep K1433
          have F1440 := F1429.keep K1433 nin0
          have F1441 := F1430.keep K1433 nin0
          have A1442 := A1431.keep K1433 nin0
          have M1443 : h1184.size ≤ h1433.size := Nat.le_trans M1432 K1433.1
          show Go p e below _ n0 _ _ _ T1433 (mkF m 342 #[.val (.int x0), .val (.int x1), .val (.int x2), .val (.int x3), .val (.int x4), .val (.int (1 : Int32)), .val (.int (own_c8 x0)), .val (.int (own_c8 x1)), .val (.ref u1133), .val (.int x3), .val (.ref u1184), .val (.long (own_f_rm_ab (x3).toInt64)), .second, .val (.int (0 : Int32)), .val (.int (own_f_rm_dd (own_f_rm_ab (x3).toInt64))), .val (.int ((((1 : Int32) + (1 : Int32)) + (0 : Int32)) + (own_f_rm_dd (own_f_rm_ab (x3).toInt64))))] [(.int (1 : Int32))])
          refine Go.ifNo C X1433 (pc' := 345) at_342 ((if0 _ _).trans (feq (by decide)).1) rfl ?_
          refine Go.aload C X1433 (pc' := 347) at_345 rfl rfl rfl ?_
          refine Go.bipush C X1433 (pc' := 349) (v := (8 : Int32)) at_347 rfl rfl ?_
          refine Go.iload C X1433 (pc' := 351) at_349 rfl rfl ?_
          refine Go.aload C X1433 (pc' := 353) at_351 rfl rfl rfl ?_
          refine Go.iload C X1433 (pc' := 355) at_353 rfl rfl ?_
          refine Go.iload C X1433 (pc' := 357) at_355 rfl rfl ?_
          refine Go.iload C X1433 (pc' := 359) at_357 rfl rfl ?_
          refine Go.lload C X1433 (pc' := 361) at_359 rfl rfl ?_
          refine Go.callS C X1433 (pc' := 364) (W := 0) (argsL := [(.ref u1184), (.int (8 : Int32)), (.int ((((1 : Int32) + (1 : Int32)) + (0 : Int32)) + (own_f_rm_dd (own_f_rm_ab (x3).toInt64)))), (.ref u1133), (.int (1 : Int32)), (.int (0 : Int32)), (.int (own_f_rm_dd (own_f_rm_ab (x3).toInt64))), (.long (own_f_rm_ab (x3).toInt64))]) (rest := []) (rm_cx l Z a0 hw u1184 (8 : Int32) ((((1 : Int32) + (1 : Int32)) + (0 : Int32)) + (own_f_rm_dd (own_f_rm_ab (x3).toInt64))) u1133 (1 : Int32) (0 : Int32) (own_f_rm_dd (own_f_rm_ab (x3).toInt64)) (own_f_rm_ab (x3).toInt64) tv1184 (own_fs (own_b1 (own_c8 x0)) 1 v N sg) ((((1 : Int32) + (1 : Int32)) + (0 : Int32)) + (own_f_rm_dd (own_f_rm_ab (x3).toInt64))) b11133 1 (own_b1 (own_c8 x0)) (1 : Int32) 8 sg N v cs sf h1433 n0 X1433.sz O1434 hS hSF E1439 F1440 F1441 A1442 E1435 F1436 F1437 A1438 hcs hsf rfl (by decide) rfl (own_s6p hv c1197) (own_svs hv) hdd hN hab rfl hL hL (own_key (own_svs hv) hd.1)) (own_w hw 196 rfl) (own_w hw 197 rfl) (own_w hw 192 rfl) (own_w hw 198 rfl) (by decide) rfl rfl (lenOf own_pd36 rfl) rfl (Nat.le_of_eq rfl) (by decide) (by decide) (by decide) (by decide) at_361 rfl (fun _ _ q => by obtain ⟨_, K⟩ := q; exact K.1) (fun T1444 h1444 v1444 X1444 P1444 => ?_)
          obtain ⟨rfl, K1444⟩ := P1444
          have O1445 : Old Z n0 h1444 := O1434.keep K1444 all0
          have E1446 := E1435.keep K1444
          have F1447 := F1436.keep K1444 nin0
          have F1448 := F1437.keep K1444 nin0
          have A1449 := A1438.keep K1444 nin0
          have E1450 := E1439.keep K1444
          have F1451 := F1440.keep K1444 nin0
          have F1452 := F1441.keep K1444 nin0
          have A1453 := A1442.keep K1444 nin0
          have M1454 : h1184.size ≤ h1444.size := Nat.le_trans M1443 K1444.1
          show Go p e below _ n0 _ _ _ T1444 (mkF m 364 #[.val (.int x0), .val (.int x1), .val (.int x2), .val (.int x3), .val (.int x4), .val (.int (1 : Int32)), .val (.int (own_c8 x0)), .val (.int (own_c8 x1)), .val (.ref u1133), .val (.int x3), .val (.ref u1184), .val (.long (own_f_rm_ab (x3).toInt64)), .second, .val (.int (0 : Int32)), .val (.int (own_f_rm_dd (own_f_rm_ab (x3).toInt64))), .val (.int ((((1 : Int32) + (1 : Int32)) + (0 : Int32)) + (own_f_rm_dd (own_f_rm_ab (x3).toInt64))))] [(.int (1 : Int32))])
          refine Go.ifNo C X1444 (pc' := 367) at_364 ((if0 _ _).trans (feq (by decide)).1) rfl ?_
          refine Go.aload C X1444 (pc' := 369) at_367 rfl rfl rfl ?_
          refine Go.bipush C X1444 (pc' := 371) (v := (9 : Int32)) at_369 rfl rfl ?_
          refine Go.iload C X1444 (pc' := 373) at_371 rfl rfl ?_
          refine Go.aload C X1444 (pc' := 375) at_373 rfl rfl rfl ?_
          refine Go.iload C X1444 (pc' := 377) at_375 rfl rfl ?_
          refine Go.iload C X1444 (pc' := 379) at_377 rfl rfl ?_
          refine Go.iload C X1444 (pc' := 381) at_379 rfl rfl ?_
          refine Go.lload C X1444 (pc' := 383) at_381 rfl rfl ?_
          refine Go.callS C X1444 (pc' := 386) (W := 0) (argsL := [(.ref u1184), (.int (9 : Int32)), (.int ((((1 : Int32) + (1 : Int32)) + (0 : Int32)) + (own_f_rm_dd (own_f_rm_ab (x3).toInt64)))), (.ref u1133), (.int (1 : Int32)), (.int (0 : Int32)), (.int (own_f_rm_dd (own_f_rm_ab (x3).toInt64))), (.long (own_f_rm_ab (x3).toInt64))]) (rest := []) (rm_cx l Z a0 hw u1184 (9 : Int32) ((((1 : Int32) + (1 : Int32)) + (0 : Int32)) + (own_f_rm_dd (own_f_rm_ab (x3).toInt64))) u1133 (1 : Int32) (0 : Int32) (own_f_rm_dd (own_f_rm_ab (x3).toInt64)) (own_f_rm_ab (x3).toInt64) tv1184 (own_fs (own_b1 (own_c8 x0)) 1 v N sg) ((((1 : Int32) + (1 : Int32)) + (0 : Int32)) + (own_f_rm_dd (own_f_rm_ab (x3).toInt64))) b11133 1 (own_b1 (own_c8 x0)) (1 : Int32) 9 sg N v cs sf h1444 n0 X1444.sz O1445 hS hSF E1450 F1451 F1452 A1453 E1446 F1447 F1448 A1449 hcs hsf rfl (by decide) rfl (own_s6p hv c1197) (own_svs hv) hdd hN hab rfl hL hL (own_key (own_svs hv) hd.1)) (own_w hw 196 rfl) (own_w hw 197 rfl) (own_w hw 192 rfl) (own_w hw 198 rfl) (by decide) rfl rfl (lenOf own_pd36 rfl) rfl (Nat.le_of_eq rfl) (by decide) (by decide) (by decide) (by decide) at_383 rfl (fun _ _ q => by obtain ⟨_, K⟩ := q; exact K.1) (fun T1455 h1455 v1455 X1455 P1455 => ?_)
          obtain ⟨rfl, K1455⟩ := P1455
          have O1456 : Old Z n0 h1455 := O1445.keep K1455 all0
          have E1457 := E1446.keep K1455
          have F1458 := F1447.keep K1455 nin0
          have F1459 := F1448.keep K1455 nin0
          have A1460 := A1449.keep K1455 nin0
          have E1461 := E1450.keep K1455
          have F1462 := F1451.keep K1455 nin0
          have F1463 := F1452.keep K1455 nin0
          have A1464 := A1453.keep K1455 nin0
          have M1465 : h1184.size ≤ h1455.size := Nat.le_trans M1454 K1455.1
          show Go p e below _ n0 _ _ _ T1455 (mkF m 386 #[.val (.int x0), .val (.int x1), .val (.int x2), .val (.int x3), .val (.int x4), .val (.int (1 : Int32)), .val (.int (own_c8 x0)), .val (.int (own_c8 x1)), .val (.ref u1133), .val (.int x3), .val (.ref u1184), .val (.long (own_f_rm_ab (x3).toInt64)), .second, .val (.int (0 : Int32)), .val (.int (own_f_rm_dd (own_f_rm_ab (x3).toInt64))), .val (.int ((((1 : Int32) + (1 : Int32)) + (0 : Int32)) + (own_f_rm_dd (own_f_rm_ab (x3).toInt64))))] [(.int (1 : Int32))])
          refine Go.ifNo C X1455 (pc' := 389) at_386 ((if0 _ _).trans (feq (by decide)).1) rfl ?_
          refine Go.aload C X1455 (pc' := 391) at_389 rfl rfl rfl ?_
          refine Go.bipush C X1455 (pc' := 393) (v := (10 : Int32)) at_391 rfl rfl ?_
          refine Go.iload C X1455 (pc' := 395) at_393 rfl rfl ?_
          refine Go.aload C X1455 (pc' := 397) at_395 rfl rfl rfl ?_
          refine Go.iload C X1455 (pc' := 399) at_397 rfl rfl ?_
          refine Go.iload C X1455 (pc' := 401) at_399 rfl rfl ?_
          refine Go.iload C X1455 (pc' := 403) at_401 rfl rfl ?_
          refine Go.lload C X1455 (pc' := 405) at_403 rfl rfl ?_
          refine Go.callS C X1455 (pc' := 408) (W := 0) (argsL := [(.ref u1184), (.int (10 : Int32)), (.int ((((1 : Int32) + (1 : Int32)) + (0 : Int32)) + (own_f_rm_dd (own_f_rm_ab (x3).toInt64)))), (.ref u1133), (.int (1 : Int32)), (.int (0 : Int32)), (.int (own_f_rm_dd (own_f_rm_ab (x3).toInt64))), (.long (own_f_rm_ab (x3).toInt64))]) (rest := []) (rm_cx l Z a0 hw u1184 (10 : Int32) ((((1 : Int32) + (1 : Int32)) + (0 : Int32)) + (own_f_rm_dd (own_f_rm_ab (x3).toInt64))) u1133 (1 : Int32) (0 : Int32) (own_f_rm_dd (own_f_rm_ab (x3).toInt64)) (own_f_rm_ab (x3).toInt64) tv1184 (own_fs (own_b1 (own_c8 x0)) 1 v N sg) ((((1 : Int32) + (1 : Int32)) + (0 : Int32)) + (own_f_rm_dd (own_f_rm_ab (x3).toInt64))) b11133 1 (own_b1 (own_c8 x0)) (1 : Int32) 10 sg N v cs sf h1455 n0 X1455.sz O1456 hS hSF E1461 F1462 F1463 A1464 E1457 F1458 F1459 A1460 hcs hsf rfl (by decide) rfl (own_s6p hv c1197) (own_svs hv) hdd hN hab rfl hL hL (own_key (own_svs hv) hd.1)) (own_w hw 196 rfl) (own_w hw 197 rfl) (own_w hw 192 rfl) (own_w hw 198 rfl) (by decide) rfl rfl (lenOf own_pd36 rfl) rfl (Nat.le_of_eq rfl) (by decide) (by decide) (by decide) (by decide) at_405 rfl (fun _ _ q => by obtain ⟨_, K⟩ := q; exact K.1) (fun T1466 h1466 v1466 X1466 P1466 => ?_)
          obtain ⟨rfl, K1466⟩ := P1466
          have O1467 : Old Z n0 h1466 := O1456.keep K1466 all0
          have E1468 := E1457.keep K1466
          have F1469 := F1458.keep K1466 nin0
          have F1470 := F1459.keep K1466 nin0
          have A1471 := A1460.keep K1466 nin0
          have E1472 := E1461.keep K1466
          have F1473 := F1462.keep K1466 nin0
          have F1474 := F1463.keep K1466 nin0
          have A1475 := A1464.keep K1466 nin0
          have M1476 : h1184.size ≤ h1466.size := Nat.le_trans M1465 K1466.1
          show Go p e below _ n0 _ _ _ T1466 (mkF m 408 #[.val (.int x0), .val (.int x1), .val (.int x2), .val (.int x3), .val (.int x4), .val (.int (1 : Int32)), .val (.int (own_c8 x0)), .val (.int (own_c8 x1)), .val (.ref u1133), .val (.int x3), .val (.ref u1184), .val (.long (own_f_rm_ab (x3).toInt64)), .second, .val (.int (0 : Int32)), .val (.int (own_f_rm_dd (own_f_rm_ab (x3).toInt64))), .val (.int ((((1 : Int32) + (1 : Int32)) + (0 : Int32)) + (own_f_rm_dd (own_f_rm_ab (x3).toInt64))))] [(.int (1 : Int32))])
          refine Go.ifNo C X1466 (pc' := 411) at_408 ((if0 _ _).trans (feq (by decide)).1) rfl ?_
          refine Go.aload C X1466 (pc' := 413) at_411 rfl rfl rfl ?_
          refine Go.bipush C X1466 (pc' := 415) (v := (11 : Int32)) at_413 rfl rfl ?_
          refine Go.iload C X1466 (pc' := 417) at_415 rfl rfl ?_
          refine Go.aload C X1466 (pc' := 419) at_417 rfl rfl rfl ?_
          refine Go.iload C X1466 (pc' := 421) at_419 rfl rfl ?_
          refine Go.iload C X1466 (pc' := 423) at_421 rfl rfl ?_
          refine Go.iload C X1466 (pc' := 425) at_423 rfl rfl ?_
          refine Go.lload C X1466 (pc' := 427) at_425 rfl rfl ?_
          refine Go.callS C X1466 (pc' := 430) (W := 0) (argsL := [(.ref u1184), (.int (11 : Int32)), (.int ((((1 : Int32) + (1 : Int32)) + (0 : Int32)) + (own_f_rm_dd (own_f_rm_ab (x3).toInt64)))), (.ref u1133), (.int (1 : Int32)), (.int (0 : Int32)), (.int (own_f_rm_dd (own_f_rm_ab (x3).toInt64))), (.long (own_f_rm_ab (x3).toInt64))]) (rest := []) (rm_cx l Z a0 hw u1184 (11 : Int32) ((((1 : Int32) + (1 : Int32)) + (0 : Int32)) + (own_f_rm_dd (own_f_rm_ab (x3).toInt64))) u1133 (1 : Int32) (0 : Int32) (own_f_rm_dd (own_f_rm_ab (x3).toInt64)) (own_f_rm_ab (x3).toInt64) tv1184 (own_fs (own_b1 (own_c8 x0)) 1 v N sg) ((((1 : Int32) + (1 : Int32)) + (0 : Int32)) + (own_f_rm_dd (own_f_rm_ab (x3).toInt64))) b11133 1 (own_b1 (own_c8 x0)) (1 : Int32) 11 sg N v cs sf h1466 n0 X1466.sz O1467 hS hSF E1472 F1473 F1474 A1475 E1468 F1469 F1470 A1471 hcs hsf rfl (by decide) rfl (own_s6p hv c1197) (own_svs hv) hdd hN hab rfl hL hL (own_key (own_svs hv) hd.1)) (own_w hw 196 rfl) (own_w hw 197 rfl) (own_w hw 192 rfl) (own_w hw 198 rfl) (by decide) rfl rfl (lenOf own_pd36 rfl) rfl (Nat.le_of_eq rfl) (by decide) (by decide) (by decide) (by decide) at_427 rfl (fun _ _ q => by obtain ⟨_, K⟩ := q; exact K.1) (fun T1477 h1477 v1477 X1477 P1477 => ?_)
          obtain ⟨rfl, K1477⟩ := P1477
          have O1478 : Old Z n0 h1477 := O1467.keep K1477 all0
          have E1479 := E1468.keep K1477
          have F1480 := F1469.keep K1477 nin0
          have F1481 := F1470.keep K1477 nin0
          have A1482 := A1471.keep K1477 nin0
          have E1483 := E1472.keep K1477
          have F1484 := F1473.keep K1477 nin0
          have F1485 := F1474.keep K1477 nin0
          have A1486 := A1475.keep K1477 nin0
          have M1487 : h1184.size ≤ h1477.size := Nat.le_trans M1476 K1477.1
          show Go p e below _ n0 _ _ _ T1477 (mkF m 430 #[.val (.int x0), .val (.int x1), .val (.int x2), .val (.int x3), .val (.int x4), .val (.int (1 : Int32)), .val (.int (own_c8 x0)), .val (.int (own_c8 x1)), .val (.ref u1133), .val (.int x3), .val (.ref u1184), .val (.long (own_f_rm_ab (x3).toInt64)), .second, .val (.int (0 : Int32)), .val (.int (own_f_rm_dd (own_f_rm_ab (x3).toInt64))), .val (.int ((((1 : Int32) + (1 : Int32)) + (0 : Int32)) + (own_f_rm_dd (own_f_rm_ab (x3).toInt64))))] [(.int (1 : Int32))])
          refine Go.ifNo C X1477 (pc' := 433) at_430 ((if0 _ _).trans (feq (by decide)).1) rfl ?_
          refine Go.aload C X1477 (pc' := 435) at_433 rfl rfl rfl ?_
          refine Go.bipush C X1477 (pc' := 437) (v := (12 : Int32)) at_435 rfl rfl ?_
          refine Go.iload C X1477 (pc' := 439) at_437 rfl rfl ?_
          refine Go.aload C X1477 (pc' := 441) at_439 rfl rfl rfl ?_
          refine Go.iload C X1477 (pc' := 443) at_441 rfl rfl ?_
          refine Go.iload C X1477 (pc' := 445) at_443 rfl rfl ?_
          refine Go.iload C X1477 (pc' := 447) at_445 rfl rfl ?_
          refine Go.lload C X1477 (pc' := 449) at_447 rfl rfl ?_
          refine Go.callS C X1477 (pc' := 452) (W := 0) (argsL := [(.ref u1184), (.int (12 : Int32)), (.int ((((1 : Int32) + (1 : Int32)) + (0 : Int32)) + (own_f_rm_dd (own_f_rm_ab (x3).toInt64)))), (.ref u1133), (.int (1 : Int32)), (.int (0 : Int32)), (.int (own_f_rm_dd (own_f_rm_ab (x3).toInt64))), (.long (own_f_rm_ab (x3).toInt64))]) (rest := []) (rm_cx l Z a0 hw u1184 (12 : Int32) ((((1 : Int32) + (1 : Int32)) + (0 : Int32)) + (own_f_rm_dd (own_f_rm_ab (x3).toInt64))) u1133 (1 : Int32) (0 : Int32) (own_f_rm_dd (own_f_rm_ab (x3).toInt64)) (own_f_rm_ab (x3).toInt64) tv1184 (own_fs (own_b1 (own_c8 x0)) 1 v N sg) ((((1 : Int32) + (1 : Int32)) + (0 : Int32)) + (own_f_rm_dd (own_f_rm_ab (x3).toInt64))) b11133 1 (own_b1 (own_c8 x0)) (1 : Int32) 12 sg N v cs sf h1477 n0 X1477.sz O1478 hS hSF E1483 F1484 F1485 A1486 E1479 F1480 F1481 A1482 hcs hsf rfl (by decide) rfl (own_s6p hv c1197) (own_svs hv) hdd hN hab rfl hL hL (own_key (own_svs hv) hd.1)) (own_w hw 196 rfl) (own_w hw 197 rfl) (own_w hw 192 rfl) (own_w hw 198 rfl) (by decide) rfl rfl (lenOf own_pd36 rfl) rfl (Nat.le_of_eq rfl) (by decide) (by decide) (by decide) (by decide) at_449 rfl (fun _ _ q => by obtain ⟨_, K⟩ := q; exact K.1) (fun T1488 h1488 v1488 X1488 P1488 => ?_)
          obtain ⟨rfl, K1488⟩ := P1488
          have O1489 : Old Z n0 h1488 := O1478.keep K1488 all0
          have E1490 := E1479.keep K1488
          have F1491 := F1480.keep K1488 nin0
          have F1492 := F1481.keep K1488 nin0
          have A1493 := A1482.keep K1488 nin0
          have E1494 := E1483.keep K1488
          have F1495 := F1484.keep K1488 nin0
          have F1496 := F1485.keep K1488 nin0
          have A1497 := A1486.keep K1488 nin0
          have M1498 : h1184.size ≤ h1488.size := Nat.le_trans M1487 K1488.1
          show Go p e below _ n0 _ _ _ T1488 (mkF m 452 #[.val (.int x0), .val (.int x1), .val (.int x2), .val (.int x3), .val (.int x4), .val (.int (1 : Int32)), .val (.int (own_c8 x0)), .val (.int (own_c8 x1)), .val (.ref u1133), .val (.int x3), .val (.ref u1184), .val (.long (own_f_rm_ab (x3).toInt64)), .second, .val (.int (0 : Int32)), .val (.int (own_f_rm_dd (own_f_rm_ab (x3).toInt64))), .val (.int ((((1 : Int32) + (1 : Int32)) + (0 : Int32)) + (own_f_rm_dd (own_f_rm_ab (x3).toInt64))))] [(.int (1 : Int32))])
          refine Go.ifNo C X1488 (pc' := 455) at_452 ((if0 _ _).trans (feq (by decide)).1) rfl ?_
          refine Go.aload C X1488 (pc' := 457) at_455 rfl rfl rfl ?_
          refine Go.bipush C X1488 (pc' := 459) (v := (13 : Int32)) at_457 rfl rfl ?_
          refine Go.iload C X1488 (pc' := 461) at_459 rfl rfl ?_
          refine Go.aload C X1488 (pc' := 463) at_461 rfl rfl rfl ?_
          refine Go.iload C X1488 (pc' := 465) at_463 rfl rfl ?_
          refine Go.iload C X1488 (pc' := 467) at_465 rfl rfl ?_
          refine Go.iload C X1488 (pc' := 469) at_467 rfl rfl ?_
          refine Go.lload C X1488 (pc' := 471) at_469 rfl rfl ?_
          refine Go.callS C X1488 (pc' := 474) (W := 0) (argsL := [(.ref u1184), (.int (13 : Int32)), (.int ((((1 : Int32) + (1 : Int32)) + (0 : Int32)) + (own_f_rm_dd (own_f_rm_ab (x3).toInt64)))), (.ref u1133), (.int (1 : Int32)), (.int (0 : Int32)), (.int (own_f_rm_dd (own_f_rm_ab (x3).toInt64))), (.long (own_f_rm_ab (x3).toInt64))]) (rest := []) (rm_cx l Z a0 hw u1184 (13 : Int32) ((((1 : Int32) + (1 : Int32)) + (0 : Int32)) + (own_f_rm_dd (own_f_rm_ab (x3).toInt64))) u1133 (1 : Int32) (0 : Int32) (own_f_rm_dd (own_f_rm_ab (x3).toInt64)) (own_f_rm_ab (x3).toInt64) tv1184 (own_fs (own_b1 (own_c8 x0)) 1 v N sg) ((((1 : Int32) + (1 : Int32)) + (0 : Int32)) + (own_f_rm_dd (own_f_rm_ab (x3).toInt64))) b11133 1 (own_b1 (own_c8 x0)) (1 : Int32) 13 sg N v cs sf h1488 n0 X1488.sz O1489 hS hSF E1494 F1495 F1496 A1497 E1490 F1491 F1492 A1493 hcs hsf rfl (by decide) rfl (own_s6p hv c1197) (own_svs hv) hdd hN hab rfl hL hL (own_key (own_svs hv) hd.1)) (own_w hw 196 rfl) (own_w hw 197 rfl) (own_w hw 192 rfl) (own_w hw 198 rfl) (by decide) rfl rfl (lenOf own_pd36 rfl) rfl (Nat.le_of_eq rfl) (by decide) (by decide) (by decide) (by decide) at_471 rfl (fun _ _ q => by obtain ⟨_, K⟩ := q; exact K.1) (fun T1499 h1499 v1499 X1499 P1499 => ?_)
          obtain ⟨rfl, K1499⟩ := P1499
          have O1500 : Old Z n0 h1499 := O1489.keep K1499 all0
          have E1501 := E1490.keep K1499
          have F1502 := F1491.keep K1499 nin0
          have F1503 := F1492.keep K1499 nin0
          have A1504 := A1493.keep K1499 nin0
          have E1505 := E1494.keep K1499
          have F1506 := F1495.keep K1499 nin0
          have F1507 := F1496.keep K1499 nin0
          have A1508 := A1497.keep K1499 nin0
          have M1509 : h1184.size ≤ h1499.size := Nat.le_trans M1498 K1499.1
          show Go p e below _ n0 _ _ _ T1499 (mkF m 474 #[.val (.int x0), .val (.int x1), .val (.int x2), .val (.int x3), .val (.int x4), .val (.int (1 : Int32)), .val (.int (own_c8 x0)), .val (.int (own_c8 x1)), .val (.ref u1133), .val (.int x3), .val (.ref u1184), .val (.long (own_f_rm_ab (x3).toInt64)), .second, .val (.int (0 : Int32)), .val (.int (own_f_rm_dd (own_f_rm_ab (x3).toInt64))), .val (.int ((((1 : Int32) + (1 : Int32)) + (0 : Int32)) + (own_f_rm_dd (own_f_rm_ab (x3).toInt64))))] [(.int (1 : Int32))])
          refine Go.ifNo C X1499 (pc' := 477) at_474 ((if0 _ _).trans (feq (by decide)).1) rfl ?_
          refine Go.iconst C X1499 (pc' := 478) (v := (1 : Int32)) at_477 rfl rfl ?_
          refine Go.goto C X1499 (pc' := 482) at_478 (by decide) (by decide) ?_
          refine Go.wide ?_
          exact Go.retZ (t := .boolean) C X1499 (z' := (1 : Int32)) (by decide) at_482 ⟨rfl, M1509⟩ (by decide) (by decide)
    · refine Go.ifNo C X1133 (pc' := 80) at_77 ((if0 _ _).trans (feq c1138).1) rfl ?_
      refine Go.iconst C X1133 (pc' := 81) (v := (-1 : Int32)) at_80 rfl rfl ?_
      refine Go.goto C X1133 (pc' := 85) at_81 (by decide) (by decide) ?_
      refine Go.istore C X1133 (pc' := 87) (Ls' := #[.val (.int x0), .val (.int x1), .val (.int x2), .val (.int x3), .val (.int x4), .val (.int (1 : Int32)), .val (.int (own_c8 x0)), .val (.int (own_c8 x1)), .val (.ref u1133), .val (.int (-1 : Int32)), .unset, .unset, .unset, .unset, .unset, .unset]) at_85 rfl rfl ?_
      refine Go.newO C X1133 (pc' := 90) (own_w hw 30 rfl) (own_w hw 31 rfl) (own_w hw 32 rfl) at_87 (by decide) (by decide) rfl (fun T1510 h1510 b1510 X1510 g1510 E1510 Ex1510 D1510 N1510 => ?_)
      have ne_d1_b1510 : d1 ≠ b1510 := Nat.ne_of_lt (Nat.lt_of_lt_of_eq A1136.lt g1510.symm)
      have ne_d2_b1510 : d2 ≠ b1510 := Nat.ne_of_lt (Nat.lt_of_lt_of_eq A1137.lt g1510.symm)
      have ne_u1133_b1510 : u1133 ≠ b1510 := Nat.ne_of_lt (Nat.lt_of_lt_of_eq O1133_0.lt g1510.symm)
      have ne_b11133_b1510 : b11133 ≠ b1510 := Nat.ne_of_lt (Nat.lt_of_lt_of_eq O1133_3.lt g1510.symm)
      have Q1510 : h0.size ≤ b1510 := Nat.le_trans K1135.1 (Nat.le_of_eq g1510.symm)
      have O1511 : Old Z n0 h1510 := O1134.ext E1510
      have K1512 : Keep h0 h1510 [] := K1135.ext E1510
      have A1513 := A1136.ext E1510
      have A1514 := A1137.ext E1510
      have E1515 := O1133_0.ext E1510
      have F1516 := O1133_1.ext E1510
      have F1517 := O1133_2.ext E1510
      have A1518 := O1133_3.ext E1510
      have F1519 : Fld Z h1510 b1510 "com/example/wharfline/wharfline/runtime/Work" "connector" "Ljava/lang/String;" .null := D1510 (Or.inr (own_w hw 43 rfl)) (ty := (.object "java/lang/String")) (by decide)
      have F1520 : Fld Z h1510 b1510 "com/example/wharfline/wharfline/runtime/Work" "task" "I" (.int (0 : Int32)) := D1510 (Or.inr (own_w hw 45 rfl)) (ty := .int) (by decide)
      refine Go.dup C X1510 (pc' := 91) at_90 rfl rfl ?_
      refine Go.aload C X1510 (pc' := 93) at_91 rfl rfl rfl ?_
      refine Go.iload C X1510 (pc' := 95) at_93 rfl rfl ?_
      refine Go.callI C X1510 (pc' := 98) (W := 1) (argsL := [(.ref u1133), (.int (-1 : Int32))]) (rest := [(.ref b1510)]) (a := b1510) (rm_wi l Z a0 hw b1510 u1133 (-1 : Int32)  h1510 n0 X1510.sz Ex1510 F1519 F1520 N1510) rfl rfl (own_w hw 33 rfl) (own_w hw 34 rfl) (own_w hw 32 rfl) (own_w hw 35 rfl) (by decide) rfl rfl (lenOf own_pd32 rfl) rfl (Nat.le_of_eq rfl) (by decide) (by decide) (by decide) (by decide) at_95 rfl (fun _ _ q => by obtain ⟨_, K, _⟩ := q; exact K.1) (fun T1521 h1521 v1521 X1521 P1521 => ?_)
      obtain ⟨rfl, K1521, O1521_0, O1521_1, O1521_2⟩ := P1521
      have O1522 : Old Z n0 h1521 := O1511.keep K1521 (allS N1510 all0)
      have K1523 : Keep h0 h1521 [] := K1512.trans K1521 (allS (Or.inr Q1510) all0)
      have A1524 := A1513.keep K1521 (ninS ne_d1_b1510 nin0)
      have A1525 := A1514.keep K1521 (ninS ne_d2_b1510 nin0)
      have E1526 := E1515.keep K1521
      have F1527 := F1516.keep K1521 (ninS ne_u1133_b1510 nin0)
      have F1528 := F1517.keep K1521 (ninS ne_u1133_b1510 nin0)
      have A1529 := A1518.keep K1521 (ninS ne_b11133_b1510 nin0)
      have E1530 := Ex1510.keep K1521
      show Go p e below _ n0 _ _ _ T1521 (mkF m 98 #[.val (.int x0), .val (.int x1), .val (.int x2), .val (.int x3), .val (.int x4), .val (.int (1 : Int32)), .val (.int (own_c8 x0)), .val (.int (own_c8 x1)), .val (.ref u1133), .val (.int (-1 : Int32)), .unset, .unset, .unset, .unset, .unset, .unset] [(.ref b1510)])
      refine Go.callV C X1521 (pc' := 101) (W := 0) (argsL := []) (rest := []) (a := b1510) (rm_t1 l Z a0 hw b1510 u1133 h1521 n0 X1521.sz O1521_0 O1521_1 O1521_2) O1521_0 (notFace_of_selects (args := #[]) (mvT C.2.1 (own_w hw 49 rfl))) (own_w hw 46 rfl) (own_w hw 47 rfl) (own_w hw 49 rfl) (own_w hw 48 rfl) (own_w hw 32 rfl) (own_w hw 50 rfl) (by decide) rfl rfl (lenOf own_pd29 rfl) rfl (Nat.le_of_eq rfl) (by decide) (by decide) (by decide) (by decide) at_98 rfl (fun _ _ q => Nat.le_of_eq (congrArg Array.size q.2)) (fun T1531 h1531 v1531 X1531 P1531 => ?_)
      obtain ⟨rfl, rfl⟩ := P1531
      show Go p e below _ n0 _ _ _ T1531 (mkF m 101 #[.val (.int x0), .val (.int x1), .val (.int x2), .val (.int x3), .val (.int x4), .val (.int (1 : Int32)), .val (.int (own_c8 x0)), .val (.int (own_c8 x1)), .val (.ref u1133), .val (.int (-1 : Int32)), .unset, .unset, .unset, .unset, .unset, .unset] [(.ref u1133)])
      refine Go.astore C X1531 (pc' := 103) (Ls' := #[.val (.int x0), .val (.int x1), .val (.int x2), .val (.int x3), .val (.int x4), .val (.int (1 : Int32)), .val (.int (own_c8 x0)), .val (.int (own_c8 x1)), .val (.ref u1133), .val (.int (-1 : Int32)), .val (.ref u1133), .unset, .unset, .unset, .unset, .unset]) at_101 rfl rfl rfl ?_
      refine Go.aload C X1531 (pc' := 105) at_103 rfl rfl rfl ?_
      refine Go.ifnonnullYes C X1531 (pc' := 110) at_105 (by decide) (by decide) ?_
      refine Go.iload C X1531 (pc' := 112) at_110 rfl rfl ?_
      refine Go.iconst C X1531 (pc' := 113) (v := (-1 : Int32)) at_112 rfl rfl ?_
      refine Go.icmpNo C X1531 (pc' := 116) at_113 (teq (by decide)).2 rfl ?_
      refine Go.aload C X1531 (pc' := 118) at_116 rfl rfl rfl ?_
      refine Go.aload C X1531 (pc' := 120) at_118 rfl rfl rfl ?_
      refine Go.callV C X1531 (pc' := 123) (W := 0) (argsL := [(.ref u1133)]) (rest := []) (a := u1133) (rm_eq l Z a0 hw u1133 u1133  h1521 n0 X1531.sz rfl) E1526 (notFace_of_selects (args := #[]) (mvT C.2.1 (own_w hw 236 rfl))) (own_w hw 233 rfl) (own_w hw 234 rfl) (own_w hw 236 rfl) (own_w hw 235 rfl) (own_w hw 2 rfl) (own_w hw 237 rfl) (by decide) rfl rfl (lenOf own_pd33 rfl) rfl (Nat.le_of_eq rfl) (by decide) (by decide) (by decide) (by decide) at_120 rfl (fun _ _ q => Nat.le_of_eq (congrArg Array.size q.2)) (fun T1532 h1532 v1532 X1532 P1532 => ?_)
      obtain ⟨rfl, rfl⟩ := P1532
      show Go p e below _ n0 _ _ _ T1532 (mkF m 123 #[.val (.int x0), .val (.int x1), .val (.int x2), .val (.int x3), .val (.int x4), .val (.int (1 : Int32)), .val (.int (own_c8 x0)), .val (.int (own_c8 x1)), .val (.ref u1133), .val (.int (-1 : Int32)), .val (.ref u1133), .unset, .unset, .unset, .unset, .unset] [(.int (1 : Int32))])
      refine Go.wide ?_
      exact Go.retZ (t := .boolean) C X1532 (z' := (1 : Int32)) (by decide) at_123 rfl (by decide) (by decide)
  · rw [q690]
    refine Go.iload C X0 (pc' := 25) at_23 rfl rfl ?_
    refine Go.ifYes C X0 (pc' := 35) at_25 ((if0 _ _).trans (feq (by decide)).2) (by decide) (by decide) ?_
    refine Go.iload C X0 (pc' := 37) at_35 rfl rfl ?_
    refine Go.iconst C X0 (pc' := 38) (v := (1 : Int32)) at_37 rfl rfl ?_
    refine Go.icmpYes C X0 (pc' := 51) at_38 (feq (by decide)).2 (by decide) (by decide) ?_
    refine Go.newO C X0 (pc' := 54) (own_w hw 0 rfl) (own_w hw 1 rfl) (own_w hw 2 rfl) at_51 (by decide) (by decide) rfl (fun T1533 h1533 b1533 X1533 g1533 E1533 Ex1533 D1533 N1533 => ?_)
    have ne_d1_b1533 : d1 ≠ b1533 := Nat.ne_of_lt (Nat.lt_of_lt_of_eq a_d1.lt g1533.symm)
    have ne_d2_b1533 : d2 ≠ b1533 := Nat.ne_of_lt (Nat.lt_of_lt_of_eq a_d2.lt g1533.symm)
    have Q1533 : h0.size ≤ b1533 := Nat.le_trans (Keep.refl h0 []).1 (Nat.le_of_eq g1533.symm)
    have O1534 : Old Z n0 h1533 := hO.ext E1533
    have K1535 : Keep h0 h1533 [] := (Keep.refl h0 []).ext E1533
    have A1536 := a_d1.ext E1533
    have A1537 := a_d2.ext E1533
    have F1538 : Fld Z h1533 b1533 "java/lang/String" "coder" "B" (.int (0 : Int32)) := D1533 (Or.inr (own_w hw 27 rfl)) (ty := .byte) (by decide)
    have F1539 : Fld Z h1533 b1533 "java/lang/String" "value" "[B" .null := D1533 (Or.inr (own_w hw 29 rfl)) (ty := (.array .byte)) (by decide)
    refine Go.dup C X1533 (pc' := 55) at_54 rfl rfl ?_
    refine Go.iconst C X1533 (pc' := 56) (v := (2 : Int32)) at_55 rfl rfl ?_
    refine Go.newP C X1533 (pc' := 58) (nn := 2) (cap := 2) (own_w hw 3 rfl) at_56 rfl (by decide) (by decide) (by decide) (by decide) rfl (fun T1540 h1540 b1540 k1540 X1540 g1540 E1540 Ar1540 N1540 => ?_)
    have ne_d1_b1540 : d1 ≠ b1540 := Nat.ne_of_lt (Nat.lt_of_lt_of_eq A1536.lt g1540.symm)
    have ne_d2_b1540 : d2 ≠ b1540 := Nat.ne_of_lt (Nat.lt_of_lt_of_eq A1537.lt g1540.symm)
    have ne_b1533_b1540 : b1533 ≠ b1540 := Nat.ne_of_lt (Nat.lt_of_lt_of_eq Ex1533.lt g1540.symm)
    have Q1540 : h0.size ≤ b1540 := Nat.le_trans K1535.1 (Nat.le_of_eq g1540.symm)
    have O1541 : Old Z n0 h1540 := O1534.ext E1540
    have K1542 : Keep h0 h1540 [] := K1535.ext E1540
    have A1543 := A1536.ext E1540
    have A1544 := A1537.ext E1540
    have E1545 := Ex1533.ext E1540
    have F1546 := F1538.ext E1540
    have F1547 := F1539.ext E1540
    have A1540 : AI Z h1540 b1540 .char 2 (fun _ => 0) := AI.new rfl rfl Ar1540
    refine Go.dup C X1540 (pc' := 59) at_58 rfl rfl ?_
    refine Go.iconst C X1540 (pc' := 60) (v := (0 : Int32)) at_59 rfl rfl ?_
    refine Go.iload C X1540 (pc' := 62) at_60 rfl rfl ?_
    refine Go.castore C X1540 (pc' := 63) (i := 0) (x' := (own_c8 x0)) A1540 rfl (by decide) (own_c8n x0) N1540 at_62 rfl (fun T1548 h1548 X1548 W1548 A1548 => ?_)
    have O1549 : Old Z n0 h1548 := O1541.wr W1548 N1540
    have K1550 : Keep h0 h1548 [] := K1542.wr W1548 (Or.inr Q1540)
    have A1551 := A1543.other W1548 ne_d1_b1540
    have A1552 := A1544.other W1548 ne_d2_b1540
    have E1553 := E1545.wr W1548
    have F1554 := F1546.other W1548 (Or.inl ne_b1533_b1540)
    have F1555 := F1547.other W1548 (Or.inl ne_b1533_b1540)
    refine Go.dup C X1548 (pc' := 64) at_63 rfl rfl ?_
    refine Go.iconst C X1548 (pc' := 65) (v := (1 : Int32)) at_64 rfl rfl ?_
    refine Go.iload C X1548 (pc' := 67) at_65 rfl rfl ?_
    refine Go.castore C X1548 (pc' := 68) (i := 1) (x' := (own_c8 x1)) A1548 rfl (by decide) (own_c8n x1) N1540 at_67 rfl (fun T1556 h1556 X1556 W1556 A1556 => ?_)
    have O1557 : Old Z n0 h1556 := O1549.wr W1556 N1540
    have K1558 : Keep h0 h1556 [] := K1550.wr W1556 (Or.inr Q1540)
    have A1559 := A1551.other W1556 ne_d1_b1540
    have A1560 := A1552.other W1556 ne_d2_b1540
    have E1561 := E1553.wr W1556
    have F1562 := F1554.other W1556 (Or.inl ne_b1533_b1540)
    have F1563 := F1555.other W1556 (Or.inl ne_b1533_b1540)
    refine Go.callI C X1556 (pc' := 71) (W := 1) (argsL := [(.ref b1540)]) (rest := [(.ref b1533)]) (a := b1533) (rm_sc l Z a0 hw b1533 b1540 2 (fun q => if q = 1 then (own_c8 x1) else (fun q => if q = 0 then (own_c8 x0) else (fun _ => 0) q) q) (2 : Int32) cs h1556 n0 X1556.sz O1557 hS E1561 F1563 F1562 N1533 A1556 ne_b1533_b1540 hcs rfl (by decide) (by decide) (own_hcf (own_hcf own_hc0 (own_n255 x0)) (own_n255 x1))) rfl rfl (own_w hw 4 rfl) (own_w hw 5 rfl) (own_w hw 2 rfl) (own_w hw 6 rfl) (by decide) rfl rfl (lenOf own_pd38 rfl) rfl (Nat.le_of_eq rfl) (by decide) (by decide) (by decide) (by decide) at_68 rfl (fun _ _ q => by obtain ⟨_, _, _, _, K, _⟩ := q; exact K.1) (fun T1564 h1564 v1564 X1564 P1564 => ?_)
    obtain ⟨t1564, f11564, rfl, D1564_t, K1564, O1564_0, O1564_1, O1564_2, O1564_3, O1564_4, Y1564_0⟩ := P1564
    have ne_d1_t1564 : d1 ≠ t1564 := Nat.ne_of_lt (Nat.lt_of_lt_of_le A1559.lt D1564_t)
    have ne_d2_t1564 : d2 ≠ t1564 := Nat.ne_of_lt (Nat.lt_of_lt_of_le A1560.lt D1564_t)
    have ne_b1533_t1564 : b1533 ≠ t1564 := Nat.ne_of_lt (Nat.lt_of_lt_of_le E1561.lt D1564_t)
    have ne_b1540_t1564 : b1540 ≠ t1564 := Nat.ne_of_lt (Nat.lt_of_lt_of_le A1556.lt D1564_t)
    have N_t1564 : n0 ≤ t1564 := Nat.le_trans X1556.sz D1564_t
    have Q_t1564 : h0.size ≤ t1564 := Nat.le_trans K1558.1 D1564_t
    have O1565 : Old Z n0 h1564 := O1557.keep K1564 (allS N1533 all0)
    have K1566 : Keep h0 h1564 [] := K1558.trans K1564 (allS (Or.inr Q1533) all0)
    have A1567 := A1559.keep K1564 (ninS ne_d1_b1533 nin0)
    have A1568 := A1560.keep K1564 (ninS ne_d2_b1533 nin0)
    have E1569 := E1561.keep K1564
    have A1570 := A1556.keep K1564 (ninS (Ne.symm ne_b1533_b1540) nin0)
    show Go p e below _ n0 _ _ _ T1564 (mkF m 71 #[.val (.int x0), .val (.int x1), .val (.int x2), .val (.int x3), .val (.int x4), .val (.int (2 : Int32)), .val (.int (own_c8 x0)), .val (.int (own_c8 x1)), .unset, .unset, .unset, .unset, .unset, .unset, .unset, .unset] [(.ref b1533)])
    refine Go.astore C X1564 (pc' := 73) (Ls' := #[.val (.int x0), .val (.int x1), .val (.int x2), .val (.int x3), .val (.int x4), .val (.int (2 : Int32)), .val (.int (own_c8 x0)), .val (.int (own_c8 x1)), .val (.ref b1533), .unset, .unset, .unset, .unset, .unset, .unset, .unset]) at_71 rfl rfl rfl ?_
    refine Go.iload C X1564 (pc' := 75) at_73 rfl rfl ?_
    refine Go.iconst C X1564 (pc' := 76) (v := (1 : Int32)) at_75 rfl rfl ?_
    refine Go.iand C X1564 (pc' := 77) at_76 rfl ?_
    by_cases c1571 : (x4 &&& (1 : Int32)) = (0 : Int32)
    · refine Go.ifYes C X1564 (pc' := 84) at_77 ((if0 _ _).trans (teq c1571).1) (by decide) (by decide) ?_
      refine Go.iloadN C X1564 (pc' := 85) at_84 rfl rfl ?_
      refine Go.istore C X1564 (pc' := 87) (Ls' := #[.val (.int x0), .val (.int x1), .val (.int x2), .val (.int x3), .val (.int x4), .val (.int (2 : Int32)), .val (.int (own_c8 x0)), .val (.int (own_c8 x1)), .val (.ref b1533), .val (.int x3), .unset, .unset, .unset, .unset, .unset, .unset]) at_85 rfl rfl ?_
      by_cases c1572 : x3 = (-1 : Int32)
      · rw [c1572]
        refine Go.newO C X1564 (pc' := 90) (own_w hw 30 rfl) (own_w hw 31 rfl) (own_w hw 32 rfl) at_87 (by decide) (by decide) rfl (fun T1573 h1573 b1573 X1573 g1573 E1573 Ex1573 D1573 N1573 => ?_)
        have ne_d1_b1573 : d1 ≠ b1573 := Nat.ne_of_lt (Nat.lt_of_lt_of_eq A1567.lt g1573.symm)
        have ne_d2_b1573 : d2 ≠ b1573 := Nat.ne_of_lt (Nat.lt_of_lt_of_eq A1568.lt g1573.symm)
        have ne_b1533_b1573 : b1533 ≠ b1573 := Nat.ne_of_lt (Nat.lt_of_lt_of_eq O1564_0.lt g1573.symm)
        have ne_b1540_b1573 : b1540 ≠ b1573 := Nat.ne_of_lt (Nat.lt_of_lt_of_eq A1570.lt g1573.symm)
        have ne_t1564_b1573 : t1564 ≠ b1573 := Nat.ne_of_lt (Nat.lt_of_lt_of_eq O1564_3.lt g1573.symm)
        have Q1573 : h0.size ≤ b1573 := Nat.le_trans K1566.1 (Nat.le_of_eq g1573.symm)
        have O1574 : Old Z n0 h1573 := O1565.ext E1573
        have K1575 : Keep h0 h1573 [] := K1566.ext E1573
        have A1576 := A1567.ext E1573
        have A1577 := A1568.ext E1573
        have E1578 := O1564_0.ext E1573
        have A1579 := A1570.ext E1573
        have F1580 := O1564_1.ext E1573
        have F1581 := O1564_2.ext E1573
        have A1582 := O1564_3.ext E1573
        have F1583 : Fld Z h1573 b1573 "com/example/wharfline/wharfline/runtime/Work" "connector" "Ljava/lang/String;" .null := D1573 (Or.inr (own_w hw 43 rfl)) (ty := (.object "java/lang/String")) (by decide)
        have F1584 : Fld Z h1573 b1573 "com/example/wharfline/wharfline/runtime/Work" "task" "I" (.int (0 : Int32)) := D1573 (Or.inr (own_w hw 45 rfl)) (ty := .int) (by decide)
        refine Go.dup C X1573 (pc' := 91) at_90 rfl rfl ?_
        refine Go.aload C X1573 (pc' := 93) at_91 rfl rfl rfl ?_
        refine Go.iload C X1573 (pc' := 95) at_93 rfl rfl ?_
        refine Go.callI C X1573 (pc' := 98) (W := 1) (argsL := [(.ref b1533), (.int (-1 : Int32))]) (rest := [(.ref b1573)]) (a := b1573) (rm_wi l Z a0 hw b1573 b1533 (-1 : Int32)  h1573 n0 X1573.sz Ex1573 F1583 F1584 N1573) rfl rfl (own_w hw 33 rfl) (own_w hw 34 rfl) (own_w hw 32 rfl) (own_w hw 35 rfl) (by decide) rfl rfl (lenOf own_pd32 rfl) rfl (Nat.le_of_eq rfl) (by decide) (by decide) (by decide) (by decide) at_95 rfl (fun _ _ q => by obtain ⟨_, K, _⟩ := q; exact K.1) (fun T1585 h1585 v1585 X1585 P1585 => ?_)
        obtain ⟨rfl, K1585, O1585_0, O1585_1, O1585_2⟩ := P1585
        have O1586 : Old Z n0 h1585 := O1574.keep K1585 (allS N1573 all0)
        have K1587 : Keep h0 h1585 [] := K1575.trans K1585 (allS (Or.inr Q1573) all0)
        have A1588 := A1576.keep K1585 (ninS ne_d1_b1573 nin0)
        have A1589 := A1577.keep K1585 (ninS ne_d2_b1573 nin0)
        have E1590 := E1578.keep K1585
        have A1591 := A1579.keep K1585 (ninS ne_b1540_b1573 nin0)
        have F1592 := F1580.keep K1585 (ninS ne_b1533_b1573 nin0)
        have F1593 := F1581.keep K1585 (ninS ne_b1533_b1573 nin0)
        have A1594 := A1582.keep K1585 (ninS ne_t1564_b1573 nin0)
        have E1595 := Ex1573.keep K1585
        show Go p e below _ n0 _ _ _ T1585 (mkF m 98 #[.val (.int x0), .val (.int x1), .val (.int x2), .val (.int (-1 : Int32)), .val (.int x4), .val (.int (2 : Int32)), .val (.int (own_c8 x0)), .val (.int (own_c8 x1)), .val (.ref b1533), .val (.int (-1 : Int32)), .unset, .unset, .unset, .unset, .unset, .unset] [(.ref b1573)])
        refine Go.callV C X1585 (pc' := 101) (W := 0) (argsL := []) (rest := []) (a := b1573) (rm_t1 l Z a0 hw b1573 b1533 h1585 n0 X1585.sz O1585_0 O1585_1 O1585_2) O1585_0 (notFace_of_selects (args := #[]) (mvT C.2.1 (own_w hw 49 rfl))) (own_w hw 46 rfl) (own_w hw 47 rfl) (own_w hw 49 rfl) (own_w hw 48 rfl) (own_w hw 32 rfl) (own_w hw 50 rfl) (by decide) rfl rfl (lenOf own_pd29 rfl) rfl (Nat.le_of_eq rfl) (by decide) (by decide) (by decide) (by decide) at_98 rfl (fun _ _ q => Nat.le_of_eq (congrArg Array.size q.2)) (fun T1596 h1596 v1596 X1596 P1596 => ?_)
        obtain ⟨rfl, rfl⟩ := P1596
        show Go p e below _ n0 _ _ _ T1596 (mkF m 101 #[.val (.int x0), .val (.int x1), .val (.int x2), .val (.int (-1 : Int32)), .val (.int x4), .val (.int (2 : Int32)), .val (.int (own_c8 x0)), .val (.int (own_c8 x1)), .val (.ref b1533), .val (.int (-1 : Int32)), .unset, .unset, .unset, .unset, .unset, .unset] [(.ref b1533)])
        refine Go.astore C X1596 (pc' := 103) (Ls' := #[.val (.int x0), .val (.int x1), .val (.int x2), .val (.int (-1 : Int32)), .val (.int x4), .val (.int (2 : Int32)), .val (.int (own_c8 x0)), .val (.int (own_c8 x1)), .val (.ref b1533), .val (.int (-1 : Int32)), .val (.ref b1533), .unset, .unset, .unset, .unset, .unset]) at_101 rfl rfl rfl ?_
        refine Go.aload C X1596 (pc' := 105) at_103 rfl rfl rfl ?_
        refine Go.ifnonnullYes C X1596 (pc' := 110) at_105 (by decide) (by decide) ?_
        refine Go.iload C X1596 (pc' := 112) at_110 rfl rfl ?_
        refine Go.iconst C X1596 (pc' := 113) (v := (-1 : Int32)) at_112 rfl rfl ?_
        refine Go.icmpNo C X1596 (pc' := 116) at_113 (teq (by decide)).2 rfl ?_
        refine Go.aload C X1596 (pc' := 118) at_116 rfl rfl rfl ?_
        refine Go.aload C X1596 (pc' := 120) at_118 rfl rfl rfl ?_
        refine Go.callV C X1596 (pc' := 123) (W := 0) (argsL := [(.ref b1533)]) (rest := []) (a := b1533) (rm_eq l Z a0 hw b1533 b1533  h1585 n0 X1596.sz rfl) E1590 (notFace_of_selects (args := #[]) (mvT C.2.1 (own_w hw 236 rfl))) (own_w hw 233 rfl) (own_w hw 234 rfl) (own_w hw 236 rfl) (own_w hw 235 rfl) (own_w hw 2 rfl) (own_w hw 237 rfl) (by decide) rfl rfl (lenOf own_pd33 rfl) rfl (Nat.le_of_eq rfl) (by decide) (by decide) (by decide) (by decide) at_120 rfl (fun _ _ q => Nat.le_of_eq (congrArg Array.size q.2)) (fun T1597 h1597 v1597 X1597 P1597 => ?_)
        obtain ⟨rfl, rfl⟩ := P1597
        show Go p e below _ n0 _ _ _ T1597 (mkF m 123 #[.val (.int x0), .val (.int x1), .val (.int x2), .val (.int (-1 : Int32)), .val (.int x4), .val (.int (2 : Int32)), .val (.int (own_c8 x0)), .val (.int (own_c8 x1)), .val (.ref b1533), .val (.int (-1 : Int32)), .val (.ref b1533), .unset, .unset, .unset, .unset, .unset] [(.int (1 : Int32))])
        refine Go.wide ?_
        exact Go.retZ (t := .boolean) C X1597 (z' := (1 : Int32)) (by decide) at_123 rfl (by decide) (by decide)
      · obtain ⟨v, N, sg, hv, hd, hN, hss, hab, hdd⟩ := own_all x3
        refine Go.newO C X1564 (pc' := 90) (own_w hw 30 rfl) (own_w hw 31 rfl) (own_w hw 32 rfl) at_87 (by decide) (by decide) rfl (fun T1598 h1598 b1598 X1598 g1598 E1598 Ex1598 D1598 N1598 => ?_)
        have ne_d1_b1598 : d1 ≠ b1598 := Nat.ne_of_lt (Nat.lt_of_lt_of_eq A1567.lt g1598.symm)
        have ne_d2_b1598 : d2 ≠ b1598 := Nat.ne_of_lt (Nat.lt_of_lt_of_eq A1568.lt g1598.symm)
        have ne_b1533_b1598 : b1533 ≠ b1598 := Nat.ne_of_lt (Nat.lt_of_lt_of_eq O1564_0.lt g1598.symm)
        have ne_b1540_b1598 : b1540 ≠ b1598 := Nat.ne_of_lt (Nat.lt_of_lt_of_eq A1570.lt g1598.symm)
        have ne_t1564_b1598 : t1564 ≠ b1598 := Nat.ne_of_lt (Nat.lt_of_lt_of_eq O1564_3.lt g1598.symm)
        have Q1598 : h0.size ≤ b1598 := Nat.le_trans K1566.1 (Nat.le_of_eq g1598.symm)
        have O1599 : Old Z n0 h1598 := O1565.ext E1598
        have K1600 : Keep h0 h1598 [] := K1566.ext E1598
        have A1601 := A1567.ext E1598
        have A1602 := A1568.ext E1598
        have E1603 := O1564_0.ext E1598
        have A1604 := A1570.ext E1598
        have F1605 := O1564_1.ext E1598
        have F1606 := O1564_2.ext E1598
        have A1607 := O1564_3.ext E1598
        have F1608 : Fld Z h1598 b1598 "com/example/wharfline/wharfline/runtime/Work" "connector" "Ljava/lang/String;" .null := D1598 (Or.inr (own_w hw 43 rfl)) (ty := (.object "java/lang/String")) (by decide)
        have F1609 : Fld Z h1598 b1598 "com/example/wharfline/wharfline/runtime/Work" "task" "I" (.int (0 : Int32)) := D1598 (Or.inr (own_w hw 45 rfl)) (ty := .int) (by decide)
        refine Go.dup C X1598 (pc' := 91) at_90 rfl rfl ?_
        refine Go.aload C X1598 (pc' := 93) at_91 rfl rfl rfl ?_
        refine Go.iload C X1598 (pc' := 95) at_93 rfl rfl ?_
        refine Go.callI C X1598 (pc' := 98) (W := 1) (argsL := [(.ref b1533), (.int x3)]) (rest := [(.ref b1598)]) (a := b1598) (rm_wi l Z a0 hw b1598 b1533 x3  h1598 n0 X1598.sz Ex1598 F1608 F1609 N1598) rfl rfl (own_w hw 33 rfl) (own_w hw 34 rfl) (own_w hw 32 rfl) (own_w hw 35 rfl) (by decide) rfl rfl (lenOf own_pd32 rfl) rfl (Nat.le_of_eq rfl) (by decide) (by decide) (by decide) (by decide) at_95 rfl (fun _ _ q => by obtain ⟨_, K, _⟩ := q; exact K.1) (fun T1610 h1610 v1610 X1610 P1610 => ?_)
        obtain ⟨rfl, K1610, O1610_0, O1610_1, O1610_2⟩ := P1610
        have O1611 : Old Z n0 h1610 := O1599.keep K1610 (allS N1598 all0)
        have K1612 : Keep h0 h1610 [] := K1600.trans K1610 (allS (Or.inr Q1598) all0)
        have A1613 := A1601.keep K1610 (ninS ne_d1_b1598 nin0)
        have A1614 := A1602.keep K1610 (ninS ne_d2_b1598 nin0)
        have E1615 := E1603.keep K1610
        have A1616 := A1604.keep K1610 (ninS ne_b1540_b1598 nin0)
        have F1617 := F1605.keep K1610 (ninS ne_b1533_b1598 nin0)
        have F1618 := F1606.keep K1610 (ninS ne_b1533_b1598 nin0)
        have A1619 := A1607.keep K1610 (ninS ne_t1564_b1598 nin0)
        have E1620 := Ex1598.keep K1610
        show Go p e below _ n0 _ _ _ T1610 (mkF m 98 #[.val (.int x0), .val (.int x1), .val (.int x2), .val (.int x3), .val (.int x4), .val (.int (2 : Int32)), .val (.int (own_c8 x0)), .val (.int (own_c8 x1)), .val (.ref b1533), .val (.int x3), .unset, .unset, .unset, .unset, .unset, .unset] [(.ref b1598)])
        refine Go.callVW C X1610 (pc' := 101) (W := 0) (argsL := []) (rest := []) (a := b1598) (rm_ts l Z a0 hw b1598 b1533 t1564 2 f11564 (2 : Int32) x3 v N sg cs d1 d2 h1610 n0 X1610.sz O1611 hS h_d1 h_d2 A1613 A1614 O1610_0 O1610_1 O1610_2 E1615 F1617 F1618 A1619 hcs rfl Y1564_0 (by decide) c1572 hv hd hN hss) (own_ew hw) (CHv.keep K1612 (fun _ q => absurd q List.not_mem_nil) HC0) O1610_0 (notFace_of_selects (args := #[]) (mvT C.2.1 (own_w hw 49 rfl))) (own_w hw 46 rfl) (own_w hw 47 rfl) (own_w hw 49 rfl) (own_w hw 48 rfl) (own_w hw 32 rfl) (own_w hw 50 rfl) (by decide) rfl rfl (lenOf own_pd29 rfl) rfl (Nat.le_of_eq rfl) (by decide) (by decide) (by decide) (by decide) at_98 rfl (fun T1621 h1621 v1621 X1621 C P1621 => ?_)
        obtain ⟨u1621, tv1621, rfl, D1621_u, D1621_tv, K1621, O1621_0, O1621_1, O1621_2, O1621_3⟩ := P1621
        have ne_d1_u1621 : d1 ≠ u1621 := Nat.ne_of_lt (Nat.lt_of_lt_of_le A1613.lt D1621_u)
        have ne_d2_u1621 : d2 ≠ u1621 := Nat.ne_of_lt (Nat.lt_of_lt_of_le A1614.lt D1621_u)
        have ne_b1533_u1621 : b1533 ≠ u1621 := Nat.ne_of_lt (Nat.lt_of_lt_of_le E1615.lt D1621_u)
        have ne_b1540_u1621 : b1540 ≠ u1621 := Nat.ne_of_lt (Nat.lt_of_lt_of_le A1616.lt D1621_u)
        have ne_t1564_u1621 : t1564 ≠ u1621 := Nat.ne_of_lt (Nat.lt_of_lt_of_le A1619.lt D1621_u)
        have ne_b1598_u1621 : b1598 ≠ u1621 := Nat.ne_of_lt (Nat.lt_of_lt_of_le O1610_0.lt D1621_u)
        have N_u1621 : n0 ≤ u1621 := Nat.le_trans X1610.sz D1621_u
        have Q_u1621 : h0.size ≤ u1621 := Nat.le_trans K1612.1 D1621_u
        have ne_d1_tv1621 : d1 ≠ tv1621 := Nat.ne_of_lt (Nat.lt_of_lt_of_le A1613.lt D1621_tv)
        have ne_d2_tv1621 : d2 ≠ tv1621 := Nat.ne_of_lt (Nat.lt_of_lt_of_le A1614.lt D1621_tv)
        have ne_b1533_tv1621 : b1533 ≠ tv1621 := Nat.ne_of_lt (Nat.lt_of_lt_of_le E1615.lt D1621_tv)
        have ne_b1540_tv1621 : b1540 ≠ tv1621 := Nat.ne_of_lt (Nat.lt_of_lt_of_le A1616.lt D1621_tv)
        have ne_t1564_tv1621 : t1564 ≠ tv1621 := Nat.ne_of_lt (Nat.lt_of_lt_of_le A1619.lt D1621_tv)
        have ne_b1598_tv1621 : b1598 ≠ tv1621 := Nat.ne_of_lt (Nat.lt_of_lt_of_le O1610_0.lt D1621_tv)
        have N_tv1621 : n0 ≤ tv1621 := Nat.le_trans X1610.sz D1621_tv
        have Q_tv1621 : h0.size ≤ tv1621 := Nat.le_trans K1612.1 D1621_tv
        have O1622 : Old Z n0 h1621 := O1611.keep K1621 all0
        have K1623 : Keep h0 h1621 [] := K1612.trans K1621 all0
        have A1624 := A1613.keep K1621 nin0
        have A1625 := A1614.keep K1621 nin0
        have E1626 := E1615.keep K1621
        have A1627 := A1616.keep K1621 nin0
        have F1628 := F1617.keep K1621 nin0
        have F1629 := F1618.keep K1621 nin0
        have A1630 := A1619.keep K1621 nin0
        have E1631 := O1610_0.keep K1621
        have F1632 := O1610_1.keep K1621 nin0
        have F1633 := O1610_2.keep K1621 nin0
        have M1621_ : h1621.size ≤ h1621.size := Nat.le_refl _
        show Go p e below _ n0 _ _ _ T1621 (mkF m 101 #[.val (.int x0), .val (.int x1), .val (.int x2), .val (.int x3), .val (.int x4), .val (.int (2 : Int32)), .val (.int (own_c8 x0)), .val (.int (own_c8 x1)), .val (.ref b1533), .val (.int x3), .unset, .unset, .unset, .unset, .unset, .unset] [(.ref u1621)])
        refine Go.astore C X1621 (pc' := 103) (Ls' := #[.val (.int x0), .val (.int x1), .val (.int x2), .val (.int x3), .val (.int x4), .val (.int (2 : Int32)), .val (.int (own_c8 x0)), .val (.int (own_c8 x1)), .val (.ref b1533), .val (.int x3), .val (.ref u1621), .unset, .unset, .unset, .unset, .unset]) at_101 rfl rfl rfl ?_
        refine Go.aload C X1621 (pc' := 105) at_103 rfl rfl rfl ?_
        refine Go.ifnonnullYes C X1621 (pc' := 110) at_105 (by decide) (by decide) ?_
        refine Go.iload C X1621 (pc' := 112) at_110 rfl rfl ?_
        refine Go.iconst C X1621 (pc' := 113) (v := (-1 : Int32)) at_112 rfl rfl ?_
        refine Go.icmpYes C X1621 (pc' := 124) at_113 (feq c1572).2 (by decide) (by decide) ?_
        refine Go.iload C X1621 (pc' := 126) at_124 rfl rfl ?_
        refine Go.i2l C X1621 (pc' := 127) at_126 rfl ?_
        refine Go.callS C X1621 (pc' := 130) (W := 0) (argsL := [(.long (x3).toInt64)]) (rest := []) (rm_ab l Z a0 hw (x3).toInt64 h1621 n0 X1621.sz ) (own_w hw 187 rfl) (own_w hw 188 rfl) (own_w hw 184 rfl) (own_w hw 189 rfl) (by decide) rfl rfl (lenOf own_pd34 rfl) rfl (Nat.le_of_eq rfl) (by decide) (by decide) (by decide) (by decide) at_127 rfl (fun _ _ q => Nat.le_of_eq (congrArg Array.size q.2)) (fun T1634 h1634 v1634 X1634 P1634 => ?_)
        obtain ⟨rfl, rfl⟩ := P1634
        show Go p e below _ n0 _ _ _ T1634 (mkF m 130 #[.val (.int x0), .val (.int x1), .val (.int x2), .val (.int x3), .val (.int x4), .val (.int (2 : Int32)), .val (.int (own_c8 x0)), .val (.int (own_c8 x1)), .val (.ref b1533), .val (.int x3), .val (.ref u1621), .unset, .unset, .unset, .unset, .unset] [(.long (own_f_rm_ab (x3).toInt64))])
        refine Go.lstore C X1634 (pc' := 132) (Ls' := #[.val (.int x0), .val (.int x1), .val (.int x2), .val (.int x3), .val (.int x4), .val (.int (2 : Int32)), .val (.int (own_c8 x0)), .val (.int (own_c8 x1)), .val (.ref b1533), .val (.int x3), .val (.ref u1621), .val (.long (own_f_rm_ab (x3).toInt64)), .second, .unset, .unset, .unset]) at_130 rfl rfl ?_
        refine Go.iload C X1634 (pc' := 134) at_132 rfl rfl ?_
        by_cases c1635 : x3 < (0 : Int32)
        · refine Go.ifNo C X1634 (pc' := 137) at_134 ((if0 _ _).trans (tlt c1635).2.1) rfl ?_
          refine Go.iconst C X1634 (pc' := 138) (v := (1 : Int32)) at_137 rfl rfl ?_
          refine Go.goto C X1634 (pc' := 142) at_138 (by decide) (by decide) ?_
          refine Go.istore C X1634 (pc' := 144) (Ls' := #[.val (.int x0), .val (.int x1), .val (.int x2), .val (.int x3), .val (.int x4), .val (.int (2 : Int32)), .val (.int (own_c8 x0)), .val (.int (own_c8 x1)), .val (.ref b1533), .val (.int x3), .val (.ref u1621), .val (.long (own_f_rm_ab (x3).toInt64)), .second, .val (.int (1 : Int32)), .unset, .unset]) at_142 rfl rfl ?_
          refine Go.lload C X1634 (pc' := 146) at_144 rfl rfl ?_
          refine Go.callS C X1634 (pc' := 149) (W := 0) (argsL := [(.long (own_f_rm_ab (x3).toInt64))]) (rest := []) (rm_dd l Z a0 hw (own_f_rm_ab (x3).toInt64) h1621 n0 X1634.sz ) (own_w hw 190 rfl) (own_w hw 191 rfl) (own_w hw 192 rfl) (own_w hw 193 rfl) (by decide) rfl rfl (lenOf own_pd35 rfl) rfl (Nat.le_of_eq rfl) (by decide) (by decide) (by decide) (by decide) at_146 rfl (fun _ _ q => Nat.le_of_eq (congrArg Array.size q.2)) (fun T1636 h1636 v1636 X1636 P1636 => ?_)
          obtain ⟨rfl, rfl⟩ := P1636
          show Go p e below _ n0 _ _ _ T1636 (mkF m 149 #[.val (.int x0), .val (.int x1), .val (.int x2), .val (.int x3), .val (.int x4), .val (.int (2 : Int32)), .val (.int (own_c8 x0)), .val (.int (own_c8 x1)), .val (.ref b1533), .val (.int x3), .val (.ref u1621), .val (.long (own_f_rm_ab (x3).toInt64)), .second, .val (.int (1 : Int32)), .unset, .unset] [(.int (own_f_rm_dd (own_f_rm_ab (x3).toInt64)))])
          refine Go.istore C X1636 (pc' := 151) (Ls' := #[.val (.int x0), .val (.int x1), .val (.int x2), .val (.int x3), .val (.int x4), .val (.int (2 : Int32)), .val (.int (own_c8 x0)), .val (.int (own_c8 x1)), .val (.ref b1533), .val (.int x3), .val (.ref u1621), .val (.long (own_f_rm_ab (x3).toInt64)), .second, .val (.int (1 : Int32)), .val (.int (own_f_rm_dd (own_f_rm_ab (x3).toInt64))), .unset]) at_149 rfl rfl ?_
          refine Go.iload C X1636 (pc' := 153) at_151 rfl rfl ?_
          refine Go.iconst C X1636 (pc' := 154) (v := (1 : Int32)) at_153 rfl rfl ?_
          refine Go.iadd C X1636 (pc' := 155) at_154 rfl ?_
          refine Go.iload C X1636 (pc' := 157) at_155 rfl rfl ?_
          refine Go.iadd C X1636 (pc' := 158) at_157 rfl ?_
          refine Go.iload C X1636 (pc' := 160) at_158 rfl rfl ?_
          refine Go.iadd C X1636 (pc' := 161) at_160 rfl ?_
          refine Go.istore C X1636 (pc' := 163) (Ls' := #[.val (.int x0), .val (.int x1), .val (.int x2), .val (.int x3), .val (.int x4), .val (.int (2 : Int32)), .val (.int (own_c8 x0)), .val (.int (own_c8 x1)), .val (.ref b1533), .val (.int x3), .val (.ref u1621), .val (.long (own_f_rm_ab (x3).toInt64)), .second, .val (.int (1 : Int32)), .val (.int (own_f_rm_dd (own_f_rm_ab (x3).toInt64))), .val (.int ((((2 : Int32) + (1 : Int32)) + (1 : Int32)) + (own_f_rm_dd (own_f_rm_ab (x3).toInt64))))]) at_161 rfl rfl ?_
          have hL : (((((2 : Int32) + (1 : Int32)) + (1 : Int32)) + (own_f_rm_dd (own_f_rm_ab (x3).toInt64)))).toInt = (((2 + 1 + (N + sg)) : Nat) : Int) := (own_len (a := (2 : Int32)) rfl (own_s6n hv c1635) hdd (by decide) (own_svs hv) hN)
          refine Go.aload C X1636 (pc' := 165) at_163 rfl rfl rfl ?_
          refine Go.callV C X1636 (pc' := 168) (W := 0) (argsL := []) (rest := []) (a := u1621) (rm_ln l Z a0 hw u1621 tv1621 (2 + 1 + (N + sg)) (own_fs f11564 2 v N sg) ((((2 : Int32) + (1 : Int32)) + (1 : Int32)) + (own_f_rm_dd (own_f_rm_ab (x3).toInt64))) cs h1621 n0 X1636.sz O1622 hS O1621_0 O1621_1 O1621_2 O1621_3 hcs hL) O1621_0 (notFace_of_selects (args := #[]) (mvT C.2.1 (own_w hw 87 rfl))) (own_w hw 195 rfl) (own_w hw 85 rfl) (own_w hw 87 rfl) (own_w hw 86 rfl) (own_w hw 2 rfl) (own_w hw 88 rfl) (by decide) rfl rfl (lenOf own_pd12 rfl) rfl (Nat.le_of_eq rfl) (by decide) (by decide) (by decide) (by decide) at_165 rfl (fun _ _ q => Nat.le_of_eq (congrArg Array.size q.2)) (fun T1637 h1637 v1637 X1637 P1637 => ?_)
          obtain ⟨rfl, rfl⟩ := P1637
          show Go p e below _ n0 _ _ _ T1637 (mkF m 168 #[.val (.int x0), .val (.int x1), .val (.int x2), .val (.int x3), .val (.int x4), .val (.int (2 : Int32)), .val (.int (own_c8 x0)), .val (.int (own_c8 x1)), .val (.ref b1533), .val (.int x3), .val (.ref u1621), .val (.long (own_f_rm_ab (x3).toInt64)), .second, .val (.int (1 : Int32)), .val (.int (own_f_rm_dd (own_f_rm_ab (x3).toInt64))), .val (.int ((((2 : Int32) + (1 : Int32)) + (1 : Int32)) + (own_f_rm_dd (own_f_rm_ab (x3).toInt64))))] [(.int ((((2 : Int32) + (1 : Int32)) + (1 : Int32)) + (own_f_rm_dd (own_f_rm_ab (x3).toInt64))))])
          refine Go.iload C X1637 (pc' := 170) at_168 rfl rfl ?_
          refine Go.icmpYes C X1637 (pc' := 175) at_170 (teq rfl).1 (by decide) (by decide) ?_
          refine Go.aload C X1637 (pc' := 177) at_175 rfl rfl rfl ?_
          refine Go.iconst C X1637 (pc' := 178) (v := (0 : Int32)) at_177 rfl rfl ?_
          refine Go.iload C X1637 (pc' := 180) at_178 rfl rfl ?_
          refine Go.aload C X1637 (pc' := 182) at_180 rfl rfl rfl ?_
          refine Go.iload C X1637 (pc' := 184) at_182 rfl rfl ?_
          refine Go.iload C X1637 (pc' := 186) at_184 rfl rfl ?_
          refine Go.iload C X1637 (pc' := 188) at_186 rfl rfl ?_
          refine Go.lload C X1637 (pc' := 190) at_188 rfl rfl ?_
          refine Go.callS C X1637 (pc' := 193) (W := 0) (argsL := [(.ref u1621), (.int (0 : Int32)), (.int ((((2 : Int32) + (1 : Int32)) + (1 : Int32)) + (own_f_rm_dd (own_f_rm_ab (x3).toInt64)))), (.ref b1533), (.int (2 : Int32)), (.int (1 : Int32)), (.int (own_f_rm_dd (own_f_rm_ab (x3).toInt64))), (.long (own_f_rm_ab (x3).toInt64))]) (rest := []) (rm_cx l Z a0 hw u1621 (0 : Int32) ((((2 : Int32) + (1 : Int32)) + (1 : Int32)) + (own_f_rm_dd (own_f_rm_ab (x3).toInt64))) b1533 (2 : Int32) (1 : Int32) (own_f_rm_dd (own_f_rm_ab (x3).toInt64)) (own_f_rm_ab (x3).toInt64) tv1621 (own_fs f11564 2 v N sg) ((((2 : Int32) + (1 : Int32)) + (1 : Int32)) + (own_f_rm_dd (own_f_rm_ab (x3).toInt64))) t1564 2 f11564 (2 : Int32) 0 sg N v cs sf h1621 n0 X1637.sz O1622 hS hSF O1621_0 O1621_1 O1621_2 O1621_3 E1626 F1628 F1629 A1630 hcs hsf rfl (by decide) rfl (own_s6n hv c1635) (own_svs hv) hdd hN hab rfl hL hL (own_key (own_svs hv) hd.1)) (own_w hw 196 rfl) (own_w hw 197 rfl) (own_w hw 192 rfl) (own_w hw 198 rfl) (by decide) rfl rfl (lenOf own_pd36 rfl) rfl (Nat.le_of_eq rfl) (by decide) (by decide) (by decide) (by decide) at_190 rfl (fun _ _ q => by obtain ⟨_, K⟩ := q; exact K.1) (fun T1638 h1638 v1638 X1638 P1638 => ?_)
          obtain ⟨rfl, K1638⟩ := P1638
          have O1639 : Old Z n0 h1638 := O1622.keep K1638 all0
          have E1640 := E1626.keep K1638
          have F1641 := F1628.keep K1638 nin0
          have F1642 := F1629.keep K1638 nin0
          have A1643 := A1630.keep K1638 nin0
          have E1644 := O1621_0.keep K1638
          have F1645 := O1621_1.keep K1638 nin0
          have F1646 := O1621_2.keep K1638 nin0
          have A1647 := O1621_3.keep K1638 nin0
          have M1648 : h1621.size ≤ h1638.size := Nat.le_trans M1621_ K1638.1
          show Go p e below _ n0 _ _ _ T1638 (mkF m 193 #[.val (.int x0), .val (.int x1), .val (.int x2), .val (.int x3), .val (.int x4), .val (.int (2 : Int32)), .val (.int (own_c8 x0)), .val (.int (own_c8 x1)), .val (.ref b1533), .val (.int x3), .val (.ref u1621), .val (.long (own_f_rm_ab (x3).toInt64)), .second, .val (.int (1 : Int32)), .val (.int (own_f_rm_dd (own_f_rm_ab (x3).toInt64))), .val (.int ((((2 : Int32) + (1 : Int32)) + (1 : Int32)) + (own_f_rm_dd (own_f_rm_ab (x3).toInt64))))] [(.int (1 : Int32))])
          refine Go.ifNo C X1638 (pc' := 196) at_193 ((if0 _ _).trans (feq (by decide)).1) rfl ?_
          refine Go.aload C X1638 (pc' := 198) at_196 rfl rfl rfl ?_
          refine Go.iconst C X1638 (pc' := 199) (v := (1 : Int32)) at_198 rfl rfl ?_
          refine Go.iload C X1638 (pc' := 201) at_199 rfl rfl ?_
          refine Go.aload C X1638 (pc' := 203) at_201 rfl rfl rfl ?_
          refine Go.iload C X1638 (pc' := 205) at_203 rfl rfl ?_
          refine Go.iload C X1638 (pc' := 207) at_205 rfl rfl ?_
          refine Go.iload C X1638 (pc' := 209) at_207 rfl rfl ?_
          refine Go.lload C X1638 (pc' := 211) at_209 rfl rfl ?_
          refine Go.callS C X1638 (pc' := 214) (W := 0) (argsL := [(.ref u1621), (.int (1 : Int32)), (.int ((((2 : Int32) + (1 : Int32)) + (1 : Int32)) + (own_f_rm_dd (own_f_rm_ab (x3).toInt64)))), (.ref b1533), (.int (2 : Int32)), (.int (1 : Int32)), (.int (own_f_rm_dd (own_f_rm_ab (x3).toInt64))), (.long (own_f_rm_ab (x3).toInt64))]) (rest := []) (rm_cx l Z a0 hw u1621 (1 : Int32) ((((2 : Int32) + (1 : Int32)) + (1 : Int32)) + (own_f_rm_dd (own_f_rm_ab (x3).toInt64))) b1533 (2 : Int32) (1 : Int32) (own_f_rm_dd (own_f_rm_ab (x3).toInt64)) (own_f_rm_ab (x3).toInt64) tv1621 (own_fs f11564 2 v N sg) ((((2 : Int32) + (1 : Int32)) + (1 : Int32)) + (own_f_rm_dd (own_f_rm_ab (x3).toInt64))) t1564 2 f11564 (2 : Int32) 1 sg N v cs sf h1638 n0 X1638.sz O1639 hS hSF E1644 F1645 F1646 A1647 E1640 F1641 F1642 A1643 hcs hsf rfl (by decide) rfl (own_s6n hv c1635) (own_svs hv) hdd hN hab rfl hL hL (own_key (own_svs hv) hd.1)) (own_w hw 196 rfl) (own_w hw 197 rfl) (own_w hw 192 rfl) (own_w hw 198 rfl) (by decide) rfl rfl (lenOf own_pd36 rfl) rfl (Nat.le_of_eq rfl) (by decide) (by decide) (by decide) (by decide) at_211 rfl (fun _ _ q => by obtain ⟨_, K⟩ := q; exact K.1) (fun T1649 h1649 v1649 X1649 P1649 => ?_)
          obtain ⟨rfl, K1649⟩ := P1649
          have O1650 : Old Z n0 h1649 := O1639.keep K1649 all0
          have E1651 := E1640.keep K1649
          have F1652 := F1641.keep K1649 nin0
          have F1653 := F1642.keep K1649 nin0
          have A1654 := A1643.keep K1649 nin0
          have E1655 := E1644.keep K1649
          have F1656 := F1645.keep K1649 nin0
          have F1657 := F1646.keep K1649 nin0
          have A1658 := A1647.keep K1649 nin0
          have M1659 : h1621.size ≤ h1649.size := Nat.le_trans M1648 K1649.1
          show Go p e below _ n0 _ _ _ T1649 (mkF m 214 #[.val (.int x0), .val (.int x1), .val (.int x2), .val (.int x3), .val (.int x4), .val (.int (2 : Int32)), .val (.int (own_c8 x0)), .val (.int (own_c8 x1)), .val (.ref b1533), .val (.int x3), .val (.ref u1621), .val (.long (own_f_rm_ab (x3).toInt64)), .second, .val (.int (1 : Int32)), .val (.int (own_f_rm_dd (own_f_rm_ab (x3).toInt64))), .val (.int ((((2 : Int32) + (1 : Int32)) + (1 : Int32)) + (own_f_rm_dd (own_f_rm_ab (x3).toInt64))))] [(.int (1 : Int32))])
          refine Go.ifNo C X1649 (pc' := 217) at_214 ((if0 _ _).trans (feq (by decide)).1) rfl ?_
          refine Go.aload C X1649 (pc' := 219) at_217 rfl rfl rfl ?_
          refine Go.iconst C X1649 (pc' := 220) (v := (2 : Int32)) at_219 rfl rfl ?_
          refine Go.iload C X1649 (pc' := 222) at_220 rfl rfl ?_
          refine Go.aload C X1649 (pc' := 224) at_222 rfl rfl rfl ?_
          refine Go.iload C X1649 (pc' := 226) at_224 rfl rfl ?_
          refine Go.iload C X1649 (pc' := 228) at_226 rfl rfl ?_
          refine Go.iload C X1649 (pc' := 230) at_228 rfl rfl ?_
          refine Go.lload C X1649 (pc' := 232) at_230 rfl rfl ?_
          refine Go.callS C X1649 (pc' := 235) (W := 0) (argsL := [(.ref u1621), (.int (2 : Int32)), (.int ((((2 : Int32) + (1 : Int32)) + (1 : Int32)) + (own_f_rm_dd (own_f_rm_ab (x3).toInt64)))), (.ref b1533), (.int (2 : Int32)), (.int (1 : Int32)), (.int (own_f_rm_dd (own_f_rm_ab (x3).toInt64))), (.long (own_f_rm_ab (x3).toInt64))]) (rest := []) (rm_cx l Z a0 hw u1621 (2 : Int32) ((((2 : Int32) + (1 : Int32)) + (1 : Int32)) + (own_f_rm_dd (own_f_rm_ab (x3).toInt64))) b1533 (2 : Int32) (1 : Int32) (own_f_rm_dd (own_f_rm_ab (x3).toInt64)) (own_f_rm_ab (x3).toInt64) tv1621 (own_fs f11564 2 v N sg) ((((2 : Int32) + (1 : Int32)) + (1 : Int32)) + (own_f_rm_dd (own_f_rm_ab (x3).toInt64))) t1564 2 f11564 (2 : Int32) 2 sg N v cs sf h1649 n0 X1649.sz O1650 hS hSF E1655 F1656 F1657 A1658 E1651 F1652 F1653 A1654 hcs hsf rfl (by decide) rfl (own_s6n hv c1635) (own_svs hv) hdd hN hab rfl hL hL (own_key (own_svs hv) hd.1)) (own_w hw 196 rfl) (own_w hw 197 rfl) (own_w hw 192 rfl) (own_w hw 198 rfl) (by decide) rfl rfl (lenOf own_pd36 rfl) rfl (Nat.le_of_eq rfl) (by decide) (by decide) (by decide) (by decide) at_232 rfl (fun _ _ q => by obtain ⟨_, K⟩ := q; exact K.1) (fun T1660 h1660 v1660 X1660 P1660 => ?_)
          obtain ⟨rfl, K1660⟩ := P1660
          have O1661 : Old Z n0 h1660 := O1650.keep K1660 all0
          have E1662 := E1651.keep K1660
          have F1663 := F1652.keep K1660 nin0
          have F1664 := F1653.keep K1660 nin0
          have A1665 := A1654.keep K1660 nin0
          have E1666 := E1655.keep K1660
          have F1667 := F1656.keep K1660 nin0
          have F1668 := F1657.keep K1660 nin0
          have A1669 := A1658.keep K1660 nin0
          have M1670 : h1621.size ≤ h1660.size := Nat.le_trans M1659 K1660.1
          show Go p e below _ n0 _ _ _ T1660 (mkF m 235 #[.val (.int x0), .val (.int x1), .val (.int x2), .val (.int x3), .val (.int x4), .val (.int (2 : Int32)), .val (.int (own_c8 x0)), .val (.int (own_c8 x1)), .val (.ref b1533), .val (.int x3), .val (.ref u1621), .val (.long (own_f_rm_ab (x3).toInt64)), .second, .val (.int (1 : Int32)), .val (.int (own_f_rm_dd (own_f_rm_ab (x3).toInt64))), .val (.int ((((2 : Int32) + (1 : Int32)) + (1 : Int32)) + (own_f_rm_dd (own_f_rm_ab (x3).toInt64))))] [(.int (1 : Int32))])
          refine Go.ifNo C X1660 (pc' := 238) at_235 ((if0 _ _).trans (feq (by decide)).1) rfl ?_
          refine Go.aload C X1660 (pc' := 240) at_238 rfl rfl rfl ?_
          refine Go.iconst C X1660 (pc' := 241) (v := (3 : Int32)) at_240 rfl rfl ?_
          refine Go.iload C X1660 (pc' := 243) at_241 rfl rfl ?_
          refine Go.aload C X1660 (pc' := 245) at_243 rfl rfl rfl ?_
          refine Go.iload C X1660 (pc' := 247) at_245 rfl rfl ?_
          refine Go.iload C X1660 (pc' := 249) at_247 rfl rfl ?_
          refine Go.iload C X1660 (pc' := 251) at_249 rfl rfl ?_
          refine Go.lload C X1660 (pc' := 253) at_251 rfl rfl ?_
          refine Go.callS C X1660 (pc' := 256) (W := 0) (argsL := [(.ref u1621), (.int (3 : Int32)), (.int ((((2 : Int32) + (1 : Int32)) + (1 : Int32)) + (own_f_rm_dd (own_f_rm_ab (x3).toInt64)))), (.ref b1533), (.int (2 : Int32)), (.int (1 : Int32)), (.int (own_f_rm_dd (own_f_rm_ab (x3).toInt64))), (.long (own_f_rm_ab (x3).toInt64))]) (rest := []) (rm_cx l Z a0 hw u1621 (3 : Int32) ((((2 : Int32) + (1 : Int32)) + (1 : Int32)) + (own_f_rm_dd (own_f_rm_ab (x3).toInt64))) b1533 (2 : Int32) (1 : Int32) (own_f_rm_dd (own_f_rm_ab (x3).toInt64)) (own_f_rm_ab (x3).toInt64) tv1621 (own_fs f11564 2 v N sg) ((((2 : Int32) + (1 : Int32)) + (1 : Int32)) + (own_f_rm_dd (own_f_rm_ab (x3).toInt64))) t1564 2 f11564 (2 : Int32) 3 sg N v cs sf h1660 n0 X1660.sz O1661 hS hSF E1666 F1667 F1668 A1669 E1662 F1663 F1664 A1665 hcs hsf rfl (by decide) rfl (own_s6n hv c1635) (own_svs hv) hdd hN hab rfl hL hL (own_key (own_svs hv) hd.1)) (own_w hw 196 rfl) (own_w hw 197 rfl) (own_w hw 192 rfl) (own_w hw 198 rfl) (by decide) rfl rfl (lenOf own_pd36 rfl) rfl (Nat.le_of_eq rfl) (by decide) (by decide) (by decide) (by decide) at_253 rfl (fun _ _ q => by obtain ⟨_, K⟩ := q; exact K.1) (fun T1671 h1671 v1671 X1671 P1671 => ?_)
          obtain ⟨rfl, K1671⟩ := P1671
          have O1672 : Old Z n0 h1671 := O1661.keep K1671 all0
          have E1673 := E1662.keep K1671
          have F1674 := F1663.keep K1671 nin0
          have F1675 := F1664.keep K1671 nin0
          have A1676 := A1665.keep K1671 nin0
          have E1677 := E1666.keep K1671
          have F1678 := F1667.keep K1671 nin0
          have F1679 := F1668.keep K1671 nin0
          have A1680 := A1669.keep K1671 nin0
          have M1681 : h1621.size ≤ h1671.size := Nat.le_trans M1670 K1671.1
          show Go p e below _ n0 _ _ _ T1671 (mkF m 256 #[.val (.int x0), .val (.int x1), .val (.int x2), .val (.int x3), .val (.int x4), .val (.int (2 : Int32)), .val (.int (own_c8 x0)), .val (.int (own_c8 x1)), .val (.ref b1533), .val (.int x3), .val (.ref u1621), .val (.long (own_f_rm_ab (x3).toInt64)), .second, .val (.int (1 : Int32)), .val (.int (own_f_rm_dd (own_f_rm_ab (x3).toInt64))), .val (.int ((((2 : Int32) + (1 : Int32)) + (1 : Int32)) + (own_f_rm_dd (own_f_rm_ab (x3).toInt64))))] [(.int (1 : Int32))])
          refine Go.ifNo C X1671 (pc' := 259) at_256 ((if0 _ _).trans (feq (by decide)).1) rfl ?_
          refine Go.aload C X1671 (pc' := 261) at_259 rfl rfl rfl ?_
          refine Go.iconst C X1671 (pc' := 262) (v := (4 : Int32)) at_261 rfl rfl ?_
          refine Go.iload C X1671 (pc' := 264) at_262 rfl rfl ?_
          refine Go.aload C X1671 (pc' := 266) at_264 rfl rfl rfl ?_
          refine Go.iload C X1671 (pc' := 268) at_266 rfl rfl ?_
          refine Go.iload C X1671 (pc' := 270) at_268 rfl rfl ?_
          refine Go.iload C X1671 (pc' := 272) at_270 rfl rfl ?_
          refine Go.lload C X1671 (pc' := 274) at_272 rfl rfl ?_
          refine Go.callS C X1671 (pc' := 277) (W := 0) (argsL := [(.ref u1621), (.int (4 : Int32)), (.int ((((2 : Int32) + (1 : Int32)) + (1 : Int32)) + (own_f_rm_dd (own_f_rm_ab (x3).toInt64)))), (.ref b1533), (.int (2 : Int32)), (.int (1 : Int32)), (.int (own_f_rm_dd (own_f_rm_ab (x3).toInt64))), (.long (own_f_rm_ab (x3).toInt64))]) (rest := []) (rm_cx l Z a0 hw u1621 (4 : Int32) ((((2 : Int32) + (1 : Int32)) + (1 : Int32)) + (own_f_rm_dd (own_f_rm_ab (x3).toInt64))) b1533 (2 : Int32) (1 : Int32) (own_f_rm_dd (own_f_rm_ab (x3).toInt64)) (own_f_rm_ab (x3).toInt64) tv1621 (own_fs f11564 2 v N sg) ((((2 : Int32) + (1 : Int32)) + (1 : Int32)) + (own_f_rm_dd (own_f_rm_ab (x3).toInt64))) t1564 2 f11564 (2 : Int32) 4 sg N v cs sf h1671 n0 X1671.sz O1672 hS hSF E1677 F1678 F1679 A1680 E1673 F1674 F1675 A1676 hcs hsf rfl (by decide) rfl (own_s6n hv c1635) (own_svs hv) hdd hN hab rfl hL hL (own_key (own_svs hv) hd.1)) (own_w hw 196 rfl) (own_w hw 197 rfl) (own_w hw 192 rfl) (own_w hw 198 rfl) (by decide) rfl rfl (lenOf own_pd36 rfl) rfl (Nat.le_of_eq rfl) (by decide) (by decide) (by decide) (by decide) at_274 rfl (fun _ _ q => by obtain ⟨_, K⟩ := q; exact K.1) (fun T1682 h1682 v1682 X1682 P1682 => ?_)
          obtain ⟨rfl, K1682⟩ := P1682
          have O1683 : Old Z n0 h1682 := O1672.keep K1682 all0
          have E1684 := E1673.keep K1682
          have F1685 := F1674.keep K1682 nin0
          have F1686 := F1675.keep K1682 nin0
          have A1687 := A1676.keep K1682 nin0
          have E1688 := E1677.keep K1682
          have F1689 := F1678.keep K1682 nin0
          have F1690 := F1679.keep K1682 nin0
          have A1691 := A1680.keep K1682 nin0
          have M1692 : h1621.size ≤ h1682.size := Nat.le_trans M1681 K1682.1
          show Go p e below _ n0 _ _ _ T1682 (mkF m 277 #[.val (.int x0), .val (.int x1), .val (.int x2), .val (.int x3), .val (.int x4), .val (.int (2 : Int32)), .val (.int (own_c8 x0)), .val (.int (own_c8 x1)), .val (.ref b1533), .val (.int x3), .val (.ref u1621), .val (.long (own_f_rm_ab (x3).toInt64)), .second, .val (.int (1 : Int32)), .val (.int (own_f_rm_dd (own_f_rm_ab (x3).toInt64))), .val (.int ((((2 : Int32) + (1 : Int32)) + (1 : Int32)) + (own_f_rm_dd (own_f_rm_ab (x3).toInt64))))] [(.int (1 : Int32))])
          refine Go.ifNo C X1682 (pc' := 280) at_277 ((if0 _ _).trans (feq (by decide)).1) rfl ?_
          refine Go.aload C X1682 (pc' := 282) at_280 rfl rfl rfl ?_
          refine Go.iconst C X1682 (pc' := 283) (v := (5 : Int32)) at_282 rfl rfl ?_
          refine Go.iload C X1682 (pc' := 285) at_283 rfl rfl ?_
          refine Go.aload C X1682 (pc' := 287) at_285 rfl rfl rfl ?_
          refine Go.iload C X1682 (pc' := 289) at_287 rfl rfl ?_
          refine Go.iload C X1682 (pc' := 291) at_289 rfl rfl ?_
          refine Go.iload C X1682 (pc' := 293) at_291 rfl rfl ?_
          refine Go.lload C X1682 (pc' := 295) at_293 rfl rfl ?_
          refine Go.callS C X1682 (pc' := 298) (W := 0) (argsL := [(.ref u1621), (.int (5 : Int32)), (.int ((((2 : Int32) + (1 : Int32)) + (1 : Int32)) + (own_f_rm_dd (own_f_rm_ab (x3).toInt64)))), (.ref b1533), (.int (2 : Int32)), (.int (1 : Int32)), (.int (own_f_rm_dd (own_f_rm_ab (x3).toInt64))), (.long (own_f_rm_ab (x3).toInt64))]) (rest := []) (rm_cx l Z a0 hw u1621 (5 : Int32) ((((2 : Int32) + (1 : Int32)) + (1 : Int32)) + (own_f_rm_dd (own_f_rm_ab (x3).toInt64))) b1533 (2 : Int32) (1 : Int32) (own_f_rm_dd (own_f_rm_ab (x3).toInt64)) (own_f_rm_ab (x3).toInt64) tv1621 (own_fs f11564 2 v N sg) ((((2 : Int32) + (1 : Int32)) + (1 : Int32)) + (own_f_rm_dd (own_f_rm_ab (x3).toInt64))) t1564 2 f11564 (2 : Int32) 5 sg N v cs sf h1682 n0 X1682.sz O1683 hS hSF E1688 F1689 F1690 A1691 E1684 F1685 F1686 A1687 hcs hsf rfl (by decide) rfl (own_s6n hv c1635) (own_svs hv) hdd hN hab rfl hL hL (own_key (own_svs hv) hd.1)) (own_w hw 196 rfl) (own_w hw 197 rfl) (own_w hw 192 rfl) (own_w hw 198 rfl) (by decide) rfl rfl (lenOf own_pd36 rfl) rfl (Nat.le_of_eq rfl) (by decide) (by decide) (by decide) (by decide) at_295 rfl (fun _ _ q => by obtain ⟨_, K⟩ := q; exact K.1) (fun T1693 h1693 v1693 X1693 P1693 => ?_)
          obtain ⟨rfl, K1693⟩ := P1693
          have O1694 : Old Z n0 h1693 := O1683.keep K1693 all0
          have E1695 := E1684.keep K1693
          have F1696 := F1685.keep K1693 nin0
          have F1697 := F1686.keep K1693 nin0
          have A1698 := A1687.keep K1693 nin0
          have E1699 := E1688.keep K1693
          have F1700 := F1689.keep K1693 nin0
          have F1701 := F1690.keep K1693 nin0
          have A1702 := A1691.keep K1693 nin0
          have M1703 : h1621.size ≤ h1693.size := Nat.le_trans M1692 K1693.1
          show Go p e below _ n0 _ _ _ T1693 (mkF m 298 #[.val (.int x0), .val (.int x1), .val (.int x2), .val (.int x3), .val (.int x4), .val (.int (2 : Int32)), .val (.int (own_c8 x0)), .val (.int (own_c8 x1)), .val (.ref b1533), .val (.int x3), .val (.ref u1621), .val (.long (own_f_rm_ab (x3).toInt64)), .second, .val (.int (1 : Int32)), .val (.int (own_f_rm_dd (own_f_rm_ab (x3).toInt64))), .val (.int ((((2 : Int32) + (1 : Int32)) + (1 : Int32)) + (own_f_rm_dd (own_f_rm_ab (x3).toInt64))))] [(.int (1 : Int32))])
          refine Go.ifNo C X1693 (pc' := 301) at_298 ((if0 _ _).trans (feq (by decide)).1) rfl ?_
          refine Go.aload C X1693 (pc' := 303) at_301 rfl rfl rfl ?_
          refine Go.bipush C X1693 (pc' := 305) (v := (6 : Int32)) at_303 rfl rfl ?_
          refine Go.iload C X1693 (pc' := 307) at_305 rfl rfl ?_
          refine Go.aload C X1693 (pc' := 309) at_307 rfl rfl rfl ?_
          refine Go.iload C X1693 (pc' := 311) at_309 rfl rfl ?_
          refine Go.iload C X1693 (pc' := 313) at_311 rfl rfl ?_
          refine Go.iload C X1693 (pc' := 315) at_313 rfl rfl ?_
          refine Go.lload C X1693 (pc' := 317) at_315 rfl rfl ?_
          refine Go.callS C X1693 (pc' := 320) (W := 0) (argsL := [(.ref u1621), (.int (6 : Int32)), (.int ((((2 : Int32) + (1 : Int32)) + (1 : Int32)) + (own_f_rm_dd (own_f_rm_ab (x3).toInt64)))), (.ref b1533), (.int (2 : Int32)), (.int (1 : Int32)), (.int (own_f_rm_dd (own_f_rm_ab (x3).toInt64))), (.long (own_f_rm_ab (x3).toInt64))]) (rest := []) (rm_cx l Z a0 hw u1621 (6 : Int32) ((((2 : Int32) + (1 : Int32)) + (1 : Int32)) + (own_f_rm_dd (own_f_rm_ab (x3).toInt64))) b1533 (2 : Int32) (1 : Int32) (own_f_rm_dd (own_f_rm_ab (x3).toInt64)) (own_f_rm_ab (x3).toInt64) tv1621 (own_fs f11564 2 v N sg) ((((2 : Int32) + (1 : Int32)) + (1 : Int32)) + (own_f_rm_dd (own_f_rm_ab (x3).toInt64))) t1564 2 f11564 (2 : Int32) 6 sg N v cs sf h1693 n0 X1693.sz O1694 hS hSF E1699 F1700 F1701 A1702 E1695 F1696 F1697 A1698 hcs hsf rfl (by decide) rfl (own_s6n hv c1635) (own_svs hv) hdd hN hab rfl hL hL (own_key (own_svs hv) hd.1)) (own_w hw 196 rfl) (own_w hw 197 rfl) (own_w hw 192 rfl) (own_w hw 198 rfl) (by decide) rfl rfl (lenOf own_pd36 rfl) rfl (Nat.le_of_eq rfl) (by decide) (by decide) (by decide) (by decide) at_317 rfl (fun _ _ q => by obtain ⟨_, K⟩ := q; exact K.1) (fun T1704 h1704 v1704 X1704 P1704 => ?_)
          obtain ⟨rfl, K1704⟩ := P1704
          have O1705 : Old Z n0 h1704 := O1694.keep K1704 all0
          have E1706 := E1695.keep K1704
          have F1707 := F1696.keep K1704 nin0
          have F1708 := F1697.keep K1704 nin0
          have A1709 := A1698.keep K1704 nin0
          have E1710 := E1699.keep K1704
          have F1711 := F1700.keep K1704 nin0
          have F1712 := F1701.keep K1704 nin0
          have A1713 := A1702.keep K1704 nin0
          have M1714 : h1621.size ≤ h1704.size := Nat.le_trans M1703 K1704.1
          show Go p e below _ n0 _ _ _ T1704 (mkF m 320 #[.val (.int x0), .val (.int x1), .val (.int x2), .val (.int x3), .val (.int x4), .val (.int (2 : Int32)), .val (.int (own_c8 x0)), .val (.int (own_c8 x1)), .val (.ref b1533), .val (.int x3), .val (.ref u1621), .val (.long (own_f_rm_ab (x3).toInt64)), .second, .val (.int (1 : Int32)), .val (.int (own_f_rm_dd (own_f_rm_ab (x3).toInt64))), .val (.int ((((2 : Int32) + (1 : Int32)) + (1 : Int32)) + (own_f_rm_dd (own_f_rm_ab (x3).toInt64))))] [(.int (1 : Int32))])
          refine Go.ifNo C X1704 (pc' := 323) at_320 ((if0 _ _).trans (feq (by decide)).1) rfl ?_
          refine Go.aload C X1704 (pc' := 325) at_323 rfl rfl rfl ?_
          refine Go.bipush C X1704 (pc' := 327) (v := (7 : Int32)) at_325 rfl rfl ?_
          refine Go.iload C X1704 (pc' := 329) at_327 rfl rfl ?_
          refine Go.aload C X1704 (pc' := 331) at_329 rfl rfl rfl ?_
          refine Go.iload C X1704 (pc' := 333) at_331 rfl rfl ?_
          refine Go.iload C X1704 (pc' := 335) at_333 rfl rfl ?_
          refine Go.iload C X1704 (pc' := 337) at_335 rfl rfl ?_
          refine Go.lload C X1704 (pc' := 339) at_337 rfl rfl ?_
          refine Go.callS C X1704 (pc' := 342) (W := 0) (argsL := [(.ref u1621), (.int (7 : Int32)), (.int ((((2 : Int32) + (1 : Int32)) + (1 : Int32)) + (own_f_rm_dd (own_f_rm_ab (x3).toInt64)))), (.ref b1533), (.int (2 : Int32)), (.int (1 : Int32)), (.int (own_f_rm_dd (own_f_rm_ab (x3).toInt64))), (.long (own_f_rm_ab (x3).toInt64))]) (rest := []) (rm_cx l Z a0 hw u1621 (7 : Int32) ((((2 : Int32) + (1 : Int32)) + (1 : Int32)) + (own_f_rm_dd (own_f_rm_ab (x3).toInt64))) b1533 (2 : Int32) (1 : Int32) (own_f_rm_dd (own_f_rm_ab (x3).toInt64)) (own_f_rm_ab (x3).toInt64) tv1621 (own_fs f11564 2 v N sg) ((((2 : Int32) + (1 : Int32)) + (1 : Int32)) + (own_f_rm_dd (own_f_rm_ab (x3).toInt64))) t1564 2 f11564 (2 : Int32) 7 sg N v cs sf h1704 n0 X1704.sz O1705 hS hSF E1710 F1711 F1712 A1713 E1706 F1707 F1708 A1709 hcs hsf rfl (by decide) rfl (own_s6n hv c1635) (own_svs hv) hdd hN hab rfl hL hL (own_key (own_svs hv) hd.1)) (own_w hw 196 rfl) (own_w hw 197 rfl) (own_w hw 192 rfl) (own_w hw 198 rfl) (by decide) rfl rfl (lenOf own_pd36 rfl) rfl (Nat.le_of_eq rfl) (by decide) (by decide) (by decide) (by decide) at_339 rfl (fun _ _ q => by obtain ⟨_, K⟩ := q; exact K.1) (fun T1715 h1715 v1715 X1715 P1715 => ?_)
          obtain ⟨rfl, K1715⟩ := P1715
          have O1716 : Old Z n0 h1715 := O1705.keep K1715 all0
          have E1717 := E1706.keep K1715
          have F1718 := F1707.keep K1715 nin0
          have F1719 := F1708.keep K1715 nin0
          have A1720 := A1709.keep K1715 nin0
          have E1721 := E1710.keep K1715
          have F1722 := F1711.keep K1715 nin0
          have F1723 := F1712.keep K1715 nin0
          have A1724 := A1713.keep K1715 nin0
          have M1725 : h1621.size ≤ h1715.size := Nat.le_trans M1714 K1715.1
          show Go p e below _ n0 _ _ _ T1715 (mkF m 342 #[.val (.int x0), .val (.int x1), .val (.int x2), .val (.int x3), .val (.int x4), .val (.int (2 : Int32)), .val (.int (own_c8 x0)), .val (.int (own_c8 x1)), .val (.ref b1533), .val (.int x3), .val (.ref u1621), .val (.long (own_f_rm_ab (x3).toInt64)), .second, .val (.int (1 : Int32)), .val (.int (own_f_rm_dd (own_f_rm_ab (x3).toInt64))), .val (.int ((((2 : Int32) + (1 : Int32)) + (1 : Int32)) + (own_f_rm_dd (own_f_rm_ab (x3).toInt64))))] [(.int (1 : Int32))])
          refine Go.ifNo C X1715 (pc' := 345) at_342 ((if0 _ _).trans (feq (by decide)).1) rfl ?_
          refine Go.aload C X1715 (pc' := 347) at_345 rfl rfl rfl ?_
          refine Go.bipush C X1715 (pc' := 349) (v := (8 : Int32)) at_347 rfl rfl ?_
          refine Go.iload C X1715 (pc' := 351) at_349 rfl rfl ?_
          refine Go.aload C X1715 (pc' := 353) at_351 rfl rfl rfl ?_
          refine Go.iload C X1715 (pc' := 355) at_353 rfl rfl ?_
          refine Go.iload C X1715 (pc' := 357) at_355 rfl rfl ?_
          refine Go.iload C X1715 (pc' := 359) at_357 rfl rfl ?_
          refine Go.lload C X1715 (pc' := 361) at_359 rfl rfl ?_
          refine Go.callS C X1715 (pc' := 364) (W := 0) (argsL := [(.ref u1621), (.int (8 : Int32)), (.int ((((2 : Int32) + (1 : Int32)) + (1 : Int32)) + (own_f_rm_dd (own_f_rm_ab (x3).toInt64)))), (.ref b1533), (.int (2 : Int32)), (.int (1 : Int32)), (.int (own_f_rm_dd (own_f_rm_ab (x3).toInt64))), (.long (own_f_rm_ab (x3).toInt64))]) (rest := []) (rm_cx l Z a0 hw u1621 (8 : Int32) ((((2 : Int32) + (1 : Int32)) + (1 : Int32)) + (own_f_rm_dd (own_f_rm_ab (x3).toInt64))) b1533 (2 : Int32) (1 : Int32) (own_f_rm_dd (own_f_rm_ab (x3).toInt64)) (own_f_rm_ab (x3).toInt64) tv1621 (own_fs f11564 2 v N sg) ((((2 : Int32) + (1 : Int32)) + (1 : Int32)) + (own_f_rm_dd (own_f_rm_ab (x3).toInt64))) t1564 2 f11564 (2 : Int32) 8 sg N v cs sf h1715 n0 X1715.sz O1716 hS hSF E1721 F1722 F1723 A1724 E1717 F1718 F1719 A1720 hcs hsf rfl (by decide) rfl (own_s6n hv c1635) (own_svs hv) hdd hN hab rfl hL hL (own_key (own_svs hv) hd.1)) (own_w hw 196 rfl) (own_w hw 197 rfl) (own_w hw 192 rfl) (own_w hw 198 rfl) (by decide) rfl rfl (lenOf own_pd36 rfl) rfl (Nat.le_of_eq rfl) (by decide) (by decide) (by decide) (by decide) at_361 rfl (fun _ _ q => by obtain ⟨_, K⟩ := q; exact K.1) (fun T1726 h1726 v1726 X1726 P1726 => ?_)
          obtain ⟨rfl, K1726⟩ := P1726
          have O1727 : Old Z n0 h1726 := O1716.keep K1726 all0
          have E1728 := E1717.keep K1726
          have F1729 := F1718.keep K1726 nin0
          have F1730 := F1719.keep K1726 nin0
          have A1731 := A1720.keep K1726 nin0
          have E1732 := E1721.keep K1726
          have F1733 := F1722.keep K1726 nin0
          have F1734 := F1723.keep K1726 nin0
          have A1735 := A1724.keep K1726 nin0
          have M1736 : h1621.size ≤ h1726.size := Nat.le_trans M1725 K1726.1
          show Go p e below _ n0 _ _ _ T1726 (mkF m 364 #[.val (.int x0), .val (.int x1), .val (.int x2), .val (.int x3), .val (.int x4), .val (.int (2 : Int32)), .val (.int (own_c8 x0)), .val (.int (own_c8 x1)), .val (.ref b1533), .val (.int x3), .val (.ref u1621), .val (.long (own_f_rm_ab (x3).toInt64)), .second, .val (.int (1 : Int32)), .val (.int (own_f_rm_dd (own_f_rm_ab (x3).toInt64))), .val (.int ((((2 : Int32) + (1 : Int32)) + (1 : Int32)) + (own_f_rm_dd (own_f_rm_ab (x3).toInt64))))] [(.int (1 : Int32))])
          refine Go.ifNo C X1726 (pc' := 367) at_364 ((if0 _ _).trans (feq (by decide)).1) rfl ?_
          refine Go.aload C X1726 (pc' := 369) at_367 rfl rfl rfl ?_
          refine Go.bipush C X1726 (pc' := 371) (v := (9 : Int32)) at_369 rfl rfl ?_
          refine Go.iload C X1726 (pc' := 373) at_371 rfl rfl ?_
          refine Go.aload C X1726 (pc' := 375) at_373 rfl rfl rfl ?_
          refine Go.iload C X1726 (pc' := 377) at_375 rfl rfl ?_
          refine Go.iload C X1726 (pc' := 379) at_377 rfl rfl ?_
          refine Go.iload C X1726 (pc' := 381) at_379 rfl rfl ?_
          refine Go.lload C X1726 (pc' := 383) at_381 rfl rfl ?_
          refine Go.callS C X1726 (pc' := 386) (W := 0) (argsL := [(.ref u1621), (.int (9 : Int32)), (.int ((((2 : Int32) + (1 : Int32)) + (1 : Int32)) + (own_f_rm_dd (own_f_rm_ab (x3).toInt64)))), (.ref b1533), (.int (2 : Int32)), (.int (1 : Int32)), (.int (own_f_rm_dd (own_f_rm_ab (x3).toInt64))), (.long (own_f_rm_ab (x3).toInt64))]) (rest := []) (rm_cx l Z a0 hw u1621 (9 : Int32) ((((2 : Int32) + (1 : Int32)) + (1 : Int32)) + (own_f_rm_dd (own_f_rm_ab (x3).toInt64))) b1533 (2 : Int32) (1 : Int32) (own_f_rm_dd (own_f_rm_ab (x3).toInt64)) (own_f_rm_ab (x3).toInt64) tv1621 (own_fs f11564 2 v N sg) ((((2 : Int32) + (1 : Int32)) + (1 : Int32)) + (own_f_rm_dd (own_f_rm_ab (x3).toInt64))) t1564 2 f11564 (2 : Int32) 9 sg N v cs sf h1726 n0 X1726.sz O1727 hS hSF E1732 F1733 F1734 A1735 E1728 F1729 F1730 A1731 hcs hsf rfl (by decide) rfl (own_s6n hv c1635) (own_svs hv) hdd hN hab rfl hL hL (own_key (own_svs hv) hd.1)) (own_w hw 196 rfl) (own_w hw 197 rfl) (own_w hw 192 rfl) (own_w hw 198 rfl) (by decide) rfl rfl (lenOf own_pd36 rfl) rfl (Nat.le_of_eq rfl) (by decide) (by decide) (by decide) (by decide) at_383 rfl (fun _ _ q => by obtain ⟨_, K⟩ := q; exact K.1) (fun T1737 h1737 v1737 X1737 P1737 => ?_)
          obtain ⟨rfl, K1737⟩ := P1737
          have O1738 : Old Z n0 h1737 := O1727.keep K1737 all0
          have E1739 := E1728.keep K1737
          have F1740 := F1729.keep K1737 nin0
          have F1741 := F1730.keep K1737 nin0
          have A1742 := A1731.keep K1737 nin0
          have E1743 := E1732.keep K1737
          have F1744 := F1733.keep K1737 nin0
          have F1745 := F1734.keep K1737 nin0
          have A1746 := A1735.keep K1737 nin0
          have M1747 : h1621.size ≤ h1737.size := Nat.le_trans M1736 K1737.1
          show Go p e below _ n0 _ _ _ T1737 (mkF m 386 #[.val (.int x0), .val (.int x1), .val (.int x2), .val (.int x3), .val (.int x4), .val (.int (2 : Int32)), .val (.int (own_c8 x0)), .val (.int (own_c8 x1)), .val (.ref b1533), .val (.int x3), .val (.ref u1621), .val (.long (own_f_rm_ab (x3).toInt64)), .second, .val (.int (1 : Int32)), .val (.int (own_f_rm_dd (own_f_rm_ab (x3).toInt64))), .val (.int ((((2 : Int32) + (1 : Int32)) + (1 : Int32)) + (own_f_rm_dd (own_f_rm_ab (x3).toInt64))))] [(.int (1 : Int32))])
          refine Go.ifNo C X1737 (pc' := 389) at_386 ((if0 _ _).trans (feq (by decide)).1) rfl ?_
          refine Go.aload C X1737 (pc' := 391) at_389 rfl rfl rfl ?_
          refine Go.bipush C X1737 (pc' := 393) (v := (10 : Int32)) at_391 rfl rfl ?_
          refine Go.iload C X1737 (pc' := 395) at_393 rfl rfl ?_
          refine Go.aload C X1737 (pc' := 397) at_395 rfl rfl rfl ?_
          refine Go.iload C X1737 (pc' := 399) at_397 rfl rfl ?_
          refine Go.iload C X1737 (pc' := 401) at_399 rfl rfl ?_
          refine Go.iload C X1737 (pc' := 403) at_401 rfl rfl ?_
          refine Go.lload C X1737 (pc' := 405) at_403 rfl rfl ?_
          refine Go.callS C X1737 (pc' := 408) (W := 0) (argsL := [(.ref u1621), (.int (10 : Int32)), (.int ((((2 : Int32) + (1 : Int32)) + (1 : Int32)) + (own_f_rm_dd (own_f_rm_ab (x3).toInt64)))), (.ref b1533), (.int (2 : Int32)), (.int (1 : Int32)), (.int (own_f_rm_dd (own_f_rm_ab (x3).toInt64))), (.long (own_f_rm_ab (x3).toInt64))]) (rest := []) (rm_cx l Z a0 hw u1621 (10 : Int32) ((((2 : Int32) + (1 : Int32)) + (1 : Int32)) + (own_f_rm_dd (own_f_rm_ab (x3).toInt64))) b1533 (2 : Int32) (1 : Int32) (own_f_rm_dd (own_f_rm_ab (x3).toInt64)) (own_f_rm_ab (x3).toInt64) tv1621 (own_fs f11564 2 v N sg) ((((2 : Int32) + (1 : Int32)) + (1 : Int32)) + (own_f_rm_dd (own_f_rm_ab (x3).toInt64))) t1564 2 f11564 (2 : Int32) 10 sg N v cs sf h1737 n0 X1737.sz O1738 hS hSF E1743 F1744 F1745 A1746 E1739 F1740 F1741 A1742 hcs hsf rfl (by decide) rfl (own_s6n hv c1635) (own_svs hv) hdd hN hab rfl hL hL (own_key (own_svs hv) hd.1)) (own_w hw 196 rfl) (own_w hw 197 rfl) (own_w hw 192 rfl) (own_w hw 198 rfl) (by decide) rfl rfl (lenOf own_pd36 rfl) rfl (Nat.le_of_eq rfl) (by decide) (by decide) (by decide) (by decide) at_405 rfl (fun _ _ q => by obtain ⟨_, K⟩ := q; exact K.1) (fun T1748 h1748 v1748 X1748 P1748 => ?_)
          obtain ⟨rfl, K1748⟩ := P1748
          have O1749 : Old Z n0 h1748 := O1738.keep K1748 all0
          have E1750 := E1739.keep K1748
          have F1751 := F1740.keep K1748 nin0
          have F1752 := F1741.keep K1748 nin0
          have A1753 := A1742.keep K1748 nin0
          have E1754 := E1743.keep K1748
          have F1755 := F1744.keep K1748 nin0
          have F1756 := F1745.keep K1748 nin0
          have A1757 := A1746.keep K1748 nin0
          have M1758 : h1621.size ≤ h1748.size := Nat.le_trans M1747 K1748.1
          show Go p e below _ n0 _ _ _ T1748 (mkF m 408 #[.val (.int x0), .val (.int x1), .val (.int x2), .val (.int x3), .val (.int x4), .val (.int (2 : Int32)), .val (.int (own_c8 x0)), .val (.int (own_c8 x1)), .val (.ref b1533), .val (.int x3), .val (.ref u1621), .val (.long (own_f_rm_ab (x3).toInt64)), .second, .val (.int (1 : Int32)), .val (.int (own_f_rm_dd (own_f_rm_ab (x3).toInt64))), .val (.int ((((2 : Int32) + (1 : Int32)) + (1 : Int32)) + (own_f_rm_dd (own_f_rm_ab (x3).toInt64))))] [(.int (1 : Int32))])
          refine Go.ifNo C X1748 (pc' := 411) at_408 ((if0 _ _).trans (feq (by decide)).1) rfl ?_
          refine Go.aload C X1748 (pc' := 413) at_411 rfl rfl rfl ?_
          refine Go.bipush C X1748 (pc' := 415) (v := (11 : Int32)) at_413 rfl rfl ?_
          refine Go.iload C X1748 (pc' := 417) at_415 rfl rfl ?_
          refine Go.aload C X1748 (pc' := 419) at_417 rfl rfl rfl ?_
          refine Go.iload C X1748 (pc' := 421) at_419 rfl rfl ?_
          refine Go.iload C X1748 (pc' := 423) at_421 rfl rfl ?_
          refine Go.iload C X1748 (pc' := 425) at_423 rfl rfl ?_
          refine Go.lload C X1748 (pc' := 427) at_425 rfl rfl ?_
          refine Go.callS C X1748 (pc' := 430) (W := 0) (argsL := [(.ref u1621), (.int (11 : Int32)), (.int ((((2 : Int32) + (1 : Int32)) + (1 : Int32)) + (own_f_rm_dd (own_f_rm_ab (x3).toInt64)))), (.ref b1533), (.int (2 : Int32)), (.int (1 : Int32)), (.int (own_f_rm_dd (own_f_rm_ab (x3).toInt64))), (.long (own_f_rm_ab (x3).toInt64))]) (rest := []) (rm_cx l Z a0 hw u1621 (11 : Int32) ((((2 : Int32) + (1 : Int32)) + (1 : Int32)) + (own_f_rm_dd (own_f_rm_ab (x3).toInt64))) b1533 (2 : Int32) (1 : Int32) (own_f_rm_dd (own_f_rm_ab (x3).toInt64)) (own_f_rm_ab (x3).toInt64) tv1621 (own_fs f11564 2 v N sg) ((((2 : Int32) + (1 : Int32)) + (1 : Int32)) + (own_f_rm_dd (own_f_rm_ab (x3).toInt64))) t1564 2 f11564 (2 : Int32) 11 sg N v cs sf h1748 n0 X1748.sz O1749 hS hSF E1754 F1755 F1756 A1757 E1750 F1751 F1752 A1753 hcs hsf rfl (by decide) rfl (own_s6n hv c1635) (own_svs hv) hdd hN hab rfl hL hL (own_key (own_svs hv) hd.1)) (own_w hw 196 rfl) (own_w hw 197 rfl) (own_w hw 192 rfl) (own_w hw 198 rfl) (by decide) rfl rfl (lenOf own_pd36 rfl) rfl (Nat.le_of_eq rfl) (by decide) (by decide) (by decide) (by decide) at_427 rfl (fun _ _ q => by obtain ⟨_, K⟩ := q; exact K.1) (fun T1759 h1759 v1759 X1759 P1759 => ?_)
          obtain ⟨rfl, K1759⟩ := P1759
          have O1760 : Old Z n0 h1759 := O1749.keep K1759 all0
          have E1761 := E1750.keep K1759
          have F1762 := F1751.keep K1759 nin0
          have F1763 := F1752.keep K1759 nin0
          have A1764 := A1753.keep K1759 nin0
          have E1765 := E1754.keep K1759
          have F1766 := F1755.keep K1759 nin0
          have F1767 := F1756.keep K1759 nin0
          have A1768 := A1757.keep K1759 nin0
          have M1769 : h1621.size ≤ h1759.size := Nat.le_trans M1758 K1759.1
          show Go p e below _ n0 _ _ _ T1759 (mkF m 430 #[.val (.int x0), .val (.int x1), .val (.int x2), .val (.int x3), .val (.int x4), .val (.int (2 : Int32)), .val (.int (own_c8 x0)), .val (.int (own_c8 x1)), .val (.ref b1533), .val (.int x3), .val (.ref u1621), .val (.long (own_f_rm_ab (x3).toInt64)), .second, .val (.int (1 : Int32)), .val (.int (own_f_rm_dd (own_f_rm_ab (x3).toInt64))), .val (.int ((((2 : Int32) + (1 : Int32)) + (1 : Int32)) + (own_f_rm_dd (own_f_rm_ab (x3).toInt64))))] [(.int (1 : Int32))])
          refine Go.ifNo C X1759 (pc' := 433) at_430 ((if0 _ _).trans (feq (by decide)).1) rfl ?_
          refine Go.aload C X1759 (pc' := 435) at_433 rfl rfl rfl ?_
          refine Go.bipush C X1759 (pc' := 437) (v := (12 : Int32)) at_435 rfl rfl ?_
          refine Go.iload C X1759 (pc' := 439) at_437 rfl rfl ?_
          refine Go.aload C X1759 (pc' := 441) at_439 rfl rfl rfl ?_
          refine Go.iload C X1759 (pc' := 443) at_441 rfl rfl ?_
          refine Go.iload C X1759 (pc' := 445) at_443 rfl rfl ?_
          refine Go.iload C X1759 (pc' := 447) at_445 rfl rfl ?_
          refine Go.lload C X1759 (pc' := 449) at_447 rfl rfl ?_
          refine Go.callS C X1759 (pc' := 452) (W := 0) (argsL := [(.ref u1621), (.int (12 : Int32)), (.int ((((2 : Int32) + (1 : Int32)) + (1 : Int32)) + (own_f_rm_dd (own_f_rm_ab (x3).toInt64)))), (.ref b1533), (.int (2 : Int32)), (.int (1 : Int32)), (.int (own_f_rm_dd (own_f_rm_ab (x3).toInt64))), (.long (own_f_rm_ab (x3).toInt64))]) (rest := []) (rm_cx l Z a0 hw u1621 (12 : Int32) ((((2 : Int32) + (1 : Int32)) + (1 : Int32)) + (own_f_rm_dd (own_f_rm_ab (x3).toInt64))) b1533 (2 : Int32) (1 : Int32) (own_f_rm_dd (own_f_rm_ab (x3).toInt64)) (own_f_rm_ab (x3).toInt64) tv1621 (own_fs f11564 2 v N sg) ((((2 : Int32) + (1 : Int32)) + (1 : Int32)) + (own_f_rm_dd (own_f_rm_ab (x3).toInt64))) t1564 2 f11564 (2 : Int32) 12 sg N v cs sf h1759 n0 X1759.sz O1760 hS hSF E1765 F1766 F1767 A1768 E1761 F1762 F1763 A1764 hcs hsf rfl (by decide) rfl (own_s6n hv c1635) (own_svs hv) hdd hN hab rfl hL hL (own_key (own_svs hv) hd.1)) (own_w hw 196 rfl) (own_w hw 197 rfl) (own_w hw 192 rfl) (own_w hw 198 rfl) (by decide) rfl rfl (lenOf own_pd36 rfl) rfl (Nat.le_of_eq rfl) (by decide) (by decide) (by decide) (by decide) at_449 rfl (fun _ _ q => by obtain ⟨_, K⟩ := q; exact K.1) (fun T1770 h1770 v1770 X1770 P1770 => ?_)
          obtain ⟨rfl, K1770⟩ := P1770
          have O1771 : Old Z n0 h1770 := O1760.keep K1770 all0
          have E1772 := E1761.keep K1770
          have F1773 := F1762.keep K1770 nin0
          have F1774 := F1763.keep K1770 nin0
          have A1775 := A1764.keep K1770 nin0
          have E1776 := E1765.keep K1770
          have F1777 := F1766.keep K1770 nin0
          have F1778 := F1767.keep K1770 nin0
          have A1779 := A1768.keep K1770 nin0
          have M1780 : h1621.size ≤ h1770.size := Nat.le_trans M1769 K1770.1
          show Go p e below _ n0 _ _ _ T1770 (mkF m 452 #[.val (.int x0), .val (.int x1), .val (.int x2), .val (.int x3), .val (.int x4), .val (.int (2 : Int32)), .val (.int (own_c8 x0)), .val (.int (own_c8 x1)), .val (.ref b1533), .val (.int x3), .val (.ref u1621), .val (.long (own_f_rm_ab (x3).toInt64)), .second, .val (.int (1 : Int32)), .val (.int (own_f_rm_dd (own_f_rm_ab (x3).toInt64))), .val (.int ((((2 : Int32) + (1 : Int32)) + (1 : Int32)) + (own_f_rm_dd (own_f_rm_ab (x3).toInt64))))] [(.int (1 : Int32))])
          refine Go.ifNo C X1770 (pc' := 455) at_452 ((if0 _ _).trans (feq (by decide)).1) rfl ?_
          refine Go.aload C X1770 (pc' := 457) at_455 rfl rfl rfl ?_
          refine Go.bipush C X1770 (pc' := 459) (v := (13 : Int32)) at_457 rfl rfl ?_
          refine Go.iload C X1770 (pc' := 461) at_459 rfl rfl ?_
          refine Go.aload C X1770 (pc' := 463) at_461 rfl rfl rfl ?_
          refine Go.iload C X1770 (pc' := 465) at_463 rfl rfl ?_
          refine Go.iload C X1770 (pc' := 467) at_465 rfl rfl ?_
          refine Go.iload C X1770 (pc' := 469) at_467 rfl rfl ?_
          refine Go.lload C X1770 (pc' := 471) at_469 rfl rfl ?_
          refine Go.callS C X1770 (pc' := 474) (W := 0) (argsL := [(.ref u1621), (.int (13 : Int32)), (.int ((((2 : Int32) + (1 : Int32)) + (1 : Int32)) + (own_f_rm_dd (own_f_rm_ab (x3).toInt64)))), (.ref b1533), (.int (2 : Int32)), (.int (1 : Int32)), (.int (own_f_rm_dd (own_f_rm_ab (x3).toInt64))), (.long (own_f_rm_ab (x3).toInt64))]) (rest := []) (rm_cx l Z a0 hw u1621 (13 : Int32) ((((2 : Int32) + (1 : Int32)) + (1 : Int32)) + (own_f_rm_dd (own_f_rm_ab (x3).toInt64))) b1533 (2 : Int32) (1 : Int32) (own_f_rm_dd (own_f_rm_ab (x3).toInt64)) (own_f_rm_ab (x3).toInt64) tv1621 (own_fs f11564 2 v N sg) ((((2 : Int32) + (1 : Int32)) + (1 : Int32)) + (own_f_rm_dd (own_f_rm_ab (x3).toInt64))) t1564 2 f11564 (2 : Int32) 13 sg N v cs sf h1770 n0 X1770.sz O1771 hS hSF E1776 F1777 F1778 A1779 E1772 F1773 F1774 A1775 hcs hsf rfl (by decide) rfl (own_s6n hv c1635) (own_svs hv) hdd hN hab rfl hL hL (own_key (own_svs hv) hd.1)) (own_w hw 196 rfl) (own_w hw 197 rfl) (own_w hw 192 rfl) (own_w hw 198 rfl) (by decide) rfl rfl (lenOf own_pd36 rfl) rfl (Nat.le_of_eq rfl) (by decide) (by decide) (by decide) (by decide) at_471 rfl (fun _ _ q => by obtain ⟨_, K⟩ := q; exact K.1) (fun T1781 h1781 v1781 X1781 P1781 => ?_)
          obtain ⟨rfl, K1781⟩ := P1781
          have O1782 : Old Z n0 h1781 := O1771.keep K1781 all0
          have E1783 := E1772.keep K1781
          have F1784 := F1773.keep K1781 nin0
          have F1785 := F1774.keep K1781 nin0
          have A1786 := A1775.keep K1781 nin0
          have E1787 := E1776.keep K1781
          have F1788 := F1777.keep K1781 nin0
          have F1789 := F1778.keep K1781 nin0
          have A1790 := A1779.keep K1781 nin0
          have M1791 : h1621.size ≤ h1781.size := Nat.le_trans M1780 K1781.1
          show Go p e below _ n0 _ _ _ T1781 (mkF m 474 #[.val (.int x0), .val (.int x1), .val (.int x2), .val (.int x3), .val (.int x4), .val (.int (2 : Int32)), .val (.int (own_c8 x0)), .val (.int (own_c8 x1)), .val (.ref b1533), .val (.int x3), .val (.ref u1621), .val (.long (own_f_rm_ab (x3).toInt64)), .second, .val (.int (1 : Int32)), .val (.int (own_f_rm_dd (own_f_rm_ab (x3).toInt64))), .val (.int ((((2 : Int32) + (1 : Int32)) + (1 : Int32)) + (own_f_rm_dd (own_f_rm_ab (x3).toInt64))))] [(.int (1 : Int32))])
          refine Go.ifNo C X1781 (pc' := 477) at_474 ((if0 _ _).trans (feq (by decide)).1) rfl ?_
          refine Go.iconst C X1781 (pc' := 478) (v := (1 : Int32)) at_477 rfl rfl ?_
          refine Go.goto C X1781 (pc' := 482) at_478 (by decide) (by decide) ?_
          refine Go.wide ?_
          exact Go.retZ (t := .boolean) C X1781 (z' := (1 : Int32)) (by decide) at_482 ⟨rfl, M1791⟩ (by decide) (by decide)
        · refine Go.ifYes C X1634 (pc' := 141) at_134 ((if0 _ _).trans (flt c1635).2.1) (by decide) (by decide) ?_
          refine Go.iconst C X1634 (pc' := 142) (v := (0 : Int32)) at_141 rfl rfl ?_
          refine Go.istore C X1634 (pc' := 144) (Ls' := #[.val (.int x0), .val (.int x1), .val (.int x2), .val (.int x3), .val (.int x4), .val (.int (2 : Int32)), .val (.int (own_c8 x0)), .val (.int (own_c8 x1)), .val (.ref b1533), .val (.int x3), .val (.ref u1621), .val (.long (own_f_rm_ab (x3).toInt64)), .second, .val (.int (0 : Int32)), .unset, .unset]) at_142 rfl rfl ?_
          refine Go.lload C X1634 (pc' := 146) at_144 rfl rfl ?_
          refine Go.callS C X1634 (pc' := 149) (W := 0) (argsL := [(.long (own_f_rm_ab (x3).toInt64))]) (rest := []) (rm_dd l Z a0 hw (own_f_rm_ab (x3).toInt64) h1621 n0 X1634.sz ) (own_w hw 190 rfl) (own_w hw 191 rfl) (own_w hw 192 rfl) (own_w hw 193 rfl) (by decide) rfl rfl (lenOf own_pd35 rfl) rfl (Nat.le_of_eq rfl) (by decide) (by decide) (by decide) (by decide) at_146 rfl (fun _ _ q => Nat.le_of_eq (congrArg Array.size q.2)) (fun T1792 h1792 v1792 X1792 P1792 => ?_)
          obtain ⟨rfl, rfl⟩ := P1792
          show Go p e below _ n0 _ _ _ T1792 (mkF m 149 #[.val (.int x0), .val (.int x1), .val (.int x2), .val (.int x3), .val (.int x4), .val (.int (2 : Int32)), .val (.int (own_c8 x0)), .val (.int (own_c8 x1)), .val (.ref b1533), .val (.int x3), .val (.ref u1621), .val (.long (own_f_rm_ab (x3).toInt64)), .second, .val (.int (0 : Int32)), .unset, .unset] [(.int (own_f_rm_dd (own_f_rm_ab (x3).toInt64)))])
          refine Go.istore C X1792 (pc' := 151) (Ls' := #[.val (.int x0), .val (.int x1), .val (.int x2), .val (.int x3), .val (.int x4), .val (.int (2 : Int32)), .val (.int (own_c8 x0)), .val (.int (own_c8 x1)), .val (.ref b1533), .val (.int x3), .val (.ref u1621), .val (.long (own_f_rm_ab (x3).toInt64)), .second, .val (.int (0 : Int32)), .val (.int (own_f_rm_dd (own_f_rm_ab (x3).toInt64))), .unset]) at_149 rfl rfl ?_
          refine Go.iload C X1792 (pc' := 153) at_151 rfl rfl ?_
          refine Go.iconst C X1792 (pc' := 154) (v := (1 : Int32)) at_153 rfl rfl ?_
          refine Go.iadd C X1792 (pc' := 155) at_154 rfl ?_
          refine Go.iload C X1792 (pc' := 157) at_155 rfl rfl ?_
          refine Go.iadd C X1792 (pc' := 158) at_157 rfl ?_
          refine Go.iload C X1792 (pc' := 160) at_158 rfl rfl ?_
          refine Go.iadd C X1792 (pc' := 161) at_160 rfl ?_
          refine Go.istore C X1792 (pc' := 163) (Ls' := #[.val (.int x0), .val (.int x1), .val (.int x2), .val (.int x3), .val (.int x4), .val (.int (2 : Int32)), .val (.int (own_c8 x0)), .val (.int (own_c8 x1)), .val (.ref b1533), .val (.int x3), .val (.ref u1621), .val (.long (own_f_rm_ab (x3).toInt64)), .second, .val (.int (0 : Int32)), .val (.int (own_f_rm_dd (own_f_rm_ab (x3).toInt64))), .val (.int ((((2 : Int32) + (1 : Int32)) + (0 : Int32)) + (own_f_rm_dd (own_f_rm_ab (x3).toInt64))))]) at_161 rfl rfl ?_
          have hL : (((((2 : Int32) + (1 : Int32)) + (0 : Int32)) + (own_f_rm_dd (own_f_rm_ab (x3).toInt64)))).toInt = (((2 + 1 + (N + sg)) : Nat) : Int) := (own_len (a := (2 : Int32)) rfl (own_s6p hv c1635) hdd (by decide) (own_svs hv) hN)
          refine Go.aload C X1792 (pc' := 165) at_163 rfl rfl rfl ?_
          refine Go.callV C X1792 (pc' := 168) (W := 0) (argsL := []) (rest := []) (a := u1621) (rm_ln l Z a0 hw u1621 tv1621 (2 + 1 + (N + sg)) (own_fs f11564 2 v N sg) ((((2 : Int32) + (1 : Int32)) + (0 : Int32)) + (own_f_rm_dd (own_f_rm_ab (x3).toInt64))) cs h1621 n0 X1792.sz O1622 hS O1621_0 O1621_1 O1621_2 O1621_3 hcs hL) O1621_0 (notFace_of_selects (args := #[]) (mvT C.2.1 (own_w hw 87 rfl))) (own_w hw 195 rfl) (own_w hw 85 rfl) (own_w hw 87 rfl) (own_w hw 86 rfl) (own_w hw 2 rfl) (own_w hw 88 rfl) (by decide) rfl rfl (lenOf own_pd12 rfl) rfl (Nat.le_of_eq rfl) (by decide) (by decide) (by decide) (by decide) at_165 rfl (fun _ _ q => Nat.le_of_eq (congrArg Array.size q.2)) (fun T1793 h1793 v1793 X1793 P1793 => ?_)
          obtain ⟨rfl, rfl⟩ := P1793
          show Go p e below _ n0 _ _ _ T1793 (mkF m 168 #[.val (.int x0), .val (.int x1), .val (.int x2), .val (.int x3), .val (.int x4), .val (.int (2 : Int32)), .val (.int (own_c8 x0)), .val (.int (own_c8 x1)), .val (.ref b1533), .val (.int x3), .val (.ref u1621), .val (.long (own_f_rm_ab (x3).toInt64)), .second, .val (.int (0 : Int32)), .val (.int (own_f_rm_dd (own_f_rm_ab (x3).toInt64))), .val (.int ((((2 : Int32) + (1 : Int32)) + (0 : Int32)) + (own_f_rm_dd (own_f_rm_ab (x3).toInt64))))] [(.int ((((2 : Int32) + (1 : Int32)) + (0 : Int32)) + (own_f_rm_dd (own_f_rm_ab (x3).toInt64))))])
          refine Go.iload C X1793 (pc' := 170) at_168 rfl rfl ?_
          refine Go.icmpYes C X1793 (pc' := 175) at_170 (teq rfl).1 (by decide) (by decide) ?_
          refine Go.aload C X1793 (pc' := 177) at_175 rfl rfl rfl ?_
          refine Go.iconst C X1793 (pc' := 178) (v := (0 : Int32)) at_177 rfl rfl ?_
          refine Go.iload C X1793 (pc' := 180) at_178 rfl rfl ?_
          refine Go.aload C X1793 (pc' := 182) at_180 rfl rfl rfl ?_
          refine Go.iload C X1793 (pc' := 184) at_182 rfl rfl ?_
          refine Go.iload C X1793 (pc' := 186) at_184 rfl rfl ?_
          refine Go.iload C X1793 (pc' := 188) at_186 rfl rfl ?_
          refine Go.lload C X1793 (pc' := 190) at_188 rfl rfl ?_
          refine Go.callS C X1793 (pc' := 193) (W := 0) (argsL := [(.ref u1621), (.int (0 : Int32)), (.int ((((2 : Int32) + (1 : Int32)) + (0 : Int32)) + (own_f_rm_dd (own_f_rm_ab (x3).toInt64)))), (.ref b1533), (.int (2 : Int32)), (.int (0 : Int32)), (.int (own_f_rm_dd (own_f_rm_ab (x3).toInt64))), (.long (own_f_rm_ab (x3).toInt64))]) (rest := []) (rm_cx l Z a0 hw u1621 (0 : Int32) ((((2 : Int32) + (1 : Int32)) + (0 : Int32)) + (own_f_rm_dd (own_f_rm_ab (x3).toInt64))) b1533 (2 : Int32) (0 : Int32) (own_f_rm_dd (own_f_rm_ab (x3).toInt64)) (own_f_rm_ab (x3).toInt64) tv1621 (own_fs f11564 2 v N sg) ((((2 : Int32) + (1 : Int32)) + (0 : Int32)) + (own_f_rm_dd (own_f_rm_ab (x3).toInt64))) t1564 2 f11564 (2 : Int32) 0 sg N v cs sf h1621 n0 X1793.sz O1622 hS hSF O1621_0 O1621_1 O1621_2 O1621_3 E1626 F1628 F1629 A1630 hcs hsf rfl (by decide) rfl (own_s6p hv c1635) (own_svs hv) hdd hN hab rfl hL hL (own_key (own_svs hv) hd.1)) (own_w hw 196 rfl) (own_w hw 197 rfl) (own_w hw 192 rfl) (own_w hw 198 rfl) (by decide) rfl rfl (lenOf own_pd36 rfl) rfl (Nat.le_of_eq rfl) (by decide) (by decide) (by decide) (by decide) at_190 rfl (fun _ _ q => by obtain ⟨_, K⟩ := q; exact K.1) (fun T1794 h1794 v1794 X1794 P1794 => ?_)
          obtain ⟨rfl, K1794⟩ := P1794
          have O1795 : Old Z n0 h1794 := O1622.keep K1794 all0
          have E1796 := E1626.keep K1794
          have F1797 := F1628.keep K1794 nin0
          have F1798 := F1629.keep K1794 nin0
          have A1799 := A1630.keep K1794 nin0
          have E1800 := O1621_0.keep K1794
          have F1801 := O1621_1.keep K1794 nin0
          have F1802 := O1621_2.keep K1794 nin0
          have A1803 := O1621_3.keep K1794 nin0
          have M1804 : h1621.size ≤ h1794.size := Nat.le_trans M1621_ K1794.1
          show Go p e below _ n0 _ _ _ T1794 (mkF m 193 #[.val (.int x0), .val (.int x1), .val (.int x2), .val (.int x3), .val (.int x4), .val (.int (2 : Int32)), .val (.int (own_c8 x0)), .val (.int (own_c8 x1)), .val (.ref b1533), .val (.int x3), .val (.ref u1621), .val (.long (own_f_rm_ab (x3).toInt64)), .second, .val (.int (0 : Int32)), .val (.int (own_f_rm_dd (own_f_rm_ab (x3).toInt64))), .val (.int ((((2 : Int32) + (1 : Int32)) + (0 : Int32)) + (own_f_rm_dd (own_f_rm_ab (x3).toInt64))))] [(.int (1 : Int32))])
          refine Go.ifNo C X1794 (pc' := 196) at_193 ((if0 _ _).trans (feq (by decide)).1) rfl ?_
          refine Go.aload C X1794 (pc' := 198) at_196 rfl rfl rfl ?_
          refine Go.iconst C X1794 (pc' := 199) (v := (1 : Int32)) at_198 rfl rfl ?_
          refine Go.iload C X1794 (pc' := 201) at_199 rfl rfl ?_
          refine Go.aload C X1794 (pc' := 203) at_201 rfl rfl rfl ?_
          refine Go.iload C X1794 (pc' := 205) at_203 rfl rfl ?_
          refine Go.iload C X1794 (pc' := 207) at_205 rfl rfl ?_
          refine Go.iload C X1794 (pc' := 209) at_207 rfl rfl ?_
          refine Go.lload C X1794 (pc' := 211) at_209 rfl rfl ?_
          refine Go.callS C X1794 (pc' := 214) (W := 0) (argsL := [(.ref u1621), (.int (1 : Int32)), (.int ((((2 : Int32) + (1 : Int32)) + (0 : Int32)) + (own_f_rm_dd (own_f_rm_ab (x3).toInt64)))), (.ref b1533), (.int (2 : Int32)), (.int (0 : Int32)), (.int (own_f_rm_dd (own_f_rm_ab (x3).toInt64))), (.long (own_f_rm_ab (x3).toInt64))]) (rest := []) (rm_cx l Z a0 hw u1621 (1 : Int32) ((((2 : Int32) + (1 : Int32)) + (0 : Int32)) + (own_f_rm_dd (own_f_rm_ab (x3).toInt64))) b1533 (2 : Int32) (0 : Int32) (own_f_rm_dd (own_f_rm_ab (x3).toInt64)) (own_f_rm_ab (x3).toInt64) tv1621 (own_fs f11564 2 v N sg) ((((2 : Int32) + (1 : Int32)) + (0 : Int32)) + (own_f_rm_dd (own_f_rm_ab (x3).toInt64))) t1564 2 f11564 (2 : Int32) 1 sg N v cs sf h1794 n0 X1794.sz O1795 hS hSF E1800 F1801 F1802 A1803 E1796 F1797 F1798 A1799 hcs hsf rfl (by decide) rfl (own_s6p hv c1635) (own_svs hv) hdd hN hab rfl hL hL (own_key (own_svs hv) hd.1)) (own_w hw 196 rfl) (own_w hw 197 rfl) (own_w hw 192 rfl) (own_w hw 198 rfl) (by decide) rfl rfl (lenOf own_pd36 rfl) rfl (Nat.le_of_eq rfl) (by decide) (by decide) (by decide) (by decide) at_211 rfl (fun _ _ q => by obtain ⟨_, K⟩ := q; exact K.1) (fun T1805 h1805 v1805 X1805 P1805 => ?_)
          obtain ⟨rfl, K1805⟩ := P1805
          have O1806 : Old Z n0 h1805 := O1795.keep K1805 all0
          have E1807 := E1796.keep K1805
          have F1808 := F1797.keep K1805 nin0
          have F1809 := F1798.keep K1805 nin0
          have A1810 := A1799.keep K1805 nin0
          have E1811 := E1800.keep K1805
          have F1812 := F1801.keep K1805 nin0
          have F1813 := F1802.keep K1805 nin0
          have A1814 := A1803.keep K1805 nin0
          have M1815 : h1621.size ≤ h1805.size := Nat.le_trans M1804 K1805.1
          show Go p e below _ n0 _ _ _ T1805 (mkF m 214 #[.val (.int x0), .val (.int x1), .val (.int x2), .val (.int x3), .val (.int x4), .val (.int (2 : Int32)), .val (.int (own_c8 x0)), .val (.int (own_c8 x1)), .val (.ref b1533), .val (.int x3), .val (.ref u1621), .val (.long (own_f_rm_ab (x3).toInt64)), .second, .val (.int (0 : Int32)), .val (.int (own_f_rm_dd (own_f_rm_ab (x3).toInt64))), .val (.int ((((2 : Int32) + (1 : Int32)) + (0 : Int32)) + (own_f_rm_dd (own_f_rm_ab (x3).toInt64))))] [(.int (1 : Int32))])
          refine Go.ifNo C X1805 (pc' := 217) at_214 ((if0 _ _).trans (feq (by decide)).1) rfl ?_
          refine Go.aload C X1805 (pc' := 219) at_217 rfl rfl rfl ?_
          refine Go.iconst C X1805 (pc' := 220) (v := (2 : Int32)) at_219 rfl rfl ?_
          refine Go.iload C X1805 (pc' := 222) at_220 rfl rfl ?_
          refine Go.aload C X1805 (pc' := 224) at_222 rfl rfl rfl ?_
          refine Go.iload C X1805 (pc' := 226) at_224 rfl rfl ?_
          refine Go.iload C X1805 (pc' := 228) at_226 rfl rfl ?_
          refine Go.iload C X1805 (pc' := 230) at_228 rfl rfl ?_
          refine Go.lload C X1805 (pc' := 232) at_230 rfl rfl ?_
          refine Go.callS C X1805 (pc' := 235) (W := 0) (argsL := [(.ref u1621), (.int (2 : Int32)), (.int ((((2 : Int32) + (1 : Int32)) + (0 : Int32)) + (own_f_rm_dd (own_f_rm_ab (x3).toInt64)))), (.ref b1533), (.int (2 : Int32)), (.int (0 : Int32)), (.int (own_f_rm_dd (own_f_rm_ab (x3).toInt64))), (.long (own_f_rm_ab (x3).toInt64))]) (rest := []) (rm_cx l Z a0 hw u1621 (2 : Int32) ((((2 : Int32) + (1 : Int32)) + (0 : Int32)) + (own_f_rm_dd (own_f_rm_ab (x3).toInt64))) b1533 (2 : Int32) (0 : Int32) (own_f_rm_dd (own_f_rm_ab (x3).toInt64)) (own_f_rm_ab (x3).toInt64) tv1621 (own_fs f11564 2 v N sg) ((((2 : Int32) + (1 : Int32)) + (0 : Int32)) + (own_f_rm_dd (own_f_rm_ab (x3).toInt64))) t1564 2 f11564 (2 : Int32) 2 sg N v cs sf h1805 n0 X1805.sz O1806 hS hSF E1811 F1812 F1813 A1814 E1807 F1808 F1809 A1810 hcs hsf rfl (by decide) rfl (own_s6p hv c1635) (own_svs hv) hdd hN hab rfl hL hL (own_key (own_svs hv) hd.1)) (own_w hw 196 rfl) (own_w hw 197 rfl) (own_w hw 192 rfl) (own_w hw 198 rfl) (by decide) rfl rfl (lenOf own_pd36 rfl) rfl (Nat.le_of_eq rfl) (by decide) (by decide) (by decide) (by decide) at_232 rfl (fun _ _ q => by obtain ⟨_, K⟩ := q; exact K.1) (fun T1816 h1816 v1816 X1816 P1816 => ?_)
          obtain ⟨rfl, K1816⟩ := P1816
          have O1817 : Old Z n0 h1816 := O1806.keep K1816 all0
          have E1818 := E1807.keep K1816
          have F1819 := F1808.keep K1816 nin0
          have F1820 := F1809.keep K1816 nin0
          have A1821 := A1810.keep K1816 nin0
          have E1822 := E1811.keep K1816
          have F1823 := F1812.keep K1816 nin0
          have F1824 := F1813.keep K1816 nin0
          have A1825 := A1814.keep K1816 nin0
          have M1826 : h1621.size ≤ h1816.size := Nat.le_trans M1815 K1816.1
          show Go p e below _ n0 _ _ _ T1816 (mkF m 235 #[.val (.int x0), .val (.int x1), .val (.int x2), .val (.int x3), .val (.int x4), .val (.int (2 : Int32)), .val (.int (own_c8 x0)), .val (.int (own_c8 x1)), .val (.ref b1533), .val (.int x3), .val (.ref u1621), .val (.long (own_f_rm_ab (x3).toInt64)), .second, .val (.int (0 : Int32)), .val (.int (own_f_rm_dd (own_f_rm_ab (x3).toInt64))), .val (.int ((((2 : Int32) + (1 : Int32)) + (0 : Int32)) + (own_f_rm_dd (own_f_rm_ab (x3).toInt64))))] [(.int (1 : Int32))])
          refine Go.ifNo C X1816 (pc' := 238) at_235 ((if0 _ _).trans (feq (by decide)).1) rfl ?_
          refine Go.aload C X1816 (pc' := 240) at_238 rfl rfl rfl ?_
          refine Go.iconst C X1816 (pc' := 241) (v := (3 : Int32)) at_240 rfl rfl ?_
          refine Go.iload C X1816 (pc' := 243) at_241 rfl rfl ?_
          refine Go.aload C X1816 (pc' := 245) at_243 rfl rfl rfl ?_
          refine Go.iload C X1816 (pc' := 247) at_245 rfl rfl ?_
          refine Go.iload C X1816 (pc' := 249) at_247 rfl rfl ?_
          refine Go.iload C X1816 (pc' := 251) at_249 rfl rfl ?_
          refine Go.lload C X1816 (pc' := 253) at_251 rfl rfl ?_
          refine Go.callS C X1816 (pc' := 256) (W := 0) (argsL := [(.ref u1621), (.int (3 : Int32)), (.int ((((2 : Int32) + (1 : Int32)) + (0 : Int32)) + (own_f_rm_dd (own_f_rm_ab (x3).toInt64)))), (.ref b1533), (.int (2 : Int32)), (.int (0 : Int32)), (.int (own_f_rm_dd (own_f_rm_ab (x3).toInt64))), (.long (own_f_rm_ab (x3).toInt64))]) (rest := []) (rm_cx l Z a0 hw u1621 (3 : Int32) ((((2 : Int32) + (1 : Int32)) + (0 : Int32)) + (own_f_rm_dd (own_f_rm_ab (x3).toInt64))) b1533 (2 : Int32) (0 : Int32) (own_f_rm_dd (own_f_rm_ab (x3).toInt64)) (own_f_rm_ab (x3).toInt64) tv1621 (own_fs f11564 2 v N sg) ((((2 : Int32) + (1 : Int32)) + (0 : Int32)) + (own_f_rm_dd (own_f_rm_ab (x3).toInt64))) t1564 2 f11564 (2 : Int32) 3 sg N v cs sf h1816 n0 X1816.sz O1817 hS hSF E1822 F1823 F1824 A1825 E1818 F1819 F1820 A1821 hcs hsf rfl (by decide) rfl (own_s6p hv c1635) (own_svs hv) hdd hN hab rfl hL hL (own_key (own_svs hv) hd.1)) (own_w hw 196 rfl) (own_w hw 197 rfl) (own_w hw 192 rfl) (own_w hw 198 rfl) (by decide) rfl rfl (lenOf own_pd36 rfl) rfl (Nat.le_of_eq rfl) (by decide) (by decide) (by decide) (by decide) at_253 rfl (fun _ _ q => by obtain ⟨_, K⟩ := q; exact K.1) (fun T1827 h1827 v1827 X1827 P1827 => ?_)
          obtain ⟨rfl, K1827⟩ := P1827
          have O1828 : Old Z n0 h1827 := O1817.keep K1827 all0
          have E1829 := E1818.keep K1827
          have F1830 := F1819.keep K1827 nin0
          have F1831 := F1820.keep K1827 nin0
          have A1832 := A1821.keep K1827 nin0
          have E1833 := E1822.keep K1827
          have F1834 := F1823.keep K1827 nin0
          have F1835 := F1824.keep K1827 nin0
          have A1836 := A1825.keep K1827 nin0
          have M1837 : h1621.size ≤ h1827.size := Nat.le_trans M1826 K1827.1
          show Go p e below _ n0 _ _ _ T1827 (mkF m 256 #[.val (.int x0), .val (.int x1), .val (.int x2), .val (.int x3), .val (.int x4), .val (.int (2 : Int32)), .val (.int (own_c8 x0)), .val (.int (own_c8 x1)), .val (.ref b1533), .val (.int x3), .val (.ref u1621), .val (.long (own_f_rm_ab (x3).toInt64)), .second, .val (.int (0 : Int32)), .val (.int (own_f_rm_dd (own_f_rm_ab (x3).toInt64))), .val (.int ((((2 : Int32) + (1 : Int32)) + (0 : Int32)) + (own_f_rm_dd (own_f_rm_ab (x3).toInt64))))] [(.int (1 : Int32))])
          refine Go.ifNo C X1827 (pc' := 259) at_256 ((if0 _ _).trans (feq (by decide)).1) rfl ?_
          refine Go.aload C X1827 (pc' := 261) at_259 rfl rfl rfl ?_
          refine Go.iconst C X1827 (pc' := 262) (v := (4 : Int32)) at_261 rfl rfl ?_
          refine Go.iload C X1827 (pc' := 264) at_262 rfl rfl ?_
          refine Go.aload C X1827 (pc' := 266) at_264 rfl rfl rfl ?_
          refine Go.iload C X1827 (pc' := 268) at_266 rfl rfl ?_
          refine Go.iload C X1827 (pc' := 270) at_268 rfl rfl ?_
          refine Go.iload C X1827 (pc' := 272) at_270 rfl rfl ?_
          refine Go.lload C X1827 (pc' := 274) at_272 rfl rfl ?_
          refine Go.callS C X1827 (pc' := 277) (W := 0) (argsL := [(.ref u1621), (.int (4 : Int32)), (.int ((((2 : Int32) + (1 : Int32)) + (0 : Int32)) + (own_f_rm_dd (own_f_rm_ab (x3).toInt64)))), (.ref b1533), (.int (2 : Int32)), (.int (0 : Int32)), (.int (own_f_rm_dd (own_f_rm_ab (x3).toInt64))), (.long (own_f_rm_ab (x3).toInt64))]) (rest := []) (rm_cx l Z a0 hw u1621 (4 : Int32) ((((2 : Int32) + (1 : Int32)) + (0 : Int32)) + (own_f_rm_dd (own_f_rm_ab (x3).toInt64))) b1533 (2 : Int32) (0 : Int32) (own_f_rm_dd (own_f_rm_ab (x3).toInt64)) (own_f_rm_ab (x3).toInt64) tv1621 (own_fs f11564 2 v N sg) ((((2 : Int32) + (1 : Int32)) + (0 : Int32)) + (own_f_rm_dd (own_f_rm_ab (x3).toInt64))) t1564 2 f11564 (2 : Int32) 4 sg N v cs sf h1827 n0 X1827.sz O1828 hS hSF E1833 F1834 F1835 A1836 E1829 F1830 F1831 A1832 hcs hsf rfl (by decide) rfl (own_s6p hv c1635) (own_svs hv) hdd hN hab rfl hL hL (own_key (own_svs hv) hd.1)) (own_w hw 196 rfl) (own_w hw 197 rfl) (own_w hw 192 rfl) (own_w hw 198 rfl) (by decide) rfl rfl (lenOf own_pd36 rfl) rfl (Nat.le_of_eq rfl) (by decide) (by decide) (by decide) (by decide) at_274 rfl (fun _ _ q => by obtain ⟨_, K⟩ := q; exact K.1) (fun T1838 h1838 v1838 X1838 P1838 => ?_)
          obtain ⟨rfl, K1838⟩ := P1838
          have O1839 : Old Z n0 h1838 := O1828.keep K1838 all0
          have E1840 := E1829.keep K1838
          have F1841 := F1830.keep K1838 nin0
          have F1842 := F1831.keep K1838 nin0
          have A1843 := A1832.keep K1838 nin0
          have E1844 := E1833.keep K1838
          have F1845 := F1834.keep K1838 nin0
          have F1846 := F1835.keep K1838 nin0
          have A1847 := A1836.keep K1838 nin0
          have M1848 : h1621.size ≤ h1838.size := Nat.le_trans M1837 K1838.1
          show Go p e below _ n0 _ _ _ T1838 (mkF m 277 #[.val (.int x0), .val (.int x1), .val (.int x2), .val (.int x3), .val (.int x4), .val (.int (2 : Int32)), .val (.int (own_c8 x0)), .val (.int (own_c8 x1)), .val (.ref b1533), .val (.int x3), .val (.ref u1621), .val (.long (own_f_rm_ab (x3).toInt64)), .second, .val (.int (0 : Int32)), .val (.int (own_f_rm_dd (own_f_rm_ab (x3).toInt64))), .val (.int ((((2 : Int32) + (1 : Int32)) + (0 : Int32)) + (own_f_rm_dd (own_f_rm_ab (x3).toInt64))))] [(.int (1 : Int32))])
          refine Go.ifNo C X1838 (pc' := 280) at_277 ((if0 _ _).trans (feq (by decide)).1) rfl ?_
          refine Go.aload C X1838 (pc' := 282) at_280 rfl rfl rfl ?_
          refine Go.iconst C X1838 (pc' := 283) (v := (5 : Int32)) at_282 rfl rfl ?_
          refine Go.iload C X1838 (pc' := 285) at_283 rfl rfl ?_
          refine Go.aload C X1838 (pc' := 287) at_285 rfl rfl rfl ?_
          refine Go.iload C X1838 (pc' := 289) at_287 rfl rfl ?_
          refine Go.iload C X1838 (pc' := 291) at_289 rfl rfl ?_
          refine Go.iload C X1838 (pc' := 293) at_291 rfl rfl ?_
          refine Go.lload C X1838 (pc' := 295) at_293 rfl rfl ?_
          refine Go.callS C X1838 (pc' := 298) (W := 0) (argsL := [(.ref u1621), (.int (5 : Int32)), (.int ((((2 : Int32) + (1 : Int32)) + (0 : Int32)) + (own_f_rm_dd (own_f_rm_ab (x3).toInt64)))), (.ref b1533), (.int (2 : Int32)), (.int (0 : Int32)), (.int (own_f_rm_dd (own_f_rm_ab (x3).toInt64))), (.long (own_f_rm_ab (x3).toInt64))]) (rest := []) (rm_cx l Z a0 hw u1621 (5 : Int32) ((((2 : Int32) + (1 : Int32)) + (0 : Int32)) + (own_f_rm_dd (own_f_rm_ab (x3).toInt64))) b1533 (2 : Int32) (0 : Int32) (own_f_rm_dd (own_f_rm_ab (x3).toInt64)) (own_f_rm_ab (x3).toInt64) tv1621 (own_fs f11564 2 v N sg) ((((2 : Int32) + (1 : Int32)) + (0 : Int32)) + (own_f_rm_dd (own_f_rm_ab (x3).toInt64))) t1564 2 f11564 (2 : Int32) 5 sg N v cs sf h1838 n0 X1838.sz O1839 hS hSF E1844 F1845 F1846 A1847 E1840 F1841 F1842 A1843 hcs hsf rfl (by decide) rfl (own_s6p hv c1635) (own_svs hv) hdd hN hab rfl hL hL (own_key (own_svs hv) hd.1)) (own_w hw 196 rfl) (own_w hw 197 rfl) (own_w hw 192 rfl) (own_w hw 198 rfl) (by decide) rfl rfl (lenOf own_pd36 rfl) rfl (Nat.le_of_eq rfl) (by decide) (by decide) (by decide) (by decide) at_295 rfl (fun _ _ q => by obtain ⟨_, K⟩ := q; exact K.1) (fun T1849 h1849 v1849 X1849 P1849 => ?_)
          obtain ⟨rfl, K1849⟩ := P1849
          have O1850 : Old Z n0 h1849 := O1839.keep K1849 all0
          have E1851 := E1840.keep K1849
          have F1852 := F1841.keep K1849 nin0
          have F1853 := F1842.keep K1849 nin0
          have A1854 := A1843.keep K1849 nin0
          have E1855 := E1844.keep K1849
          have F1856 := F1845.keep K1849 nin0
          have F1857 := F1846.keep K1849 nin0
          have A1858 := A1847.keep K1849 nin0
          have M1859 : h1621.size ≤ h1849.size := Nat.le_trans M1848 K1849.1
          show Go p e below _ n0 _ _ _ T1849 (mkF m 298 #[.val (.int x0), .val (.int x1), .val (.int x2), .val (.int x3), .val (.int x4), .val (.int (2 : Int32)), .val (.int (own_c8 x0)), .val (.int (own_c8 x1)), .val (.ref b1533), .val (.int x3), .val (.ref u1621), .val (.long (own_f_rm_ab (x3).toInt64)), .second, .val (.int (0 : Int32)), .val (.int (own_f_rm_dd (own_f_rm_ab (x3).toInt64))), .val (.int ((((2 : Int32) + (1 : Int32)) + (0 : Int32)) + (own_f_rm_dd (own_f_rm_ab (x3).toInt64))))] [(.int (1 : Int32))])
          refine Go.ifNo C X1849 (pc' := 301) at_298 ((if0 _ _).trans (feq (by decide)).1) rfl ?_
          refine Go.aload C X1849 (pc' := 303) at_301 rfl rfl rfl ?_
          refine Go.bipush C X1849 (pc' := 305) (v := (6 : Int32)) at_303 rfl rfl ?_
          refine Go.iload C X1849 (pc' := 307) at_305 rfl rfl ?_
          refine Go.aload C X1849 (pc' := 309) at_307 rfl rfl rfl ?_
          refine Go.iload C X1849 (pc' := 311) at_309 rfl rfl ?_
          refine Go.iload C X1849 (pc' := 313) at_311 rfl rfl ?_
          refine Go.iload C X1849 (pc' := 315) at_313 rfl rfl ?_
          refine Go.lload C X1849 (pc' := 317) at_315 rfl rfl ?_
          refine Go.callS C X1849 (pc' := 320) (W := 0) (argsL := [(.ref u1621), (.int (6 : Int32)), (.int ((((2 : Int32) + (1 : Int32)) + (0 : Int32)) + (own_f_rm_dd (own_f_rm_ab (x3).toInt64)))), (.ref b1533), (.int (2 : Int32)), (.int (0 : Int32)), (.int (own_f_rm_dd (own_f_rm_ab (x3).toInt64))), (.long (own_f_rm_ab (x3).toInt64))]) (rest := []) (rm_cx l Z a0 hw u1621 (6 : Int32) ((((2 : Int32) + (1 : Int32)) + (0 : Int32)) + (own_f_rm_dd (own_f_rm_ab (x3).toInt64))) b1533 (2 : Int32) (0 : Int32) (own_f_rm_dd (own_f_rm_ab (x3).toInt64)) (own_f_rm_ab (x3).toInt64) tv1621 (own_fs f11564 2 v N sg) ((((2 : Int32) + (1 : Int32)) + (0 : Int32)) + (own_f_rm_dd (own_f_rm_ab (x3).toInt64))) t1564 2 f11564 (2 : Int32) 6 sg N v cs sf h1849 n0 X1849.sz O1850 hS hSF E1855 F1856 F1857 A1858 E1851 F1852 F1853 A1854 hcs hsf rfl (by decide) rfl (own_s6p hv c1635) (own_svs hv) hdd hN hab rfl hL hL (own_key (own_svs hv) hd.1)) (own_w hw 196 rfl) (own_w hw 197 rfl) (own_w hw 192 rfl) (own_w hw 198 rfl) (by decide) rfl rfl (lenOf own_pd36 rfl) rfl (Nat.le_of_eq rfl) (by decide) (by decide) (by decide) (by decide) at_317 rfl (fun _ _ q => by obtain ⟨_, K⟩ := q; exact K.1) (fun T1860 h1860 v1860 X1860 P1860 => ?_)
          obtain ⟨rfl, K1860⟩ := P1860
          have O1861 : Old Z n0 h1860 := O1850.keep K1860 all0
          have E1862 := E1851.keep K1860
          have F1863 := F1852.keep K1860 nin0
          have F1864 := F1853.keep K1860 nin0
          have A1865 := A1854.keep K1860 nin0
          have E1866 := E1855.keep K1860
          have F1867 := F1856.keep K1860 nin0
          have F1868 := F1857.keep K1860 nin0
          have A1869 := A1858.keep K1860 nin0
          have M1870 : h1621.size ≤ h1860.size := Nat.le_trans M1859 K1860.1
          show Go p e below _ n0 _ _ _ T1860 (mkF m 320 #[.val (.int x0), .val (.int x1), .val (.int x2), .val (.int x3), .val (.int x4), .val (.int (2 : Int32)), .val (.int (own_c8 x0)), .val (.int (own_c8 x1)), .val (.ref b1533), .val (.int x3), .val (.ref u1621), .val (.long (own_f_rm_ab (x3).toInt64)), .second, .val (.int (0 : Int32)), .val (.int (own_f_rm_dd (own_f_rm_ab (x3).toInt64))), .val (.int ((((2 : Int32) + (1 : Int32)) + (0 : Int32)) + (own_f_rm_dd (own_f_rm_ab (x3).toInt64))))] [(.int (1 : Int32))])
          refine Go.ifNo C X1860 (pc' := 323) at_320 ((if0 _ _).trans (feq (by decide)).1) rfl ?_
          refine Go.aload C X1860 (pc' := 325) at_323 rfl rfl rfl ?_
          refine Go.bipush C X1860 (pc' := 327) (v := (7 : Int32)) at_325 rfl rfl ?_
          refine Go.iload C X1860 (pc' := 329) at_327 rfl rfl ?_
          refine Go.aload C X1860 (pc' := 331) at_329 rfl rfl rfl ?_
          refine Go.iload C X1860 (pc' := 333) at_331 rfl rfl ?_
          refine Go.iload C X1860 (pc' := 335) at_333 rfl rfl ?_
          refine Go.iload C X1860 (pc' := 337) at_335 rfl rfl ?_
          refine Go.lload C X1860 (pc' := 339) at_337 rfl rfl ?_
          refine Go.callS C X1860 (pc' := 342) (W := 0) (argsL := [(.ref u1621), (.int (7 : Int32)), (.int ((((2 : Int32) + (1 : Int32)) + (0 : Int32)) + (own_f_rm_dd (own_f_rm_ab (x3).toInt64)))), (.ref b1533), (.int (2 : Int32)), (.int (0 : Int32)), (.int (own_f_rm_dd (own_f_rm_ab (x3).toInt64))), (.long (own_f_rm_ab (x3).toInt64))]) (rest := []) (rm_cx l Z a0 hw u1621 (7 : Int32) ((((2 : Int32) + (1 : Int32)) + (0 : Int32)) + (own_f_rm_dd (own_f_rm_ab (x3).toInt64))) b1533 (2 : Int32) (0 : Int32) (own_f_rm_dd (own_f_rm_ab (x3).toInt64)) (own_f_rm_ab (x3).toInt64) tv1621 (own_fs f11564 2 v N sg) ((((2 : Int32) + (1 : Int32)) + (0 : Int32)) + (own_f_rm_dd (own_f_rm_ab (x3).toInt64))) t1564 2 f11564 (2 : Int32) 7 sg N v cs sf h1860 n0 X1860.sz O1861 hS hSF E1866 F1867 F1868 A1869 E1862 F1863 F1864 A1865 hcs hsf rfl (by decide) rfl (own_s6p hv c1635) (own_svs hv) hdd hN hab rfl hL hL (own_key (own_svs hv) hd.1)) (own_w hw 196 rfl) (own_w hw 197 rfl) (own_w hw 192 rfl) (own_w hw 198 rfl) (by decide) rfl rfl (lenOf own_pd36 rfl) rfl (Nat.le_of_eq rfl) (by decide) (by decide) (by decide) (by decide) at_339 rfl (fun _ _ q => by obtain ⟨_, K⟩ := q; exact K.1) (fun T1871 h1871 v1871 X1871 P1871 => ?_)
          obtain ⟨rfl, K1871⟩ := P1871
          have O1872 : Old Z n0 h1871 := O1861.keep K1871 all0
          have E1873 := E1862.keep K1871
          have F1874 := F1863.keep K1871 nin0
          have F1875 := F1864.keep K1871 nin0
          have A1876 := A1865.keep K1871 nin0
          have E1877 := E1866.keep K1871
          have F1878 := F1867.keep K1871 nin0
          have F1879 := F1868.keep K1871 nin0
          have A1880 := A1869.keep K1871 nin0
          have M1881 : h1621.size ≤ h1871.size := Nat.le_trans M1870 K1871.1
          show Go p e below _ n0 _ _ _ T1871 (mkF m 342 #[.val (.int x0), .val (.int x1), .val (.int x2), .val (.int x3), .val (.int x4), .val (.int (2 : Int32)), .val (.int (own_c8 x0)), .val (.int (own_c8 x1)), .val (.ref b1533), .val (.int x3), .val (.ref u1621), .val (.long (own_f_rm_ab (x3).toInt64)), .second, .val (.int (0 : Int32)), .val (.int (own_f_rm_dd (own_f_rm_ab (x3).toInt64))), .val (.int ((((2 : Int32) + (1 : Int32)) + (0 : Int32)) + (own_f_rm_dd (own_f_rm_ab (x3).toInt64))))] [(.int (1 : Int32))])
          refine Go.ifNo C X1871 (pc' := 345) at_342 ((if0 _ _).trans (feq (by decide)).1) rfl ?_
          refine Go.aload C X1871 (pc' := 347) at_345 rfl rfl rfl ?_
          refine Go.bipush C X1871 (pc' := 349) (v := (8 : Int32)) at_347 rfl rfl ?_
          refine Go.iload C X1871 (pc' := 351) at_349 rfl rfl ?_
          refine Go.aload C X1871 (pc' := 353) at_351 rfl rfl rfl ?_
          refine Go.iload C X1871 (pc' := 355) at_353 rfl rfl ?_
          refine Go.iload C X1871 (pc' := 357) at_355 rfl rfl ?_
          refine Go.iload C X1871 (pc' := 359) at_357 rfl rfl ?_
          refine Go.lload C X1871 (pc' := 361) at_359 rfl rfl ?_
          refine Go.callS C X1871 (pc' := 364) (W := 0) (argsL := [(.ref u1621), (.int (8 : Int32)), (.int ((((2 : Int32) + (1 : Int32)) + (0 : Int32)) + (own_f_rm_dd (own_f_rm_ab (x3).toInt64)))), (.ref b1533), (.int (2 : Int32)), (.int (0 : Int32)), (.int (own_f_rm_dd (own_f_rm_ab (x3).toInt64))), (.long (own_f_rm_ab (x3).toInt64))]) (rest := []) (rm_cx l Z a0 hw u1621 (8 : Int32) ((((2 : Int32) + (1 : Int32)) + (0 : Int32)) + (own_f_rm_dd (own_f_rm_ab (x3).toInt64))) b1533 (2 : Int32) (0 : Int32) (own_f_rm_dd (own_f_rm_ab (x3).toInt64)) (own_f_rm_ab (x3).toInt64) tv1621 (own_fs f11564 2 v N sg) ((((2 : Int32) + (1 : Int32)) + (0 : Int32)) + (own_f_rm_dd (own_f_rm_ab (x3).toInt64))) t1564 2 f11564 (2 : Int32) 8 sg N v cs sf h1871 n0 X1871.sz O1872 hS hSF E1877 F1878 F1879 A1880 E1873 F1874 F1875 A1876 hcs hsf rfl (by decide) rfl (own_s6p hv c1635) (own_svs hv) hdd hN hab rfl hL hL (own_key (own_svs hv) hd.1)) (own_w hw 196 rfl) (own_w hw 197 rfl) (own_w hw 192 rfl) (own_w hw 198 rfl) (by decide) rfl rfl (lenOf own_pd36 rfl) rfl (Nat.le_of_eq rfl) (by decide) (by decide) (by decide) (by decide) at_361 rfl (fun _ _ q => by obtain ⟨_, K⟩ := q; exact K.1) (fun T1882 h1882 v1882 X1882 P1882 => ?_)
          obtain ⟨rfl, K1882⟩ := P1882
          have O1883 : Old Z n0 h1882 := O1872.keep K1882 all0
          have E1884 := E1873.keep K1882
          have F1885 := F1874.keep K1882 nin0
          have F1886 := F1875.keep K1882 nin0
          have A1887 := A1876.keep K1882 nin0
          have E1888 := E1877.keep K1882
          have F1889 := F1878.keep K1882 nin0
          have F1890 := F1879.keep K1882 nin0
          have A1891 := A1880.keep K1882 nin0
          have M1892 : h1621.size ≤ h1882.size := Nat.le_trans M1881 K1882.1
          show Go p e below _ n0 _ _ _ T1882 (mkF m 364 #[.val (.int x0), .val (.int x1), .val (.int x2), .val (.int x3), .val (.int x4), .val (.int (2 : Int32)), .val (.int (own_c8 x0)), .val (.int (own_c8 x1)), .val (.ref b1533), .val (.int x3), .val (.ref u1621), .val (.long (own_f_rm_ab (x3).toInt64)), .second, .val (.int (0 : Int32)), .val (.int (own_f_rm_dd (own_f_rm_ab (x3).toInt64))), .val (.int ((((2 : Int32) + (1 : Int32)) + (0 : Int32)) + (own_f_rm_dd (own_f_rm_ab (x3).toInt64))))] [(.int (1 : Int32))])
          refine Go.ifNo C X1882 (pc' := 367) at_364 ((if0 _ _).trans (feq (by decide)).1) rfl ?_
          refine Go.aload C X1882 (pc' := 369) at_367 rfl rfl rfl ?_
          refine Go.bipush C X1882 (pc' := 371) (v := (9 : Int32)) at_369 rfl rfl ?_
          refine Go.iload C X1882 (pc' := 373) at_371 rfl rfl ?_
          refine Go.aload C X1882 (pc' := 375) at_373 rfl rfl rfl ?_
          refine Go.iload C X1882 (pc' := 377) at_375 rfl rfl ?_
          refine Go.iload C X1882 (pc' := 379) at_377 rfl rfl ?_
          refine Go.iload C X1882 (pc' := 381) at_379 rfl rfl ?_
          refine Go.lload C X1882 (pc' := 383) at_381 rfl rfl ?_
          refine Go.callS C X1882 (pc' := 386) (W := 0) (argsL := [(.ref u1621), (.int (9 : Int32)), (.int ((((2 : Int32) + (1 : Int32)) + (0 : Int32)) + (own_f_rm_dd (own_f_rm_ab (x3).toInt64)))), (.ref b1533), (.int (2 : Int32)), (.int (0 : Int32)), (.int (own_f_rm_dd (own_f_rm_ab (x3).toInt64))), (.long (own_f_rm_ab (x3).toInt64))]) (rest := []) (rm_cx l Z a0 hw u1621 (9 : Int32) ((((2 : Int32) + (1 : Int32)) + (0 : Int32)) + (own_f_rm_dd (own_f_rm_ab (x3).toInt64))) b1533 (2 : Int32) (0 : Int32) (own_f_rm_dd (own_f_rm_ab (x3).toInt64)) (own_f_rm_ab (x3).toInt64) tv1621 (own_fs f11564 2 v N sg) ((((2 : Int32) + (1 : Int32)) + (0 : Int32)) + (own_f_rm_dd (own_f_rm_ab (x3).toInt64))) t1564 2 f11564 (2 : Int32) 9 sg N v cs sf h1882 n0 X1882.sz O1883 hS hSF E1888 F1889 F1890 A1891 E1884 F1885 F1886 A1887 hcs hsf rfl (by decide) rfl (own_s6p hv c1635) (own_svs hv) hdd hN hab rfl hL hL (own_key (own_svs hv) hd.1)) (own_w hw 196 rfl) (own_w hw 197 rfl) (own_w hw 192 rfl) (own_w hw 198 rfl) (by decide) rfl rfl (lenOf own_pd36 rfl) rfl (Nat.le_of_eq rfl) (by decide) (by decide) (by decide) (by decide) at_383 rfl (fun _ _ q => by obtain ⟨_, K⟩ := q; exact K.1) (fun T1893 h1893 v1893 X1893 P1893 => ?_)
          obtain ⟨rfl, K1893⟩ := P1893
          have O1894 : Old Z n0 h1893 := O1883.keep K1893 all0
          have E1895 := E1884.keep K1893
          have F1896 := F1885.keep K1893 nin0
          have F1897 := F1886.keep K1893 nin0
          have A1898 := A1887.keep K1893 nin0
          have E1899 := E1888.keep K1893
          have F1900 := F1889.keep K1893 nin0
          have F1901 := F1890.keep K1893 nin0
          have A1902 := A1891.keep K1893 nin0
          have M1903 : h1621.size ≤ h1893.size := Nat.le_trans M1892 K1893.1
          show Go p e below _ n0 _ _ _ T1893 (mkF m 386 #[.val (.int x0), .val (.int x1), .val (.int x2), .val (.int x3), .val (.int x4), .val (.int (2 : Int32)), .val (.int (own_c8 x0)), .val (.int (own_c8 x1)), .val (.ref b1533), .val (.int x3), .val (.ref u1621), .val (.long (own_f_rm_ab (x3).toInt64)), .second, .val (.int (0 : Int32)), .val (.int (own_f_rm_dd (own_f_rm_ab (x3).toInt64))), .val (.int ((((2 : Int32) + (1 : Int32)) + (0 : Int32)) + (own_f_rm_dd (own_f_rm_ab (x3).toInt64))))] [(.int (1 : Int32))])
          refine Go.ifNo C X1893 (pc' := 389) at_386 ((if0 _ _).trans (feq (by decide)).1) rfl ?_
          refine Go.aload C X1893 (pc' := 391) at_389 rfl rfl rfl ?_
          refine Go.bipush C X1893 (pc' := 393) (v := (10 : Int32)) at_391 rfl rfl ?_
          refine Go.iload C X1893 (pc' := 395) at_393 rfl rfl ?_
          refine Go.aload C X1893 (pc' := 397) at_395 rfl rfl rfl ?_
          refine Go.iload C X1893 (pc' := 399) at_397 rfl rfl ?_
          refine Go.iload C X1893 (pc' := 401) at_399 rfl rfl ?_
          refine Go.iload C X1893 (pc' := 403) at_401 rfl rfl ?_
          refine Go.lload C X1893 (pc' := 405) at_403 rfl rfl ?_
          refine Go.callS C X1893 (pc' := 408) (W := 0) (argsL := [(.ref u1621), (.int (10 : Int32)), (.int ((((2 : Int32) + (1 : Int32)) + (0 : Int32)) + (own_f_rm_dd (own_f_rm_ab (x3).toInt64)))), (.ref b1533), (.int (2 : Int32)), (.int (0 : Int32)), (.int (own_f_rm_dd (own_f_rm_ab (x3).toInt64))), (.long (own_f_rm_ab (x3).toInt64))]) (rest := []) (rm_cx l Z a0 hw u1621 (10 : Int32) ((((2 : Int32) + (1 : Int32)) + (0 : Int32)) + (own_f_rm_dd (own_f_rm_ab (x3).toInt64))) b1533 (2 : Int32) (0 : Int32) (own_f_rm_dd (own_f_rm_ab (x3).toInt64)) (own_f_rm_ab (x3).toInt64) tv1621 (own_fs f11564 2 v N sg) ((((2 : Int32) + (1 : Int32)) + (0 : Int32)) + (own_f_rm_dd (own_f_rm_ab (x3).toInt64))) t1564 2 f11564 (2 : Int32) 10 sg N v cs sf h1893 n0 X1893.sz O1894 hS hSF E1899 F1900 F1901 A1902 E1895 F1896 F1897 A1898 hcs hsf rfl (by decide) rfl (own_s6p hv c1635) (own_svs hv) hdd hN hab rfl hL hL (own_key (own_svs hv) hd.1)) (own_w hw 196 rfl) (own_w hw 197 rfl) (own_w hw 192 rfl) (own_w hw 198 rfl) (by decide) rfl rfl (lenOf own_pd36 rfl) rfl (Nat.le_of_eq rfl) (by decide) (by decide) (by decide) (by decide) at_405 rfl (fun _ _ q => by obtain ⟨_, K⟩ := q; exact K.1) (fun T1904 h1904 v1904 X1904 P1904 => ?_)
          obtain ⟨rfl, K1904⟩ := P1904
          have O1905 : Old Z n0 h1904 := O1894.keep K1904 all0
          have E1906 := E1895.keep K1904
          have F1907 := F1896.keep K1904 nin0
          have F1908 := F1897.keep K1904 nin0
          have A1909 := A1898.keep K1904 nin0
          have E1910 := E1899.keep K1904
          have F1911 := F1900.keep K1904 nin0
          have F1912 := F1901.keep K1904 nin0
          have A1913 := A1902.keep K1904 nin0
          have M1914 : h1621.size ≤ h1904.size := Nat.le_trans M1903 K1904.1
          show Go p e below _ n0 _ _ _ T1904 (mkF m 408 #[.val (.int x0), .val (.int x1), .val (.int x2), .val (.int x3), .val (.int x4), .val (.int (2 : Int32)), .val (.int (own_c8 x0)), .val (.int (own_c8 x1)), .val (.ref b1533), .val (.int x3), .val (.ref u1621), .val (.long (own_f_rm_ab (x3).toInt64)), .second, .val (.int (0 : Int32)), .val (.int (own_f_rm_dd (own_f_rm_ab (x3).toInt64))), .val (.int ((((2 : Int32) + (1 : Int32)) + (0 : Int32)) + (own_f_rm_dd (own_f_rm_ab (x3).toInt64))))] [(.int (1 : Int32))])
          refine Go.ifNo C X1904 (pc' := 411) at_408 ((if0 _ _).trans (feq (by decide)).1) rfl ?_
          refine Go.aload C X1904 (pc' := 413) at_411 rfl rfl rfl ?_
          refine Go.bipush C X1904 (pc' := 415) (v := (11 : Int32)) at_413 rfl rfl ?_
          refine Go.iload C X1904 (pc' := 417) at_415 rfl rfl ?_
          refine Go.aload C X1904 (pc' := 419) at_417 rfl rfl rfl ?_
          refine Go.iload C X1904 (pc' := 421) at_419 rfl rfl ?_
          refine Go.iload C X1904 (pc' := 423) at_421 rfl rfl ?_
          refine Go.iload C X1904 (pc' := 425) at_423 rfl rfl ?_
          refine Go.lload C X1904 (pc' := 427) at_425 rfl rfl ?_
          refine Go.callS C X1904 (pc' := 430) (W := 0) (argsL := [(.ref u1621), (.int (11 : Int32)), (.int ((((2 : Int32) + (1 : Int32)) + (0 : Int32)) + (own_f_rm_dd (own_f_rm_ab (x3).toInt64)))), (.ref b1533), (.int (2 : Int32)), (.int (0 : Int32)), (.int (own_f_rm_dd (own_f_rm_ab (x3).toInt64))), (.long (own_f_rm_ab (x3).toInt64))]) (rest := []) (rm_cx l Z a0 hw u1621 (11 : Int32) ((((2 : Int32) + (1 : Int32)) + (0 : Int32)) + (own_f_rm_dd (own_f_rm_ab (x3).toInt64))) b1533 (2 : Int32) (0 : Int32) (own_f_rm_dd (own_f_rm_ab (x3).toInt64)) (own_f_rm_ab (x3).toInt64) tv1621 (own_fs f11564 2 v N sg) ((((2 : Int32) + (1 : Int32)) + (0 : Int32)) + (own_f_rm_dd (own_f_rm_ab (x3).toInt64))) t1564 2 f11564 (2 : Int32) 11 sg N v cs sf h1904 n0 X1904.sz O1905 hS hSF E1910 F1911 F1912 A1913 E1906 F1907 F1908 A1909 hcs hsf rfl (by decide) rfl (own_s6p hv c1635) (own_svs hv) hdd hN hab rfl hL hL (own_key (own_svs hv) hd.1)) (own_w hw 196 rfl) (own_w hw 197 rfl) (own_w hw 192 rfl) (own_w hw 198 rfl) (by decide) rfl rfl (lenOf own_pd36 rfl) rfl (Nat.le_of_eq rfl) (by decide) (by decide) (by decide) (by decide) at_427 rfl (fun _ _ q => by obtain ⟨_, K⟩ := q; exact K.1) (fun T1915 h1915 v1915 X1915 P1915 => ?_)
          obtain ⟨rfl, K1915⟩ := P1915
          have O1916 : Old Z n0 h1915 := O1905.keep K1915 all0
          have E1917 := E1906.keep K1915
          have F1918 := F1907.keep K1915 nin0
          have F1919 := F1908.keep K1915 nin0
          have A1920 := A1909.keep K1915 nin0
          have E1921 := E1910.keep K1915
          have F1922 := F1911.keep K1915 nin0
          have F1923 := F1912.keep K1915 nin0
          have A1924 := A1913.keep K1915 nin0
          have M1925 : h1621.size ≤ h1915.size := Nat.le_trans M1914 K1915.1
          show Go p e below _ n0 _ _ _ T1915 (mkF m 430 #[.val (.int x0), .val (.int x1), .val (.int x2), .val (.int x3), .val (.int x4), .val (.int (2 : Int32)), .val (.int (own_c8 x0)), .val (.int (own_c8 x1)), .val (.ref b1533), .val (.int x3), .val (.ref u1621), .val (.long (own_f_rm_ab (x3).toInt64)), .second, .val (.int (0 : Int32)), .val (.int (own_f_rm_dd (own_f_rm_ab (x3).toInt64))), .val (.int ((((2 : Int32) + (1 : Int32)) + (0 : Int32)) + (own_f_rm_dd (own_f_rm_ab (x3).toInt64))))] [(.int (1 : Int32))])
          refine Go.ifNo C X1915 (pc' := 433) at_430 ((if0 _ _).trans (feq (by decide)).1) rfl ?_
          refine Go.aload C X1915 (pc' := 435) at_433 rfl rfl rfl ?_
          refine Go.bipush C X1915 (pc' := 437) (v := (12 : Int32)) at_435 rfl rfl ?_
          refine Go.iload C X1915 (pc' := 439) at_437 rfl rfl ?_
          refine Go.aload C X1915 (pc' := 441) at_439 rfl rfl rfl ?_
          refine Go.iload C X1915 (pc' := 443) at_441 rfl rfl ?_
          refine Go.iload C X1915 (pc' := 445) at_443 rfl rfl ?_
          refine Go.iload C X1915 (pc' := 447) at_445 rfl rfl ?_
          refine Go.lload C X1915 (pc' := 449) at_447 rfl rfl ?_
          refine Go.callS C X1915 (pc' := 452) (W := 0) (argsL := [(.ref u1621), (.int (12 : Int32)), (.int ((((2 : Int32) + (1 : Int32)) + (0 : Int32)) + (own_f_rm_dd (own_f_rm_ab (x3).toInt64)))), (.ref b1533), (.int (2 : Int32)), (.int (0 : Int32)), (.int (own_f_rm_dd (own_f_rm_ab (x3).toInt64))), (.long (own_f_rm_ab (x3).toInt64))]) (rest := []) (rm_cx l Z a0 hw u1621 (12 : Int32) ((((2 : Int32) + (1 : Int32)) + (0 : Int32)) + (own_f_rm_dd (own_f_rm_ab (x3).toInt64))) b1533 (2 : Int32) (0 : Int32) (own_f_rm_dd (own_f_rm_ab (x3).toInt64)) (own_f_rm_ab (x3).toInt64) tv1621 (own_fs f11564 2 v N sg) ((((2 : Int32) + (1 : Int32)) + (0 : Int32)) + (own_f_rm_dd (own_f_rm_ab (x3).toInt64))) t1564 2 f11564 (2 : Int32) 12 sg N v cs sf h1915 n0 X1915.sz O1916 hS hSF E1921 F1922 F1923 A1924 E1917 F1918 F1919 A1920 hcs hsf rfl (by decide) rfl (own_s6p hv c1635) (own_svs hv) hdd hN hab rfl hL hL (own_key (own_svs hv) hd.1)) (own_w hw 196 rfl) (own_w hw 197 rfl) (own_w hw 192 rfl) (own_w hw 198 rfl) (by decide) rfl rfl (lenOf own_pd36 rfl) rfl (Nat.le_of_eq rfl) (by decide) (by decide) (by decide) (by decide) at_449 rfl (fun _ _ q => by obtain ⟨_, K⟩ := q; exact K.1) (fun T1926 h1926 v1926 X1926 P1926 => ?_)
          obtain ⟨rfl, K1926⟩ := P1926
          have O1927 : Old Z n0 h1926 := O1916.keep K1926 all0
          have E1928 := E1917.keep K1926
          have F1929 := F1918.keep K1926 nin0
          have F1930 := F1919.keep K1926 nin0
          have A1931 := A1920.keep K1926 nin0
          have E1932 := E1921.keep K1926
          have F1933 := F1922.keep K1926 nin0
          have F1934 := F1923.keep K1926 nin0
          have A1935 := A1924.keep K1926 nin0
          have M1936 : h1621.size ≤ h1926.size := Nat.le_trans M1925 K1926.1
          show Go p e below _ n0 _ _ _ T1926 (mkF m 452 #[.val (.int x0), .val (.int x1), .val (.int x2), .val (.int x3), .val (.int x4), .val (.int (2 : Int32)), .val (.int (own_c8 x0)), .val (.int (own_c8 x1)), .val (.ref b1533), .val (.int x3), .val (.ref u1621), .val (.long (own_f_rm_ab (x3).toInt64)), .second, .val (.int (0 : Int32)), .val (.int (own_f_rm_dd (own_f_rm_ab (x3).toInt64))), .val (.int ((((2 : Int32) + (1 : Int32)) + (0 : Int32)) + (own_f_rm_dd (own_f_rm_ab (x3).toInt64))))] [(.int (1 : Int32))])
          refine Go.ifNo C X1926 (pc' := 455) at_452 ((if0 _ _).trans (feq (by decide)).1) rfl ?_
          refine Go.aload C X1926 (pc' := 457) at_455 rfl rfl rfl ?_
          refine Go.bipush C X1926 (pc' := 459) (v := (13 : Int32)) at_457 rfl rfl ?_
          refine Go.iload C X1926 (pc' := 461) at_459 rfl rfl ?_
          refine Go.aload C X1926 (pc' := 463) at_461 rfl rfl rfl ?_
          refine Go.iload C X1926 (pc' := 465) at_463 rfl rfl ?_
          refine Go.iload C X1926 (pc' := 467) at_465 rfl rfl ?_
          refine Go.iload C X1926 (pc' := 469) at_467 rfl rfl ?_
          refine Go.lload C X1926 (pc' := 471) at_469 rfl rfl ?_
          refine Go.callS C X1926 (pc' := 474) (W := 0) (argsL := [(.ref u1621), (.int (13 : Int32)), (.int ((((2 : Int32) + (1 : Int32)) + (0 : Int32)) + (own_f_rm_dd (own_f_rm_ab (x3).toInt64)))), (.ref b1533), (.int (2 : Int32)), (.int (0 : Int32)), (.int (own_f_rm_dd (own_f_rm_ab (x3).toInt64))), (.long (own_f_rm_ab (x3).toInt64))]) (rest := []) (rm_cx l Z a0 hw u1621 (13 : Int32) ((((2 : Int32) + (1 : Int32)) + (0 : Int32)) + (own_f_rm_dd (own_f_rm_ab (x3).toInt64))) b1533 (2 : Int32) (0 : Int32) (own_f_rm_dd (own_f_rm_ab (x3).toInt64)) (own_f_rm_ab (x3).toInt64) tv1621 (own_fs f11564 2 v N sg) ((((2 : Int32) + (1 : Int32)) + (0 : Int32)) + (own_f_rm_dd (own_f_rm_ab (x3).toInt64))) t1564 2 f11564 (2 : Int32) 13 sg N v cs sf h1926 n0 X1926.sz O1927 hS hSF E1932 F1933 F1934 A1935 E1928 F1929 F1930 A1931 hcs hsf rfl (by decide) rfl (own_s6p hv c1635) (own_svs hv) hdd hN hab rfl hL hL (own_key (own_svs hv) hd.1)) (own_w hw 196 rfl) (own_w hw 197 rfl) (own_w hw 192 rfl) (own_w hw 198 rfl) (by decide) rfl rfl (lenOf own_pd36 rfl) rfl (Nat.le_of_eq rfl) (by decide) (by decide) (by decide) (by decide) at_471 rfl (fun _ _ q => by obtain ⟨_, K⟩ := q; exact K.1) (fun T1937 h1937 v1937 X1937 P1937 => ?_)
          obtain ⟨rfl, K1937⟩ := P1937
          have O1938 : Old Z n0 h1937 := O1927.keep K1937 all0
          have E1939 := E1928.keep K1937
          have F1940 := F1929.keep K1937 nin0
          have F1941 := F1930.keep K1937 nin0
          have A1942 := A1931.keep K1937 nin0
          have E1943 := E1932.keep K1937
          have F1944 := F1933.keep K1937 nin0
          have F1945 := F1934.keep K1937 nin0
          have A1946 := A1935.keep K1937 nin0
          have M1947 : h1621.size ≤ h1937.size := Nat.le_trans M1936 K1937.1
          show Go p e below _ n0 _ _ _ T1937 (mkF m 474 #[.val (.int x0), .val (.int x1), .val (.int x2), .val (.int x3), .val (.int x4), .val (.int (2 : Int32)), .val (.int (own_c8 x0)), .val (.int (own_c8 x1)), .val (.ref b1533), .val (.int x3), .val (.ref u1621), .val (.long (own_f_rm_ab (x3).toInt64)), .second, .val (.int (0 : Int32)), .val (.int (own_f_rm_dd (own_f_rm_ab (x3).toInt64))), .val (.int ((((2 : Int32) + (1 : Int32)) + (0 : Int32)) + (own_f_rm_dd (own_f_rm_ab (x3).toInt64))))] [(.int (1 : Int32))])
          refine Go.ifNo C X1937 (pc' := 477) at_474 ((if0 _ _).trans (feq (by decide)).1) rfl ?_
          refine Go.iconst C X1937 (pc' := 478) (v := (1 : Int32)) at_477 rfl rfl ?_
          refine Go.goto C X1937 (pc' := 482) at_478 (by decide) (by decide) ?_
          refine Go.wide ?_
          exact Go.retZ (t := .boolean) C X1937 (z' := (1 : Int32)) (by decide) at_482 ⟨rfl, M1947⟩ (by decide) (by decide)
    · refine Go.ifNo C X1564 (pc' := 80) at_77 ((if0 _ _).trans (feq c1571).1) rfl ?_
      refine Go.iconst C X1564 (pc' := 81) (v := (-1 : Int32)) at_80 rfl rfl ?_
      refine Go.goto C X1564 (pc' := 85) at_81 (by decide) (by decide) ?_
      refine Go.istore C X1564 (pc' := 87) (Ls' := #[.val (.int x0), .val (.int x1), .val (.int x2), .val (.int x3), .val (.int x4), .val (.int (2 : Int32)), .val (.int (own_c8 x0)), .val (.int (own_c8 x1)), .val (.ref b1533), .val (.int (-1 : Int32)), .unset, .unset, .unset, .unset, .unset, .unset]) at_85 rfl rfl ?_
      refine Go.newO C X1564 (pc' := 90) (own_w hw 30 rfl) (own_w hw 31 rfl) (own_w hw 32 rfl) at_87 (by decide) (by decide) rfl (fun T1948 h1948 b1948 X1948 g1948 E1948 Ex1948 D1948 N1948 => ?_)
      have ne_d1_b1948 : d1 ≠ b1948 := Nat.ne_of_lt (Nat.lt_of_lt_of_eq A1567.lt g1948.symm)
      have ne_d2_b1948 : d2 ≠ b1948 := Nat.ne_of_lt (Nat.lt_of_lt_of_eq A1568.lt g1948.symm)
      have ne_b1533_b1948 : b1533 ≠ b1948 := Nat.ne_of_lt (Nat.lt_of_lt_of_eq O1564_0.lt g1948.symm)
      have ne_b1540_b1948 : b1540 ≠ b1948 := Nat.ne_of_lt (Nat.lt_of_lt_of_eq A1570.lt g1948.symm)
      have ne_t1564_b1948 : t1564 ≠ b1948 := Nat.ne_of_lt (Nat.lt_of_lt_of_eq O1564_3.lt g1948.symm)
      have Q1948 : h0.size ≤ b1948 := Nat.le_trans K1566.1 (Nat.le_of_eq g1948.symm)
      have O1949 : Old Z n0 h1948 := O1565.ext E1948
      have K1950 : Keep h0 h1948 [] := K1566.ext E1948
      have A1951 := A1567.ext E1948
      have A1952 := A1568.ext E1948
      have E1953 := O1564_0.ext E1948
      have A1954 := A1570.ext E1948
      have F1955 := O1564_1.ext E1948
      have F1956 := O1564_2.ext E1948
      have A1957 := O1564_3.ext E1948
      have F1958 : Fld Z h1948 b1948 "com/example/wharfline/wharfline/runtime/Work" "connector" "Ljava/lang/String;" .null := D1948 (Or.inr (own_w hw 43 rfl)) (ty := (.object "java/lang/String")) (by decide)
      have F1959 : Fld Z h1948 b1948 "com/example/wharfline/wharfline/runtime/Work" "task" "I" (.int (0 : Int32)) := D1948 (Or.inr (own_w hw 45 rfl)) (ty := .int) (by decide)
      refine Go.dup C X1948 (pc' := 91) at_90 rfl rfl ?_
      refine Go.aload C X1948 (pc' := 93) at_91 rfl rfl rfl ?_
      refine Go.iload C X1948 (pc' := 95) at_93 rfl rfl ?_
      refine Go.callI C X1948 (pc' := 98) (W := 1) (argsL := [(.ref b1533), (.int (-1 : Int32))]) (rest := [(.ref b1948)]) (a := b1948) (rm_wi l Z a0 hw b1948 b1533 (-1 : Int32)  h1948 n0 X1948.sz Ex1948 F1958 F1959 N1948) rfl rfl (own_w hw 33 rfl) (own_w hw 34 rfl) (own_w hw 32 rfl) (own_w hw 35 rfl) (by decide) rfl rfl (lenOf own_pd32 rfl) rfl (Nat.le_of_eq rfl) (by decide) (by decide) (by decide) (by decide) at_95 rfl (fun _ _ q => by obtain ⟨_, K, _⟩ := q; exact K.1) (fun T1960 h1960 v1960 X1960 P1960 => ?_)
      obtain ⟨rfl, K1960, O1960_0, O1960_1, O1960_2⟩ := P1960
      have O1961 : Old Z n0 h1960 := O1949.keep K1960 (allS N1948 all0)
      have K1962 : Keep h0 h1960 [] := K1950.trans K1960 (allS (Or.inr Q1948) all0)
      have A1963 := A1951.keep K1960 (ninS ne_d1_b1948 nin0)
      have A1964 := A1952.keep K1960 (ninS ne_d2_b1948 nin0)
      have E1965 := E1953.keep K1960
      have A1966 := A1954.keep K1960 (ninS ne_b1540_b1948 nin0)
      have F1967 := F1955.keep K1960 (ninS ne_b1533_b1948 nin0)
      have F1968 := F1956.keep K1960 (ninS ne_b1533_b1948 nin0)
      have A1969 := A1957.keep K1960 (ninS ne_t1564_b1948 nin0)
      have E1970 := Ex1948.keep K1960
      show Go p e below _ n0 _ _ _ T1960 (mkF m 98 #[.val (.int x0), .val (.int x1), .val (.int x2), .val (.int x3), .val (.int x4), .val (.int (2 : Int32)), .val (.int (own_c8 x0)), .val (.int (own_c8 x1)), .val (.ref b1533), .val (.int (-1 : Int32)), .unset, .unset, .unset, .unset, .unset, .unset] [(.ref b1948)])
      refine Go.callV C X1960 (pc' := 101) (W := 0) (argsL := []) (rest := []) (a := b1948) (rm_t1 l Z a0 hw b1948 b1533 h1960 n0 X1960.sz O1960_0 O1960_1 O1960_2) O1960_0 (notFace_of_selects (args := #[]) (mvT C.2.1 (own_w hw 49 rfl))) (own_w hw 46 rfl) (own_w hw 47 rfl) (own_w hw 49 rfl) (own_w hw 48 rfl) (own_w hw 32 rfl) (own_w hw 50 rfl) (by decide) rfl rfl (lenOf own_pd29 rfl) rfl (Nat.le_of_eq rfl) (by decide) (by decide) (by decide) (by decide) at_98 rfl (fun _ _ q => Nat.le_of_eq (congrArg Array.size q.2)) (fun T1971 h1971 v1971 X1971 P1971 => ?_)
      obtain ⟨rfl, rfl⟩ := P1971
      show Go p e below _ n0 _ _ _ T1971 (mkF m 101 #[.val (.int x0), .val (.int x1), .val (.int x2), .val (.int x3), .val (.int x4), .val (.int (2 : Int32)), .val (.int (own_c8 x0)), .val (.int (own_c8 x1)), .val (.ref b1533), .val (.int (-1 : Int32)), .unset, .unset, .unset, .unset, .unset, .unset] [(.ref b1533)])
      refine Go.astore C X1971 (pc' := 103) (Ls' := #[.val (.int x0), .val (.int x1), .val (.int x2), .val (.int x3), .val (.int x4), .val (.int (2 : Int32)), .val (.int (own_c8 x0)), .val (.int (own_c8 x1)), .val (.ref b1533), .val (.int (-1 : Int32)), .val (.ref b1533), .unset, .unset, .unset, .unset, .unset]) at_101 rfl rfl rfl ?_
      refine Go.aload C X1971 (pc' := 105) at_103 rfl rfl rfl ?_
      refine Go.ifnonnullYes C X1971 (pc' := 110) at_105 (by decide) (by decide) ?_
      refine Go.iload C X1971 (pc' := 112) at_110 rfl rfl ?_
      refine Go.iconst C X1971 (pc' := 113) (v := (-1 : Int32)) at_112 rfl rfl ?_
      refine Go.icmpNo C X1971 (pc' := 116) at_113 (teq (by decide)).2 rfl ?_
      refine Go.aload C X1971 (pc' := 118) at_116 rfl rfl rfl ?_
      refine Go.aload C X1971 (pc' := 120) at_118 rfl rfl rfl ?_
      refine Go.callV C X1971 (pc' := 123) (W := 0) (argsL := [(.ref b1533)]) (rest := []) (a := b1533) (rm_eq l Z a0 hw b1533 b1533  h1960 n0 X1971.sz rfl) E1965 (notFace_of_selects (args := #[]) (mvT C.2.1 (own_w hw 236 rfl))) (own_w hw 233 rfl) (own_w hw 234 rfl) (own_w hw 236 rfl) (own_w hw 235 rfl) (own_w hw 2 rfl) (own_w hw 237 rfl) (by decide) rfl rfl (lenOf own_pd33 rfl) rfl (Nat.le_of_eq rfl) (by decide) (by decide) (by decide) (by decide) at_120 rfl (fun _ _ q => Nat.le_of_eq (congrArg Array.size q.2)) (fun T1972 h1972 v1972 X1972 P1972 => ?_)
      obtain ⟨rfl, rfl⟩ := P1972
      show Go p e below _ n0 _ _ _ T1972 (mkF m 123 #[.val (.int x0), .val (.int x1), .val (.int x2), .val (.int x3), .val (.int x4), .val (.int (2 : Int32)), .val (.int (own_c8 x0)), .val (.int (own_c8 x1)), .val (.ref b1533), .val (.int (-1 : Int32)), .val (.ref b1533), .unset, .unset, .unset, .unset, .unset] [(.int (1 : Int32))])
      refine Go.wide ?_
      exact Go.retZ (t := .boolean) C X1972 (z' := (1 : Int32)) (by decide) at_123 rfl (by decide) (by decide)
theorem own_eqi {args : Array Value} {s : State} {idx : List Nat} {a b : Term} (h : (Jvm.Cond.eq a b).value args s none s idx = some true) : ∃ v, a.eval args s none idx s = some v ∧ b.eval args s none idx s = some v := by
  obtain ⟨x, y, ha, hb, -, -⟩ := cmp_v (Or.inl h)
  have e : x = y := by cases x <;> cases y <;> simp [Jvm.Cond.value, ha, hb] at h ⊢ <;> exact h
  exact ⟨x, ha, e ▸ hb⟩
theorem own_lenE {args : Array Value} {s : State} {t : Term} {x : Addr} (ht : t.eval args s none [] s = some (.ref x)) : (Term.length t).eval args s none [] s = (s.arrayAt? x).bind fun cl => if cl.slots.size < 2 ^ 31 then some (Value.int cl.slots.size.toInt32) else none := by
  simp only [Term.eval, ht, Option.bind_eq_bind, Option.bind_some]; rfl
theorem own_tab {args : Array Value} {s : State} {nm : String} {rhs : Term} {F : Nat → Int32} (wi : (Jvm.Cond.initializedFor "java/lang/Integer" nm "[B").before args s = true) (w1 : (Jvm.Cond.exactly (Jvm.Term.static "java/lang/Integer" nm "[B") "[B").before args s = true) (w2 : (Jvm.Cond.eq (Jvm.Term.length (Jvm.Term.static "java/lang/Integer" nm "[B")) (Jvm.Term.int (100 : Int32))).before args s = true)
    (w3 : (Jvm.Cond.all (Jvm.Term.static "java/lang/Integer" nm "[B") (Jvm.Cond.eq (Jvm.Term.elem (Jvm.Term.static "java/lang/Integer" nm "[B") (Jvm.Term.index 0)) rhs)).before args s = true) (wa : (Jvm.Cond.arrayClass .byte).before args s = true) (hr : ∀ r, r < 100 → rhs.eval args s none [r] s = some (.int (F r))) :
    ∃ d, Sta s s.heap "java/lang/Integer" nm "[B" (.ref d) ∧ AI s s.heap d .byte 100 F := by
  obtain ⟨d, cB, D, kB, hev, hfcB, hcellD, hkB, hstatD, hclsD, -⟩ := Cond.exactly_spec w1
  have hevA : ∀ idx, (Jvm.Term.static "java/lang/Integer" nm "[B").eval args s none idx s = some (.ref d) := fun idx => by
    have : (Jvm.Term.static "java/lang/Integer" nm "[B").eval args s none idx s = (Jvm.Term.static "java/lang/Integer" nm "[B").eval args s none [] s := by simp only [Term.eval]
    rw [this]; exact hev
  have hl := Cond.eq_int w2 rfl
  obtain ⟨d', D', hev', harrAt, -⟩ := Term.length_spec hl
  cases hev.symm.trans hev'
  obtain ⟨hcellD', hknD, -, -⟩ := State.arrayAt?_spec harrAt
  cases hcellD.symm.trans hcellD'
  have h31 := SBG.length_lt hev harrAt hl
  have hsz : D.slots.size = 100 := by
    have e : (Term.length (Jvm.Term.static "java/lang/Integer" nm "[B")).eval args s none [] s = some (.int (Int32.ofNat D.slots.size)) := by
      rw [own_lenE hev, harrAt]; simp only [Option.bind_some]; rw [if_pos h31]
    have h2 : Int32.ofNat D.slots.size = Int32.ofNat 100 := by simpa using Option.some.inj (e.symm.trans hl)
    have := congrArg Int32.toInt h2
    rw [Int32.toInt_ofNat_of_lt (by omega), Int32.toInt_ofNat_of_lt (by omega)] at this; omega
  obtain ⟨cB', kB', comp, hnameB, hkB', hkindB⟩ := Cond.arrayClass_spec wa
  have eBA : ("[" ++ FieldType.toString .byte) = "[B" := by decide
  rw [eBA] at hnameB
  cases hfcB.symm.trans hnameB
  cases hkB.symm.trans hkB'
  refine ⟨d, Sta.start hev (Or.inl wi), D, ⟨hcellD, ⟨(fun q h => by rw [h] at hstatD; cases hstatD), kB, (by rw [hclsD]; exact hkB), comp, hkindB⟩, hknD⟩, hsz, by decide, fun r hr2 => ?_⟩
  have h := Cond.all_elim (hevA []) harrAt (Cond.before_iff.mp w3) r (by omega)
  obtain ⟨v, g1, g2⟩ := own_eqi h
  rw [hr r hr2] at g2
  cases Option.some.inj g2
  rw [← g1]
  exact (SBG.elem_at (ix := .index 0) (hevA [r]) harrAt (by omega) h31 rfl).symm
set_option maxRecDepth 65536 in
set_option maxHeartbeats 40000000 in
theorem comes_1 {Post : Tables → Env → Array Value → State → Outcome → State → Prop} (hpost : ∀ tb e args s v u, (limb_1_1.after args s (.returned v) u = true ∧ limb_1_2.after args s (.returned v) u = true ∧ True) → ReturnedEndW s (.returned v) u (Jvm.fieldLocs frame_1_writes args s ++ Jvm.arrayLocs frame_1_arrays args s ++ Jvm.staticLocs frame_1_statics s) 48 2432 → Post tb e args s (.returned v) u) :
    ArmFor flags0 classFile x code maxLocals ret World_1 tables_1 room_1 Calls_1 rest_1 Pre_1 Post := by
  intro l hfl _ _ p e ha hc hk s m args below hf hA hF happ hP
  obtain ⟨hcalls, hrest, hpre⟩ := hP
  obtain ⟨-, -, -, hnamed, -, -, -, hat⟩ := (Spec.applies_iff hf).mp happ
  obtain ⟨hg, hn⟩ := and_e (Cond.before_iff.mp (show (Jvm.Cond.and given_1 narrow_1).before args s = true from hpre))
  obtain ⟨hcount, hg0⟩ := and_e hg
  obtain ⟨w0, w1, w2, w3, w4, rfl⟩ : ∃ w0 w1 w2 w3 w4 : Value, args = #[w0, w1, w2, w3, w4] := by
    have hs : args.size = 5 := by simpa [Cond.value, given_1] using hcount
    obtain ⟨L⟩ := args
    match L, hs with
    | [w0, w1, w2, w3, w4], _ => exact ⟨w0, w1, w2, w3, w4, rfl⟩
  have hw := fun d (hd : d ∈ tables_1) => atoms_spec (ws := Jvm.Cond.code x code maxLocals ret :: tables_1) hat d (List.mem_cons_of_mem _ hd)
  have hfit : Fit s := fun {y c} hc i hi => by
    obtain ⟨ha, rfl⟩ := Array.getElem?_eq_some_iff.mp hc
    have q := List.all_eq_true.mp ((Array.all_eq_true_iff_forall_mem.mp hF) _ (Array.getElem_mem ha)) i (List.mem_range.mpr hi)
    simpa [Array.getElem?_eq_getElem hi] using q
  obtain ⟨ha0, hg1⟩ := and_e hg0
  obtain ⟨i0, e0⟩ := is_v ha0
  obtain rfl : w0 = (.int i0) := Option.some.inj e0
  obtain ⟨ha1, hg2⟩ := and_e hg1
  obtain ⟨i1, e1⟩ := is_v ha1
  obtain rfl : w1 = (.int i1) := Option.some.inj e1
  obtain ⟨ha2, hg3⟩ := and_e hg2
  obtain ⟨i2, e2⟩ := is_v ha2
  obtain rfl : w2 = (.int i2) := Option.some.inj e2
  obtain ⟨ha3, hg4⟩ := and_e hg3
  obtain ⟨i3, e3⟩ := is_v ha3
  obtain rfl : w3 = (.int i3) := Option.some.inj e3
  obtain ⟨i4, e4⟩ := is_v hg4
  obtain rfl : w4 = (.int i4) := Option.some.inj e4
  obtain ⟨hsets, hown0⟩ := atoms_of _ (rest_1_c_eq ▸ (show rest_1_c.before _ s = true from hrest))
  have ncs := not_v (Cond.before_iff.mp (hsets _ (List.mem_of_getElem? (i := 2) rfl)))
  obtain ⟨cs, ecs⟩ := is_v (Cond.before_iff.mp (hsets _ (List.mem_of_getElem? (i := 1) rfl)))
  have hS : Sta s s.heap "java/lang/String" "COMPACT_STRINGS" "Z" (.int cs) := Sta.start ecs (Or.inl (hsets _ (List.mem_of_getElem? (i := 0) rfl)))
  have hcs : ¬ (cs = (0 : Int32)) := gotF (Cond.eq_ints ecs (Term.int_eval (0))) ncs
  obtain ⟨sf, esf, hsf⟩ := isR_v (Cond.before_iff.mp (hsets _ (List.mem_of_getElem? (i := 8) rfl)))
  have hSF : Sta s s.heap "jdk/internal/util/Preconditions" "SIOOBE_FORMATTER" "Ljava/util/function/BiFunction;" sf := Sta.start esf (Or.inl (hsets _ (List.mem_of_getElem? (i := 7) rfl)))
  obtain ⟨d1, h_d1, a_d1⟩ := own_tab (F := own_do) (hsets _ (List.mem_of_getElem? (i := 11) rfl)) (hsets _ (List.mem_of_getElem? (i := 12) rfl)) (hsets _ (List.mem_of_getElem? (i := 13) rfl)) (hsets _ (List.mem_of_getElem? (i := 14) rfl)) (own_w hw 19 rfl) (fun r hr => rfl)
  obtain ⟨d2, h_d2, a_d2⟩ := own_tab (F := own_dt) (hsets _ (List.mem_of_getElem? (i := 16) rfl)) (hsets _ (List.mem_of_getElem? (i := 17) rfl)) (hsets _ (List.mem_of_getElem? (i := 18) rfl)) (hsets _ (List.mem_of_getElem? (i := 19) rfl)) (own_w hw 19 rfl) (fun r hr => rfl)
  obtain ⟨n, o, h1, h2, h3, _, L, rfl, ⟨rfl, N⟩, hq⟩ := rm0 l s _ hw i0 i1 i2 i3 i4 cs sf d1 d2 s.heap s.heap.size (Nat.le_refl _) (Old.start s) hS hcs hSF hsf h_d1 a_d1 h_d2 a_d2 tables_1 p e ha hc hk s m _ below hf ((Spec.applies_iff_loose hf).mp happ).1 ⟨rfl, State.Warmed39.refl s, rfl, CHv.start (own_ew hw) hcalls.1 (hsets _ (List.mem_of_getElem? (i := 2) rfl)) (own_sA hw _ (by simp [Bundle.stringAtoms])) (own_sA hw _ (by simp [Bundle.stringAtoms, Bundle.sN]))⟩ trivial
  refine ⟨n, _, h1, h2, h3, hpost _ _ _ _ _ _ ⟨Cond.after_iff.mpr rfl, Cond.after_iff.mpr (eq_i res_at (Term.int_eval (1)) rfl), trivial⟩ ⟨hq.1, hq.2.1, hq.2.2.1, (hq.2.2.2.sift fun y hy => Or.inr (N y hy)).mono (by decide) (by decide)⟩⟩
theorem main_1_1 : Claimed_1_1 := comes_1 fun _ _ _ _ _ _ h hF => ⟨h.1, hF⟩
theorem main_1_2 : Claimed_1_2 := comes_1 fun _ _ _ _ _ _ h hF => ⟨h.2.1, hF⟩
end Jvm.Pilot.@@N@@
namespace Jvm.Pilot.@@N@@
open Jvm Jvm.ClassFile Sem Op Lib Jvm.Free Jvm.Stand Jvm.Pilot.@@N@@.Jvm.D
/-! MADE BY PROGRAM (witnessworld.py) out of the Statement's table words and the real class files: 31 classes; the members and pool entries that the words name. The judged class is class 1, her method 1. -/
namespace start1
open Jvm.ClassFile
def u (s : String) : CpInfo := .utf8 (stringToUtf16 s)
/-- a pool by its gaps: so many unusable entries, then the entry; so many at the end -/
def gap : Nat → List CpInfo → List CpInfo
  | 0, r => r
  | n + 1, r => .unusable :: gap n r
def poolList (es : List (Nat × CpInfo)) (last : Nat) : List CpInfo := es.foldr (fun e r => gap e.1 (e.2 :: r)) (gap last [])
def pool (es : List (Nat × CpInfo)) (last : Nat) : Array CpInfo := ⟨poolList es last⟩
def fileOf (pool : Array CpInfo) (this : Nat) (attrs : Array Attribute := #[]) (ms : Array MethodInfo := #[]) (fl : Nat := 33) (sup : Nat := 0) (ifs : Array Nat := #[]) (fds : Array FieldInfo := #[]) : ClassFile where
  minorVersion := 0
  majorVersion := 65
  constantPool := pool
  accessFlags := fl
  thisClass := this
  superClass := sup
  interfaces := ifs
  fields := fds
  methods := ms
  attributes := attrs
def plain (name : String) (sup : Option ClassId) : Class where
  name := name
  kind := .ordinary
  loader := none
  accessFlags := 33
  super := sup
  interfaces := #[]
  cf := none
  fields := #[]
  methods := #[]
  instanceTypes := #[]
  staticTypes := #[]
  resolved := #[]
  callSites := []
  init := .initialized
  statics := none
  mirror := none

def pool0 : Array CpInfo := pool [(5, u "<init>"), (0, u "()V"), (1, .class_ 10), (1, u "java/lang/Object")] 113

def k0c0 : Code := { maxStack := 0, maxLocals := 1, code := object_method_1_code, exceptionTable := #[], attributes := #[] }
def k0m0 : Method := { name := "<init>", desc := "()V", sig := { parameters := [], returnType := none }, accessFlags := 1, code := some k0c0 }
/-- java/lang/Object -/
def k0 : Class := { plain "java/lang/Object" none with
  accessFlags := 33
  interfaces := #[]
  cf := some (fileOf pool0 8 #[] #[{ accessFlags := 1, nameIndex := 5, descriptorIndex := 6, attributes := #[] }] 33 0 #[] #[])
  fields := #[]
  methods := #[k0m0]
  instanceTypes := #[]
  staticTypes := #[]
  resolved := Array.replicate 124 none
  statics := none }

def pool1 : Array CpInfo := pool [(2, .class_ 4), (1, u "java/lang/Object"), (0, u "<init>"), (0, u "()V"), (0, .string 8), (0, u ""), (0, .methodref 10 11), (0, .class_ 12), (0, .nameAndType 13 14), (0, u "java/lang/String"), (0, u "valueOf"), (0, u "(C)Ljava/lang/String;"), (0, .methodref 10 16), (0, .nameAndType 5 17), (0, u "([C)V"), (0, .class_ 19), (0, u "com/example/wharfline/wharfline/runtime/Work"), (0, .methodref 18 21), (0, .nameAndType 5 22), (0, u "(Ljava/lang/String;I)V"), (0, .methodref 18 24), (0, .nameAndType 25 26), (0, u "toString"), (0, u "()Ljava/lang/String;"), (0, .methodref 10 28), (0, .nameAndType 29 30), (0, u "equals"), (0, u "(Ljava/lang/Object;)Z"), (0, .methodref 32 33), (0, .class_ 34), (0, .nameAndType 35 36), (0, u "java/lang/Math"), (0, u "abs"), (0, u "(J)J"), (0, .methodref 38 39), (0, .class_ 40), (0, .nameAndType 41 42), (0, u "com/example/wharfline/wharfline/runtime/WorkToStringPinLaw"), (0, u "digits"), (0, u "(J)I"), (0, .methodref 10 44), (0, .nameAndType 45 46), (0, u "length"), (0, u "()I"), (0, .methodref 38 48), (0, .nameAndType 49 50), (0, u "chk"), (0, u "(Ljava/lang/String;IILjava/lang/String;IIIJ)Z"), (0, .long 10), (1, .long 100), (1, .long 1000), (1, .long 10000), (1, .long 100000), (1, .long 1000000), (1, .long 10000000), (1, .long 100000000), (1, .long 1000000000), (1, .methodref 10 70), (0, .nameAndType 71 72), (0, u "charAt"), (0, u "(I)C"), (0, .methodref 38 74), (0, .nameAndType 75 76), (0, u "expected"), (0, u "(ILjava/lang/String;IIIJ)C"), (2, u "law"), (0, u "(IIIII)Z")] 3

def k1m0 : Method := { name := "<init>", desc := "()V", sig := { parameters := [], returnType := none }, accessFlags := 1, code := none }
def k1c1 : Code := { maxStack := 9, maxLocals := 16, code := code, exceptionTable := #[], attributes := #[] }
def k1m1 : Method := { name := "law", desc := "(IIIII)Z", sig := { parameters := [.int, .int, .int, .int, .int], returnType := some .boolean }, accessFlags := 9, code := some k1c1 }
def k1c2 : Code := { maxStack := 4, maxLocals := 2, code := method_3_code, exceptionTable := #[], attributes := #[] }
def k1m2 : Method := { name := "digits", desc := "(J)I", sig := { parameters := [.long], returnType := some .int }, accessFlags := 10, code := some k1c2 }
def k1c3 : Code := { maxStack := 8, maxLocals := 9, code := method_4_code, exceptionTable := #[], attributes := #[] }
def k1m3 : Method := { name := "chk", desc := "(Ljava/lang/String;IILjava/lang/String;IIIJ)Z", sig := { parameters := [(.object "java/lang/String"), .int, .int, (.object "java/lang/String"), .int, .int, .int, .long], returnType := some .boolean }, accessFlags := 10, code := some k1c3 }
def k1c4 : Code := { maxStack := 5, maxLocals := 11, code := method_5_code, exceptionTable := #[], attributes := #[] }
def k1m4 : Method := { name := "expected", desc := "(ILjava/lang/String;IIIJ)C", sig := { parameters := [.int, (.object "java/lang/String"), .int, .int, .int, .long], returnType := some .char }, accessFlags := 10, code := some k1c4 }
/-- com/example/wharfline/wharfline/runtime/WorkToStringPinLaw -/
def k1 : Class := { plain "com/example/wharfline/wharfline/runtime/WorkToStringPinLaw" (some 0) with
  accessFlags := 49
  interfaces := #[]
  cf := some (fileOf pool1 38 #[] #[{ accessFlags := 1, nameIndex := 5, descriptorIndex := 6, attributes := #[] }, { accessFlags := 9, nameIndex := 79, descriptorIndex := 80, attributes := #[] }, { accessFlags := 10, nameIndex := 41, descriptorIndex := 42, attributes := #[] }, { accessFlags := 10, nameIndex := 49, descriptorIndex := 50, attributes := #[] }, { accessFlags := 10, nameIndex := 75, descriptorIndex := 76, attributes := #[] }] 49 2 #[] #[])
  fields := #[]
  methods := #[k1m0, k1m1, k1m2, k1m3, k1m4]
  instanceTypes := #[]
  staticTypes := #[]
  resolved := Array.replicate 84 none
  statics := none }

def pool2 : Array CpInfo := pool [(1, .class_ 2), (0, u "java/io/Serializable"), (0, .class_ 4), (0, u "java/lang/Object")] 2

/-- java/io/Serializable -/
def k2 : Class := { plain "java/io/Serializable" (some 0) with
  accessFlags := 1537
  interfaces := #[]
  cf := some (fileOf pool2 1 #[] #[] 1537 3 #[] #[])
  fields := #[]
  methods := #[]
  instanceTypes := #[]
  staticTypes := #[]
  resolved := Array.replicate 7 none
  statics := none }

def pool3 : Array CpInfo := pool [(1, .class_ 2), (0, u "java/lang/Comparable"), (0, .class_ 4), (0, u "java/lang/Object")] 7

/-- java/lang/Comparable -/
def k3 : Class := { plain "java/lang/Comparable" (some 0) with
  accessFlags := 1537
  interfaces := #[]
  cf := some (fileOf pool3 1 #[] #[] 1537 3 #[] #[])
  fields := #[]
  methods := #[]
  instanceTypes := #[]
  staticTypes := #[]
  resolved := Array.replicate 12 none
  statics := none }

def pool4 : Array CpInfo := pool [(2, .class_ 4), (1, u "java/lang/CharSequence"), (42, .class_ 48), (0, u "java/lang/CharSequence$1CodePointIterator"), (10, .class_ 60), (0, u "java/lang/CharSequence$1CharIterator"), (5, .class_ 67), (0, u "java/lang/Object")] 63

/-- java/lang/CharSequence -/
def k4 : Class := { plain "java/lang/CharSequence" (some 0) with
  accessFlags := 1537
  interfaces := #[]
  cf := some (fileOf pool4 2 #[.nestMembers #[47, 59]] #[] 1537 66 #[] #[])
  fields := #[]
  methods := #[]
  instanceTypes := #[]
  staticTypes := #[]
  resolved := Array.replicate 131 none
  statics := none }

def pool5 : Array CpInfo := pool [(1, .class_ 2), (0, u "java/lang/constant/Constable"), (0, .class_ 4), (0, u "java/lang/Object")] 6

/-- java/lang/constant/Constable -/
def k5 : Class := { plain "java/lang/constant/Constable" (some 0) with
  accessFlags := 1537
  interfaces := #[]
  cf := some (fileOf pool5 1 #[] #[] 1537 3 #[] #[])
  fields := #[]
  methods := #[]
  instanceTypes := #[]
  staticTypes := #[]
  resolved := Array.replicate 11 none
  statics := none }

def pool6 : Array CpInfo := pool [(1, .class_ 2), (0, u "java/lang/constant/ConstantDesc"), (0, .class_ 4), (0, u "java/lang/Object")] 32

/-- java/lang/constant/ConstantDesc -/
def k6 : Class := { plain "java/lang/constant/ConstantDesc" (some 0) with
  accessFlags := 1537
  interfaces := #[]
  cf := some (fileOf pool6 1 #[] #[] 1537 3 #[] #[])
  fields := #[]
  methods := #[]
  instanceTypes := #[]
  staticTypes := #[]
  resolved := Array.replicate 37 none
  statics := none }

def pool7 : Array CpInfo := pool [(1, .methodref 2 3), (0, .class_ 4), (0, .nameAndType 5 6), (0, u "java/lang/Object"), (0, u "<init>"), (0, u "()V"), (2, .fieldref 10 11), (0, .class_ 12), (0, .nameAndType 13 14), (0, u "java/lang/String"), (0, u "value"), (0, u "[B"), (0, .fieldref 10 16), (0, .nameAndType 17 18), (0, u "coder"), (0, u "B"), (2, u "hash"), (0, u "I"), (2, u "hashIsZero"), (0, u "Z"), (0, .methodref 10 28), (0, .nameAndType 5 29), (0, u "([CIILjava/lang/Void;)V"), (8, .fieldref 10 39), (0, .nameAndType 40 26), (0, u "COMPACT_STRINGS"), (1, .class_ 44), (1, u "java/lang/StringUTF16"), (0, u "compress"), (1, .methodref 42 48), (0, .nameAndType 49 50), (0, u "coderFromArrayLen"), (0, u "([BI)B"), (2, u "toBytes"), (0, .methodref 55 56), (0, .class_ 57), (0, .nameAndType 58 59), (0, u "java/util/Arrays"), (0, u "copyOfRange"), (0, u "([BII)[B"), (47, .class_ 109), (1, u "java/lang/StringLatin1"), (32, u "()Z"), (34, .methodref 42 178), (0, .nameAndType 45 179), (0, u "([CII)[B"), (13, .class_ 195), (1, u "java/lang/System"), (13, .methodref 10 210), (0, .nameAndType 5 211), (0, u "([BB)V"), (0, .methodref 193 213), (0, .nameAndType 214 215), (0, u "arraycopy"), (0, u "(Ljava/lang/Object;ILjava/lang/Object;II)V"), (118, u "()I"), (0, .methodref 10 336), (0, .nameAndType 17 337), (0, u "()B"), (2, u "()[B"), (22, u "([BI)C"), (5, u "(C)Z"), (21, u "(II)V"), (35, u "(I)C"), (61, .methodref 10 490), (0, .nameAndType 5 491), (0, u "(Ljava/lang/AbstractStringBuilder;Ljava/lang/Void;)V"), (0, .methodref 10 493), (0, .nameAndType 494 142), (0, u "isLatin1"), (0, .methodref 107 496), (0, .nameAndType 497 363), (0, u "charAt"), (3, u "checkIndex"), (4, .nameAndType 507 334), (0, u "length"), (24, u "getBytes"), (10, u "equals"), (5, .methodref 550 506), (0, .class_ 551), (0, u "java/lang/AbstractStringBuilder"), (0, .methodref 550 553), (0, .nameAndType 554 340), (0, u "getValue"), (18, u "(Ljava/lang/Object;)Z"), (1, .class_ 576), (0, u "java/lang/CharSequence"), (22, u "CASE_INSENSITIVE_ORDER"), (0, u "Ljava/util/Comparator;"), (181, u "valueOf"), (0, u "(C)Ljava/lang/String;"), (37, u "([BIB)V"), (188, u "([C)V"), (4, .methodref 107 1016), (0, .nameAndType 1017 369), (0, u "canEncode"), (0, .methodref 107 1019), (0, .nameAndType 53 1020), (0, u "(C)[B"), (26, .methodref 550 493), (5, .fieldref 1054 1055), (0, .class_ 1056), (0, .nameAndType 1057 1058), (0, u "jdk/internal/util/Preconditions"), (0, u "SIOOBE_FORMATTER"), (0, u "Ljava/util/function/BiFunction;"), (0, .methodref 1054 1060), (0, .nameAndType 501 1061), (0, u "(IILjava/util/function/BiFunction;)I"), (39, u "serialPersistentFields"), (0, u "[Ljava/io/ObjectStreamField;"), (0, .class_ 1104), (0, u "java/lang/String$CaseInsensitiveComparator"), (1, .class_ 1107), (0, u "java/io/Serializable"), (0, .class_ 1109), (0, u "java/lang/Comparable"), (0, .class_ 1111), (0, u "java/lang/constant/Constable"), (0, .class_ 1113), (0, u "java/lang/constant/ConstantDesc"), (2, u "serialVersionUID"), (0, u "J"), (3, u "REPL"), (0, u "C"), (2, u "LATIN1"), (1, u "UTF16"), (105, u "(Ljava/lang/StringBuilder;)V")] 217

def k7m0 : Method := { name := "<init>", desc := "()V", sig := { parameters := [], returnType := none }, accessFlags := 1, code := none }
def k7c1 : Code := { maxStack := 5, maxLocals := 2, code := jdk_42_method_3_code, exceptionTable := #[], attributes := #[] }
def k7m1 : Method := { name := "<init>", desc := "([C)V", sig := { parameters := [(.array .char)], returnType := none }, accessFlags := 1, code := some k7c1 }
def k7c2 : Code := { maxStack := 3, maxLocals := 2, code := jdk_42_method_53_code, exceptionTable := #[], attributes := #[] }
def k7m2 : Method := { name := "<init>", desc := "(Ljava/lang/StringBuilder;)V", sig := { parameters := [(.object "java/lang/StringBuilder")], returnType := none }, accessFlags := 1, code := some k7c2 }
def k7c3 : Code := { maxStack := 2, maxLocals := 1, code := jdk_42_method_54_code, exceptionTable := #[], attributes := #[] }
def k7m3 : Method := { name := "length", desc := "()I", sig := { parameters := [], returnType := some .int }, accessFlags := 1, code := some k7c3 }
def k7c4 : Code := { maxStack := 2, maxLocals := 2, code := jdk_42_method_56_code, exceptionTable := #[], attributes := #[] }
def k7m4 : Method := { name := "charAt", desc := "(I)C", sig := { parameters := [.int], returnType := some .char }, accessFlags := 1, code := some k7c4 }
def k7c5 : Code := { maxStack := 2, maxLocals := 3, code := jdk_42_method_66_code, exceptionTable := #[], attributes := #[] }
def k7m5 : Method := { name := "equals", desc := "(Ljava/lang/Object;)Z", sig := { parameters := [(.object "java/lang/Object")], returnType := some .boolean }, accessFlags := 1, code := some k7c5 }
def k7c6 : Code := { maxStack := 4, maxLocals := 1, code := jdk_42_method_139_code, exceptionTable := #[], attributes := #[] }
def k7m6 : Method := { name := "valueOf", desc := "(C)Ljava/lang/String;", sig := { parameters := [.char], returnType := some (.object "java/lang/String") }, accessFlags := 9, code := some k7c6 }
def k7c7 : Code := { maxStack := 5, maxLocals := 4, code := jdk_42_method_147_code, exceptionTable := #[], attributes := #[] }
def k7m7 : Method := { name := "getBytes", desc := "([BIB)V", sig := { parameters := [(.array .byte), .int, .byte], returnType := none }, accessFlags := 0, code := some k7c7 }
def k7c8 : Code := { maxStack := 4, maxLocals := 6, code := jdk_42_method_149_code, exceptionTable := #[], attributes := #[] }
def k7m8 : Method := { name := "<init>", desc := "([CIILjava/lang/Void;)V", sig := { parameters := [(.array .char), .int, .int, (.object "java/lang/Void")], returnType := none }, accessFlags := 2, code := some k7c8 }
def k7c9 : Code := { maxStack := 5, maxLocals := 5, code := jdk_42_method_150_code, exceptionTable := #[], attributes := #[] }
def k7m9 : Method := { name := "<init>", desc := "(Ljava/lang/AbstractStringBuilder;Ljava/lang/Void;)V", sig := { parameters := [(.object "java/lang/AbstractStringBuilder"), (.object "java/lang/Void")], returnType := none }, accessFlags := 0, code := some k7c9 }
def k7c10 : Code := { maxStack := 2, maxLocals := 3, code := jdk_42_method_151_code, exceptionTable := #[], attributes := #[] }
def k7m10 : Method := { name := "<init>", desc := "([BB)V", sig := { parameters := [(.array .byte), .byte], returnType := none }, accessFlags := 0, code := some k7c10 }
def k7c11 : Code := { maxStack := 1, maxLocals := 1, code := jdk_42_method_152_code, exceptionTable := #[], attributes := #[] }
def k7m11 : Method := { name := "coder", desc := "()B", sig := { parameters := [], returnType := some .byte }, accessFlags := 0, code := some k7c11 }
def k7c12 : Code := { maxStack := 1, maxLocals := 1, code := jdk_42_method_154_code, exceptionTable := #[], attributes := #[] }
def k7m12 : Method := { name := "isLatin1", desc := "()Z", sig := { parameters := [], returnType := some .boolean }, accessFlags := 0, code := some k7c12 }
def k7c13 : Code := { maxStack := 3, maxLocals := 2, code := jdk_42_method_155_code, exceptionTable := #[], attributes := #[] }
def k7m13 : Method := { name := "checkIndex", desc := "(II)V", sig := { parameters := [.int, .int], returnType := none }, accessFlags := 8, code := some k7c13 }
/-- java/lang/String -/
def k7 : Class := { plain "java/lang/String" (some 0) with
  accessFlags := 49
  interfaces := #[2, 3, 4, 5, 6]
  cf := some (fileOf pool7 10 #[.nestMembers #[1103]] #[{ accessFlags := 1, nameIndex := 5, descriptorIndex := 6, attributes := #[] }, { accessFlags := 1, nameIndex := 5, descriptorIndex := 1010, attributes := #[] }, { accessFlags := 1, nameIndex := 5, descriptorIndex := 1233, attributes := #[] }, { accessFlags := 1, nameIndex := 507, descriptorIndex := 334, attributes := #[] }, { accessFlags := 1, nameIndex := 497, descriptorIndex := 427, attributes := #[] }, { accessFlags := 1, nameIndex := 543, descriptorIndex := 573, attributes := #[] }, { accessFlags := 9, nameIndex := 782, descriptorIndex := 783, attributes := #[] }, { accessFlags := 0, nameIndex := 532, descriptorIndex := 821, attributes := #[] }, { accessFlags := 2, nameIndex := 5, descriptorIndex := 29, attributes := #[] }, { accessFlags := 0, nameIndex := 5, descriptorIndex := 491, attributes := #[] }, { accessFlags := 0, nameIndex := 5, descriptorIndex := 211, attributes := #[] }, { accessFlags := 0, nameIndex := 17, descriptorIndex := 337, attributes := #[] }, { accessFlags := 0, nameIndex := 494, descriptorIndex := 142, attributes := #[] }, { accessFlags := 8, nameIndex := 501, descriptorIndex := 391, attributes := #[] }] 49 2 #[1106, 1108, 575, 1110, 1112] #[{ accessFlags := 18, nameIndex := 13, descriptorIndex := 14, attributes := #[] }, { accessFlags := 18, nameIndex := 17, descriptorIndex := 18, attributes := #[] }, { accessFlags := 2, nameIndex := 21, descriptorIndex := 22, attributes := #[] }, { accessFlags := 2, nameIndex := 25, descriptorIndex := 26, attributes := #[] }, { accessFlags := 26, nameIndex := 1116, descriptorIndex := 1117, attributes := #[] }, { accessFlags := 24, nameIndex := 40, descriptorIndex := 26, attributes := #[] }, { accessFlags := 26, nameIndex := 1101, descriptorIndex := 1102, attributes := #[] }, { accessFlags := 26, nameIndex := 1121, descriptorIndex := 1122, attributes := #[] }, { accessFlags := 25, nameIndex := 599, descriptorIndex := 600, attributes := #[] }, { accessFlags := 24, nameIndex := 1125, descriptorIndex := 18, attributes := #[] }, { accessFlags := 24, nameIndex := 1127, descriptorIndex := 18, attributes := #[] }])
  fields := #[{ name := "value", type := (.array .byte), accessFlags := 18, slot := 0, constantValue := 0 }, { name := "coder", type := .byte, accessFlags := 18, slot := 1, constantValue := 0 }, { name := "hash", type := .int, accessFlags := 2, slot := 2, constantValue := 0 }, { name := "hashIsZero", type := .boolean, accessFlags := 2, slot := 3, constantValue := 0 }, { name := "serialVersionUID", type := .long, accessFlags := 26, slot := 0, constantValue := 0 }, { name := "COMPACT_STRINGS", type := .boolean, accessFlags := 24, slot := 1, constantValue := 0 }, { name := "serialPersistentFields", type := (.array (.object "java/io/ObjectStreamField")), accessFlags := 26, slot := 2, constantValue := 0 }, { name := "REPL", type := .char, accessFlags := 26, slot := 3, constantValue := 0 }, { name := "CASE_INSENSITIVE_ORDER", type := (.object "java/util/Comparator"), accessFlags := 25, slot := 4, constantValue := 0 }, { name := "LATIN1", type := .byte, accessFlags := 24, slot := 5, constantValue := 0 }, { name := "UTF16", type := .byte, accessFlags := 24, slot := 6, constantValue := 0 }]
  methods := #[k7m0, k7m1, k7m2, k7m3, k7m4, k7m5, k7m6, k7m7, k7m8, k7m9, k7m10, k7m11, k7m12, k7m13]
  instanceTypes := #[(.array .byte), .byte, .int, .boolean]
  staticTypes := #[.long, .boolean, (.array (.object "java/io/ObjectStreamField")), .char, (.object "java/util/Comparator"), .byte, .byte]
  resolved := Array.replicate 1451 none
  statics := some 0 }

def pool8 : Array CpInfo := pool [(6, .class_ 8), (1, u "java/lang/Object"), (0, u "<init>"), (0, u "()V"), (1, .class_ 14), (1, u "java/lang/StringUTF16"), (31, u "$assertionsDisabled"), (0, u "Z"), (13, u "HI_BYTE_SHIFT"), (0, u "I"), (2, u "LO_BYTE_SHIFT"), (49, .methodref 12 116), (0, .nameAndType 117 118), (0, u "compress"), (0, u "([CI[BII)I"), (3, u "([CII)[B"), (138, u "coderFromArrayLen"), (0, u "([BI)B"), (106, .class_ 371), (1, u "java/lang/StringUTF16$LinesSpliterator"), (58, u "MAX_LENGTH"), (196, .class_ 628), (0, u "java/lang/StringUTF16$CodePointsSpliterator"), (0, .class_ 630), (0, u "java/lang/StringUTF16$CharsSpliterator")] 4

def k8m0 : Method := { name := "<init>", desc := "()V", sig := { parameters := [], returnType := none }, accessFlags := 0, code := none }
def k8c1 : Code := { maxStack := 2, maxLocals := 2, code := jdk_52_method_15_code, exceptionTable := #[], attributes := #[] }
def k8m1 : Method := { name := "coderFromArrayLen", desc := "([BI)B", sig := { parameters := [(.array .byte), .int], returnType := some .byte }, accessFlags := 8, code := some k8c1 }
def k8c2 : Code := { maxStack := 5, maxLocals := 6, code := jdk_52_method_16_code, exceptionTable := #[], attributes := #[] }
def k8m2 : Method := { name := "compress", desc := "([CII)[B", sig := { parameters := [(.array .char), .int, .int], returnType := some (.array .byte) }, accessFlags := 9, code := some k8c2 }
def k8c3 : Code := { maxStack := 3, maxLocals := 7, code := jdk_52_method_21_code, exceptionTable := #[], attributes := #[] }
def k8m3 : Method := { name := "compress", desc := "([CI[BII)I", sig := { parameters := [(.array .char), .int, (.array .byte), .int, .int], returnType := some .int }, accessFlags := 9, code := some k8c3 }
/-- java/lang/StringUTF16 -/
def k8 : Class := { plain "java/lang/StringUTF16" (some 0) with
  accessFlags := 48
  interfaces := #[]
  cf := some (fileOf pool8 12 #[.nestMembers #[627, 629, 369]] #[{ accessFlags := 0, nameIndex := 9, descriptorIndex := 10, attributes := #[] }, { accessFlags := 8, nameIndex := 261, descriptorIndex := 262, attributes := #[] }, { accessFlags := 9, nameIndex := 117, descriptorIndex := 122, attributes := #[] }, { accessFlags := 9, nameIndex := 117, descriptorIndex := 118, attributes := #[] }] 48 6 #[] #[{ accessFlags := 26, nameIndex := 61, descriptorIndex := 62, attributes := #[] }, { accessFlags := 26, nameIndex := 65, descriptorIndex := 62, attributes := #[] }, { accessFlags := 24, nameIndex := 430, descriptorIndex := 62, attributes := #[] }, { accessFlags := 4120, nameIndex := 46, descriptorIndex := 47, attributes := #[] }])
  fields := #[{ name := "HI_BYTE_SHIFT", type := .int, accessFlags := 26, slot := 0, constantValue := 0 }, { name := "LO_BYTE_SHIFT", type := .int, accessFlags := 26, slot := 1, constantValue := 0 }, { name := "MAX_LENGTH", type := .int, accessFlags := 24, slot := 2, constantValue := 0 }, { name := "$assertionsDisabled", type := .boolean, accessFlags := 4120, slot := 3, constantValue := 0 }]
  methods := #[k8m0, k8m1, k8m2, k8m3]
  instanceTypes := #[]
  staticTypes := #[.int, .int, .int, .boolean]
  resolved := Array.replicate 635 none
  statics := none }

def pool9 : Array CpInfo := pool [(1, .methodref 2 3), (0, .class_ 4), (0, .nameAndType 5 6), (0, u "java/lang/Object"), (0, u "<init>"), (0, u "()V"), (0, .class_ 8), (0, u "java/lang/Record")] 13

def k9c0 : Code := { maxStack := 1, maxLocals := 1, code := jdk_30_method_1_code, exceptionTable := #[], attributes := #[] }
def k9m0 : Method := { name := "<init>", desc := "()V", sig := { parameters := [], returnType := none }, accessFlags := 4, code := some k9c0 }
/-- java/lang/Record -/
def k9 : Class := { plain "java/lang/Record" (some 0) with
  accessFlags := 1057
  interfaces := #[]
  cf := some (fileOf pool9 7 #[] #[{ accessFlags := 4, nameIndex := 5, descriptorIndex := 6, attributes := #[] }] 1057 2 #[] #[])
  fields := #[]
  methods := #[k9m0]
  instanceTypes := #[]
  staticTypes := #[]
  resolved := Array.replicate 22 none
  statics := none }

def pool10 : Array CpInfo := pool [(1, .methodref 2 3), (0, .class_ 4), (0, .nameAndType 5 6), (0, u "java/lang/Record"), (0, u "<init>"), (0, u "()V"), (0, .fieldref 8 9), (0, .class_ 10), (0, .nameAndType 11 12), (0, u "com/example/wharfline/wharfline/runtime/Work"), (0, u "connector"), (0, u "Ljava/lang/String;"), (0, .fieldref 8 14), (0, .nameAndType 15 16), (0, u "task"), (0, u "I"), (2, u "(Ljava/lang/String;I)V"), (2, u "ORDER"), (0, u "Ljava/util/Comparator;"), (6, .methodref 8 31), (0, .nameAndType 32 33), (0, u "isInstance"), (0, u "()Z"), (0, .class_ 35), (0, u "java/lang/StringBuilder"), (0, .methodref 34 3), (0, .methodref 34 38), (0, .nameAndType 39 40), (0, u "append"), (0, u "(Ljava/lang/String;)Ljava/lang/StringBuilder;"), (0, .string 42), (0, u "-"), (0, .methodref 34 44), (0, .nameAndType 39 45), (0, u "(I)Ljava/lang/StringBuilder;"), (0, .methodref 34 47), (0, .nameAndType 48 49), (0, u "toString"), (0, u "()Ljava/lang/String;"), (27, .class_ 78), (0, u "java/lang/Comparable"), (0, u "INSTANCE")] 58

def k10c0 : Code := { maxStack := 2, maxLocals := 3, code := prog_41_method_1_code, exceptionTable := #[], attributes := #[] }
def k10m0 : Method := { name := "<init>", desc := "(Ljava/lang/String;I)V", sig := { parameters := [(.object "java/lang/String"), .int], returnType := none }, accessFlags := 0, code := some k10c0 }
def k10c1 : Code := { maxStack := 2, maxLocals := 1, code := prog_41_method_4_code, exceptionTable := #[], attributes := #[] }
def k10m1 : Method := { name := "isInstance", desc := "()Z", sig := { parameters := [], returnType := some .boolean }, accessFlags := 0, code := some k10c1 }
def k10c2 : Code := { maxStack := 2, maxLocals := 1, code := prog_41_method_6_code, exceptionTable := #[], attributes := #[] }
def k10m2 : Method := { name := "toString", desc := "()Ljava/lang/String;", sig := { parameters := [], returnType := some (.object "java/lang/String") }, accessFlags := 1, code := some k10c2 }
/-- com/example/wharfline/wharfline/runtime/Work -/
def k10 : Class := { plain "com/example/wharfline/wharfline/runtime/Work" (some 9) with
  accessFlags := 48
  interfaces := #[3]
  cf := some (fileOf pool10 8 #[] #[{ accessFlags := 0, nameIndex := 5, descriptorIndex := 19, attributes := #[] }, { accessFlags := 0, nameIndex := 32, descriptorIndex := 33, attributes := #[] }, { accessFlags := 1, nameIndex := 48, descriptorIndex := 49, attributes := #[] }] 48 2 #[77] #[{ accessFlags := 18, nameIndex := 11, descriptorIndex := 12, attributes := #[] }, { accessFlags := 18, nameIndex := 15, descriptorIndex := 16, attributes := #[] }, { accessFlags := 24, nameIndex := 79, descriptorIndex := 16, attributes := #[] }, { accessFlags := 26, nameIndex := 22, descriptorIndex := 23, attributes := #[] }])
  fields := #[{ name := "connector", type := (.object "java/lang/String"), accessFlags := 18, slot := 0, constantValue := 0 }, { name := "task", type := .int, accessFlags := 18, slot := 1, constantValue := 0 }, { name := "INSTANCE", type := .int, accessFlags := 24, slot := 0, constantValue := 0 }, { name := "ORDER", type := (.object "java/util/Comparator"), accessFlags := 26, slot := 1, constantValue := 0 }]
  methods := #[k10m0, k10m1, k10m2]
  instanceTypes := #[(.object "java/lang/String"), .int]
  staticTypes := #[.int, (.object "java/util/Comparator")]
  resolved := Array.replicate 138 none
  statics := none }

def pool11 : Array CpInfo := pool [(1, .class_ 2), (0, u "java/lang/Appendable"), (0, .class_ 4), (0, u "java/lang/Object")] 9

/-- java/lang/Appendable -/
def k11 : Class := { plain "java/lang/Appendable" (some 0) with
  accessFlags := 1537
  interfaces := #[]
  cf := some (fileOf pool11 1 #[] #[] 1537 3 #[] #[])
  fields := #[]
  methods := #[]
  instanceTypes := #[]
  staticTypes := #[]
  resolved := Array.replicate 14 none
  statics := none }

def pool12 : Array CpInfo := pool [(1, .class_ 2), (0, u "java/lang/String"), (0, .methodref 4 5), (0, .class_ 6), (0, .nameAndType 7 8), (0, u "java/lang/Object"), (0, u "<init>"), (0, u "()V"), (1, .class_ 12), (1, u "java/lang/AbstractStringBuilder"), (0, u "EMPTYVALUE"), (0, u "[B"), (0, .fieldref 10 16), (0, .nameAndType 17 14), (0, u "value"), (0, .fieldref 1 19), (0, .nameAndType 20 21), (0, u "COMPACT_STRINGS"), (0, u "Z"), (0, .fieldref 10 23), (0, .nameAndType 24 25), (0, u "coder"), (0, u "B"), (6, .methodref 1 33), (0, .nameAndType 34 35), (0, u "length"), (0, u "()I"), (0, .class_ 37), (0, u "java/lang/Integer"), (2, .methodref 1 41), (0, .nameAndType 24 42), (0, u "()B"), (2, u "append"), (0, u "(Ljava/lang/String;)Ljava/lang/AbstractStringBuilder;"), (1, .class_ 49), (0, u "java/lang/CharSequence"), (19, u "(Ljava/lang/String;)V"), (5, u "maybeLatin1"), (3, .fieldref 10 80), (0, .nameAndType 81 82), (0, u "count"), (0, u "I"), (0, .methodref 10 84), (0, .nameAndType 85 86), (0, u "isLatin1"), (0, u "()Z"), (13, .methodref 10 101), (0, .nameAndType 102 103), (0, u "ensureCapacityInternal"), (0, u "(I)V"), (3, u "(I)I"), (80, u "getChars"), (19, .methodref 10 209), (0, .nameAndType 210 211), (0, u "putStringAt"), (0, u "(ILjava/lang/String;)V"), (5, u "inflateIfNeededFor"), (2, .nameAndType 221 222), (0, u "getBytes"), (0, u "([BIB)V"), (22, .methodref 36 246), (0, .nameAndType 247 107), (0, u "stringSize"), (0, .methodref 36 249), (0, .nameAndType 188 250), (0, u "(II[B)I"), (146, .methodref 10 398), (0, .nameAndType 217 69), (0, .methodref 1 220), (3, u "()[B"), (40, .class_ 445), (0, u "java/lang/Appendable"), (65, u "(I)Ljava/lang/AbstractStringBuilder;"), (40, u "getValue")] 56

def k12m0 : Method := { name := "<init>", desc := "()V", sig := { parameters := [], returnType := none }, accessFlags := 0, code := none }
def k12c1 : Code := { maxStack := 2, maxLocals := 2, code := jdk_68_method_2_code, exceptionTable := #[], attributes := #[] }
def k12m1 : Method := { name := "<init>", desc := "(I)V", sig := { parameters := [.int], returnType := none }, accessFlags := 0, code := some k12c1 }
def k12c2 : Code := { maxStack := 1, maxLocals := 1, code := jdk_68_method_6_code, exceptionTable := #[], attributes := #[] }
def k12m2 : Method := { name := "length", desc := "()I", sig := { parameters := [], returnType := some .int }, accessFlags := 1, code := some k12c2 }
def k12c3 : Code := { maxStack := 4, maxLocals := 3, code := jdk_68_method_9_code, exceptionTable := #[], attributes := #[] }
def k12m3 : Method := { name := "ensureCapacityInternal", desc := "(I)V", sig := { parameters := [.int], returnType := none }, accessFlags := 2, code := some k12c3 }
def k12c4 : Code := { maxStack := 3, maxLocals := 3, code := jdk_68_method_22_code, exceptionTable := #[], attributes := #[] }
def k12m4 : Method := { name := "append", desc := "(Ljava/lang/String;)Ljava/lang/AbstractStringBuilder;", sig := { parameters := [(.object "java/lang/String")], returnType := some (.object "java/lang/AbstractStringBuilder") }, accessFlags := 1, code := some k12c4 }
def k12c5 : Code := { maxStack := 4, maxLocals := 4, code := jdk_68_method_32_code, exceptionTable := #[], attributes := #[] }
def k12m5 : Method := { name := "append", desc := "(I)Ljava/lang/AbstractStringBuilder;", sig := { parameters := [.int], returnType := some (.object "java/lang/AbstractStringBuilder") }, accessFlags := 1, code := some k12c5 }
def k12c6 : Code := { maxStack := 1, maxLocals := 1, code := jdk_68_method_64_code, exceptionTable := #[], attributes := #[] }
def k12m6 : Method := { name := "getValue", desc := "()[B", sig := { parameters := [], returnType := some (.array .byte) }, accessFlags := 16, code := some k12c6 }
def k12c7 : Code := { maxStack := 1, maxLocals := 1, code := jdk_68_method_68_code, exceptionTable := #[], attributes := #[] }
def k12m7 : Method := { name := "isLatin1", desc := "()Z", sig := { parameters := [], returnType := some .boolean }, accessFlags := 16, code := some k12c7 }
def k12c8 : Code := { maxStack := 2, maxLocals := 2, code := jdk_68_method_71_code, exceptionTable := #[], attributes := #[] }
def k12m8 : Method := { name := "inflateIfNeededFor", desc := "(Ljava/lang/String;)V", sig := { parameters := [(.object "java/lang/String")], returnType := none }, accessFlags := 2, code := some k12c8 }
def k12c9 : Code := { maxStack := 4, maxLocals := 3, code := jdk_68_method_73_code, exceptionTable := #[], attributes := #[] }
def k12m9 : Method := { name := "putStringAt", desc := "(ILjava/lang/String;)V", sig := { parameters := [.int, (.object "java/lang/String")], returnType := none }, accessFlags := 2, code := some k12c9 }
/-- java/lang/AbstractStringBuilder -/
def k12 : Class := { plain "java/lang/AbstractStringBuilder" (some 0) with
  accessFlags := 1056
  interfaces := #[11, 4]
  cf := some (fileOf pool12 10 #[] #[{ accessFlags := 0, nameIndex := 7, descriptorIndex := 8, attributes := #[] }, { accessFlags := 0, nameIndex := 7, descriptorIndex := 103, attributes := #[] }, { accessFlags := 1, nameIndex := 34, descriptorIndex := 35, attributes := #[] }, { accessFlags := 2, nameIndex := 102, descriptorIndex := 103, attributes := #[] }, { accessFlags := 1, nameIndex := 45, descriptorIndex := 46, attributes := #[] }, { accessFlags := 1, nameIndex := 45, descriptorIndex := 511, attributes := #[] }, { accessFlags := 16, nameIndex := 552, descriptorIndex := 403, attributes := #[] }, { accessFlags := 16, nameIndex := 85, descriptorIndex := 86, attributes := #[] }, { accessFlags := 2, nameIndex := 217, descriptorIndex := 69, attributes := #[] }, { accessFlags := 2, nameIndex := 210, descriptorIndex := 211, attributes := #[] }] 1056 4 #[444, 48] #[{ accessFlags := 0, nameIndex := 17, descriptorIndex := 14, attributes := #[] }, { accessFlags := 0, nameIndex := 24, descriptorIndex := 25, attributes := #[] }, { accessFlags := 0, nameIndex := 75, descriptorIndex := 21, attributes := #[] }, { accessFlags := 0, nameIndex := 81, descriptorIndex := 82, attributes := #[] }, { accessFlags := 26, nameIndex := 13, descriptorIndex := 14, attributes := #[] }])
  fields := #[{ name := "value", type := (.array .byte), accessFlags := 0, slot := 0, constantValue := 0 }, { name := "coder", type := .byte, accessFlags := 0, slot := 1, constantValue := 0 }, { name := "maybeLatin1", type := .boolean, accessFlags := 0, slot := 2, constantValue := 0 }, { name := "count", type := .int, accessFlags := 0, slot := 3, constantValue := 0 }, { name := "EMPTYVALUE", type := (.array .byte), accessFlags := 26, slot := 0, constantValue := 0 }]
  methods := #[k12m0, k12m1, k12m2, k12m3, k12m4, k12m5, k12m6, k12m7, k12m8, k12m9]
  instanceTypes := #[(.array .byte), .byte, .boolean, .int]
  staticTypes := #[(.array .byte)]
  resolved := Array.replicate 609 none
  statics := none }

def pool13 : Array CpInfo := pool [(1, .methodref 2 3), (0, .class_ 4), (0, .nameAndType 5 6), (0, u "java/lang/AbstractStringBuilder"), (0, u "<init>"), (0, u "(I)V"), (11, .class_ 20), (1, u "java/lang/String"), (3, .class_ 26), (1, u "java/lang/StringBuilder"), (0, u "append"), (0, u "(Ljava/lang/String;)Ljava/lang/StringBuilder;"), (0, .methodref 2 30), (0, .nameAndType 27 31), (0, u "(Ljava/lang/String;)Ljava/lang/AbstractStringBuilder;"), (21, .methodref 2 54), (0, .nameAndType 27 55), (0, u "(I)Ljava/lang/AbstractStringBuilder;"), (81, .methodref 18 138), (0, .nameAndType 5 139), (0, u "(Ljava/lang/StringBuilder;)V"), (5, u "()V"), (10, u "()I"), (111, u "(I)Ljava/lang/StringBuilder;"), (74, .methodref 2 344), (0, .nameAndType 345 156), (0, u "length"), (3, .class_ 350), (0, u "java/lang/Appendable"), (0, .class_ 352), (0, u "java/io/Serializable"), (0, .class_ 354), (0, u "java/lang/Comparable"), (0, .class_ 356), (0, u "java/lang/CharSequence"), (0, u "serialVersionUID"), (0, u "J"), (40, u "toString"), (0, u "()Ljava/lang/String;")] 21

def k13c0 : Code := { maxStack := 2, maxLocals := 1, code := jdk_67_method_1_code, exceptionTable := #[], attributes := #[] }
def k13m0 : Method := { name := "<init>", desc := "()V", sig := { parameters := [], returnType := none }, accessFlags := 1, code := some k13c0 }
def k13c1 : Code := { maxStack := 2, maxLocals := 2, code := jdk_67_method_7_code, exceptionTable := #[], attributes := #[] }
def k13m1 : Method := { name := "append", desc := "(Ljava/lang/String;)Ljava/lang/StringBuilder;", sig := { parameters := [(.object "java/lang/String")], returnType := some (.object "java/lang/StringBuilder") }, accessFlags := 1, code := some k13c1 }
def k13c2 : Code := { maxStack := 2, maxLocals := 2, code := jdk_67_method_15_code, exceptionTable := #[], attributes := #[] }
def k13m2 : Method := { name := "append", desc := "(I)Ljava/lang/StringBuilder;", sig := { parameters := [.int], returnType := some (.object "java/lang/StringBuilder") }, accessFlags := 1, code := some k13c2 }
def k13c3 : Code := { maxStack := 3, maxLocals := 1, code := jdk_67_method_42_code, exceptionTable := #[], attributes := #[] }
def k13m3 : Method := { name := "toString", desc := "()Ljava/lang/String;", sig := { parameters := [], returnType := some (.object "java/lang/String") }, accessFlags := 1, code := some k13c3 }
def k13c4 : Code := { maxStack := 1, maxLocals := 1, code := jdk_67_method_93_code, exceptionTable := #[], attributes := #[] }
def k13m4 : Method := { name := "length", desc := "()I", sig := { parameters := [], returnType := some .int }, accessFlags := 4161, code := some k13c4 }
/-- java/lang/StringBuilder -/
def k13 : Class := { plain "java/lang/StringBuilder" (some 12) with
  accessFlags := 49
  interfaces := #[11, 2, 3, 4]
  cf := some (fileOf pool13 24 #[] #[{ accessFlags := 1, nameIndex := 5, descriptorIndex := 145, attributes := #[] }, { accessFlags := 1, nameIndex := 27, descriptorIndex := 28, attributes := #[] }, { accessFlags := 1, nameIndex := 27, descriptorIndex := 268, attributes := #[] }, { accessFlags := 1, nameIndex := 399, descriptorIndex := 400, attributes := #[] }, { accessFlags := 4161, nameIndex := 345, descriptorIndex := 156, attributes := #[] }] 49 2 #[349, 351, 353, 355] #[{ accessFlags := 24, nameIndex := 357, descriptorIndex := 358, attributes := #[] }])
  fields := #[{ name := "serialVersionUID", type := .long, accessFlags := 24, slot := 0, constantValue := 0 }]
  methods := #[k13m0, k13m1, k13m2, k13m3, k13m4]
  instanceTypes := #[(.array .byte), .byte, .boolean, .int]
  staticTypes := #[.long]
  resolved := Array.replicate 422 none
  statics := none }

def pool14 : Array CpInfo := pool [(2, .class_ 4), (1, u "java/lang/Object"), (0, u "<init>"), (0, u "()V"), (1, .class_ 10), (1, u "java/lang/System"), (0, u "allowSecurityManager"), (0, u "I"), (16, u "cons"), (0, u "Ljava/io/Console;"), (77, .class_ 110), (1, u "java/lang/System$CallersHolder"), (43, u "initialErrStream"), (0, u "Ljava/io/PrintStream;"), (19, u "security"), (0, u "Ljava/lang/SecurityManager;"), (31, .class_ 209), (0, u "java/lang/System$1"), (7, u "props"), (0, u "Ljava/util/Properties;"), (2, u "lineSeparator"), (0, u "Ljava/lang/String;"), (96, .class_ 321), (1, u "java/lang/System$LoggerFinder"), (5, .class_ 328), (0, u "java/lang/System$Logger"), (67, u "err"), (2, u "out"), (91, u "notSupportedJnuEncoding"), (15, u "in"), (17, u "initialIn"), (0, u "Ljava/io/InputStream;"), (35, u "bootLayer"), (0, u "Ljava/lang/ModuleLayer;"), (99, .class_ 664), (0, u "java/lang/System$2"), (9, u "NEVER"), (2, u "MAYBE"), (49, u "arraycopy"), (0, u "(Ljava/lang/Object;ILjava/lang/Object;II)V"), (72, .class_ 802), (0, u "java/lang/System$Logger$Level")] 31

def k14m0 : Method := { name := "<init>", desc := "()V", sig := { parameters := [], returnType := none }, accessFlags := 2, code := none }
def k14m1 : Method := { name := "arraycopy", desc := "(Ljava/lang/Object;ILjava/lang/Object;II)V", sig := { parameters := [(.object "java/lang/Object"), .int, (.object "java/lang/Object"), .int, .int], returnType := none }, accessFlags := 265, code := none }
/-- java/lang/System -/
def k14 : Class := { plain "java/lang/System" (some 0) with
  accessFlags := 49
  interfaces := #[]
  cf := some (fileOf pool14 8 #[.nestMembers #[319, 327, 801, 108, 663, 208]] #[{ accessFlags := 2, nameIndex := 5, descriptorIndex := 6, attributes := #[] }, { accessFlags := 265, nameIndex := 727, descriptorIndex := 728, attributes := #[] }] 49 2 #[] #[{ accessFlags := 25, nameIndex := 507, descriptorIndex := 526, attributes := #[] }, { accessFlags := 25, nameIndex := 399, descriptorIndex := 155, attributes := #[] }, { accessFlags := 25, nameIndex := 396, descriptorIndex := 155, attributes := #[] }, { accessFlags := 10, nameIndex := 525, descriptorIndex := 526, attributes := #[] }, { accessFlags := 26, nameIndex := 674, descriptorIndex := 12, attributes := #[] }, { accessFlags := 26, nameIndex := 677, descriptorIndex := 12, attributes := #[] }, { accessFlags := 10, nameIndex := 11, descriptorIndex := 12, attributes := #[] }, { accessFlags := 74, nameIndex := 175, descriptorIndex := 176, attributes := #[] }, { accessFlags := 10, nameIndex := 491, descriptorIndex := 222, attributes := #[] }, { accessFlags := 74, nameIndex := 29, descriptorIndex := 30, attributes := #[] }, { accessFlags := 74, nameIndex := 154, descriptorIndex := 155, attributes := #[] }, { accessFlags := 10, nameIndex := 217, descriptorIndex := 218, attributes := #[] }, { accessFlags := 10, nameIndex := 221, descriptorIndex := 222, attributes := #[] }, { accessFlags := 8, nameIndex := 562, descriptorIndex := 563, attributes := #[] }])
  fields := #[{ name := "in", type := (.object "java/io/InputStream"), accessFlags := 25, slot := 0, constantValue := 0 }, { name := "out", type := (.object "java/io/PrintStream"), accessFlags := 25, slot := 1, constantValue := 0 }, { name := "err", type := (.object "java/io/PrintStream"), accessFlags := 25, slot := 2, constantValue := 0 }, { name := "initialIn", type := (.object "java/io/InputStream"), accessFlags := 10, slot := 3, constantValue := 0 }, { name := "NEVER", type := .int, accessFlags := 26, slot := 4, constantValue := 0 }, { name := "MAYBE", type := .int, accessFlags := 26, slot := 5, constantValue := 0 }, { name := "allowSecurityManager", type := .int, accessFlags := 10, slot := 6, constantValue := 0 }, { name := "security", type := (.object "java/lang/SecurityManager"), accessFlags := 74, slot := 7, constantValue := 0 }, { name := "notSupportedJnuEncoding", type := (.object "java/lang/String"), accessFlags := 10, slot := 8, constantValue := 0 }, { name := "cons", type := (.object "java/io/Console"), accessFlags := 74, slot := 9, constantValue := 0 }, { name := "initialErrStream", type := (.object "java/io/PrintStream"), accessFlags := 74, slot := 10, constantValue := 0 }, { name := "props", type := (.object "java/util/Properties"), accessFlags := 10, slot := 11, constantValue := 0 }, { name := "lineSeparator", type := (.object "java/lang/String"), accessFlags := 10, slot := 12, constantValue := 0 }, { name := "bootLayer", type := (.object "java/lang/ModuleLayer"), accessFlags := 8, slot := 13, constantValue := 0 }]
  methods := #[k14m0, k14m1]
  instanceTypes := #[]
  staticTypes := #[(.object "java/io/InputStream"), (.object "java/io/PrintStream"), (.object "java/io/PrintStream"), (.object "java/io/InputStream"), .int, .int, .int, (.object "java/lang/SecurityManager"), (.object "java/lang/String"), (.object "java/io/Console"), (.object "java/io/PrintStream"), (.object "java/util/Properties"), (.object "java/lang/String"), (.object "java/lang/ModuleLayer")]
  resolved := Array.replicate 834 none
  statics := none }

def pool15 : Array CpInfo := pool [(2, .class_ 4), (1, u "java/lang/Object"), (0, u "<init>"), (0, u "()V"), (1, .class_ 10), (1, u "java/lang/Number"), (2, .class_ 14), (0, u "java/io/Serializable"), (0, u "serialVersionUID"), (0, u "J")] 20

def k15m0 : Method := { name := "<init>", desc := "()V", sig := { parameters := [], returnType := none }, accessFlags := 1, code := none }
/-- java/lang/Number -/
def k15 : Class := { plain "java/lang/Number" (some 0) with
  accessFlags := 1057
  interfaces := #[2]
  cf := some (fileOf pool15 8 #[] #[{ accessFlags := 1, nameIndex := 5, descriptorIndex := 6, attributes := #[] }] 1057 2 #[13] #[{ accessFlags := 26, nameIndex := 15, descriptorIndex := 16, attributes := #[] }])
  fields := #[{ name := "serialVersionUID", type := .long, accessFlags := 26, slot := 0, constantValue := 0 }]
  methods := #[k15m0]
  instanceTypes := #[]
  staticTypes := #[.long]
  resolved := Array.replicate 37 none
  statics := none }

def pool16 : Array CpInfo := pool [(1, .class_ 2), (0, u "java/lang/Integer"), (16, u "digits"), (0, u "[C"), (33, u "(I)I"), (19, u "stringSize"), (2, u "getChars"), (0, u "(II[B)I"), (4, .fieldref 1 84), (0, .nameAndType 85 86), (0, u "DigitOnes"), (0, u "[B"), (0, .fieldref 1 88), (0, .nameAndType 89 86), (0, u "DigitTens"), (99, .class_ 190), (0, u "java/lang/Integer$IntegerCache"), (3, u "I"), (8, .class_ 204), (0, u "java/lang/Number"), (2, u "value"), (94, u "TYPE"), (0, u "Ljava/lang/Class;"), (0, .class_ 305), (0, u "java/lang/Comparable"), (0, .class_ 307), (0, u "java/lang/constant/Constable"), (0, .class_ 309), (0, u "java/lang/constant/ConstantDesc"), (0, u "MIN_VALUE"), (1, u "MAX_VALUE"), (3, u "SIZE"), (1, u "BYTES"), (1, u "serialVersionUID"), (0, u "J")] 131

def k16c0 : Code := { maxStack := 4, maxLocals := 7, code := jdk_33_method_12_code, exceptionTable := #[], attributes := #[] }
def k16m0 : Method := { name := "getChars", desc := "(II[B)I", sig := { parameters := [.int, .int, (.array .byte)], returnType := some .int }, accessFlags := 8, code := some k16c0 }
def k16c1 : Code := { maxStack := 2, maxLocals := 4, code := jdk_33_method_13_code, exceptionTable := #[], attributes := #[] }
def k16m1 : Method := { name := "stringSize", desc := "(I)I", sig := { parameters := [.int], returnType := some .int }, accessFlags := 8, code := some k16c1 }
/-- java/lang/Integer -/
def k16 : Class := { plain "java/lang/Integer" (some 15) with
  accessFlags := 49
  interfaces := #[3, 5, 6]
  cf := some (fileOf pool16 1 #[.nestMembers #[189]] #[{ accessFlags := 8, nameIndex := 77, descriptorIndex := 78, attributes := #[] }, { accessFlags := 8, nameIndex := 74, descriptorIndex := 54, attributes := #[] }] 49 203 #[304, 306, 308] #[{ accessFlags := 25, nameIndex := 310, descriptorIndex := 194, attributes := #[] }, { accessFlags := 25, nameIndex := 312, descriptorIndex := 194, attributes := #[] }, { accessFlags := 25, nameIndex := 302, descriptorIndex := 303, attributes := #[] }, { accessFlags := 24, nameIndex := 19, descriptorIndex := 20, attributes := #[] }, { accessFlags := 24, nameIndex := 89, descriptorIndex := 86, attributes := #[] }, { accessFlags := 24, nameIndex := 85, descriptorIndex := 86, attributes := #[] }, { accessFlags := 18, nameIndex := 207, descriptorIndex := 194, attributes := #[] }, { accessFlags := 25, nameIndex := 316, descriptorIndex := 194, attributes := #[] }, { accessFlags := 25, nameIndex := 318, descriptorIndex := 194, attributes := #[] }, { accessFlags := 26, nameIndex := 320, descriptorIndex := 321, attributes := #[] }])
  fields := #[{ name := "MIN_VALUE", type := .int, accessFlags := 25, slot := 0, constantValue := 0 }, { name := "MAX_VALUE", type := .int, accessFlags := 25, slot := 1, constantValue := 0 }, { name := "TYPE", type := (.object "java/lang/Class"), accessFlags := 25, slot := 2, constantValue := 0 }, { name := "digits", type := (.array .char), accessFlags := 24, slot := 3, constantValue := 0 }, { name := "DigitTens", type := (.array .byte), accessFlags := 24, slot := 4, constantValue := 0 }, { name := "DigitOnes", type := (.array .byte), accessFlags := 24, slot := 5, constantValue := 0 }, { name := "value", type := .int, accessFlags := 18, slot := 0, constantValue := 0 }, { name := "SIZE", type := .int, accessFlags := 25, slot := 6, constantValue := 0 }, { name := "BYTES", type := .int, accessFlags := 25, slot := 7, constantValue := 0 }, { name := "serialVersionUID", type := .long, accessFlags := 26, slot := 8, constantValue := 0 }]
  methods := #[k16m0, k16m1]
  instanceTypes := #[.int]
  staticTypes := #[.int, .int, (.object "java/lang/Class"), (.array .char), (.array .byte), (.array .byte), .int, .int, .long]
  resolved := Array.replicate 453 none
  statics := some 1 }

def pool17 : Array CpInfo := pool [(2, .class_ 4), (1, u "java/lang/Object"), (0, u "<init>"), (0, u "()V"), (7, .class_ 16), (1, u "java/util/Arrays"), (57, .class_ 76), (1, u "java/util/Arrays$NaturalOrder"), (36, .class_ 115), (1, u "java/util/Arrays$LegacyMergeSort"), (1, u "Z"), (21, u "copyOfRange"), (10, .methodref 151 152), (0, .class_ 153), (0, .nameAndType 154 155), (0, u "java/lang/System"), (0, u "arraycopy"), (0, u "(Ljava/lang/Object;ILjava/lang/Object;II)V"), (148, .methodref 305 306), (0, .class_ 307), (0, .nameAndType 308 309), (0, u "java/lang/Math"), (0, u "min"), (0, u "(II)I"), (29, .methodref 14 340), (0, .nameAndType 341 342), (0, u "copyOfRangeByte"), (0, u "([BII)[B"), (0, .methodref 14 344), (0, .nameAndType 345 346), (0, u "checkLength"), (0, u "(II)V"), (28, .class_ 376), (0, u "java/util/Arrays$ArrayList"), (68, u "$assertionsDisabled"), (269, u "MIN_ARRAY_SORT_GRAN"), (0, u "I"), (2, u "INSERTIONSORT_THRESHOLD"), (255, .class_ 976), (0, u "java/util/Arrays$ArrayItr")] 52

def k17m0 : Method := { name := "<init>", desc := "()V", sig := { parameters := [], returnType := none }, accessFlags := 2, code := none }
def k17c1 : Code := { maxStack := 4, maxLocals := 2, code := jdk_65_method_131_code, exceptionTable := #[], attributes := #[] }
def k17m1 : Method := { name := "checkLength", desc := "(II)V", sig := { parameters := [.int, .int], returnType := none }, accessFlags := 10, code := some k17c1 }
def k17c2 : Code := { maxStack := 3, maxLocals := 3, code := jdk_65_method_132_code, exceptionTable := #[], attributes := #[] }
def k17m2 : Method := { name := "copyOfRange", desc := "([BII)[B", sig := { parameters := [(.array .byte), .int, .int], returnType := some (.array .byte) }, accessFlags := 9, code := some k17c2 }
def k17c3 : Code := { maxStack := 6, maxLocals := 5, code := jdk_65_method_133_code, exceptionTable := #[], attributes := #[] }
def k17m3 : Method := { name := "copyOfRangeByte", desc := "([BII)[B", sig := { parameters := [(.array .byte), .int, .int], returnType := some (.array .byte) }, accessFlags := 10, code := some k17c3 }
/-- java/util/Arrays -/
def k17 : Class := { plain "java/util/Arrays" (some 0) with
  accessFlags := 49
  interfaces := #[]
  cf := some (fileOf pool17 14 #[.nestMembers #[975, 375, 113, 74]] #[{ accessFlags := 2, nameIndex := 5, descriptorIndex := 6, attributes := #[] }, { accessFlags := 10, nameIndex := 345, descriptorIndex := 346, attributes := #[] }, { accessFlags := 9, nameIndex := 139, descriptorIndex := 342, attributes := #[] }, { accessFlags := 10, nameIndex := 341, descriptorIndex := 342, attributes := #[] }] 49 2 #[] #[{ accessFlags := 26, nameIndex := 715, descriptorIndex := 716, attributes := #[] }, { accessFlags := 26, nameIndex := 719, descriptorIndex := 716, attributes := #[] }, { accessFlags := 4120, nameIndex := 445, descriptorIndex := 117, attributes := #[] }])
  fields := #[{ name := "MIN_ARRAY_SORT_GRAN", type := .int, accessFlags := 26, slot := 0, constantValue := 0 }, { name := "INSERTIONSORT_THRESHOLD", type := .int, accessFlags := 26, slot := 1, constantValue := 0 }, { name := "$assertionsDisabled", type := .boolean, accessFlags := 4120, slot := 2, constantValue := 0 }]
  methods := #[k17m0, k17m1, k17m2, k17m3]
  instanceTypes := #[]
  staticTypes := #[.int, .int, .boolean]
  resolved := Array.replicate 1029 none
  statics := none }

def pool18 : Array CpInfo := pool [(1, .class_ 2), (0, u "java/lang/Math"), (1, .class_ 6), (1, u "java/lang/Object"), (0, u "<init>"), (0, u "()V"), (89, .class_ 100), (1, u "java/lang/Math$RandomNumberGeneratorHolder"), (23, u "abs"), (0, u "(J)J"), (46, u "negativeZeroFloatBits"), (0, u "J"), (2, u "negativeZeroDoubleBits"), (24, u "min"), (43, u "$assertionsDisabled"), (0, u "Z"), (88, u "(II)I"), (2, u "twoToTheDoubleScaleDown"), (0, u "D"), (4, u "twoToTheDoubleScaleUp"), (9, u "E"), (3, u "PI"), (2, u "TAU"), (2, u "DEGREES_TO_RADIANS"), (0, u "RADIANS_TO_DEGREES")] 94

def k18m0 : Method := { name := "<init>", desc := "()V", sig := { parameters := [], returnType := none }, accessFlags := 2, code := none }
def k18c1 : Code := { maxStack := 4, maxLocals := 2, code := jdk_29_method_61_code, exceptionTable := #[], attributes := #[] }
def k18m1 : Method := { name := "abs", desc := "(J)J", sig := { parameters := [.long], returnType := some .long }, accessFlags := 9, code := some k18c1 }
def k18c2 : Code := { maxStack := 2, maxLocals := 2, code := jdk_29_method_69_code, exceptionTable := #[], attributes := #[] }
def k18m2 : Method := { name := "min", desc := "(II)I", sig := { parameters := [.int, .int], returnType := some .int }, accessFlags := 9, code := some k18c2 }
/-- java/lang/Math -/
def k18 : Class := { plain "java/lang/Math" (some 0) with
  accessFlags := 49
  interfaces := #[]
  cf := some (fileOf pool18 1 #[.nestMembers #[98]] #[{ accessFlags := 2, nameIndex := 7, descriptorIndex := 8, attributes := #[] }, { accessFlags := 9, nameIndex := 124, descriptorIndex := 125, attributes := #[] }, { accessFlags := 9, nameIndex := 201, descriptorIndex := 335, attributes := #[] }] 49 4 #[] #[{ accessFlags := 25, nameIndex := 354, descriptorIndex := 339, attributes := #[] }, { accessFlags := 25, nameIndex := 358, descriptorIndex := 339, attributes := #[] }, { accessFlags := 25, nameIndex := 361, descriptorIndex := 339, attributes := #[] }, { accessFlags := 26, nameIndex := 364, descriptorIndex := 339, attributes := #[] }, { accessFlags := 26, nameIndex := 365, descriptorIndex := 339, attributes := #[] }, { accessFlags := 26, nameIndex := 172, descriptorIndex := 173, attributes := #[] }, { accessFlags := 26, nameIndex := 176, descriptorIndex := 173, attributes := #[] }, { accessFlags := 8, nameIndex := 344, descriptorIndex := 339, attributes := #[] }, { accessFlags := 8, nameIndex := 338, descriptorIndex := 339, attributes := #[] }, { accessFlags := 4120, nameIndex := 245, descriptorIndex := 246, attributes := #[] }])
  fields := #[{ name := "E", type := .double, accessFlags := 25, slot := 0, constantValue := 0 }, { name := "PI", type := .double, accessFlags := 25, slot := 1, constantValue := 0 }, { name := "TAU", type := .double, accessFlags := 25, slot := 2, constantValue := 0 }, { name := "DEGREES_TO_RADIANS", type := .double, accessFlags := 26, slot := 3, constantValue := 0 }, { name := "RADIANS_TO_DEGREES", type := .double, accessFlags := 26, slot := 4, constantValue := 0 }, { name := "negativeZeroFloatBits", type := .long, accessFlags := 26, slot := 5, constantValue := 0 }, { name := "negativeZeroDoubleBits", type := .long, accessFlags := 26, slot := 6, constantValue := 0 }, { name := "twoToTheDoubleScaleUp", type := .double, accessFlags := 8, slot := 7, constantValue := 0 }, { name := "twoToTheDoubleScaleDown", type := .double, accessFlags := 8, slot := 8, constantValue := 0 }, { name := "$assertionsDisabled", type := .boolean, accessFlags := 4120, slot := 9, constantValue := 0 }]
  methods := #[k18m0, k18m1, k18m2]
  instanceTypes := #[]
  staticTypes := #[.double, .double, .double, .double, .double, .long, .long, .double, .double, .boolean]
  resolved := Array.replicate 460 none
  statics := none }

def pool19 : Array CpInfo := pool [(1, .class_ 2), (0, u "java/lang/String"), (1, .class_ 6), (1, u "java/lang/Object"), (0, u "<init>"), (0, u "()V"), (0, .methodref 1 10), (0, .nameAndType 11 12), (0, u "checkIndex"), (0, u "(II)V"), (1, .class_ 16), (1, u "java/lang/StringLatin1"), (36, u "([BI)C"), (36, u "canEncode"), (14, u "(C)Z"), (15, u "$assertionsDisabled"), (0, u "Z"), (98, .class_ 223), (1, u "java/lang/StringLatin1$LinesSpliterator"), (28, u "charAt"), (127, u "toBytes"), (1, u "(C)[B"), (7, .class_ 391), (0, u "java/lang/StringLatin1$CharsSpliterator")] 3

def k19m0 : Method := { name := "<init>", desc := "()V", sig := { parameters := [], returnType := none }, accessFlags := 0, code := none }
def k19c1 : Code := { maxStack := 2, maxLocals := 2, code := jdk_43_method_2_code, exceptionTable := #[], attributes := #[] }
def k19m1 : Method := { name := "charAt", desc := "([BI)C", sig := { parameters := [(.array .byte), .int], returnType := some .char }, accessFlags := 9, code := some k19c1 }
def k19c2 : Code := { maxStack := 2, maxLocals := 1, code := jdk_43_method_3_code, exceptionTable := #[], attributes := #[] }
def k19m2 : Method := { name := "canEncode", desc := "(C)Z", sig := { parameters := [.char], returnType := some .boolean }, accessFlags := 9, code := some k19c2 }
def k19c3 : Code := { maxStack := 4, maxLocals := 1, code := jdk_43_method_46_code, exceptionTable := #[], attributes := #[] }
def k19m3 : Method := { name := "toBytes", desc := "(C)[B", sig := { parameters := [.char], returnType := some (.array .byte) }, accessFlags := 9, code := some k19c3 }
/-- java/lang/StringLatin1 -/
def k19 : Class := { plain "java/lang/StringLatin1" (some 0) with
  accessFlags := 48
  interfaces := #[]
  cf := some (fileOf pool19 14 #[.nestMembers #[390, 221]] #[{ accessFlags := 0, nameIndex := 7, descriptorIndex := 8, attributes := #[] }, { accessFlags := 9, nameIndex := 252, descriptorIndex := 53, attributes := #[] }, { accessFlags := 9, nameIndex := 90, descriptorIndex := 105, attributes := #[] }, { accessFlags := 9, nameIndex := 380, descriptorIndex := 382, attributes := #[] }] 48 4 #[] #[{ accessFlags := 4120, nameIndex := 121, descriptorIndex := 122, attributes := #[] }])
  fields := #[{ name := "$assertionsDisabled", type := .boolean, accessFlags := 4120, slot := 0, constantValue := 0 }]
  methods := #[k19m0, k19m1, k19m2, k19m3]
  instanceTypes := #[]
  staticTypes := #[.boolean]
  resolved := Array.replicate 395 none
  statics := none }

def pool20 : Array CpInfo := pool [(2, .class_ 4), (1, u "java/lang/Object"), (0, u "<init>"), (0, u "()V"), (17, .class_ 26), (1, u "jdk/internal/util/Preconditions"), (6, u "checkIndex"), (21, .class_ 56), (0, u "jdk/internal/util/Preconditions$4"), (57, .class_ 115), (0, u "jdk/internal/util/Preconditions$1"), (7, u "SIOOBE_FORMATTER"), (0, u "Ljava/util/function/BiFunction;"), (0, .class_ 126), (0, u "jdk/internal/util/Preconditions$2"), (3, u "AIOOBE_FORMATTER"), (0, .class_ 132), (0, u "jdk/internal/util/Preconditions$3"), (3, u "IOOBE_FORMATTER"), (41, u "(IILjava/util/function/BiFunction;)I")] 15

def k20m0 : Method := { name := "<init>", desc := "()V", sig := { parameters := [], returnType := none }, accessFlags := 1, code := none }
def k20c1 : Code := { maxStack := 3, maxLocals := 3, code := jdk_41_method_11_code, exceptionTable := #[], attributes := #[] }
def k20m1 : Method := { name := "checkIndex", desc := "(IILjava/util/function/BiFunction;)I", sig := { parameters := [.int, .int, (.object "java/util/function/BiFunction")], returnType := some .int }, accessFlags := 9, code := some k20c1 }
/-- jdk/internal/util/Preconditions -/
def k20 : Class := { plain "jdk/internal/util/Preconditions" (some 0) with
  accessFlags := 33
  interfaces := #[]
  cf := some (fileOf pool20 24 #[.nestMembers #[55, 131, 125, 114]] #[{ accessFlags := 1, nameIndex := 5, descriptorIndex := 6, attributes := #[] }, { accessFlags := 9, nameIndex := 33, descriptorIndex := 178, attributes := #[] }] 33 2 #[] #[{ accessFlags := 25, nameIndex := 123, descriptorIndex := 124, attributes := #[] }, { accessFlags := 25, nameIndex := 130, descriptorIndex := 124, attributes := #[] }, { accessFlags := 25, nameIndex := 136, descriptorIndex := 124, attributes := #[] }])
  fields := #[{ name := "SIOOBE_FORMATTER", type := (.object "java/util/function/BiFunction"), accessFlags := 25, slot := 0, constantValue := 0 }, { name := "AIOOBE_FORMATTER", type := (.object "java/util/function/BiFunction"), accessFlags := 25, slot := 1, constantValue := 0 }, { name := "IOOBE_FORMATTER", type := (.object "java/util/function/BiFunction"), accessFlags := 25, slot := 2, constantValue := 0 }]
  methods := #[k20m0, k20m1]
  instanceTypes := #[]
  staticTypes := #[(.object "java/util/function/BiFunction"), (.object "java/util/function/BiFunction"), (.object "java/util/function/BiFunction")]
  resolved := Array.replicate 194 none
  statics := some 2 }

def pool21 : Array CpInfo := pool [(9, u "<init>"), (6, .class_ 18), (1, u "java/lang/Object"), (0, u "()V"), (1, .class_ 23), (1, u "jdk/internal/util/ArraysSupport"), (0, u "LOG2_ARRAY_LONG_INDEX_SCALE"), (0, u "I"), (2, u "U"), (0, u "Ljdk/internal/misc/Unsafe;"), (8, u "BIG_ENDIAN"), (0, u "Z"), (8, u "LOG2_BYTE_BIT_SIZE"), (4, u "LOG2_ARRAY_INT_INDEX_SCALE"), (54, u "JLA"), (0, u "Ljdk/internal/access/JavaLangAccess;"), (11, u "LOG2_ARRAY_BOOLEAN_INDEX_SCALE"), (9, u "LOG2_ARRAY_BYTE_INDEX_SCALE"), (5, u "LOG2_ARRAY_CHAR_INDEX_SCALE"), (5, u "LOG2_ARRAY_SHORT_INDEX_SCALE"), (18, u "LOG2_ARRAY_FLOAT_INDEX_SCALE"), (24, u "LOG2_ARRAY_DOUBLE_INDEX_SCALE"), (89, u "T_BOOLEAN"), (2, u "T_CHAR"), (1, u "T_FLOAT"), (1, u "T_DOUBLE"), (1, u "T_BYTE"), (1, u "T_SHORT"), (1, u "T_INT"), (1, u "T_LONG"), (1, u "SOFT_MAX_ARRAY_LENGTH")] 83

def k21m0 : Method := { name := "<init>", desc := "()V", sig := { parameters := [], returnType := none }, accessFlags := 2, code := none }
/-- jdk/internal/util/ArraysSupport -/
def k21 : Class := { plain "jdk/internal/util/ArraysSupport" (some 0) with
  accessFlags := 33
  interfaces := #[]
  cf := some (fileOf pool21 21 #[] #[{ accessFlags := 2, nameIndex := 9, descriptorIndex := 19, attributes := #[] }] 33 16 #[] #[{ accessFlags := 24, nameIndex := 28, descriptorIndex := 29, attributes := #[] }, { accessFlags := 26, nameIndex := 38, descriptorIndex := 39, attributes := #[] }, { accessFlags := 25, nameIndex := 121, descriptorIndex := 25, attributes := #[] }, { accessFlags := 25, nameIndex := 131, descriptorIndex := 25, attributes := #[] }, { accessFlags := 25, nameIndex := 137, descriptorIndex := 25, attributes := #[] }, { accessFlags := 25, nameIndex := 143, descriptorIndex := 25, attributes := #[] }, { accessFlags := 25, nameIndex := 53, descriptorIndex := 25, attributes := #[] }, { accessFlags := 25, nameIndex := 24, descriptorIndex := 25, attributes := #[] }, { accessFlags := 25, nameIndex := 162, descriptorIndex := 25, attributes := #[] }, { accessFlags := 25, nameIndex := 187, descriptorIndex := 25, attributes := #[] }, { accessFlags := 26, nameIndex := 48, descriptorIndex := 25, attributes := #[] }, { accessFlags := 25, nameIndex := 277, descriptorIndex := 25, attributes := #[] }, { accessFlags := 25, nameIndex := 280, descriptorIndex := 25, attributes := #[] }, { accessFlags := 25, nameIndex := 282, descriptorIndex := 25, attributes := #[] }, { accessFlags := 25, nameIndex := 284, descriptorIndex := 25, attributes := #[] }, { accessFlags := 25, nameIndex := 286, descriptorIndex := 25, attributes := #[] }, { accessFlags := 25, nameIndex := 288, descriptorIndex := 25, attributes := #[] }, { accessFlags := 25, nameIndex := 290, descriptorIndex := 25, attributes := #[] }, { accessFlags := 25, nameIndex := 292, descriptorIndex := 25, attributes := #[] }, { accessFlags := 26, nameIndex := 108, descriptorIndex := 109, attributes := #[] }, { accessFlags := 25, nameIndex := 294, descriptorIndex := 25, attributes := #[] }])
  fields := #[{ name := "U", type := (.object "jdk/internal/misc/Unsafe"), accessFlags := 24, slot := 0, constantValue := 0 }, { name := "BIG_ENDIAN", type := .boolean, accessFlags := 26, slot := 1, constantValue := 0 }, { name := "LOG2_ARRAY_BOOLEAN_INDEX_SCALE", type := .int, accessFlags := 25, slot := 2, constantValue := 0 }, { name := "LOG2_ARRAY_BYTE_INDEX_SCALE", type := .int, accessFlags := 25, slot := 3, constantValue := 0 }, { name := "LOG2_ARRAY_CHAR_INDEX_SCALE", type := .int, accessFlags := 25, slot := 4, constantValue := 0 }, { name := "LOG2_ARRAY_SHORT_INDEX_SCALE", type := .int, accessFlags := 25, slot := 5, constantValue := 0 }, { name := "LOG2_ARRAY_INT_INDEX_SCALE", type := .int, accessFlags := 25, slot := 6, constantValue := 0 }, { name := "LOG2_ARRAY_LONG_INDEX_SCALE", type := .int, accessFlags := 25, slot := 7, constantValue := 0 }, { name := "LOG2_ARRAY_FLOAT_INDEX_SCALE", type := .int, accessFlags := 25, slot := 8, constantValue := 0 }, { name := "LOG2_ARRAY_DOUBLE_INDEX_SCALE", type := .int, accessFlags := 25, slot := 9, constantValue := 0 }, { name := "LOG2_BYTE_BIT_SIZE", type := .int, accessFlags := 26, slot := 10, constantValue := 0 }, { name := "T_BOOLEAN", type := .int, accessFlags := 25, slot := 11, constantValue := 0 }, { name := "T_CHAR", type := .int, accessFlags := 25, slot := 12, constantValue := 0 }, { name := "T_FLOAT", type := .int, accessFlags := 25, slot := 13, constantValue := 0 }, { name := "T_DOUBLE", type := .int, accessFlags := 25, slot := 14, constantValue := 0 }, { name := "T_BYTE", type := .int, accessFlags := 25, slot := 15, constantValue := 0 }, { name := "T_SHORT", type := .int, accessFlags := 25, slot := 16, constantValue := 0 }, { name := "T_INT", type := .int, accessFlags := 25, slot := 17, constantValue := 0 }, { name := "T_LONG", type := .int, accessFlags := 25, slot := 18, constantValue := 0 }, { name := "JLA", type := (.object "jdk/internal/access/JavaLangAccess"), accessFlags := 26, slot := 19, constantValue := 0 }, { name := "SOFT_MAX_ARRAY_LENGTH", type := .int, accessFlags := 25, slot := 20, constantValue := 0 }]
  methods := #[k21m0]
  instanceTypes := #[]
  staticTypes := #[(.object "jdk/internal/misc/Unsafe"), .boolean, .int, .int, .int, .int, .int, .int, .int, .int, .int, .int, .int, .int, .int, .int, .int, .int, .int, (.object "jdk/internal/access/JavaLangAccess"), .int]
  resolved := Array.replicate 378 none
  statics := none }

def pool22 : Array CpInfo := pool [(1, u "java/lang/Cloneable"), (0, .class_ 1), (0, u "java/lang/Object"), (0, .class_ 3)] 3

/-- java/lang/Cloneable -/
def k22 : Class := { plain "java/lang/Cloneable" (some 0) with
  accessFlags := 1537
  interfaces := #[]
  cf := some (fileOf pool22 2 #[] #[] 1537 4 #[] #[])
  fields := #[]
  methods := #[]
  instanceTypes := #[]
  staticTypes := #[]
  resolved := Array.replicate 8 none
  statics := none }

/-- the primitive byte -/
def k23 : Class := { plain "byte" none with kind := .primitive 'B', accessFlags := 0x411 }
/-- [B -/
def k24 : Class := { plain "[B" (some 0) with kind := .array 23 .byte, interfaces := #[22, 2], accessFlags := 1041 }

/-- the primitive char -/
def k25 : Class := { plain "char" none with kind := .primitive 'C', accessFlags := 0x411 }
/-- [C -/
def k26 : Class := { plain "[C" (some 0) with kind := .array 25 .char, interfaces := #[22, 2], accessFlags := 1041 }

/-- the primitive int -/
def k27 : Class := { plain "int" none with kind := .primitive 'I', accessFlags := 0x411 }
/-- [I -/
def k28 : Class := { plain "[I" (some 0) with kind := .array 27 .int, interfaces := #[22, 2], accessFlags := 1041 }

/-- the primitive long -/
def k29 : Class := { plain "long" none with kind := .primitive 'J', accessFlags := 0x411 }
/-- [J -/
def k30 : Class := { plain "[J" (some 0) with kind := .array 29 .long, interfaces := #[22, 2], accessFlags := 1041 }

def heap : Heap := #[{ cls := 7, slots := #[.long 0, .int 1, .null, .int 0, .null, .int 0, .int 0], vm := .statics 7 },
  { cls := 16, slots := #[.int 0, .int 0, .null, .null, .ref 4, .ref 3, .int 0, .int 0, .long 0], vm := .statics 16 },
  { cls := 20, slots := #[.null, .null, .null], vm := .statics 20 },
  { cls := 24, slots := #[.int 48, .int 49, .int 50, .int 51, .int 52, .int 53, .int 54, .int 55, .int 56, .int 57, .int 48, .int 49, .int 50, .int 51, .int 52, .int 53, .int 54, .int 55, .int 56, .int 57, .int 48, .int 49, .int 50, .int 51, .int 52, .int 53, .int 54, .int 55, .int 56, .int 57, .int 48, .int 49, .int 50, .int 51, .int 52, .int 53, .int 54, .int 55, .int 56, .int 57, .int 48, .int 49, .int 50, .int 51, .int 52, .int 53, .int 54, .int 55, .int 56, .int 57, .int 48, .int 49, .int 50, .int 51, .int 52, .int 53, .int 54, .int 55, .int 56, .int 57, .int 48, .int 49, .int 50, .int 51, .int 52, .int 53, .int 54, .int 55, .int 56, .int 57, .int 48, .int 49, .int 50, .int 51, .int 52, .int 53, .int 54, .int 55, .int 56, .int 57, .int 48, .int 49, .int 50, .int 51, .int 52, .int 53, .int 54, .int 55, .int 56, .int 57, .int 48, .int 49, .int 50, .int 51, .int 52, .int 53, .int 54, .int 55, .int 56, .int 57], vm := .none },
  { cls := 24, slots := #[.int 48, .int 48, .int 48, .int 48, .int 48, .int 48, .int 48, .int 48, .int 48, .int 48, .int 49, .int 49, .int 49, .int 49, .int 49, .int 49, .int 49, .int 49, .int 49, .int 49, .int 50, .int 50, .int 50, .int 50, .int 50, .int 50, .int 50, .int 50, .int 50, .int 50, .int 51, .int 51, .int 51, .int 51, .int 51, .int 51, .int 51, .int 51, .int 51, .int 51, .int 52, .int 52, .int 52, .int 52, .int 52, .int 52, .int 52, .int 52, .int 52, .int 52, .int 53, .int 53, .int 53, .int 53, .int 53, .int 53, .int 53, .int 53, .int 53, .int 53, .int 54, .int 54, .int 54, .int 54, .int 54, .int 54, .int 54, .int 54, .int 54, .int 54, .int 55, .int 55, .int 55, .int 55, .int 55, .int 55, .int 55, .int 55, .int 55, .int 55, .int 56, .int 56, .int 56, .int 56, .int 56, .int 56, .int 56, .int 56, .int 56, .int 56, .int 57, .int 57, .int 57, .int 57, .int 57, .int 57, .int 57, .int 57, .int 57, .int 57], vm := .none }]
def classes : Array Class := #[k0, k1, k2, k3, k4, k5, k6, k7, k8, k9, k10, k11, k12, k13, k14, k15, k16, k17, k18, k19, k20, k21, k22, k23, k24, k25, k26, k27, k28, k29, k30]
def interned : List (Array UInt16 × Addr) := []
def slotsUsed : Nat := 219
def theMethod : MethodId := ⟨1, 1⟩
def args0 : Array Value := #[.int 65, .int 66, .int 2, .int (-37), .int 0]
def aboutOver (below : List Frame) : State where
  vm := { classes := classes, interned := interned.toArray }
  heap := heap
  slotsUsed := slotsUsed
  threads := #[{ frames := .invoking theMethod args0 :: below }]
def below0 : List Frame := [.native { method := ⟨0, 0⟩, args := #[] }]
def about1 : State := aboutOver below0
def p0 : Program := .bare "" "" ""
def e0 : Env := launch0.env 0 0 0
theorem w_frames : about1.frames = Frame.invoking theMethod args0 :: below0 := rfl
set_option maxRecDepth 65536 in
theorem w_args : argsFit about1.vm theMethod args0 = true := by decide +kernel
set_option maxRecDepth 65536 in
theorem w_heap : heapFits about1 = true := by decide +kernel
set_option maxRecDepth 65536 in
theorem w_runnable : about1.curStatus? = some .runnable := by decide +kernel
set_option maxRecDepth 65536 in
theorem w_alone : about1.alone = true := by decide +kernel
set_option maxRecDepth 65536 in
theorem w_named : about1.methodNamed? x = some theMethod := by decide +kernel
set_option maxRecDepth 65536 in
theorem w_hears : about1.hears theMethod below0 = true := by decide +kernel
set_option maxRecDepth 65536 in
theorem w_ripe : about1.ripe theMethod args0 below0 = true := by decide +kernel
theorem w_running : about1.status = .running := rfl
set_option maxRecDepth 65536 in
theorem w_room : about1.hasRoom e0.platform room_1 = true :=
  launch0.hasRoom_least _ room_1 (by decide +kernel) (by decide +kernel) (by decide +kernel) (by decide +kernel) (by decide +kernel) (by decide +kernel)
theorem allAtoms_all (ts : List Jvm.Cond) (a : Array Jvm.Value) (st : Jvm.State) : (allAtoms ts).before a st = ts.all (fun c => c.before a st) := by
  induction ts with
  | nil => rfl
  | cons c t ih =>
    show (Jvm.Cond.and c (allAtoms t)).before a st = _
    rw [Jvm.Cond.before_and, ih, List.all_cons]
def words1 : List Jvm.Cond := Jvm.Cond.code x code maxLocals ret :: tables_1
/-- a 'code' word, met by the world's own term for the bytes: nothing is compared byte by byte -/
theorem code_word {y : MethodName} {bytes : ByteArray} {mx : Nat} {rt : Option FieldType} {a : Array Value} {s : State} {m : MethodId} {meth : Method} {c : Code} (h1 : s.methodNamed? y = some m) (h2 : s.vm.method? m = some meth) (h3 : meth.code = some c) (h4 : c.code = bytes)
    (h5 : (c.maxLocals == mx && c.exceptionTable.isEmpty && decide (c.maxStack ≤ mostOperands) && decide (meth.sig.returnType = rt) && !meth.locks && decide (parseMethodDescriptor y.desc = some meth.sig)) = true) : (Jvm.Cond.code y bytes mx rt).before a s = true := by
  simp only [Bool.and_eq_true, beq_iff_eq, Bool.not_eq_true', decide_eq_true_eq] at h5
  obtain ⟨⟨⟨⟨⟨g1, g2⟩, g3⟩, g4⟩, g5⟩, g6⟩ := h5
  simp [Cond.before, Cond.holds, Cond.value, h1, h2, h3, h4, g1, g2, g3, g4, g5, g6]
def isCode : Jvm.Cond → Bool
  | .code _ _ _ _ => true
  | _ => false
theorem all_split {L : List Jvm.Cond} {P : Jvm.Cond → Bool} (h1 : L.all (fun c => isCode c || P c) = true) (h2 : ∀ c ∈ L.filter isCode, P c = true) : L.all P = true := by
  refine List.all_eq_true.mpr fun c hc => ?_
  have h := List.all_eq_true.mp h1 c hc
  rcases Bool.eq_false_or_eq_true (isCode c) with hi | hi
  · exact h2 c (List.mem_filter.mpr ⟨hc, hi⟩)
  · simpa [hi] using h
set_option maxRecDepth 65536 in
theorem w_c0 : (Jvm.Cond.code x code maxLocals ret).before args0 about1 = true := code_word (m := ⟨1, 1⟩) (meth := k1m1) (c := k1c1) (by decide +kernel) rfl rfl rfl (by decide +kernel)
set_option maxRecDepth 65536 in
theorem w_c1 : (Jvm.Cond.code ({ cls := "java/lang/String", name := "<init>", desc := "([C)V" } : Jvm.MethodName) jdk_42_method_3_code (2 : Nat) (Option.none : Option Jvm.ClassFile.FieldType)).before args0 about1 = true := code_word (m := ⟨7, 1⟩) (meth := k7m1) (c := k7c1) (by decide +kernel) rfl rfl rfl (by decide +kernel)
set_option maxRecDepth 65536 in
theorem w_c2 : (Jvm.Cond.code ({ cls := "java/lang/String", name := "<init>", desc := "([CIILjava/lang/Void;)V" } : Jvm.MethodName) jdk_42_method_149_code (6 : Nat) (Option.none : Option Jvm.ClassFile.FieldType)).before args0 about1 = true := code_word (m := ⟨7, 8⟩) (meth := k7m8) (c := k7c8) (by decide +kernel) rfl rfl rfl (by decide +kernel)
set_option maxRecDepth 65536 in
theorem w_c3 : (Jvm.Cond.code ({ cls := "java/lang/Object", name := "<init>", desc := "()V" } : Jvm.MethodName) object_method_1_code (1 : Nat) (Option.none : Option Jvm.ClassFile.FieldType)).before args0 about1 = true := code_word (m := ⟨0, 0⟩) (meth := k0m0) (c := k0c0) (by decide +kernel) rfl rfl rfl (by decide +kernel)
set_option maxRecDepth 65536 in
theorem w_c4 : (Jvm.Cond.code ({ cls := "java/lang/StringUTF16", name := "compress", desc := "([CII)[B" } : Jvm.MethodName) jdk_52_method_16_code (6 : Nat) (Option.some (Jvm.ClassFile.FieldType.array Jvm.ClassFile.FieldType.byte))).before args0 about1 = true := code_word (m := ⟨8, 2⟩) (meth := k8m2) (c := k8c2) (by decide +kernel) rfl rfl rfl (by decide +kernel)
set_option maxRecDepth 65536 in
theorem w_c5 : (Jvm.Cond.code ({ cls := "java/lang/StringUTF16", name := "compress", desc := "([CI[BII)I" } : Jvm.MethodName) jdk_52_method_21_code (7 : Nat) (Option.some Jvm.ClassFile.FieldType.int)).before args0 about1 = true := code_word (m := ⟨8, 3⟩) (meth := k8m3) (c := k8c3) (by decide +kernel) rfl rfl rfl (by decide +kernel)
set_option maxRecDepth 65536 in
theorem w_c6 : (Jvm.Cond.code ({ cls := "java/lang/StringUTF16", name := "coderFromArrayLen", desc := "([BI)B" } : Jvm.MethodName) jdk_52_method_15_code (2 : Nat) (Option.some Jvm.ClassFile.FieldType.byte)).before args0 about1 = true := code_word (m := ⟨8, 1⟩) (meth := k8m1) (c := k8c1) (by decide +kernel) rfl rfl rfl (by decide +kernel)
set_option maxRecDepth 65536 in
theorem w_c7 : (Jvm.Cond.code ({ cls := "com/example/wharfline/wharfline/runtime/Work", name := "<init>", desc := "(Ljava/lang/String;I)V" } : Jvm.MethodName) prog_41_method_1_code (3 : Nat) (Option.none : Option Jvm.ClassFile.FieldType)).before args0 about1 = true := code_word (m := ⟨10, 0⟩) (meth := k10m0) (c := k10c0) (by decide +kernel) rfl rfl rfl (by decide +kernel)
set_option maxRecDepth 65536 in
theorem w_c8 : (Jvm.Cond.code ({ cls := "java/lang/Record", name := "<init>", desc := "()V" } : Jvm.MethodName) jdk_30_method_1_code (1 : Nat) (Option.none : Option Jvm.ClassFile.FieldType)).before args0 about1 = true := code_word (m := ⟨9, 0⟩) (meth := k9m0) (c := k9c0) (by decide +kernel) rfl rfl rfl (by decide +kernel)
set_option maxRecDepth 65536 in
theorem w_c9 : (Jvm.Cond.code ({ cls := "com/example/wharfline/wharfline/runtime/Work", name := "toString", desc := "()Ljava/lang/String;" } : Jvm.MethodName) prog_41_method_6_code (1 : Nat) (Option.some (Jvm.ClassFile.FieldType.object "java/lang/String"))).before args0 about1 = true := code_word (m := ⟨10, 2⟩) (meth := k10m2) (c := k10c2) (by decide +kernel) rfl rfl rfl (by decide +kernel)
set_option maxRecDepth 65536 in
theorem w_c10 : (Jvm.Cond.code ({ cls := "com/example/wharfline/wharfline/runtime/Work", name := "isInstance", desc := "()Z" } : Jvm.MethodName) prog_41_method_4_code (1 : Nat) (Option.some Jvm.ClassFile.FieldType.boolean)).before args0 about1 = true := code_word (m := ⟨10, 1⟩) (meth := k10m1) (c := k10c1) (by decide +kernel) rfl rfl rfl (by decide +kernel)
set_option maxRecDepth 65536 in
theorem w_c11 : (Jvm.Cond.code ({ cls := "java/lang/StringBuilder", name := "<init>", desc := "()V" } : Jvm.MethodName) jdk_67_method_1_code (1 : Nat) (Option.none : Option Jvm.ClassFile.FieldType)).before args0 about1 = true := code_word (m := ⟨13, 0⟩) (meth := k13m0) (c := k13c0) (by decide +kernel) rfl rfl rfl (by decide +kernel)
set_option maxRecDepth 65536 in
theorem w_c12 : (Jvm.Cond.code ({ cls := "java/lang/AbstractStringBuilder", name := "<init>", desc := "(I)V" } : Jvm.MethodName) jdk_68_method_2_code (2 : Nat) (Option.none : Option Jvm.ClassFile.FieldType)).before args0 about1 = true := code_word (m := ⟨12, 1⟩) (meth := k12m1) (c := k12c1) (by decide +kernel) rfl rfl rfl (by decide +kernel)
set_option maxRecDepth 65536 in
theorem w_c13 : (Jvm.Cond.code ({ cls := "java/lang/StringBuilder", name := "append", desc := "(Ljava/lang/String;)Ljava/lang/StringBuilder;" } : Jvm.MethodName) jdk_67_method_7_code (2 : Nat) (Option.some (Jvm.ClassFile.FieldType.object "java/lang/StringBuilder"))).before args0 about1 = true := code_word (m := ⟨13, 1⟩) (meth := k13m1) (c := k13c1) (by decide +kernel) rfl rfl rfl (by decide +kernel)
set_option maxRecDepth 65536 in
theorem w_c14 : (Jvm.Cond.code ({ cls := "java/lang/AbstractStringBuilder", name := "append", desc := "(Ljava/lang/String;)Ljava/lang/AbstractStringBuilder;" } : Jvm.MethodName) jdk_68_method_22_code (3 : Nat) (Option.some (Jvm.ClassFile.FieldType.object "java/lang/AbstractStringBuilder"))).before args0 about1 = true := code_word (m := ⟨12, 4⟩) (meth := k12m4) (c := k12c4) (by decide +kernel) rfl rfl rfl (by decide +kernel)
set_option maxRecDepth 65536 in
theorem w_c15 : (Jvm.Cond.code ({ cls := "java/lang/String", name := "length", desc := "()I" } : Jvm.MethodName) jdk_42_method_54_code (1 : Nat) (Option.some Jvm.ClassFile.FieldType.int)).before args0 about1 = true := code_word (m := ⟨7, 3⟩) (meth := k7m3) (c := k7c3) (by decide +kernel) rfl rfl rfl (by decide +kernel)
set_option maxRecDepth 65536 in
theorem w_c16 : (Jvm.Cond.code ({ cls := "java/lang/String", name := "coder", desc := "()B" } : Jvm.MethodName) jdk_42_method_152_code (1 : Nat) (Option.some Jvm.ClassFile.FieldType.byte)).before args0 about1 = true := code_word (m := ⟨7, 11⟩) (meth := k7m11) (c := k7c11) (by decide +kernel) rfl rfl rfl (by decide +kernel)
set_option maxRecDepth 65536 in
theorem w_c17 : (Jvm.Cond.code ({ cls := "java/lang/AbstractStringBuilder", name := "ensureCapacityInternal", desc := "(I)V" } : Jvm.MethodName) jdk_68_method_9_code (3 : Nat) (Option.none : Option Jvm.ClassFile.FieldType)).before args0 about1 = true := code_word (m := ⟨12, 3⟩) (meth := k12m3) (c := k12c3) (by decide +kernel) rfl rfl rfl (by decide +kernel)
set_option maxRecDepth 65536 in
theorem w_c18 : (Jvm.Cond.code ({ cls := "java/lang/AbstractStringBuilder", name := "putStringAt", desc := "(ILjava/lang/String;)V" } : Jvm.MethodName) jdk_68_method_73_code (3 : Nat) (Option.none : Option Jvm.ClassFile.FieldType)).before args0 about1 = true := code_word (m := ⟨12, 9⟩) (meth := k12m9) (c := k12c9) (by decide +kernel) rfl rfl rfl (by decide +kernel)
set_option maxRecDepth 65536 in
theorem w_c19 : (Jvm.Cond.code ({ cls := "java/lang/AbstractStringBuilder", name := "inflateIfNeededFor", desc := "(Ljava/lang/String;)V" } : Jvm.MethodName) jdk_68_method_71_code (2 : Nat) (Option.none : Option Jvm.ClassFile.FieldType)).before args0 about1 = true := code_word (m := ⟨12, 8⟩) (meth := k12m8) (c := k12c8) (by decide +kernel) rfl rfl rfl (by decide +kernel)
set_option maxRecDepth 65536 in
theorem w_c20 : (Jvm.Cond.code ({ cls := "java/lang/String", name := "getBytes", desc := "([BIB)V" } : Jvm.MethodName) jdk_42_method_147_code (4 : Nat) (Option.none : Option Jvm.ClassFile.FieldType)).before args0 about1 = true := code_word (m := ⟨7, 7⟩) (meth := k7m7) (c := k7c7) (by decide +kernel) rfl rfl rfl (by decide +kernel)
set_option maxRecDepth 65536 in
theorem w_c21 : (Jvm.Cond.code ({ cls := "java/lang/StringBuilder", name := "append", desc := "(I)Ljava/lang/StringBuilder;" } : Jvm.MethodName) jdk_67_method_15_code (2 : Nat) (Option.some (Jvm.ClassFile.FieldType.object "java/lang/StringBuilder"))).before args0 about1 = true := code_word (m := ⟨13, 2⟩) (meth := k13m2) (c := k13c2) (by decide +kernel) rfl rfl rfl (by decide +kernel)
set_option maxRecDepth 65536 in
theorem w_c22 : (Jvm.Cond.code ({ cls := "java/lang/AbstractStringBuilder", name := "append", desc := "(I)Ljava/lang/AbstractStringBuilder;" } : Jvm.MethodName) jdk_68_method_32_code (4 : Nat) (Option.some (Jvm.ClassFile.FieldType.object "java/lang/AbstractStringBuilder"))).before args0 about1 = true := code_word (m := ⟨12, 5⟩) (meth := k12m5) (c := k12c5) (by decide +kernel) rfl rfl rfl (by decide +kernel)
set_option maxRecDepth 65536 in
theorem w_c23 : (Jvm.Cond.code ({ cls := "java/lang/Integer", name := "stringSize", desc := "(I)I" } : Jvm.MethodName) jdk_33_method_13_code (4 : Nat) (Option.some Jvm.ClassFile.FieldType.int)).before args0 about1 = true := code_word (m := ⟨16, 1⟩) (meth := k16m1) (c := k16c1) (by decide +kernel) rfl rfl rfl (by decide +kernel)
set_option maxRecDepth 65536 in
theorem w_c24 : (Jvm.Cond.code ({ cls := "java/lang/AbstractStringBuilder", name := "isLatin1", desc := "()Z" } : Jvm.MethodName) jdk_68_method_68_code (1 : Nat) (Option.some Jvm.ClassFile.FieldType.boolean)).before args0 about1 = true := code_word (m := ⟨12, 7⟩) (meth := k12m7) (c := k12c7) (by decide +kernel) rfl rfl rfl (by decide +kernel)
set_option maxRecDepth 65536 in
theorem w_c25 : (Jvm.Cond.code ({ cls := "java/lang/Integer", name := "getChars", desc := "(II[B)I" } : Jvm.MethodName) jdk_33_method_12_code (7 : Nat) (Option.some Jvm.ClassFile.FieldType.int)).before args0 about1 = true := code_word (m := ⟨16, 0⟩) (meth := k16m0) (c := k16c0) (by decide +kernel) rfl rfl rfl (by decide +kernel)
set_option maxRecDepth 65536 in
theorem w_c26 : (Jvm.Cond.code ({ cls := "java/lang/StringBuilder", name := "toString", desc := "()Ljava/lang/String;" } : Jvm.MethodName) jdk_67_method_42_code (1 : Nat) (Option.some (Jvm.ClassFile.FieldType.object "java/lang/String"))).before args0 about1 = true := code_word (m := ⟨13, 3⟩) (meth := k13m3) (c := k13c3) (by decide +kernel) rfl rfl rfl (by decide +kernel)
set_option maxRecDepth 65536 in
theorem w_c27 : (Jvm.Cond.code ({ cls := "java/lang/String", name := "<init>", desc := "(Ljava/lang/StringBuilder;)V" } : Jvm.MethodName) jdk_42_method_53_code (2 : Nat) (Option.none : Option Jvm.ClassFile.FieldType)).before args0 about1 = true := code_word (m := ⟨7, 2⟩) (meth := k7m2) (c := k7c2) (by decide +kernel) rfl rfl rfl (by decide +kernel)
set_option maxRecDepth 65536 in
theorem w_c28 : (Jvm.Cond.code ({ cls := "java/lang/String", name := "<init>", desc := "(Ljava/lang/AbstractStringBuilder;Ljava/lang/Void;)V" } : Jvm.MethodName) jdk_42_method_150_code (5 : Nat) (Option.none : Option Jvm.ClassFile.FieldType)).before args0 about1 = true := code_word (m := ⟨7, 9⟩) (meth := k7m9) (c := k7c9) (by decide +kernel) rfl rfl rfl (by decide +kernel)
set_option maxRecDepth 65536 in
theorem w_c29 : (Jvm.Cond.code ({ cls := "java/lang/AbstractStringBuilder", name := "getValue", desc := "()[B" } : Jvm.MethodName) jdk_68_method_64_code (1 : Nat) (Option.some (Jvm.ClassFile.FieldType.array Jvm.ClassFile.FieldType.byte))).before args0 about1 = true := code_word (m := ⟨12, 6⟩) (meth := k12m6) (c := k12c6) (by decide +kernel) rfl rfl rfl (by decide +kernel)
set_option maxRecDepth 65536 in
theorem w_c30 : (Jvm.Cond.code ({ cls := "java/lang/StringBuilder", name := "length", desc := "()I" } : Jvm.MethodName) jdk_67_method_93_code (1 : Nat) (Option.some Jvm.ClassFile.FieldType.int)).before args0 about1 = true := code_word (m := ⟨13, 4⟩) (meth := k13m4) (c := k13c4) (by decide +kernel) rfl rfl rfl (by decide +kernel)
set_option maxRecDepth 65536 in
theorem w_c31 : (Jvm.Cond.code ({ cls := "java/lang/AbstractStringBuilder", name := "length", desc := "()I" } : Jvm.MethodName) jdk_68_method_6_code (1 : Nat) (Option.some Jvm.ClassFile.FieldType.int)).before args0 about1 = true := code_word (m := ⟨12, 2⟩) (meth := k12m2) (c := k12c2) (by decide +kernel) rfl rfl rfl (by decide +kernel)
set_option maxRecDepth 65536 in
theorem w_c32 : (Jvm.Cond.code ({ cls := "java/util/Arrays", name := "copyOfRange", desc := "([BII)[B" } : Jvm.MethodName) jdk_65_method_132_code (3 : Nat) (Option.some (Jvm.ClassFile.FieldType.array Jvm.ClassFile.FieldType.byte))).before args0 about1 = true := code_word (m := ⟨17, 2⟩) (meth := k17m2) (c := k17c2) (by decide +kernel) rfl rfl rfl (by decide +kernel)
set_option maxRecDepth 65536 in
theorem w_c33 : (Jvm.Cond.code ({ cls := "java/util/Arrays", name := "copyOfRangeByte", desc := "([BII)[B" } : Jvm.MethodName) jdk_65_method_133_code (5 : Nat) (Option.some (Jvm.ClassFile.FieldType.array Jvm.ClassFile.FieldType.byte))).before args0 about1 = true := code_word (m := ⟨17, 3⟩) (meth := k17m3) (c := k17c3) (by decide +kernel) rfl rfl rfl (by decide +kernel)
set_option maxRecDepth 65536 in
theorem w_c34 : (Jvm.Cond.code ({ cls := "java/util/Arrays", name := "checkLength", desc := "(II)V" } : Jvm.MethodName) jdk_65_method_131_code (2 : Nat) (Option.none : Option Jvm.ClassFile.FieldType)).before args0 about1 = true := code_word (m := ⟨17, 1⟩) (meth := k17m1) (c := k17c1) (by decide +kernel) rfl rfl rfl (by decide +kernel)
set_option maxRecDepth 65536 in
theorem w_c35 : (Jvm.Cond.code ({ cls := "java/lang/Math", name := "min", desc := "(II)I" } : Jvm.MethodName) jdk_29_method_69_code (2 : Nat) (Option.some Jvm.ClassFile.FieldType.int)).before args0 about1 = true := code_word (m := ⟨18, 2⟩) (meth := k18m2) (c := k18c2) (by decide +kernel) rfl rfl rfl (by decide +kernel)
set_option maxRecDepth 65536 in
theorem w_c36 : (Jvm.Cond.code ({ cls := "java/lang/Math", name := "abs", desc := "(J)J" } : Jvm.MethodName) jdk_29_method_61_code (2 : Nat) (Option.some Jvm.ClassFile.FieldType.long)).before args0 about1 = true := code_word (m := ⟨18, 1⟩) (meth := k18m1) (c := k18c1) (by decide +kernel) rfl rfl rfl (by decide +kernel)
set_option maxRecDepth 65536 in
theorem w_c37 : (Jvm.Cond.code ({ cls := "com/example/wharfline/wharfline/runtime/WorkToStringPinLaw", name := "digits", desc := "(J)I" } : Jvm.MethodName) method_3_code (2 : Nat) (Option.some Jvm.ClassFile.FieldType.int)).before args0 about1 = true := code_word (m := ⟨1, 2⟩) (meth := k1m2) (c := k1c2) (by decide +kernel) rfl rfl rfl (by decide +kernel)
set_option maxRecDepth 65536 in
theorem w_c38 : (Jvm.Cond.code ({ cls := "com/example/wharfline/wharfline/runtime/WorkToStringPinLaw", name := "chk", desc := "(Ljava/lang/String;IILjava/lang/String;IIIJ)Z" } : Jvm.MethodName) method_4_code (9 : Nat) (Option.some Jvm.ClassFile.FieldType.boolean)).before args0 about1 = true := code_word (m := ⟨1, 3⟩) (meth := k1m3) (c := k1c3) (by decide +kernel) rfl rfl rfl (by decide +kernel)
set_option maxRecDepth 65536 in
theorem w_c39 : (Jvm.Cond.code ({ cls := "java/lang/String", name := "charAt", desc := "(I)C" } : Jvm.MethodName) jdk_42_method_56_code (2 : Nat) (Option.some Jvm.ClassFile.FieldType.char)).before args0 about1 = true := code_word (m := ⟨7, 4⟩) (meth := k7m4) (c := k7c4) (by decide +kernel) rfl rfl rfl (by decide +kernel)
set_option maxRecDepth 65536 in
theorem w_c40 : (Jvm.Cond.code ({ cls := "java/lang/String", name := "isLatin1", desc := "()Z" } : Jvm.MethodName) jdk_42_method_154_code (1 : Nat) (Option.some Jvm.ClassFile.FieldType.boolean)).before args0 about1 = true := code_word (m := ⟨7, 12⟩) (meth := k7m12) (c := k7c12) (by decide +kernel) rfl rfl rfl (by decide +kernel)
set_option maxRecDepth 65536 in
theorem w_c41 : (Jvm.Cond.code ({ cls := "java/lang/StringLatin1", name := "charAt", desc := "([BI)C" } : Jvm.MethodName) jdk_43_method_2_code (2 : Nat) (Option.some Jvm.ClassFile.FieldType.char)).before args0 about1 = true := code_word (m := ⟨19, 1⟩) (meth := k19m1) (c := k19c1) (by decide +kernel) rfl rfl rfl (by decide +kernel)
set_option maxRecDepth 65536 in
theorem w_c42 : (Jvm.Cond.code ({ cls := "java/lang/String", name := "checkIndex", desc := "(II)V" } : Jvm.MethodName) jdk_42_method_155_code (2 : Nat) (Option.none : Option Jvm.ClassFile.FieldType)).before args0 about1 = true := code_word (m := ⟨7, 13⟩) (meth := k7m13) (c := k7c13) (by decide +kernel) rfl rfl rfl (by decide +kernel)
set_option maxRecDepth 65536 in
theorem w_c43 : (Jvm.Cond.code ({ cls := "jdk/internal/util/Preconditions", name := "checkIndex", desc := "(IILjava/util/function/BiFunction;)I" } : Jvm.MethodName) jdk_41_method_11_code (3 : Nat) (Option.some Jvm.ClassFile.FieldType.int)).before args0 about1 = true := code_word (m := ⟨20, 1⟩) (meth := k20m1) (c := k20c1) (by decide +kernel) rfl rfl rfl (by decide +kernel)
set_option maxRecDepth 65536 in
theorem w_c44 : (Jvm.Cond.code ({ cls := "com/example/wharfline/wharfline/runtime/WorkToStringPinLaw", name := "expected", desc := "(ILjava/lang/String;IIIJ)C" } : Jvm.MethodName) method_5_code (11 : Nat) (Option.some Jvm.ClassFile.FieldType.char)).before args0 about1 = true := code_word (m := ⟨1, 4⟩) (meth := k1m4) (c := k1c4) (by decide +kernel) rfl rfl rfl (by decide +kernel)
set_option maxRecDepth 65536 in
theorem w_c45 : (Jvm.Cond.code ({ cls := "java/lang/String", name := "equals", desc := "(Ljava/lang/Object;)Z" } : Jvm.MethodName) jdk_42_method_66_code (3 : Nat) (Option.some Jvm.ClassFile.FieldType.boolean)).before args0 about1 = true := code_word (m := ⟨7, 5⟩) (meth := k7m5) (c := k7c5) (by decide +kernel) rfl rfl rfl (by decide +kernel)
set_option maxRecDepth 65536 in
theorem w_c46 : (Jvm.Cond.code ({ cls := "java/lang/String", name := "valueOf", desc := "(C)Ljava/lang/String;" } : Jvm.MethodName) jdk_42_method_139_code (1 : Nat) (Option.some (Jvm.ClassFile.FieldType.object "java/lang/String"))).before args0 about1 = true := code_word (m := ⟨7, 6⟩) (meth := k7m6) (c := k7c6) (by decide +kernel) rfl rfl rfl (by decide +kernel)
set_option maxRecDepth 65536 in
theorem w_c47 : (Jvm.Cond.code ({ cls := "java/lang/StringLatin1", name := "canEncode", desc := "(C)Z" } : Jvm.MethodName) jdk_43_method_3_code (1 : Nat) (Option.some Jvm.ClassFile.FieldType.boolean)).before args0 about1 = true := code_word (m := ⟨19, 2⟩) (meth := k19m2) (c := k19c2) (by decide +kernel) rfl rfl rfl (by decide +kernel)
set_option maxRecDepth 65536 in
theorem w_c48 : (Jvm.Cond.code ({ cls := "java/lang/StringLatin1", name := "toBytes", desc := "(C)[B" } : Jvm.MethodName) jdk_43_method_46_code (1 : Nat) (Option.some (Jvm.ClassFile.FieldType.array Jvm.ClassFile.FieldType.byte))).before args0 about1 = true := code_word (m := ⟨19, 3⟩) (meth := k19m3) (c := k19c3) (by decide +kernel) rfl rfl rfl (by decide +kernel)
set_option maxRecDepth 65536 in
theorem w_c49 : (Jvm.Cond.code ({ cls := "java/lang/String", name := "<init>", desc := "([BB)V" } : Jvm.MethodName) jdk_42_method_151_code (3 : Nat) (Option.none : Option Jvm.ClassFile.FieldType)).before args0 about1 = true := code_word (m := ⟨7, 10⟩) (meth := k7m10) (c := k7c10) (by decide +kernel) rfl rfl rfl (by decide +kernel)
def codes1 : List Jvm.Cond := [Jvm.Cond.code x code maxLocals ret, Jvm.Cond.code ({ cls := "java/lang/String", name := "<init>", desc := "([C)V" } : Jvm.MethodName) jdk_42_method_3_code (2 : Nat) (Option.none : Option Jvm.ClassFile.FieldType), Jvm.Cond.code ({ cls := "java/lang/String", name := "<init>", desc := "([CIILjava/lang/Void;)V" } : Jvm.MethodName) jdk_42_method_149_code (6 : Nat) (Option.none : Option Jvm.ClassFile.FieldType), Jvm.Cond.code ({ cls := "java/lang/Object", name := "<init>", desc := "()V" } : Jvm.MethodName) object_method_1_code (1 : Nat) (Option.none : Option Jvm.ClassFile.FieldType), Jvm.Cond.code ({ cls := "java/lang/StringUTF16", name := "compress", desc := "([CII)[B" } : Jvm.MethodName) jdk_52_method_16_code (6 : Nat) (Option.some (Jvm.ClassFile.FieldType.array Jvm.ClassFile.FieldType.byte)), Jvm.Cond.code ({ cls := "java/lang/StringUTF16", name := "compress", desc := "([CI[BII)I" } : Jvm.MethodName) jdk_52_method_21_code (7 : Nat) (Option.some Jvm.ClassFile.FieldType.int), Jvm.Cond.code ({ cls := "java/lang/StringUTF16", name := "coderFromArrayLen", desc := "([BI)B" } : Jvm.MethodName) jdk_52_method_15_code (2 : Nat) (Option.some Jvm.ClassFile.FieldType.byte), Jvm.Cond.code ({ cls := "com/example/wharfline/wharfline/runtime/Work", name := "<init>", desc := "(Ljava/lang/String;I)V" } : Jvm.MethodName) prog_41_method_1_code (3 : Nat) (Option.none : Option Jvm.ClassFile.FieldType), Jvm.Cond.code ({ cls := "java/lang/Record", name := "<init>", desc := "()V" } : Jvm.MethodName) jdk_30_method_1_code (1 : Nat) (Option.none : Option Jvm.ClassFile.FieldType), Jvm.Cond.code ({ cls := "com/example/wharfline/wharfline/runtime/Work", name := "toString", desc := "()Ljava/lang/String;" } : Jvm.MethodName) prog_41_method_6_code (1 : Nat) (Option.some (Jvm.ClassFile.FieldType.object "java/lang/String")), Jvm.Cond.code ({ cls := "com/example/wharfline/wharfline/runtime/Work", name := "isInstance", desc := "()Z" } : Jvm.MethodName) prog_41_method_4_code (1 : Nat) (Option.some Jvm.ClassFile.FieldType.boolean), Jvm.Cond.code ({ cls := "java/lang/StringBuilder", name := "<init>", desc := "()V" } : Jvm.MethodName) jdk_67_method_1_code (1 : Nat) (Option.none : Option Jvm.ClassFile.FieldType), Jvm.Cond.code ({ cls := "java/lang/AbstractStringBuilder", name := "<init>", desc := "(I)V" } : Jvm.MethodName) jdk_68_method_2_code (2 : Nat) (Option.none : Option Jvm.ClassFile.FieldType), Jvm.Cond.code ({ cls := "java/lang/StringBuilder", name := "append", desc := "(Ljava/lang/String;)Ljava/lang/StringBuilder;" } : Jvm.MethodName) jdk_67_method_7_code (2 : Nat) (Option.some (Jvm.ClassFile.FieldType.object "java/lang/StringBuilder")), Jvm.Cond.code ({ cls := "java/lang/AbstractStringBuilder", name := "append", desc := "(Ljava/lang/String;)Ljava/lang/AbstractStringBuilder;" } : Jvm.MethodName) jdk_68_method_22_code (3 : Nat) (Option.some (Jvm.ClassFile.FieldType.object "java/lang/AbstractStringBuilder")), Jvm.Cond.code ({ cls := "java/lang/String", name := "length", desc := "()I" } : Jvm.MethodName) jdk_42_method_54_code (1 : Nat) (Option.some Jvm.ClassFile.FieldType.int), Jvm.Cond.code ({ cls := "java/lang/String", name := "coder", desc := "()B" } : Jvm.MethodName) jdk_42_method_152_code (1 : Nat) (Option.some Jvm.ClassFile.FieldType.byte), Jvm.Cond.code ({ cls := "java/lang/AbstractStringBuilder", name := "ensureCapacityInternal", desc := "(I)V" } : Jvm.MethodName) jdk_68_method_9_code (3 : Nat) (Option.none : Option Jvm.ClassFile.FieldType), Jvm.Cond.code ({ cls := "java/lang/AbstractStringBuilder", name := "putStringAt", desc := "(ILjava/lang/String;)V" } : Jvm.MethodName) jdk_68_method_73_code (3 : Nat) (Option.none : Option Jvm.ClassFile.FieldType), Jvm.Cond.code ({ cls := "java/lang/AbstractStringBuilder", name := "inflateIfNeededFor", desc := "(Ljava/lang/String;)V" } : Jvm.MethodName) jdk_68_method_71_code (2 : Nat) (Option.none : Option Jvm.ClassFile.FieldType), Jvm.Cond.code ({ cls := "java/lang/String", name := "getBytes", desc := "([BIB)V" } : Jvm.MethodName) jdk_42_method_147_code (4 : Nat) (Option.none : Option Jvm.ClassFile.FieldType), Jvm.Cond.code ({ cls := "java/lang/StringBuilder", name := "append", desc := "(I)Ljava/lang/StringBuilder;" } : Jvm.MethodName) jdk_67_method_15_code (2 : Nat) (Option.some (Jvm.ClassFile.FieldType.object "java/lang/StringBuilder")), Jvm.Cond.code ({ cls := "java/lang/AbstractStringBuilder", name := "append", desc := "(I)Ljava/lang/AbstractStringBuilder;" } : Jvm.MethodName) jdk_68_method_32_code (4 : Nat) (Option.some (Jvm.ClassFile.FieldType.object "java/lang/AbstractStringBuilder")), Jvm.Cond.code ({ cls := "java/lang/Integer", name := "stringSize", desc := "(I)I" } : Jvm.MethodName) jdk_33_method_13_code (4 : Nat) (Option.some Jvm.ClassFile.FieldType.int), Jvm.Cond.code ({ cls := "java/lang/AbstractStringBuilder", name := "isLatin1", desc := "()Z" } : Jvm.MethodName) jdk_68_method_68_code (1 : Nat) (Option.some Jvm.ClassFile.FieldType.boolean), Jvm.Cond.code ({ cls := "java/lang/Integer", name := "getChars", desc := "(II[B)I" } : Jvm.MethodName) jdk_33_method_12_code (7 : Nat) (Option.some Jvm.ClassFile.FieldType.int), Jvm.Cond.code ({ cls := "java/lang/StringBuilder", name := "toString", desc := "()Ljava/lang/String;" } : Jvm.MethodName) jdk_67_method_42_code (1 : Nat) (Option.some (Jvm.ClassFile.FieldType.object "java/lang/String")), Jvm.Cond.code ({ cls := "java/lang/String", name := "<init>", desc := "(Ljava/lang/StringBuilder;)V" } : Jvm.MethodName) jdk_42_method_53_code (2 : Nat) (Option.none : Option Jvm.ClassFile.FieldType), Jvm.Cond.code ({ cls := "java/lang/String", name := "<init>", desc := "(Ljava/lang/AbstractStringBuilder;Ljava/lang/Void;)V" } : Jvm.MethodName) jdk_42_method_150_code (5 : Nat) (Option.none : Option Jvm.ClassFile.FieldType), Jvm.Cond.code ({ cls := "java/lang/AbstractStringBuilder", name := "getValue", desc := "()[B" } : Jvm.MethodName) jdk_68_method_64_code (1 : Nat) (Option.some (Jvm.ClassFile.FieldType.array Jvm.ClassFile.FieldType.byte)), Jvm.Cond.code ({ cls := "java/lang/StringBuilder", name := "length", desc := "()I" } : Jvm.MethodName) jdk_67_method_93_code (1 : Nat) (Option.some Jvm.ClassFile.FieldType.int), Jvm.Cond.code ({ cls := "java/lang/AbstractStringBuilder", name := "length", desc := "()I" } : Jvm.MethodName) jdk_68_method_6_code (1 : Nat) (Option.some Jvm.ClassFile.FieldType.int), Jvm.Cond.code ({ cls := "java/util/Arrays", name := "copyOfRange", desc := "([BII)[B" } : Jvm.MethodName) jdk_65_method_132_code (3 : Nat) (Option.some (Jvm.ClassFile.FieldType.array Jvm.ClassFile.FieldType.byte)), Jvm.Cond.code ({ cls := "java/util/Arrays", name := "copyOfRangeByte", desc := "([BII)[B" } : Jvm.MethodName) jdk_65_method_133_code (5 : Nat) (Option.some (Jvm.ClassFile.FieldType.array Jvm.ClassFile.FieldType.byte)), Jvm.Cond.code ({ cls := "java/util/Arrays", name := "checkLength", desc := "(II)V" } : Jvm.MethodName) jdk_65_method_131_code (2 : Nat) (Option.none : Option Jvm.ClassFile.FieldType), Jvm.Cond.code ({ cls := "java/lang/Math", name := "min", desc := "(II)I" } : Jvm.MethodName) jdk_29_method_69_code (2 : Nat) (Option.some Jvm.ClassFile.FieldType.int), Jvm.Cond.code ({ cls := "java/lang/Math", name := "abs", desc := "(J)J" } : Jvm.MethodName) jdk_29_method_61_code (2 : Nat) (Option.some Jvm.ClassFile.FieldType.long), Jvm.Cond.code ({ cls := "com/example/wharfline/wharfline/runtime/WorkToStringPinLaw", name := "digits", desc := "(J)I" } : Jvm.MethodName) method_3_code (2 : Nat) (Option.some Jvm.ClassFile.FieldType.int), Jvm.Cond.code ({ cls := "com/example/wharfline/wharfline/runtime/WorkToStringPinLaw", name := "chk", desc := "(Ljava/lang/String;IILjava/lang/String;IIIJ)Z" } : Jvm.MethodName) method_4_code (9 : Nat) (Option.some Jvm.ClassFile.FieldType.boolean), Jvm.Cond.code ({ cls := "java/lang/String", name := "charAt", desc := "(I)C" } : Jvm.MethodName) jdk_42_method_56_code (2 : Nat) (Option.some Jvm.ClassFile.FieldType.char), Jvm.Cond.code ({ cls := "java/lang/String", name := "isLatin1", desc := "()Z" } : Jvm.MethodName) jdk_42_method_154_code (1 : Nat) (Option.some Jvm.ClassFile.FieldType.boolean), Jvm.Cond.code ({ cls := "java/lang/StringLatin1", name := "charAt", desc := "([BI)C" } : Jvm.MethodName) jdk_43_method_2_code (2 : Nat) (Option.some Jvm.ClassFile.FieldType.char), Jvm.Cond.code ({ cls := "java/lang/String", name := "checkIndex", desc := "(II)V" } : Jvm.MethodName) jdk_42_method_155_code (2 : Nat) (Option.none : Option Jvm.ClassFile.FieldType), Jvm.Cond.code ({ cls := "jdk/internal/util/Preconditions", name := "checkIndex", desc := "(IILjava/util/function/BiFunction;)I" } : Jvm.MethodName) jdk_41_method_11_code (3 : Nat) (Option.some Jvm.ClassFile.FieldType.int), Jvm.Cond.code ({ cls := "com/example/wharfline/wharfline/runtime/WorkToStringPinLaw", name := "expected", desc := "(ILjava/lang/String;IIIJ)C" } : Jvm.MethodName) method_5_code (11 : Nat) (Option.some Jvm.ClassFile.FieldType.char), Jvm.Cond.code ({ cls := "java/lang/String", name := "equals", desc := "(Ljava/lang/Object;)Z" } : Jvm.MethodName) jdk_42_method_66_code (3 : Nat) (Option.some Jvm.ClassFile.FieldType.boolean), Jvm.Cond.code ({ cls := "java/lang/String", name := "valueOf", desc := "(C)Ljava/lang/String;" } : Jvm.MethodName) jdk_42_method_139_code (1 : Nat) (Option.some (Jvm.ClassFile.FieldType.object "java/lang/String")), Jvm.Cond.code ({ cls := "java/lang/StringLatin1", name := "canEncode", desc := "(C)Z" } : Jvm.MethodName) jdk_43_method_3_code (1 : Nat) (Option.some Jvm.ClassFile.FieldType.boolean), Jvm.Cond.code ({ cls := "java/lang/StringLatin1", name := "toBytes", desc := "(C)[B" } : Jvm.MethodName) jdk_43_method_46_code (1 : Nat) (Option.some (Jvm.ClassFile.FieldType.array Jvm.ClassFile.FieldType.byte)), Jvm.Cond.code ({ cls := "java/lang/String", name := "<init>", desc := "([BB)V" } : Jvm.MethodName) jdk_42_method_151_code (3 : Nat) (Option.none : Option Jvm.ClassFile.FieldType)]
set_option maxRecDepth 65536 in
theorem codes_eq : words1.filter isCode = codes1 := rfl
theorem w_codes : ∀ c ∈ words1.filter isCode, c.before args0 about1 = true := by
  rw [codes_eq]
  intro c hc
  simp only [codes1, List.mem_cons, List.not_mem_nil, or_false] at hc
  rcases hc with rfl | rfl | rfl | rfl | rfl | rfl | rfl | rfl | rfl | rfl | rfl | rfl | rfl | rfl | rfl | rfl | rfl | rfl | rfl | rfl | rfl | rfl | rfl | rfl | rfl | rfl | rfl | rfl | rfl | rfl | rfl | rfl | rfl | rfl | rfl | rfl | rfl | rfl | rfl | rfl | rfl | rfl | rfl | rfl | rfl | rfl | rfl | rfl | rfl | rfl
  · exact w_c0
  · exact w_c1
  · exact w_c2
  · exact w_c3
  · exact w_c4
  · exact w_c5
  · exact w_c6
  · exact w_c7
  · exact w_c8
  · exact w_c9
  · exact w_c10
  · exact w_c11
  · exact w_c12
  · exact w_c13
  · exact w_c14
  · exact w_c15
  · exact w_c16
  · exact w_c17
  · exact w_c18
  · exact w_c19
  · exact w_c20
  · exact w_c21
  · exact w_c22
  · exact w_c23
  · exact w_c24
  · exact w_c25
  · exact w_c26
  · exact w_c27
  · exact w_c28
  · exact w_c29
  · exact w_c30
  · exact w_c31
  · exact w_c32
  · exact w_c33
  · exact w_c34
  · exact w_c35
  · exact w_c36
  · exact w_c37
  · exact w_c38
  · exact w_c39
  · exact w_c40
  · exact w_c41
  · exact w_c42
  · exact w_c43
  · exact w_c44
  · exact w_c45
  · exact w_c46
  · exact w_c47
  · exact w_c48
  · exact w_c49
set_option maxRecDepth 65536 in
theorem w_t1 : (words1.take 24).all (fun c => isCode c || c.before args0 about1) = true := by decide +kernel
set_option maxRecDepth 65536 in
theorem w_t2 : ((words1.drop 24).take 24).all (fun c => isCode c || c.before args0 about1) = true := by decide +kernel
set_option maxRecDepth 65536 in
theorem w_t3 : (((words1.drop 24).drop 24).take 24).all (fun c => isCode c || c.before args0 about1) = true := by decide +kernel
set_option maxRecDepth 65536 in
theorem w_t4 : ((((words1.drop 24).drop 24).drop 24).take 24).all (fun c => isCode c || c.before args0 about1) = true := by decide +kernel
set_option maxRecDepth 65536 in
theorem w_t5 : (((((words1.drop 24).drop 24).drop 24).drop 24).take 24).all (fun c => isCode c || c.before args0 about1) = true := by decide +kernel
set_option maxRecDepth 65536 in
theorem w_t6 : ((((((words1.drop 24).drop 24).drop 24).drop 24).drop 24).take 24).all (fun c => isCode c || c.before args0 about1) = true := by decide +kernel
set_option maxRecDepth 65536 in
theorem w_t7 : (((((((words1.drop 24).drop 24).drop 24).drop 24).drop 24).drop 24).take 24).all (fun c => isCode c || c.before args0 about1) = true := by decide +kernel
set_option maxRecDepth 65536 in
theorem w_t8 : ((((((((words1.drop 24).drop 24).drop 24).drop 24).drop 24).drop 24).drop 24).take 24).all (fun c => isCode c || c.before args0 about1) = true := by decide +kernel
set_option maxRecDepth 65536 in
theorem w_t9 : (((((((((words1.drop 24).drop 24).drop 24).drop 24).drop 24).drop 24).drop 24).drop 24).take 24).all (fun c => isCode c || c.before args0 about1) = true := by decide +kernel
set_option maxRecDepth 65536 in
theorem w_t10 : ((((((((((words1.drop 24).drop 24).drop 24).drop 24).drop 24).drop 24).drop 24).drop 24).drop 24).take 24).all (fun c => isCode c || c.before args0 about1) = true := by decide +kernel
set_option maxRecDepth 65536 in
theorem w_t11 : ((((((((((words1.drop 24).drop 24).drop 24).drop 24).drop 24).drop 24).drop 24).drop 24).drop 24).drop 24).all (fun c => isCode c || c.before args0 about1) = true := by decide +kernel
theorem w_tables : (allAtoms (Jvm.Cond.code x code maxLocals ret :: tables_1)).before args0 about1 = true := by
  rw [allAtoms_all]
  show words1.all (fun c => c.before args0 about1) = true
  refine all_split ?_ w_codes
  rw [← List.take_append_drop 24 words1, List.all_append, w_t1, ← List.take_append_drop 24 (words1.drop 24), List.all_append, w_t2, ← List.take_append_drop 24 ((words1.drop 24).drop 24), List.all_append, w_t3, ← List.take_append_drop 24 (((words1.drop 24).drop 24).drop 24), List.all_append, w_t4, ← List.take_append_drop 24 ((((words1.drop 24).drop 24).drop 24).drop 24), List.all_append, w_t5, ← List.take_append_drop 24 (((((words1.drop 24).drop 24).drop 24).drop 24).drop 24), List.all_append, w_t6, ← List.take_append_drop 24 ((((((words1.drop 24).drop 24).drop 24).drop 24).drop 24).drop 24), List.all_append, w_t7, ← List.take_append_drop 24 (((((((words1.drop 24).drop 24).drop 24).drop 24).drop 24).drop 24).drop 24), List.all_append, w_t8, ← List.take_append_drop 24 ((((((((words1.drop 24).drop 24).drop 24).drop 24).drop 24).drop 24).drop 24).drop 24), List.all_append, w_t9, ← List.take_append_drop 24 (((((((((words1.drop 24).drop 24).drop 24).drop 24).drop 24).drop 24).drop 24).drop 24).drop 24), List.all_append, w_t10, w_t11]
  rfl
set_option maxRecDepth 65536 in
theorem w_rest : rest_1_c.before args0 about1 = true := by decide +kernel
set_option maxRecDepth 65536 in
theorem w_case : (Jvm.Cond.and given_1 narrow_1).before args0 about1 = true := by decide +kernel
set_option maxRecDepth 65536 in
theorem w_consts : constsHeld consts_1 about1 := Jvm.Lit.constsHeldB_iff.mp (by decide +kernel)
theorem w_applies : (headSpec (Jvm.Cond.code x code maxLocals ret :: tables_1) room_1).applies x e0.platform about1 = true :=
  (Spec.applies_iff w_frames).mpr ⟨w_running, w_runnable, w_alone, w_named, w_hears, w_ripe, w_room, w_tables⟩
theorem atStart : AtStart classFile x code maxLocals ret World_1 tables_1 room_1 Calls_1 rest_1 Pre_1 launch0 p0 e0 about1 theMethod args0 below0 :=
  ⟨lists_1, trivial, launch0.admits_env _ _ _, launch0.least_env, fairChoices_fair.cas, fairChoices_fair.clock, w_frames, w_args, w_heap, w_applies, ⟨w_consts, trivial⟩, w_rest, w_case⟩
end start1
theorem witness_1 : WitnessClaimed_1 := ⟨start1.p0, start1.e0, start1.about1, start1.theMethod, start1.args0, start1.below0, start1.atStart⟩
end Jvm.Pilot.@@N@@
