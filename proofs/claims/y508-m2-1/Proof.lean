import JvmDerived
import JvmDerived.Pilot.@@N@@Statement
import JvmDerived.Pilot.@@N@@Code
set_option linter.unusedVariables false
set_option linter.unusedSimpArgs false
namespace Jvm.RoadKit
open Sem ClassFile Op Lib Jvm.Stand Jvm.Free Jvm.LawKit
section Own
variable {p : Program} {l : Launch} {e : Env} {R : Room} {s : State} {m : MethodId} {args : Array Value} {below : List Frame} {meth : Method} {c : Code} {T : State} {Z : State} {a0 : Array Value} {h : Heap} {cells slots n0 rc rs : Nat} {bytes : ByteArray} {own : String} {ret : Option FieldType} {maxL : Nat} {P : Option Value → Heap → Prop} {Ls : Array Slot} {pc pc' : Nat} {st : List Value}
def Cx (p : Program) (s : State) (m : MethodId) (meth : Method) (c : Code) (Z : State) (bytes : ByteArray) (own : String) (ret : Option FieldType) (maxL : Nat) : Prop :=
  p.tables.exec = Jvm.exec ∧ Z.Warmed39 s.vm ∧ c.code = bytes ∧ s.vm.findClass own = some m.cls ∧ c.maxLocals = maxL ∧ meth.locks = false ∧ meth.sig.returnType = ret
def On (p : Program) (l : Launch) (e : Env) (R : Room) (s : State) (m : MethodId) (args : Array Value) (below : List Frame) (meth : Method) (c : Code) (n0 : Nat) (T : State) (h : Heap) (cells slots : Nat) : Prop :=
  ∃ locs, Stand p l e R s m args below meth c T locs cells slots ∧ T.heap = h ∧ Fr n0 locs ∧ n0 ≤ h.size
def Go (p : Program) (e : Env) (below : List Frame) (s : State) (n0 rc rs : Nat) (P : Option Value → Heap → Prop) (T : State) (g : JFrame) : Prop :=
  ∃ s₂ o, Steps p.tables e below (T.setTop g) s₂ ∧ s₂.status = .running ∧ Ended s₂ below o ∧ ∃ v L, o = .returned v ∧ (P v s₂.heap ∧ Fr n0 L) ∧ FrameEnd s o s₂ L rc rs
def Con (l : Launch) (Z : State) (y : MethodName) (bytes : ByteArray) (maxL : Nat) (ret : Option FieldType) (rm : Room) (as' : Array Value) (h0 : Heap) (n0 : Nat) (P : Option Value → Heap → Prop) : Prop :=
  ∀ ws, MetFree l y (head1 (Cond.code y bytes maxL ret :: ws) rm) (fun a U => a = as' ∧ Z.Warmed39 U.vm ∧ U.heap = h0) (fun _ _ _ _ _ => True) (fun _ U o U' => ∃ v L, o = .returned v ∧ (P v U'.heap ∧ Fr n0 L) ∧ FrameEnd U o U' L rm.cells rm.slots)
theorem Go.of {T' : State} {g g' : JFrame} (st : ∀ t, Steps p.tables e below (T'.setTop g') t → Steps p.tables e below (T.setTop g) t) (k : Go p e below s n0 rc rs P T' g') : Go p e below s n0 rc rs P T g := by
  obtain ⟨s₂, o, h1, h2⟩ := k
  exact ⟨s₂, o, st _ h1, h2⟩
theorem Go.tr {T' : State} {g g' : JFrame} (st : Steps p.tables e below (T.setTop g) (T'.setTop g')) (k : Go p e below s n0 rc rs P T' g') : Go p e below s n0 rc rs P T g :=
  Go.of (fun _ q => st.trans q) k
theorem Go.imp {P' : Option Value → Heap → Prop} {g : JFrame} (k : Go p e below s n0 rc rs P' T g) (hi : ∀ v h, P' v h → P v h) : Go p e below s n0 rc rs P T g := by
  obtain ⟨s₂, o, h1, h2, h3, v, L, h4, ⟨h5, h6⟩, h7⟩ := k
  exact ⟨s₂, o, h1, h2, h3, v, L, h4, ⟨hi _ _ h5, h6⟩, h7⟩
theorem Con.enter {y : MethodName} {rm : Room} {as' : Array Value} {h0 : Heap} (hpl : plainFor y = true) (hz : n0 ≤ h0.size)
    (body : ∀ p e s m below meth c T, Cx p s m meth c Z bytes y.cls ret maxL → meth.name = y.name → On p l e rm s m as' below meth c n0 T h0 0 0 → Go p e below s n0 rm.cells rm.slots P T (entryFrame m as' maxL)) :
    Con l Z y bytes maxL ret rm as' h0 n0 P := by
  intro ws
  refine MetFree.of_bodySF hpl hisR ?_
  intro p e s m args below meth c s₁ Bd hml0 hP hK
  obtain ⟨rfl, hZ, hh⟩ := hP
  have X0 := Stand.of_body Bd
  have e0 : s₁.heap = h0 := by rw [← hh, Bd.state]; rfl
  exact body p e s m below meth c s₁ ⟨Bd.exec, hZ, Bd.bytes, findClass_of_methodNamed Bd.named, hml0, BodyLoose.notSynchronized Bd, Bd.returns⟩ (name_of_methodNamed Bd.named Bd.method).1 ⟨[], X0, e0, Fr.nil n0, hz⟩
theorem On.sz (X : On p l e R s m args below meth c n0 T h cells slots) : n0 ≤ h.size := X.elim fun _ q => q.2.2.2
theorem Go.cast {g g' : JFrame} (q : g = g') (k : Go p e below s n0 rc rs P T g') : Go p e below s n0 rc rs P T g := q ▸ k
theorem Con.back {y : MethodName} {rm : Room} {as' : Array Value} {W : Nat} {P' : Option Value → Heap → Prop} {cb : ByteArray} {cm : Nat} {cr : Option FieldType} (K : Con l Z y cb cm cr rm as' h n0 P') (hZ : Z.Warmed39 s.vm) (wc : (Cond.code y cb cm cr).before a0 Z = true) (wz : (Cond.initialized y.cls).before a0 Z = true) (hf : rm.frames + 1 ≤ R.frames) (hl : W + (cm + 11) + rm.locals ≤ R.locals) :
    Back l R p e below s args y 3 W (fun A a => a = as' ∧ A.U.heap = h ∧ A.cells + rm.cells ≤ R.cells ∧ A.slots + rm.slots ≤ R.slots)
      (fun A _ v B => ∃ L, (P' v B.U.heap ∧ Fr n0 L) ∧ B.locs = A.locs ++ L ∧ B.cells = A.cells + rm.cells ∧ B.slots = A.slots + rm.slots) :=
  backOf (Q := fun v h L => P' v h ∧ Fr n0 L) (K []) hZ wc wz hf hl
theorem Go.iadd (C : Cx p s m meth c Z bytes own ret maxL) (X : On p l e R s m args below meth c n0 T h cells slots) {x y : Int32} (hd : decode bytes pc = .ok (.iadd, 1))  (hp : pc + 1 = pc') (k : Go p e below s n0 rc rs P T (mkF m pc' Ls (.int (x + y) :: st))) : Go p e below s n0 rc rs P T (mkF m pc Ls (.int y :: .int x :: st)) := by
  obtain ⟨locs, X, eT, N, hn⟩ := X; obtain ⟨hx, hZ, hby, hown, hml, hlk, hrt⟩ := C
  subst hp; exact Go.of (fun t q => XS.iadd X.here hx rfl (hb hby hd) rfl q) k
theorem Go.isub (C : Cx p s m meth c Z bytes own ret maxL) (X : On p l e R s m args below meth c n0 T h cells slots) {x y : Int32} (hd : decode bytes pc = .ok (.isub, 1))  (hp : pc + 1 = pc') (k : Go p e below s n0 rc rs P T (mkF m pc' Ls (.int (x - y) :: st))) : Go p e below s n0 rc rs P T (mkF m pc Ls (.int y :: .int x :: st)) := by
  obtain ⟨locs, X, eT, N, hn⟩ := X; obtain ⟨hx, hZ, hby, hown, hml, hlk, hrt⟩ := C
  subst hp; exact Go.of (fun t q => XS.isub X.here hx rfl (hb hby hd) rfl q) k
theorem Go.imul (C : Cx p s m meth c Z bytes own ret maxL) (X : On p l e R s m args below meth c n0 T h cells slots) {x y : Int32} (hd : decode bytes pc = .ok (.imul, 1))  (hp : pc + 1 = pc') (k : Go p e below s n0 rc rs P T (mkF m pc' Ls (.int (x * y) :: st))) : Go p e below s n0 rc rs P T (mkF m pc Ls (.int y :: .int x :: st)) := by
  obtain ⟨locs, X, eT, N, hn⟩ := X; obtain ⟨hx, hZ, hby, hown, hml, hlk, hrt⟩ := C
  subst hp; exact Go.of (fun t q => XS.imul X.here hx rfl (hb hby hd) rfl q) k
theorem Go.iand (C : Cx p s m meth c Z bytes own ret maxL) (X : On p l e R s m args below meth c n0 T h cells slots) {x y : Int32} (hd : decode bytes pc = .ok (.iand, 1))  (hp : pc + 1 = pc') (k : Go p e below s n0 rc rs P T (mkF m pc' Ls (.int (x &&& y) :: st))) : Go p e below s n0 rc rs P T (mkF m pc Ls (.int y :: .int x :: st)) := by
  obtain ⟨locs, X, eT, N, hn⟩ := X; obtain ⟨hx, hZ, hby, hown, hml, hlk, hrt⟩ := C
  subst hp; exact Go.of (fun t q => XS.iand X.here hx rfl (hb hby hd) rfl q) k
theorem Go.ior (C : Cx p s m meth c Z bytes own ret maxL) (X : On p l e R s m args below meth c n0 T h cells slots) {x y : Int32} (hd : decode bytes pc = .ok (.ior, 1))  (hp : pc + 1 = pc') (k : Go p e below s n0 rc rs P T (mkF m pc' Ls (.int (x ||| y) :: st))) : Go p e below s n0 rc rs P T (mkF m pc Ls (.int y :: .int x :: st)) := by
  obtain ⟨locs, X, eT, N, hn⟩ := X; obtain ⟨hx, hZ, hby, hown, hml, hlk, hrt⟩ := C
  subst hp; exact Go.of (fun t q => XS.ior X.here hx rfl (hb hby hd) rfl q) k
theorem Go.ixor (C : Cx p s m meth c Z bytes own ret maxL) (X : On p l e R s m args below meth c n0 T h cells slots) {x y : Int32} (hd : decode bytes pc = .ok (.ixor, 1))  (hp : pc + 1 = pc') (k : Go p e below s n0 rc rs P T (mkF m pc' Ls (.int (x ^^^ y) :: st))) : Go p e below s n0 rc rs P T (mkF m pc Ls (.int y :: .int x :: st)) := by
  obtain ⟨locs, X, eT, N, hn⟩ := X; obtain ⟨hx, hZ, hby, hown, hml, hlk, hrt⟩ := C
  subst hp; exact Go.of (fun t q => XS.ixor X.here hx rfl (hb hby hd) rfl q) k
theorem Go.ishl (C : Cx p s m meth c Z bytes own ret maxL) (X : On p l e R s m args below meth c n0 T h cells slots) {x y : Int32} (hd : decode bytes pc = .ok (.ishl, 1))  (hp : pc + 1 = pc') (k : Go p e below s n0 rc rs P T (mkF m pc' Ls (.int (x <<< (y &&& 31)) :: st))) : Go p e below s n0 rc rs P T (mkF m pc Ls (.int y :: .int x :: st)) := by
  obtain ⟨locs, X, eT, N, hn⟩ := X; obtain ⟨hx, hZ, hby, hown, hml, hlk, hrt⟩ := C
  subst hp; exact Go.of (fun t q => XS.ishl X.here hx rfl (hb hby hd) rfl q) k
theorem Go.ishr (C : Cx p s m meth c Z bytes own ret maxL) (X : On p l e R s m args below meth c n0 T h cells slots) {x y : Int32} (hd : decode bytes pc = .ok (.ishr, 1))  (hp : pc + 1 = pc') (k : Go p e below s n0 rc rs P T (mkF m pc' Ls (.int (x >>> (y &&& 31)) :: st))) : Go p e below s n0 rc rs P T (mkF m pc Ls (.int y :: .int x :: st)) := by
  obtain ⟨locs, X, eT, N, hn⟩ := X; obtain ⟨hx, hZ, hby, hown, hml, hlk, hrt⟩ := C
  subst hp; exact Go.of (fun t q => XS.ishr X.here hx rfl (hb hby hd) rfl q) k
theorem Go.iushr (C : Cx p s m meth c Z bytes own ret maxL) (X : On p l e R s m args below meth c n0 T h cells slots) {x y : Int32} (hd : decode bytes pc = .ok (.iushr, 1))  (hp : pc + 1 = pc') (k : Go p e below s n0 rc rs P T (mkF m pc' Ls (.int ((x.toUInt32 >>> (y &&& 31).toUInt32).toInt32) :: st))) : Go p e below s n0 rc rs P T (mkF m pc Ls (.int y :: .int x :: st)) := by
  obtain ⟨locs, X, eT, N, hn⟩ := X; obtain ⟨hx, hZ, hby, hown, hml, hlk, hrt⟩ := C
  subst hp; exact Go.of (fun t q => XS.iushr X.here hx rfl (hb hby hd) rfl q) k
theorem Go.ladd (C : Cx p s m meth c Z bytes own ret maxL) (X : On p l e R s m args below meth c n0 T h cells slots) {x y : Int64} (hd : decode bytes pc = .ok (.ladd, 1))  (hp : pc + 1 = pc') (k : Go p e below s n0 rc rs P T (mkF m pc' Ls (.long (x + y) :: st))) : Go p e below s n0 rc rs P T (mkF m pc Ls (.long y :: .long x :: st)) := by
  obtain ⟨locs, X, eT, N, hn⟩ := X; obtain ⟨hx, hZ, hby, hown, hml, hlk, hrt⟩ := C
  subst hp; exact Go.of (fun t q => XS.ladd X.here hx rfl (hb hby hd) rfl q) k
theorem Go.lsub (C : Cx p s m meth c Z bytes own ret maxL) (X : On p l e R s m args below meth c n0 T h cells slots) {x y : Int64} (hd : decode bytes pc = .ok (.lsub, 1))  (hp : pc + 1 = pc') (k : Go p e below s n0 rc rs P T (mkF m pc' Ls (.long (x - y) :: st))) : Go p e below s n0 rc rs P T (mkF m pc Ls (.long y :: .long x :: st)) := by
  obtain ⟨locs, X, eT, N, hn⟩ := X; obtain ⟨hx, hZ, hby, hown, hml, hlk, hrt⟩ := C
  subst hp; exact Go.of (fun t q => XS.lsub X.here hx rfl (hb hby hd) rfl q) k
theorem Go.lmul (C : Cx p s m meth c Z bytes own ret maxL) (X : On p l e R s m args below meth c n0 T h cells slots) {x y : Int64} (hd : decode bytes pc = .ok (.lmul, 1))  (hp : pc + 1 = pc') (k : Go p e below s n0 rc rs P T (mkF m pc' Ls (.long (x * y) :: st))) : Go p e below s n0 rc rs P T (mkF m pc Ls (.long y :: .long x :: st)) := by
  obtain ⟨locs, X, eT, N, hn⟩ := X; obtain ⟨hx, hZ, hby, hown, hml, hlk, hrt⟩ := C
  subst hp; exact Go.of (fun t q => XS.lmul X.here hx rfl (hb hby hd) rfl q) k
theorem Go.land (C : Cx p s m meth c Z bytes own ret maxL) (X : On p l e R s m args below meth c n0 T h cells slots) {x y : Int64} (hd : decode bytes pc = .ok (.land, 1))  (hp : pc + 1 = pc') (k : Go p e below s n0 rc rs P T (mkF m pc' Ls (.long (x &&& y) :: st))) : Go p e below s n0 rc rs P T (mkF m pc Ls (.long y :: .long x :: st)) := by
  obtain ⟨locs, X, eT, N, hn⟩ := X; obtain ⟨hx, hZ, hby, hown, hml, hlk, hrt⟩ := C
  subst hp; exact Go.of (fun t q => XS.land X.here hx rfl (hb hby hd) rfl q) k
theorem Go.lor (C : Cx p s m meth c Z bytes own ret maxL) (X : On p l e R s m args below meth c n0 T h cells slots) {x y : Int64} (hd : decode bytes pc = .ok (.lor, 1))  (hp : pc + 1 = pc') (k : Go p e below s n0 rc rs P T (mkF m pc' Ls (.long (x ||| y) :: st))) : Go p e below s n0 rc rs P T (mkF m pc Ls (.long y :: .long x :: st)) := by
  obtain ⟨locs, X, eT, N, hn⟩ := X; obtain ⟨hx, hZ, hby, hown, hml, hlk, hrt⟩ := C
  subst hp; exact Go.of (fun t q => XS.lor X.here hx rfl (hb hby hd) rfl q) k
theorem Go.lxor (C : Cx p s m meth c Z bytes own ret maxL) (X : On p l e R s m args below meth c n0 T h cells slots) {x y : Int64} (hd : decode bytes pc = .ok (.lxor, 1))  (hp : pc + 1 = pc') (k : Go p e below s n0 rc rs P T (mkF m pc' Ls (.long (x ^^^ y) :: st))) : Go p e below s n0 rc rs P T (mkF m pc Ls (.long y :: .long x :: st)) := by
  obtain ⟨locs, X, eT, N, hn⟩ := X; obtain ⟨hx, hZ, hby, hown, hml, hlk, hrt⟩ := C
  subst hp; exact Go.of (fun t q => XS.lxor X.here hx rfl (hb hby hd) rfl q) k
theorem Go.lshl (C : Cx p s m meth c Z bytes own ret maxL) (X : On p l e R s m args below meth c n0 T h cells slots) {x : Int64} {y : Int32} (hd : decode bytes pc = .ok (.lshl, 1))  (hp : pc + 1 = pc') (k : Go p e below s n0 rc rs P T (mkF m pc' Ls (.long (x <<< (y &&& 0x3f).toInt64) :: st))) : Go p e below s n0 rc rs P T (mkF m pc Ls (.int y :: .long x :: st)) := by
  obtain ⟨locs, X, eT, N, hn⟩ := X; obtain ⟨hx, hZ, hby, hown, hml, hlk, hrt⟩ := C
  subst hp; exact Go.of (fun t q => XS.lshl X.here hx rfl (hb hby hd) rfl q) k
theorem Go.lshr (C : Cx p s m meth c Z bytes own ret maxL) (X : On p l e R s m args below meth c n0 T h cells slots) {x : Int64} {y : Int32} (hd : decode bytes pc = .ok (.lshr, 1))  (hp : pc + 1 = pc') (k : Go p e below s n0 rc rs P T (mkF m pc' Ls (.long (x >>> (y &&& 0x3f).toInt64) :: st))) : Go p e below s n0 rc rs P T (mkF m pc Ls (.int y :: .long x :: st)) := by
  obtain ⟨locs, X, eT, N, hn⟩ := X; obtain ⟨hx, hZ, hby, hown, hml, hlk, hrt⟩ := C
  subst hp; exact Go.of (fun t q => XS.lshr X.here hx rfl (hb hby hd) rfl q) k
theorem Go.lushr (C : Cx p s m meth c Z bytes own ret maxL) (X : On p l e R s m args below meth c n0 T h cells slots) {x : Int64} {y : Int32} (hd : decode bytes pc = .ok (.lushr, 1))  (hp : pc + 1 = pc') (k : Go p e below s n0 rc rs P T (mkF m pc' Ls (.long ((x.toUInt64 >>> (y &&& 0x3f).toInt64.toUInt64).toInt64) :: st))) : Go p e below s n0 rc rs P T (mkF m pc Ls (.int y :: .long x :: st)) := by
  obtain ⟨locs, X, eT, N, hn⟩ := X; obtain ⟨hx, hZ, hby, hown, hml, hlk, hrt⟩ := C
  subst hp; exact Go.of (fun t q => XS.lushr X.here hx rfl (hb hby hd) rfl q) k
theorem Go.i2l (C : Cx p s m meth c Z bytes own ret maxL) (X : On p l e R s m args below meth c n0 T h cells slots) {x : Int32} (hd : decode bytes pc = .ok (.i2l, 1))  (hp : pc + 1 = pc') (k : Go p e below s n0 rc rs P T (mkF m pc' Ls (.long (x.toInt64) :: st))) : Go p e below s n0 rc rs P T (mkF m pc Ls (.int x :: st)) := by
  obtain ⟨locs, X, eT, N, hn⟩ := X; obtain ⟨hx, hZ, hby, hown, hml, hlk, hrt⟩ := C
  subst hp; exact Go.of (fun t q => XS.i2l X.here hx rfl (hb hby hd) rfl q) k
theorem Go.l2i (C : Cx p s m meth c Z bytes own ret maxL) (X : On p l e R s m args below meth c n0 T h cells slots) {x : Int64} (hd : decode bytes pc = .ok (.l2i, 1))  (hp : pc + 1 = pc') (k : Go p e below s n0 rc rs P T (mkF m pc' Ls (.int (x.toInt32) :: st))) : Go p e below s n0 rc rs P T (mkF m pc Ls (.long x :: st)) := by
  obtain ⟨locs, X, eT, N, hn⟩ := X; obtain ⟨hx, hZ, hby, hown, hml, hlk, hrt⟩ := C
  subst hp; exact Go.of (fun t q => XS.l2i X.here hx rfl (hb hby hd) rfl q) k
theorem Go.i2b (C : Cx p s m meth c Z bytes own ret maxL) (X : On p l e R s m args below meth c n0 T h cells slots) {x : Int32} (hd : decode bytes pc = .ok (.i2b, 1))  (hp : pc + 1 = pc') (k : Go p e below s n0 rc rs P T (mkF m pc' Ls (.int (x.toInt8.toInt32) :: st))) : Go p e below s n0 rc rs P T (mkF m pc Ls (.int x :: st)) := by
  obtain ⟨locs, X, eT, N, hn⟩ := X; obtain ⟨hx, hZ, hby, hown, hml, hlk, hrt⟩ := C
  subst hp; exact Go.of (fun t q => XS.i2b X.here hx rfl (hb hby hd) rfl q) k
theorem Go.i2s (C : Cx p s m meth c Z bytes own ret maxL) (X : On p l e R s m args below meth c n0 T h cells slots) {x : Int32} (hd : decode bytes pc = .ok (.i2s, 1))  (hp : pc + 1 = pc') (k : Go p e below s n0 rc rs P T (mkF m pc' Ls (.int (x.toInt16.toInt32) :: st))) : Go p e below s n0 rc rs P T (mkF m pc Ls (.int x :: st)) := by
  obtain ⟨locs, X, eT, N, hn⟩ := X; obtain ⟨hx, hZ, hby, hown, hml, hlk, hrt⟩ := C
  subst hp; exact Go.of (fun t q => XS.i2s X.here hx rfl (hb hby hd) rfl q) k
theorem Go.i2c (C : Cx p s m meth c Z bytes own ret maxL) (X : On p l e R s m args below meth c n0 T h cells slots) {x : Int32} (hd : decode bytes pc = .ok (.i2c, 1))  (hp : pc + 1 = pc') (k : Go p e below s n0 rc rs P T (mkF m pc' Ls (.int (x.toUInt32.toUInt16.toUInt32.toInt32) :: st))) : Go p e below s n0 rc rs P T (mkF m pc Ls (.int x :: st)) := by
  obtain ⟨locs, X, eT, N, hn⟩ := X; obtain ⟨hx, hZ, hby, hown, hml, hlk, hrt⟩ := C
  subst hp; exact Go.of (fun t q => XS.i2c X.here hx rfl (hb hby hd) rfl q) k
theorem Go.lneg (C : Cx p s m meth c Z bytes own ret maxL) (X : On p l e R s m args below meth c n0 T h cells slots) {x : Int64} (hd : decode bytes pc = .ok (.lneg, 1))  (hp : pc + 1 = pc') (k : Go p e below s n0 rc rs P T (mkF m pc' Ls (.long (-x) :: st))) : Go p e below s n0 rc rs P T (mkF m pc Ls (.long x :: st)) := by
  obtain ⟨locs, X, eT, N, hn⟩ := X; obtain ⟨hx, hZ, hby, hown, hml, hlk, hrt⟩ := C
  subst hp; exact Go.of (fun t q => XS.lneg X.here hx rfl (hb hby hd) rfl q) k
theorem Go.ineg (C : Cx p s m meth c Z bytes own ret maxL) (X : On p l e R s m args below meth c n0 T h cells slots) {x : Int32} (hd : decode bytes pc = .ok (.ineg, 1))  (hp : pc + 1 = pc') (k : Go p e below s n0 rc rs P T (mkF m pc' Ls (.int (-x) :: st))) : Go p e below s n0 rc rs P T (mkF m pc Ls (.int x :: st)) := by
  obtain ⟨locs, X, eT, N, hn⟩ := X; obtain ⟨hx, hZ, hby, hown, hml, hlk, hrt⟩ := C
  subst hp; exact Go.of (fun t q => XS.ineg X.here hx rfl (hb hby hd) rfl q) k
theorem Go.idiv (C : Cx p s m meth c Z bytes own ret maxL) (X : On p l e R s m args below meth c n0 T h cells slots) {x y : Int32} (hd : decode bytes pc = .ok (.idiv, 1)) (hy : y ≠ 0) (hp : pc + 1 = pc') (k : Go p e below s n0 rc rs P T (mkF m pc' Ls (.int (x / y) :: st))) : Go p e below s n0 rc rs P T (mkF m pc Ls (.int y :: .int x :: st)) := by
  obtain ⟨locs, X, eT, N, hn⟩ := X; obtain ⟨hx, hZ, hby, hown, hml, hlk, hrt⟩ := C
  subst hp; exact Go.of (fun t q => XS.idiv X.here hx rfl (hb hby hd) rfl hy q) k
theorem Go.ldiv (C : Cx p s m meth c Z bytes own ret maxL) (X : On p l e R s m args below meth c n0 T h cells slots) {x y : Int64} (hd : decode bytes pc = .ok (.ldiv, 1)) (hy : y ≠ 0) (hp : pc + 1 = pc') (k : Go p e below s n0 rc rs P T (mkF m pc' Ls (.long (x / y) :: st))) : Go p e below s n0 rc rs P T (mkF m pc Ls (.long y :: .long x :: st)) := by
  obtain ⟨locs, X, eT, N, hn⟩ := X; obtain ⟨hx, hZ, hby, hown, hml, hlk, hrt⟩ := C
  subst hp; exact Go.of (fun t q => XS.ldiv X.here hx rfl (hb hby hd) rfl hy q) k
theorem Go.irem (C : Cx p s m meth c Z bytes own ret maxL) (X : On p l e R s m args below meth c n0 T h cells slots) {x y : Int32} (hd : decode bytes pc = .ok (.irem, 1)) (hy : y ≠ 0) (hp : pc + 1 = pc') (k : Go p e below s n0 rc rs P T (mkF m pc' Ls (.int (x % y) :: st))) : Go p e below s n0 rc rs P T (mkF m pc Ls (.int y :: .int x :: st)) := by
  obtain ⟨locs, X, eT, N, hn⟩ := X; obtain ⟨hx, hZ, hby, hown, hml, hlk, hrt⟩ := C
  subst hp; exact Go.of (fun t q => iremM X hx rfl (hb hby hd) rfl hy q) k
theorem Go.lrem (C : Cx p s m meth c Z bytes own ret maxL) (X : On p l e R s m args below meth c n0 T h cells slots) {x y : Int64} (hd : decode bytes pc = .ok (.lrem, 1)) (hy : y ≠ 0) (hp : pc + 1 = pc') (k : Go p e below s n0 rc rs P T (mkF m pc' Ls (.long (x % y) :: st))) : Go p e below s n0 rc rs P T (mkF m pc Ls (.long y :: .long x :: st)) := by
  obtain ⟨locs, X, eT, N, hn⟩ := X; obtain ⟨hx, hZ, hby, hown, hml, hlk, hrt⟩ := C
  subst hp; rw [← lrem_mod] at k; exact Go.of (fun t q => XS.lrem X.here hx rfl (hb hby hd) rfl hy q) k
theorem Go.lcmp (C : Cx p s m meth c Z bytes own ret maxL) (X : On p l e R s m args below meth c n0 T h cells slots) {x y : Int64} (hd : decode bytes pc = .ok (.lcmp, 1))  (hp : pc + 1 = pc') (k : Go p e below s n0 rc rs P T (mkF m pc' Ls (.int (lcmpW x y) :: st))) : Go p e below s n0 rc rs P T (mkF m pc Ls (.long y :: .long x :: st)) := by
  obtain ⟨locs, X, eT, N, hn⟩ := X; obtain ⟨hx, hZ, hby, hown, hml, hlk, hrt⟩ := C
  subst hp; exact Go.of (fun t q => XS.lcmp X.here hx rfl (hb hby hd) rfl q) k
theorem Go.dup (C : Cx p s m meth c Z bytes own ret maxL) (X : On p l e R s m args below meth c n0 T h cells slots) {v : Value} (hd : decode bytes pc = .ok (.dup, 1)) (hc : v.category = 1) (hp : pc + 1 = pc') (k : Go p e below s n0 rc rs P T (mkF m pc' Ls (v :: v :: st))) : Go p e below s n0 rc rs P T (mkF m pc Ls (v :: st)) := by
  obtain ⟨locs, X, eT, N, hn⟩ := X; obtain ⟨hx, hZ, hby, hown, hml, hlk, hrt⟩ := C
  subst hp; exact Go.of (fun t q => XS.dup X.here hx rfl (hb hby hd) rfl hc q) k
theorem Go.pop (C : Cx p s m meth c Z bytes own ret maxL) (X : On p l e R s m args below meth c n0 T h cells slots) {v : Value} (hd : decode bytes pc = .ok (.pop, 1)) (hc : v.category = 1) (hp : pc + 1 = pc') (k : Go p e below s n0 rc rs P T (mkF m pc' Ls st)) : Go p e below s n0 rc rs P T (mkF m pc Ls (v :: st)) := by
  obtain ⟨locs, X, eT, N, hn⟩ := X; obtain ⟨hx, hZ, hby, hown, hml, hlk, hrt⟩ := C
  subst hp; exact Go.of (fun t q => XS.pop X.here hx rfl (hb hby hd) rfl hc q) k
theorem Go.dup_x1 (C : Cx p s m meth c Z bytes own ret maxL) (X : On p l e R s m args below meth c n0 T h cells slots) {v u : Value} (hd : decode bytes pc = .ok (.dup_x1, 1)) (hc : v.category = 1) (hc2 : u.category = 1) (hp : pc + 1 = pc') (k : Go p e below s n0 rc rs P T (mkF m pc' Ls (v :: u :: v :: st))) : Go p e below s n0 rc rs P T (mkF m pc Ls (v :: u :: st)) := by
  obtain ⟨locs, X, eT, N, hn⟩ := X; obtain ⟨hx, hZ, hby, hown, hml, hlk, hrt⟩ := C
  subst hp; exact Go.of (fun t q => XS.dupX1 X.here hx rfl (hb hby hd) rfl hc hc2 q) k
theorem Go.dup2 (C : Cx p s m meth c Z bytes own ret maxL) (X : On p l e R s m args below meth c n0 T h cells slots) {v u : Value} (hd : decode bytes pc = .ok (.dup2, 1)) (hc : v.category = 1) (hc2 : u.category = 1) (hp : pc + 1 = pc') (k : Go p e below s n0 rc rs P T (mkF m pc' Ls (v :: u :: v :: u :: st))) : Go p e below s n0 rc rs P T (mkF m pc Ls (v :: u :: st)) := by
  obtain ⟨locs, X, eT, N, hn⟩ := X; obtain ⟨hx, hZ, hby, hown, hml, hlk, hrt⟩ := C
  subst hp; exact Go.of (fun t q => Jvm.Free.XT.dup2 X.here hx rfl (hb hby hd) rfl hc hc2 q) k
theorem Go.dup2L (C : Cx p s m meth c Z bytes own ret maxL) (X : On p l e R s m args below meth c n0 T h cells slots) {x : Int64} (hd : decode bytes pc = .ok (.dup2, 1))  (hp : pc + 1 = pc') (k : Go p e below s n0 rc rs P T (mkF m pc' Ls (.long x :: .long x :: st))) : Go p e below s n0 rc rs P T (mkF m pc Ls (.long x :: st)) := by
  obtain ⟨locs, X, eT, N, hn⟩ := X; obtain ⟨hx, hZ, hby, hown, hml, hlk, hrt⟩ := C
  subst hp; exact Go.of (fun t q => Jvm.Free.XT.dup2L X.here hx rfl (hb hby hd) rfl q) k
theorem Go.iconst (C : Cx p s m meth c Z bytes own ret maxL) (X : On p l e R s m args below meth c n0 T h cells slots) {i : Int} {v : Int32} (hd : decode bytes pc = .ok (.iconst i, 1)) (hv : Int32.ofInt i = v) (hp : pc + 1 = pc') (k : Go p e below s n0 rc rs P T (mkF m pc' Ls (.int v :: st))) : Go p e below s n0 rc rs P T (mkF m pc Ls st) := by
  obtain ⟨locs, X, eT, N, hn⟩ := X; obtain ⟨hx, hZ, hby, hown, hml, hlk, hrt⟩ := C
  subst hp hv; exact Go.of (fun t q => XS.iconst X.here hx rfl (hb hby hd) q) k
theorem Go.bipush (C : Cx p s m meth c Z bytes own ret maxL) (X : On p l e R s m args below meth c n0 T h cells slots) {i : Int} {v : Int32} (hd : decode bytes pc = .ok (.bipush i, 2)) (hv : (Int8.ofInt i).toInt32 = v) (hp : pc + 2 = pc') (k : Go p e below s n0 rc rs P T (mkF m pc' Ls (.int v :: st))) : Go p e below s n0 rc rs P T (mkF m pc Ls st) := by
  obtain ⟨locs, X, eT, N, hn⟩ := X; obtain ⟨hx, hZ, hby, hown, hml, hlk, hrt⟩ := C
  subst hp hv; exact Go.of (fun t q => XS.bipush X.here hx rfl (hb hby hd) q) k
theorem Go.sipush (C : Cx p s m meth c Z bytes own ret maxL) (X : On p l e R s m args below meth c n0 T h cells slots) {i : Int} {v : Int32} (hd : decode bytes pc = .ok (.sipush i, 3)) (hv : (Int16.ofInt i).toInt32 = v) (hp : pc + 3 = pc') (k : Go p e below s n0 rc rs P T (mkF m pc' Ls (.int v :: st))) : Go p e below s n0 rc rs P T (mkF m pc Ls st) := by
  obtain ⟨locs, X, eT, N, hn⟩ := X; obtain ⟨hx, hZ, hby, hown, hml, hlk, hrt⟩ := C
  subst hp hv; exact Go.of (fun t q => XS.sipush X.here hx rfl (hb hby hd) q) k
theorem Go.lconst (C : Cx p s m meth c Z bytes own ret maxL) (X : On p l e R s m args below meth c n0 T h cells slots) {i : Fin 2} {v : Int64} (hd : decode bytes pc = .ok (.lconst i, 1)) (hv : Int64.ofNat i = v) (hp : pc + 1 = pc') (k : Go p e below s n0 rc rs P T (mkF m pc' Ls (.long v :: st))) : Go p e below s n0 rc rs P T (mkF m pc Ls st) := by
  obtain ⟨locs, X, eT, N, hn⟩ := X; obtain ⟨hx, hZ, hby, hown, hml, hlk, hrt⟩ := C
  subst hp hv; exact Go.of (fun t q => XS.lconst X.here hx rfl (hb hby hd) q) k
theorem Go.aconst_null (C : Cx p s m meth c Z bytes own ret maxL) (X : On p l e R s m args below meth c n0 T h cells slots)  (hd : decode bytes pc = .ok (.aconst_null, 1))  (hp : pc + 1 = pc') (k : Go p e below s n0 rc rs P T (mkF m pc' Ls (.null :: st))) : Go p e below s n0 rc rs P T (mkF m pc Ls st) := by
  obtain ⟨locs, X, eT, N, hn⟩ := X; obtain ⟨hx, hZ, hby, hown, hml, hlk, hrt⟩ := C
  subst hp; exact Go.of (fun t q => XS.aconstNull X.here hx rfl (hb hby hd)  q) k
theorem Go.ldc (C : Cx p s m meth c Z bytes own ret maxL) (X : On p l e R s m args below meth c n0 T h cells slots) {i : Nat} {v : Int32} (hc : (Cond.constant own i v).before a0 Z = true) (hd : decode bytes pc = .ok (.ldc i, 2)) (hp : pc + 2 = pc') (k : Go p e below s n0 rc rs P T (mkF m pc' Ls (.int v :: st))) : Go p e below s n0 rc rs P T (mkF m pc Ls st) := by
  obtain ⟨locs, X, eT, N, hn⟩ := X; obtain ⟨hx, hZ, hby, hown, hml, hlk, hrt⟩ := C
  subst hp; exact Go.of (X.ldcInt hx hown (mvT hZ hc) (g := mkF m pc Ls st) rfl (hb hby hd)) k
theorem Go.ldc2 (C : Cx p s m meth c Z bytes own ret maxL) (X : On p l e R s m args below meth c n0 T h cells slots) {i : Nat} {v : Int64} (hc : (Cond.constantLong own i v).before a0 Z = true) (hd : decode bytes pc = .ok (.ldc2_w i, 3)) (hp : pc + 3 = pc') (k : Go p e below s n0 rc rs P T (mkF m pc' Ls (.long v :: st))) : Go p e below s n0 rc rs P T (mkF m pc Ls st) := by
  obtain ⟨locs, X, eT, N, hn⟩ := X; obtain ⟨hx, hZ, hby, hown, hml, hlk, hrt⟩ := C
  subst hp; exact Go.of (X.ldc2Long hx hown (mvT hZ hc) (g := mkF m pc Ls st) rfl (hb hby hd)) k
theorem Go.iload (C : Cx p s m meth c Z bytes own ret maxL) (X : On p l e R s m args below meth c n0 T h cells slots) {i : Nat} {v : Int32} (hd : decode bytes pc = .ok (.iload i, 2)) (hl : Ls[i]? = some (.val (.int v))) (hp : pc + 2 = pc') (k : Go p e below s n0 rc rs P T (mkF m pc' Ls (.int v :: st))) : Go p e below s n0 rc rs P T (mkF m pc Ls st) := by
  obtain ⟨locs, X, eT, N, hn⟩ := X; obtain ⟨hx, hZ, hby, hown, hml, hlk, hrt⟩ := C
  subst hp; exact Go.of (fun t q => XS.iload X.here hx rfl (hb hby hd) hl q) k
theorem Go.iloadN (C : Cx p s m meth c Z bytes own ret maxL) (X : On p l e R s m args below meth c n0 T h cells slots) {i : Fin 4} {v : Int32} (hd : decode bytes pc = .ok (.iload_n i, 1)) (hl : Ls[i.val]? = some (.val (.int v))) (hp : pc + 1 = pc') (k : Go p e below s n0 rc rs P T (mkF m pc' Ls (.int v :: st))) : Go p e below s n0 rc rs P T (mkF m pc Ls st) := by
  obtain ⟨locs, X, eT, N, hn⟩ := X; obtain ⟨hx, hZ, hby, hown, hml, hlk, hrt⟩ := C
  subst hp; exact Go.of (fun t q => XS.iloadN X.here hx rfl (hb hby hd) hl q) k
theorem Go.istore (C : Cx p s m meth c Z bytes own ret maxL) (X : On p l e R s m args below meth c n0 T h cells slots) {i : Nat} {v : Int32} {Ls' : Array Slot} (hd : decode bytes pc = .ok (.istore i, 2)) (hl : storeLocals Ls i (.int v) = some Ls') (hp : pc + 2 = pc') (k : Go p e below s n0 rc rs P T (mkF m pc' Ls' st)) : Go p e below s n0 rc rs P T (mkF m pc Ls (.int v :: st)) := by
  obtain ⟨locs, X, eT, N, hn⟩ := X; obtain ⟨hx, hZ, hby, hown, hml, hlk, hrt⟩ := C
  subst hp; exact Go.of (fun t q => XS.istore X.here hx rfl (hb hby hd) rfl hl q) k
theorem Go.istoreN (C : Cx p s m meth c Z bytes own ret maxL) (X : On p l e R s m args below meth c n0 T h cells slots) {i : Fin 4} {v : Int32} {Ls' : Array Slot} (hd : decode bytes pc = .ok (.istore_n i, 1)) (hl : storeLocals Ls i.val (.int v) = some Ls') (hp : pc + 1 = pc') (k : Go p e below s n0 rc rs P T (mkF m pc' Ls' st)) : Go p e below s n0 rc rs P T (mkF m pc Ls (.int v :: st)) := by
  obtain ⟨locs, X, eT, N, hn⟩ := X; obtain ⟨hx, hZ, hby, hown, hml, hlk, hrt⟩ := C
  subst hp; exact Go.of (fun t q => XS.istoreN X.here hx rfl (hb hby hd) rfl hl q) k
theorem Go.lload (C : Cx p s m meth c Z bytes own ret maxL) (X : On p l e R s m args below meth c n0 T h cells slots) {i : Nat} {v : Int64} (hd : decode bytes pc = .ok (.lload i, 2)) (hl : Ls[i]? = some (.val (.long v))) (hp : pc + 2 = pc') (k : Go p e below s n0 rc rs P T (mkF m pc' Ls (.long v :: st))) : Go p e below s n0 rc rs P T (mkF m pc Ls st) := by
  obtain ⟨locs, X, eT, N, hn⟩ := X; obtain ⟨hx, hZ, hby, hown, hml, hlk, hrt⟩ := C
  subst hp; exact Go.of (fun t q => XS.lload X.here hx rfl (hb hby hd) hl q) k
theorem Go.lloadN (C : Cx p s m meth c Z bytes own ret maxL) (X : On p l e R s m args below meth c n0 T h cells slots) {i : Fin 4} {v : Int64} (hd : decode bytes pc = .ok (.lload_n i, 1)) (hl : Ls[i.val]? = some (.val (.long v))) (hp : pc + 1 = pc') (k : Go p e below s n0 rc rs P T (mkF m pc' Ls (.long v :: st))) : Go p e below s n0 rc rs P T (mkF m pc Ls st) := by
  obtain ⟨locs, X, eT, N, hn⟩ := X; obtain ⟨hx, hZ, hby, hown, hml, hlk, hrt⟩ := C
  subst hp; exact Go.of (fun t q => XS.lloadN X.here hx rfl (hb hby hd) hl q) k
theorem Go.lstore (C : Cx p s m meth c Z bytes own ret maxL) (X : On p l e R s m args below meth c n0 T h cells slots) {i : Nat} {v : Int64} {Ls' : Array Slot} (hd : decode bytes pc = .ok (.lstore i, 2)) (hl : storeLocals Ls i (.long v) = some Ls') (hp : pc + 2 = pc') (k : Go p e below s n0 rc rs P T (mkF m pc' Ls' st)) : Go p e below s n0 rc rs P T (mkF m pc Ls (.long v :: st)) := by
  obtain ⟨locs, X, eT, N, hn⟩ := X; obtain ⟨hx, hZ, hby, hown, hml, hlk, hrt⟩ := C
  subst hp; exact Go.of (fun t q => XS.lstore X.here hx rfl (hb hby hd) rfl hl q) k
theorem Go.lstoreN (C : Cx p s m meth c Z bytes own ret maxL) (X : On p l e R s m args below meth c n0 T h cells slots) {i : Fin 4} {v : Int64} {Ls' : Array Slot} (hd : decode bytes pc = .ok (.lstore_n i, 1)) (hl : storeLocals Ls i.val (.long v) = some Ls') (hp : pc + 1 = pc') (k : Go p e below s n0 rc rs P T (mkF m pc' Ls' st)) : Go p e below s n0 rc rs P T (mkF m pc Ls (.long v :: st)) := by
  obtain ⟨locs, X, eT, N, hn⟩ := X; obtain ⟨hx, hZ, hby, hown, hml, hlk, hrt⟩ := C
  subst hp; exact Go.of (fun t q => XS.lstoreN X.here hx rfl (hb hby hd) rfl hl q) k
theorem Go.aload (C : Cx p s m meth c Z bytes own ret maxL) (X : On p l e R s m args below meth c n0 T h cells slots) {i : Nat} {v : Value} (hd : decode bytes pc = .ok (.aload i, 2)) (hl : Ls[i]? = some (.val v)) (hv : v.isRef = true) (hp : pc + 2 = pc') (k : Go p e below s n0 rc rs P T (mkF m pc' Ls (v :: st))) : Go p e below s n0 rc rs P T (mkF m pc Ls st) := by
  obtain ⟨locs, X, eT, N, hn⟩ := X; obtain ⟨hx, hZ, hby, hown, hml, hlk, hrt⟩ := C
  subst hp; exact Go.of (fun t q => XS.aload X.here hx rfl (hb hby hd) hl hv q) k
theorem Go.aloadN (C : Cx p s m meth c Z bytes own ret maxL) (X : On p l e R s m args below meth c n0 T h cells slots) {i : Fin 4} {v : Value} (hd : decode bytes pc = .ok (.aload_n i, 1)) (hl : Ls[i.val]? = some (.val v)) (hv : v.isRef = true) (hp : pc + 1 = pc') (k : Go p e below s n0 rc rs P T (mkF m pc' Ls (v :: st))) : Go p e below s n0 rc rs P T (mkF m pc Ls st) := by
  obtain ⟨locs, X, eT, N, hn⟩ := X; obtain ⟨hx, hZ, hby, hown, hml, hlk, hrt⟩ := C
  subst hp; exact Go.of (fun t q => XS.aloadN X.here hx rfl (hb hby hd) hl hv q) k
theorem Go.astore (C : Cx p s m meth c Z bytes own ret maxL) (X : On p l e R s m args below meth c n0 T h cells slots) {i : Nat} {v : Value} {Ls' : Array Slot} (hd : decode bytes pc = .ok (.astore i, 2)) (hv : v.isRef = true) (hl : storeLocals Ls i v = some Ls') (hp : pc + 2 = pc') (k : Go p e below s n0 rc rs P T (mkF m pc' Ls' st)) : Go p e below s n0 rc rs P T (mkF m pc Ls (v :: st)) := by
  obtain ⟨locs, X, eT, N, hn⟩ := X; obtain ⟨hx, hZ, hby, hown, hml, hlk, hrt⟩ := C
  subst hp; exact Go.of (fun t q => XS.astore X.here hx rfl (hb hby hd) rfl hv hl q) k
theorem Go.astoreN (C : Cx p s m meth c Z bytes own ret maxL) (X : On p l e R s m args below meth c n0 T h cells slots) {i : Fin 4} {v : Value} {Ls' : Array Slot} (hd : decode bytes pc = .ok (.astore_n i, 1)) (hv : v.isRef = true) (hl : storeLocals Ls i.val v = some Ls') (hp : pc + 1 = pc') (k : Go p e below s n0 rc rs P T (mkF m pc' Ls' st)) : Go p e below s n0 rc rs P T (mkF m pc Ls (v :: st)) := by
  obtain ⟨locs, X, eT, N, hn⟩ := X; obtain ⟨hx, hZ, hby, hown, hml, hlk, hrt⟩ := C
  subst hp; exact Go.of (fun t q => XS.astoreN X.here hx rfl (hb hby hd) rfl hv hl q) k
theorem Go.iinc (C : Cx p s m meth c Z bytes own ret maxL) (X : On p l e R s m args below meth c n0 T h cells slots) {i : Nat} {d : Int} {v v' : Int32} {Ls' : Array Slot} (hd : decode bytes pc = .ok (.iinc i d, 3)) (hl : Ls[i]? = some (.val (.int v))) (hv : v + Int32.ofInt d = v') (hl' : storeLocals Ls i (.int v') = some Ls') (hp : pc + 3 = pc') (k : Go p e below s n0 rc rs P T (mkF m pc' Ls' st)) : Go p e below s n0 rc rs P T (mkF m pc Ls st) := by
  obtain ⟨locs, X, eT, N, hn⟩ := X; obtain ⟨hx, hZ, hby, hown, hml, hlk, hrt⟩ := C
  subst hp hv; exact Go.of (fun t q => XS.iinc X.here hx rfl (hb hby hd) hl hl' q) k
theorem Go.goto (C : Cx p s m meth c Z bytes own ret maxL) (X : On p l e R s m args below meth c n0 T h cells slots) {o : Int} (hd : decode bytes pc = .ok (.goto o, 3)) (ho : 0 ≤ (pc : Int) + o) (hp : ((pc : Int) + o).toNat = pc') (k : Go p e below s n0 rc rs P T (mkF m pc' Ls st)) : Go p e below s n0 rc rs P T (mkF m pc Ls st) := by
  obtain ⟨locs, X, eT, N, hn⟩ := X; obtain ⟨hx, hZ, hby, hown, hml, hlk, hrt⟩ := C
  exact Go.of (fun t q => XS.goto X.here hx rfl (pc0 := pc) rfl (hb hby hd) ho hp q) k
theorem Go.ifYes (C : Cx p s m meth c Z bytes own ret maxL) (X : On p l e R s m args below meth c n0 T h cells slots) {o : Int} {cd : ClassFile.Cond} {x : Int32} (hd : decode bytes pc = .ok (.ifCond cd o, 3)) (hc : ifCond.holds cd x = true) (ho : 0 ≤ (pc : Int) + o) (hp : ((pc : Int) + o).toNat = pc') (k : Go p e below s n0 rc rs P T (mkF m pc' Ls st)) : Go p e below s n0 rc rs P T (mkF m pc Ls (.int x :: st)) := by
  obtain ⟨locs, X, eT, N, hn⟩ := X; obtain ⟨hx, hZ, hby, hown, hml, hlk, hrt⟩ := C
  exact Go.of (fun t q => XS.ifYes X.here hx rfl (pc0 := pc) rfl (hb hby hd) rfl hc ho hp q) k
theorem Go.ifNo (C : Cx p s m meth c Z bytes own ret maxL) (X : On p l e R s m args below meth c n0 T h cells slots) {o : Int} {cd : ClassFile.Cond} {x : Int32} (hd : decode bytes pc = .ok (.ifCond cd o, 3)) (hc : ifCond.holds cd x = false) (hp : pc + 3 = pc') (k : Go p e below s n0 rc rs P T (mkF m pc' Ls st)) : Go p e below s n0 rc rs P T (mkF m pc Ls (.int x :: st)) := by
  obtain ⟨locs, X, eT, N, hn⟩ := X; obtain ⟨hx, hZ, hby, hown, hml, hlk, hrt⟩ := C
  subst hp; exact Go.of (fun t q => XS.ifNo X.here hx rfl (hb hby hd) rfl hc q) k
theorem Go.icmpYes (C : Cx p s m meth c Z bytes own ret maxL) (X : On p l e R s m args below meth c n0 T h cells slots) {o : Int} {cd : ClassFile.Cond} {x y : Int32} (hd : decode bytes pc = .ok (.if_icmp cd o, 3)) (hc : if_icmp.holds cd x y = true) (ho : 0 ≤ (pc : Int) + o) (hp : ((pc : Int) + o).toNat = pc') (k : Go p e below s n0 rc rs P T (mkF m pc' Ls st)) : Go p e below s n0 rc rs P T (mkF m pc Ls (.int y :: .int x :: st)) := by
  obtain ⟨locs, X, eT, N, hn⟩ := X; obtain ⟨hx, hZ, hby, hown, hml, hlk, hrt⟩ := C
  exact Go.of (fun t q => XS.icmpYes X.here hx rfl (pc0 := pc) rfl (hb hby hd) rfl hc ho hp q) k
theorem Go.icmpNo (C : Cx p s m meth c Z bytes own ret maxL) (X : On p l e R s m args below meth c n0 T h cells slots) {o : Int} {cd : ClassFile.Cond} {x y : Int32} (hd : decode bytes pc = .ok (.if_icmp cd o, 3)) (hc : if_icmp.holds cd x y = false) (hp : pc + 3 = pc') (k : Go p e below s n0 rc rs P T (mkF m pc' Ls st)) : Go p e below s n0 rc rs P T (mkF m pc Ls (.int y :: .int x :: st)) := by
  obtain ⟨locs, X, eT, N, hn⟩ := X; obtain ⟨hx, hZ, hby, hown, hml, hlk, hrt⟩ := C
  subst hp; exact Go.of (fun t q => XS.icmpNo X.here hx rfl (hb hby hd) rfl hc q) k
theorem Go.acmpYes (C : Cx p s m meth c Z bytes own ret maxL) (X : On p l e R s m args below meth c n0 T h cells slots) {o : Int} {cd : ClassFile.ACond} {a b : Addr} (hd : decode bytes pc = .ok (.if_acmp cd o, 3)) (hc : if_acmp.holds cd (some a) (some b) = true) (ho : 0 ≤ (pc : Int) + o) (hp : ((pc : Int) + o).toNat = pc') (k : Go p e below s n0 rc rs P T (mkF m pc' Ls st)) : Go p e below s n0 rc rs P T (mkF m pc Ls (.ref b :: .ref a :: st)) := by
  obtain ⟨locs, X, eT, N, hn⟩ := X; obtain ⟨hx, hZ, hby, hown, hml, hlk, hrt⟩ := C
  exact Go.of (fun t q => XS.acmpYes X.here hx rfl (pc0 := pc) rfl (hb hby hd) rfl hc ho hp q) k
theorem Go.acmpNo (C : Cx p s m meth c Z bytes own ret maxL) (X : On p l e R s m args below meth c n0 T h cells slots) {o : Int} {cd : ClassFile.ACond} {a b : Addr} (hd : decode bytes pc = .ok (.if_acmp cd o, 3)) (hc : if_acmp.holds cd (some a) (some b) = false) (hp : pc + 3 = pc') (k : Go p e below s n0 rc rs P T (mkF m pc' Ls st)) : Go p e below s n0 rc rs P T (mkF m pc Ls (.ref b :: .ref a :: st)) := by
  obtain ⟨locs, X, eT, N, hn⟩ := X; obtain ⟨hx, hZ, hby, hown, hml, hlk, hrt⟩ := C
  subst hp; exact Go.of (fun t q => XS.acmpNo X.here hx rfl (hb hby hd) rfl hc q) k
theorem Go.acmpV (C : Cx p s m meth c Z bytes own ret maxL) (X : On p l e R s m args below meth c n0 T h cells slots) {o : Int} {cd : ClassFile.ACond} {u v : Value} {same : Bool} (hd : decode bytes pc = .ok (.if_acmp cd o, 3)) (h1 : u.isRef = true) (h2 : v.isRef = true) (hq : decide (u = v) = same) (ho : 0 ≤ (pc : Int) + o) (hp : pc' = if acV cd same = true then ((pc : Int) + o).toNat else pc + 3) (k : Go p e below s n0 rc rs P T (mkF m pc' Ls st)) : Go p e below s n0 rc rs P T (mkF m pc Ls (v :: u :: st)) := by
  obtain ⟨locs, X, eT, N, hn⟩ := X; obtain ⟨hx, hZ, hby, hown, hml, hlk, hrt⟩ := C
  exact Go.of (fun t q => acmp X hx rfl h1 h2 (pc0 := pc) rfl (hb hby hd) rfl hq ho hp q) k
theorem Go.ifnullYes (C : Cx p s m meth c Z bytes own ret maxL) (X : On p l e R s m args below meth c n0 T h cells slots) {o : Int} (hd : decode bytes pc = .ok (.ifnull o, 3)) (ho : 0 ≤ (pc : Int) + o) (hp : ((pc : Int) + o).toNat = pc') (k : Go p e below s n0 rc rs P T (mkF m pc' Ls st)) : Go p e below s n0 rc rs P T (mkF m pc Ls (.null :: st)) := by
  obtain ⟨locs, X, eT, N, hn⟩ := X; obtain ⟨hx, hZ, hby, hown, hml, hlk, hrt⟩ := C
  exact Go.of (fun t q => XS.ifnullYes X.here hx rfl (pc0 := pc) rfl (hb hby hd) rfl ho hp q) k
theorem Go.ifnullNo (C : Cx p s m meth c Z bytes own ret maxL) (X : On p l e R s m args below meth c n0 T h cells slots) {o : Int} {a : Addr} (hd : decode bytes pc = .ok (.ifnull o, 3)) (hp : pc + 3 = pc') (k : Go p e below s n0 rc rs P T (mkF m pc' Ls st)) : Go p e below s n0 rc rs P T (mkF m pc Ls (.ref a :: st)) := by
  obtain ⟨locs, X, eT, N, hn⟩ := X; obtain ⟨hx, hZ, hby, hown, hml, hlk, hrt⟩ := C
  subst hp; exact Go.of (fun t q => XS.ifnullNo X.here hx rfl (hb hby hd) rfl q) k
theorem Go.ifnonnullYes (C : Cx p s m meth c Z bytes own ret maxL) (X : On p l e R s m args below meth c n0 T h cells slots) {o : Int} {a : Addr} (hd : decode bytes pc = .ok (.ifnonnull o, 3)) (ho : 0 ≤ (pc : Int) + o) (hp : ((pc : Int) + o).toNat = pc') (k : Go p e below s n0 rc rs P T (mkF m pc' Ls st)) : Go p e below s n0 rc rs P T (mkF m pc Ls (.ref a :: st)) := by
  obtain ⟨locs, X, eT, N, hn⟩ := X; obtain ⟨hx, hZ, hby, hown, hml, hlk, hrt⟩ := C
  exact Go.of (fun t q => XS.ifnonnullYes X.here hx rfl (pc0 := pc) rfl (hb hby hd) rfl ho hp q) k
theorem Go.ifnonnullNo (C : Cx p s m meth c Z bytes own ret maxL) (X : On p l e R s m args below meth c n0 T h cells slots) {o : Int} (hd : decode bytes pc = .ok (.ifnonnull o, 3)) (hp : pc + 3 = pc') (k : Go p e below s n0 rc rs P T (mkF m pc' Ls st)) : Go p e below s n0 rc rs P T (mkF m pc Ls (.null :: st)) := by
  obtain ⟨locs, X, eT, N, hn⟩ := X; obtain ⟨hx, hZ, hby, hown, hml, hlk, hrt⟩ := C
  subst hp; exact Go.of (fun t q => XS.ifnonnullNo X.here hx rfl (hb hby hd) rfl q) k
theorem Go.lswHit (C : Cx p s m meth c Z bytes own ret maxL) (X : On p l e R s m args below meth c n0 T h cells slots) {dflt : Int} {pairs : Array (Int × Int)} {len : Nat} {x : Int32} {a off : Int} (hd : decode bytes pc = .ok (.lookupswitch dflt pairs, len)) (hs : (pairs.toList.zip (pairs.toList.drop 1)).all (fun (a, next) => a.1 < next.1) = true) (hf : pairs.find? (·.1 == x.toInt) = some (a, off)) (ho : 0 ≤ (pc : Int) + off) (hp : ((pc : Int) + off).toNat = pc') (k : Go p e below s n0 rc rs P T (mkF m pc' Ls st)) : Go p e below s n0 rc rs P T (mkF m pc Ls (.int x :: st)) := by
  obtain ⟨locs, X, eT, N, hn⟩ := X; obtain ⟨hx, hZ, hby, hown, hml, hlk, hrt⟩ := C
  subst hp; exact Go.of (fun t q => X.lookupswitchHit hx (g := mkF m pc Ls (.int x :: st)) rfl rfl (hb hby hd) hs hf ho t q) k
theorem Go.lswMiss (C : Cx p s m meth c Z bytes own ret maxL) (X : On p l e R s m args below meth c n0 T h cells slots) {dflt : Int} {pairs : Array (Int × Int)} {len : Nat} {x : Int32} (hd : decode bytes pc = .ok (.lookupswitch dflt pairs, len)) (hs : (pairs.toList.zip (pairs.toList.drop 1)).all (fun (a, next) => a.1 < next.1) = true) (hf : pairs.find? (·.1 == x.toInt) = none) (ho : 0 ≤ (pc : Int) + dflt) (hp : ((pc : Int) + dflt).toNat = pc') (k : Go p e below s n0 rc rs P T (mkF m pc' Ls st)) : Go p e below s n0 rc rs P T (mkF m pc Ls (.int x :: st)) := by
  obtain ⟨locs, X, eT, N, hn⟩ := X; obtain ⟨hx, hZ, hby, hown, hml, hlk, hrt⟩ := C
  subst hp; exact Go.of (fun t q => X.lookupswitchMiss hx (g := mkF m pc Ls (.int x :: st)) rfl rfl (hb hby hd) hs hf ho t q) k
theorem Go.retV  (C : Cx p s m meth c Z bytes own none maxL) (X : On p l e R s m args below meth c n0 T h cells slots) (hd : decode bytes pc = .ok (.return_, 1)) (hq : P none h) (hc : cells ≤ rc) (hs : slots ≤ rs) : Go p e below s n0 rc rs P T (mkF m pc Ls []) := by
  obtain ⟨locs, X, eT, N, hn⟩ := X; obtain ⟨hx, hZ, hby, hown, hml, hlk, hrt⟩ := C
  obtain ⟨fs, hr, hrun, hended, hW, hsame⟩ := X.leave (v := none) (fun _ => rfl) hlk
  refine ⟨_, _, ?_, hrun, hended, _, _, rfl, ⟨?_, N⟩, ⟨_, rfl⟩, hW, hsame.mono hc hs⟩
  · exact X.returnOut hx hrt (hb hby hd) hr
  · show P _ T.heap; rw [eT]; exact hq
theorem own_retS {locs : List Loc} (X : Stand p l e R s m args below meth c T locs cells slots) (hx : p.tables.exec = Jvm.exec) {z z' : Int32} {t : FieldType} {rest : List Value} (hret : meth.sig.returnType = some t) (hn : narrow t (.int z) = .int z') (hd : decode c.code pc = .ok (.ireturn, 1)) {fs : List Frame}
    (hl : ∀ (f : JFrame) (acts : List Action), f.method = m → f.locked = none → f.entered = [] → (doReturn e (T.setTop f) acts (some (.int z'))).1 = T.setFrames fs) : Steps p.tables e below (T.setTop (mkF m pc Ls (.int z :: rest))) (T.setFrames fs) := by
  have hm' : T.vm.method? m = some meth := X.method'
  show Steps p.tables e below (T.setTop { method := m, pc := pc, locals := Ls, stack := _ :: rest, locked := none }) _
  jvm_step X.here [X.here.top, hx, hd, hm', hret, hn]
  first | (intro acts; rw [hl _ acts rfl rfl rfl]) | rw [hl _ _ rfl rfl rfl]
  exact Steps.refl _
theorem Go.retZ {t : FieldType} (C : Cx p s m meth c Z bytes own (some t) maxL) (X : On p l e R s m args below meth c n0 T h cells slots) {z z' : Int32} (hz : narrow t (.int z) = .int z') (hd : decode bytes pc = .ok (.ireturn, 1)) (hq : P (some (.int z')) h) (hc : cells ≤ rc) (hs : slots ≤ rs) : Go p e below s n0 rc rs P T (mkF m pc Ls (.int z :: st)) := by
  obtain ⟨locs, X, eT, N, hn⟩ := X; obtain ⟨hx, hZ, hby, hown, hml, hlk, hrt⟩ := C
  obtain ⟨fs, hr, hrun, hended, hW, hsame⟩ := X.leave (v := (some (.int z'))) (fun h => by rw [hrt] at h; cases h) hlk
  refine ⟨_, _, ?_, hrun, hended, _, _, rfl, ⟨?_, N⟩, ⟨_, rfl⟩, hW, hsame.mono hc hs⟩
  · exact own_retS X hx hrt hz (hb hby hd) hr
  · show P _ T.heap; rw [eT]; exact hq
theorem Go.retI  (C : Cx p s m meth c Z bytes own (some .int) maxL) (X : On p l e R s m args below meth c n0 T h cells slots) {z : Int32} (hd : decode bytes pc = .ok (.ireturn, 1)) (hq : P (some (.int z)) h) (hc : cells ≤ rc) (hs : slots ≤ rs) : Go p e below s n0 rc rs P T (mkF m pc Ls (.int z :: st)) := by
  obtain ⟨locs, X, eT, N, hn⟩ := X; obtain ⟨hx, hZ, hby, hown, hml, hlk, hrt⟩ := C
  obtain ⟨fs, hr, hrun, hended, hW, hsame⟩ := X.leave (v := (some (.int z))) (fun h => by rw [hrt] at h; cases h) hlk
  refine ⟨_, _, ?_, hrun, hended, _, _, rfl, ⟨?_, N⟩, ⟨_, rfl⟩, hW, hsame.mono hc hs⟩
  · exact own_retS X hx hrt rfl (hb hby hd) hr
  · show P _ T.heap; rw [eT]; exact hq
theorem Go.retL  (C : Cx p s m meth c Z bytes own (some .long) maxL) (X : On p l e R s m args below meth c n0 T h cells slots) {z : Int64} (hd : decode bytes pc = .ok (.lreturn, 1)) (hq : P (some (.long z)) h) (hc : cells ≤ rc) (hs : slots ≤ rs) : Go p e below s n0 rc rs P T (mkF m pc Ls (.long z :: st)) := by
  obtain ⟨locs, X, eT, N, hn⟩ := X; obtain ⟨hx, hZ, hby, hown, hml, hlk, hrt⟩ := C
  obtain ⟨fs, hr, hrun, hended, hW, hsame⟩ := X.leave (v := (some (.long z))) (fun h => by rw [hrt] at h; cases h) hlk
  refine ⟨_, _, ?_, hrun, hended, _, _, rfl, ⟨?_, N⟩, ⟨_, rfl⟩, hW, hsame.mono hc hs⟩
  · jvm_step X.here [X.here.top, hx, (hb hby hd), X.method', hrt, narrow]
    first | (intro acts; rw [hr _ acts rfl rfl rfl]) | rw [hr _ _ rfl rfl rfl]
    exact Steps.refl _
  · show P _ T.heap; rw [eT]; exact hq
theorem Go.retA {cn : String} (C : Cx p s m meth c Z bytes own (some (.object cn)) maxL) (X : On p l e R s m args below meth c n0 T h cells slots) {z : Value} (hz : z.isRef = true) (hd : decode bytes pc = .ok (.areturn, 1)) (hq : P (some z) h) (hc : cells ≤ rc) (hs : slots ≤ rs) : Go p e below s n0 rc rs P T (mkF m pc Ls (z :: st)) := by
  obtain ⟨locs, X, eT, N, hn⟩ := X; obtain ⟨hx, hZ, hby, hown, hml, hlk, hrt⟩ := C
  obtain ⟨fs, hr, hrun, hended, hW, hsame⟩ := X.leave (v := (some z)) (fun h => by rw [hrt] at h; cases h) hlk
  refine ⟨_, _, ?_, hrun, hended, _, _, rfl, ⟨?_, N⟩, ⟨_, rfl⟩, hW, hsame.mono hc hs⟩
  · rcases ref_cases hz with rfl | ⟨a, rfl⟩ <;>
    · jvm_step X.here [X.here.top, hx, (hb hby hd), X.method', hrt, Value.isRef, FieldType.isReference]
      first | (intro acts; rw [hr _ acts rfl rfl rfl]) | rw [hr _ _ rfl rfl rfl]
      exact Steps.refl _
  · show P _ T.heap; rw [eT]; exact hq
theorem Go.retAA {ct : FieldType} (C : Cx p s m meth c Z bytes own (some (.array ct)) maxL) (X : On p l e R s m args below meth c n0 T h cells slots) {z : Value} (hz : z.isRef = true) (hd : decode bytes pc = .ok (.areturn, 1)) (hq : P (some z) h) (hc : cells ≤ rc) (hs : slots ≤ rs) : Go p e below s n0 rc rs P T (mkF m pc Ls (z :: st)) := by
  obtain ⟨locs, X, eT, N, hn⟩ := X; obtain ⟨hx, hZ, hby, hown, hml, hlk, hrt⟩ := C
  obtain ⟨fs, hr, hrun, hended, hW, hsame⟩ := X.leave (v := (some z)) (fun h => by rw [hrt] at h; cases h) hlk
  refine ⟨_, _, ?_, hrun, hended, _, _, rfl, ⟨?_, N⟩, ⟨_, rfl⟩, hW, hsame.mono hc hs⟩
  · rcases ref_cases hz with rfl | ⟨a, rfl⟩ <;>
    · jvm_step X.here [X.here.top, hx, (hb hby hd), X.method', hrt, Value.isRef, FieldType.isReference]
      first | (intro acts; rw [hr _ acts rfl rfl rfl]) | rw [hr _ _ rfl rfl rfl]
      exact Steps.refl _
  · show P _ T.heap; rw [eT]; exact hq
theorem Go.getF (C : Cx p s m meth c Z bytes own ret maxL) (X : On p l e R s m args below meth c n0 T h cells slots) {R0 O n d host : String} {i : Nat} {a : Addr} {v : Value} (w : (Cond.fieldLink own i R0 n d).before a0 Z = true ∨ (Cond.fieldLinkNest own i R0 n d host).before a0 Z = true) (via : Via Z R0 O n d) (F : Fld Z h a O n d v) (hd : decode bytes pc = .ok (.getfield i, 3)) (hp : pc + 3 = pc')
    (k : ∀ T', On p l e R s m args below meth c n0 T' h cells slots → Go p e below s n0 rc rs P T' (mkF m pc' Ls (v :: st))) : Go p e below s n0 rc rs P T (mkF m pc Ls (.ref a :: st)) := by
  obtain ⟨locs, X, eT, N, hn⟩ := X; obtain ⟨hx, hZ, hby, hown, hml, hlk, hrt⟩ := C; subst hp
  obtain ⟨T', X', e', st'⟩ := RoadKit.getF X hx hZ hown w via eT F (g := mkF m pc Ls (.ref a :: st)) rfl rfl (hb hby hd)
  exact Go.of st' (k T' ⟨locs, X', e', N, hn⟩)
theorem Go.getS (C : Cx p s m meth c Z bytes own ret maxL) (X : On p l e R s m args below meth c n0 T h cells slots) {R0 O n d : String} {i : Nat} {v : Value} (w : (Cond.fieldLink own i R0 n d).before a0 Z = true) (via : Via Z R0 O n d) (F : Sta Z h O n d v) (hd : decode bytes pc = .ok (.getstatic i, 3)) (hp : pc + 3 = pc')
    (k : ∀ T', On p l e R s m args below meth c n0 T' h cells slots → Go p e below s n0 rc rs P T' (mkF m pc' Ls (v :: st))) : Go p e below s n0 rc rs P T (mkF m pc Ls st) := by
  obtain ⟨locs, X, eT, N, hn⟩ := X; obtain ⟨hx, hZ, hby, hown, hml, hlk, hrt⟩ := C; subst hp
  obtain ⟨T', X', e', st'⟩ := RoadKit.getS X hx hZ (host := "") hown w via eT F (g := mkF m pc Ls st) rfl (hb hby hd)
  exact Go.of st' (k T' ⟨locs, X', e', N, hn⟩)
theorem Go.putF (C : Cx p s m meth c Z bytes own ret maxL) (X : On p l e R s m args below meth c n0 T h cells slots) {R0 O n d host K : String} {i kk : Nat} {ty : FieldType} {a : Addr} {v old : Value} (w : (Cond.fieldLink own i R0 n d).before a0 Z = true ∨ (Cond.fieldLinkNest own i R0 n d host).before a0 Z = true) (via : Via Z R0 O n d) (F : Fld Z h a O n d old) (E : Exa Z h a K) (L : (Cond.lays K O n d).before a0 Z = true ∨ ((Cond.laysFinal K O n d).before a0 Z = true ∧ own = O ∧ meth.name = "<init>")) (wi : (Cond.instantiable K kk).before a0 Z = true) (ha : n0 ≤ a) (hty : parseFieldDescriptor d = some ty) (hn : narrow ty v = v) (hf : fits ty v = true) (hd : decode bytes pc = .ok (.putfield i, 3)) (hp : pc + 3 = pc')
    (k : ∀ T' h', On p l e R s m args below meth c n0 T' h' cells slots → Wr h h' a (slotOf Z O n d) v → Go p e below s n0 rc rs P T' (mkF m pc' Ls st)) : Go p e below s n0 rc rs P T (mkF m pc Ls (v :: .ref a :: st)) := by
  obtain ⟨locs, X, eT, N, hz⟩ := X; obtain ⟨hx, hZ, hby, hown, hml, hlk, hrt⟩ := C; subst hp
  obtain ⟨T', h', X', e', W, st'⟩ := RoadKit.putF X hx hZ hown w via eT F E L wi hty hn hf (g := mkF m pc Ls (v :: .ref a :: st)) rfl rfl (hb hby hd)
  exact Go.of st' (k T' h' ⟨_, X', e', Fr.snoc X' N ha, by rw [W.size]; exact hz⟩ W)
theorem Go.putFN (C : Cx p s m meth c Z bytes own ret maxL) (X : On p l e R s m args below meth c n0 T h cells slots) {R0 O n d K : String} {i kk : Nat} {ty : FieldType} {a : Addr} {v v' old : Value} (w : (Cond.fieldLink own i R0 n d).before a0 Z = true) (via : Via Z R0 O n d) (F : Fld Z h a O n d old) (E : Exa Z h a K) (L : (Cond.lays K O n d).before a0 Z = true ∨ ((Cond.laysFinal K O n d).before a0 Z = true ∧ own = O ∧ meth.name = "<init>")) (wi : (Cond.instantiable K kk).before a0 Z = true) (ha : n0 ≤ a) (hty : parseFieldDescriptor d = some ty) (hn : narrow ty v = v') (hf : fits ty v' = true) (hd : decode bytes pc = .ok (.putfield i, 3)) (hp : pc + 3 = pc')
    (k : ∀ T' h', On p l e R s m args below meth c n0 T' h' cells slots → Wr h h' a (slotOf Z O n d) v' → Go p e below s n0 rc rs P T' (mkF m pc' Ls st)) : Go p e below s n0 rc rs P T (mkF m pc Ls (v :: .ref a :: st)) := by
  obtain ⟨locs, X, eT, N, hz⟩ := X; obtain ⟨hx, hZ, hby, hown, hml, hlk, hrt⟩ := C; subst hp
  obtain ⟨T', h', X', e', W, st'⟩ := RoadKit.putFN X hx hZ hown w via eT F E L wi hty hn hf (g := mkF m pc Ls (v :: .ref a :: st)) rfl rfl (hb hby hd)
  exact Go.of st' (k T' h' ⟨_, X', e', Fr.snoc X' N ha, by rw [W.size]; exact hz⟩ W)
theorem Go.newO (C : Cx p s m meth c Z bytes own ret maxL) (X : On p l e R s m args below meth c n0 T h cells slots) {K : String} {i kk : Nat} (w : (Cond.classLink own i K).before a0 Z = true) (wi : (Cond.instantiable K kk).before a0 Z = true) (wz : (Cond.initialized K).before a0 Z = true) (hd : decode bytes pc = .ok (.new i, 3)) (hc : cells + 1 ≤ R.cells) (hl : slots + kk ≤ R.slots) (hp : pc + 3 = pc')
    (k : ∀ T' h' a, On p l e R s m args below meth c n0 T' h' (cells + 1) (slots + kk) → a = h.size → Ext h h' → Exa Z h' a K → (∀ {O nm d : String} {ty : FieldType}, Laid Z a0 K O nm d → parseFieldDescriptor d = some ty → Fld Z h' a O nm d (defaultValue ty)) → n0 ≤ a → Go p e below s n0 rc rs P T' (mkF m pc' Ls (.ref a :: st))) : Go p e below s n0 rc rs P T (mkF m pc Ls st) := by
  obtain ⟨locs, X, eT, N, hz⟩ := X; obtain ⟨hx, hZ, hby, hown, hml, hlk, hrt⟩ := C; subst hp
  obtain ⟨T', h', X', e', E, A, D, -, st'⟩ := RoadKit.newO X hx hZ hown w wi wz eT (g := mkF m pc Ls st) rfl (hb hby hd) hc hl
  exact Go.of st' (k T' h' h.size ⟨_, X', e', N, Nat.le_trans hz E.1⟩ rfl E A D hz)
theorem Go.initO (C : Cx p s m meth c Z bytes own ret maxL) (X : On p l e R s m args below meth c n0 T h cells slots) {a : Addr} (hI : ∀ locs, Stand p l e R s m args below meth c T locs cells slots → T.heap = h → ∃ T', Stand p l e R s m args below meth c T' locs cells slots ∧ T'.heap = h ∧ ∀ target, Steps p.tables e below (T'.setTop (mkF m (pc + 3) Ls st)) target → Steps p.tables e below (T.setTop (mkF m pc Ls (.ref a :: st))) target) (hp : pc + 3 = pc')
    (k : ∀ T', On p l e R s m args below meth c n0 T' h cells slots → Go p e below s n0 rc rs P T' (mkF m pc' Ls st)) : Go p e below s n0 rc rs P T (mkF m pc Ls (.ref a :: st)) := by
  obtain ⟨locs, X, eT, N, hz⟩ := X; subst hp
  obtain ⟨T', X', e', st'⟩ := hI locs X eT
  exact Go.of st' (k T' ⟨_, X', e', N, hz⟩)
theorem Go.castY (C : Cx p s m meth c Z bytes own ret maxL) (X : On p l e R s m args below meth c n0 T h cells slots) {K : String} {i : Nat} {a : Addr} (w : (Cond.classLink own i K).before a0 Z = true) (F : Ins Z h a K true) (hd : decode bytes pc = .ok (.checkcast i, 3)) (hp : pc + 3 = pc')
    (k : ∀ T', On p l e R s m args below meth c n0 T' h cells slots → Go p e below s n0 rc rs P T' (mkF m pc' Ls (.ref a :: st))) : Go p e below s n0 rc rs P T (mkF m pc Ls (.ref a :: st)) := by
  obtain ⟨locs, X, eT, N, hn⟩ := X; obtain ⟨hx, hZ, hby, hown, hml, hlk, hrt⟩ := C; subst hp
  obtain ⟨T', X', e', st'⟩ := RoadKit.castY X hx hZ hown w eT F (g := mkF m pc Ls (.ref a :: st)) rfl rfl (hb hby hd)
  exact Go.of st' (k T' ⟨locs, X', e', N, hn⟩)
theorem Go.instY (C : Cx p s m meth c Z bytes own ret maxL) (X : On p l e R s m args below meth c n0 T h cells slots) {K : String} {i : Nat} {a : Addr} (w : (Cond.classLink own i K).before a0 Z = true) (F : Ins Z h a K true) (hd : decode bytes pc = .ok (.instanceof i, 3)) (hp : pc + 3 = pc')
    (k : ∀ T', On p l e R s m args below meth c n0 T' h cells slots → Go p e below s n0 rc rs P T' (mkF m pc' Ls (.int 1 :: st))) : Go p e below s n0 rc rs P T (mkF m pc Ls (.ref a :: st)) := by
  obtain ⟨locs, X, eT, N, hn⟩ := X; obtain ⟨hx, hZ, hby, hown, hml, hlk, hrt⟩ := C; subst hp
  obtain ⟨T', X', e', st'⟩ := RoadKit.instY X hx hZ hown w eT F (g := mkF m pc Ls (.ref a :: st)) rfl rfl (hb hby hd)
  exact Go.of st' (k T' ⟨locs, X', e', N, hn⟩)
def AI (Z : State) (h : Heap) (a : Addr) (ty : FieldType) (n : Nat) (f : Nat → Int32) : Prop := ∃ cl : Cell, Arr Z h a cl ty ∧ cl.slots.size = n ∧ n < 2 ^ 31 ∧ ∀ i, i < n → cl.slots[i]? = some (.int (f i))
def AJ (Z : State) (h : Heap) (a : Addr) (n : Nat) (f : Nat → Int64) : Prop := ∃ cl : Cell, Arr Z h a cl .long ∧ cl.slots.size = n ∧ n < 2 ^ 31 ∧ ∀ i, i < n → cl.slots[i]? = some (.long (f i))
theorem clamp_of {j : Int32} {i : Nat} (hj : j.toInt = (i : Int)) : j.toNatClampNeg = i := by
  show j.toInt.toNat = i
  omega
theorem in_of {j : Int32} {i n : Nat} (hj : j.toInt = (i : Int)) (hi : i < n) {sz : Nat} (hs : sz = n) : ¬ (j < 0 ∨ sz ≤ j.toNatClampNeg) := by
  rw [clamp_of hj]
  intro q
  rcases q with q | q
  · rw [Int32.lt_iff_toInt_lt] at q
    have : (0 : Int32).toInt = 0 := rfl
    omega
  · omega
theorem len32 {z : Int32} {n : Nat} (hz : z.toInt = (n : Int)) : n.toInt32 = z := by
  apply Int32.toInt_inj.mp
  rw [hz]
  have h2 : z.toInt < 2147483648 := z.toInt_lt
  rw [hz] at h2
  exact Int32.toInt_ofNat_of_lt (by omega)
section AFacts
variable {h' : Heap} {a b : Addr} {ty : FieldType} {n sl : Nat} {f : Nat → Int32} {g : Nat → Int64} {v : Value} {ws : List Addr}
theorem AI.lt (F : AI Z h a ty n f) : a < h.size := by obtain ⟨c, A, -⟩ := F; exact A.lt
theorem AI.ext (F : AI Z h a ty n f) (E : Ext h h') : AI Z h' a ty n f := by obtain ⟨c, A, r⟩ := F; exact ⟨c, A.ext E, r⟩
theorem AI.other (F : AI Z h b ty n f) (W : Wr h h' a sl v) (q : b ≠ a) : AI Z h' b ty n f := by obtain ⟨c, A, r⟩ := F; exact ⟨c, A.other W q, r⟩
theorem AI.keep (F : AI Z h a ty n f) (K : Keep h h' ws) (q : a ∉ ws) : AI Z h' a ty n f := by obtain ⟨c, A, r⟩ := F; exact ⟨c, ⟨K.2.1 a c A.1 q, A.2⟩, r⟩
theorem AI.congr {f' : Nat → Int32} (F : AI Z h a ty n f) (q : ∀ i, i < n → f i = f' i) : AI Z h a ty n f' := by
  obtain ⟨c, A, r1, r2, r3⟩ := F; exact ⟨c, A, r1, r2, fun i hi => by rw [r3 i hi, q i hi]⟩
theorem AI.bound (F : AI Z h a ty n f) : n < 2 ^ 31 := by obtain ⟨c, A, r1, r2, r3⟩ := F; exact r2
theorem AI.set {i : Nat} {x : Int32} (F : AI Z h a ty n f) (W : Wr h h' a i (.int x)) : AI Z h' a ty n (fun k => if k = i then x else f k) := by
  obtain ⟨c, A, r1, r2, r3⟩ := F
  refine ⟨_, A.same W, by rw [sz_set]; exact r1, r2, fun k hk => ?_⟩
  by_cases q : k = i
  · subst q; simp [Cell.setSlot, r1, hk]
  · simp only [Cell.setSlot, if_neg q]
    rw [Array.getElem?_setIfInBounds_ne (fun e => q e.symm)]
    exact r3 k hk
theorem AI.new {k : ClassId} {z : Int32} {n : Nat} (hz : z.toInt = (n : Int)) (ht : defaultValue ty = .int 0) (A : Arr Z h a (newA k ty z) ty) : AI Z h a ty n (fun _ => 0) := by
  have h2 : z.toInt < 2147483648 := z.toInt_lt
  refine ⟨_, A, by rw [sz_new, clamp_of hz], by omega, fun i hi => ?_⟩
  simp [newA, clamp_of hz, hi, ht]
theorem AJ.lt (F : AJ Z h a n g) : a < h.size := by obtain ⟨c, A, -⟩ := F; exact A.lt
theorem AJ.ext (F : AJ Z h a n g) (E : Ext h h') : AJ Z h' a n g := by obtain ⟨c, A, r⟩ := F; exact ⟨c, A.ext E, r⟩
theorem AJ.other (F : AJ Z h b n g) (W : Wr h h' a sl v) (q : b ≠ a) : AJ Z h' b n g := by obtain ⟨c, A, r⟩ := F; exact ⟨c, A.other W q, r⟩
theorem AJ.keep (F : AJ Z h a n g) (K : Keep h h' ws) (q : a ∉ ws) : AJ Z h' a n g := by obtain ⟨c, A, r⟩ := F; exact ⟨c, ⟨K.2.1 a c A.1 q, A.2⟩, r⟩
theorem AJ.congr {g' : Nat → Int64} (F : AJ Z h a n g) (q : ∀ i, i < n → g i = g' i) : AJ Z h a n g' := by
  obtain ⟨c, A, r1, r2, r3⟩ := F; exact ⟨c, A, r1, r2, fun i hi => by rw [r3 i hi, q i hi]⟩
theorem AJ.set {i : Nat} {x : Int64} (F : AJ Z h a n g) (W : Wr h h' a i (.long x)) : AJ Z h' a n (fun k => if k = i then x else g k) := by
  obtain ⟨c, A, r1, r2, r3⟩ := F
  refine ⟨_, A.same W, by rw [sz_set]; exact r1, r2, fun k hk => ?_⟩
  by_cases q : k = i
  · subst q; simp [Cell.setSlot, r1, hk]
  · simp only [Cell.setSlot, if_neg q]
    rw [Array.getElem?_setIfInBounds_ne (fun e => q e.symm)]
    exact r3 k hk
theorem AJ.new {k : ClassId} {z : Int32} {n : Nat} (hz : z.toInt = (n : Int)) (A : Arr Z h a (newA k .long z) .long) : AJ Z h a n (fun _ => 0) := by
  have h2 : z.toInt < 2147483648 := z.toInt_lt
  refine ⟨_, A, by rw [sz_new, clamp_of hz], by omega, fun i hi => ?_⟩
  simp [newA, clamp_of hz, hi, defaultValue]
end AFacts
theorem Go.newP (C : Cx p s m meth c Z bytes own ret maxL) (X : On p l e R s m args below meth c n0 T h cells slots) {aty : ArrayType} {z : Int32} {nn cap : Nat} (w : (Cond.arrayClass (newarray.typeOf aty)).before a0 Z = true) (hd : decode bytes pc = .ok (.newarray aty, 2)) (hz : z.toInt = (nn : Int)) (hcap : nn ≤ cap) (hbig : cap * 8 ≤ 536870912) (hc : cells + 1 ≤ R.cells) (hl : slots + cap ≤ R.slots) (hp : pc + 2 = pc')
    (k : ∀ T' h' a cA, On p l e R s m args below meth c n0 T' h' (cells + 1) (slots + cap) → a = h.size → Ext h h' → Arr Z h' a (newA cA (newarray.typeOf aty) z) (newarray.typeOf aty) → n0 ≤ a → Go p e below s n0 rc rs P T' (mkF m pc' Ls (.ref a :: st))) : Go p e below s n0 rc rs P T (mkF m pc Ls (.int z :: st)) := by
  obtain ⟨locs, X, eT, N, hn⟩ := X; obtain ⟨hx, hZ, hby, hown, hml, hlk, hrt⟩ := C; subst hp
  obtain ⟨T', h', cA, X', e', E, A, st'⟩ := RoadKit.newP X hx hZ w eT (g := mkF m pc Ls (.int z :: st)) rfl (hb hby hd) rfl (by rw [Int32.lt_iff_toInt_lt]; have : (0 : Int32).toInt = 0 := rfl; omega) (cap := cap) (by rw [clamp_of hz]; exact hcap) hbig hc hl
  exact Go.of st' (k T' h' h.size cA ⟨_, X', e', N, Nat.le_trans hn E.1⟩ rfl E A hn)
theorem Go.alenI (C : Cx p s m meth c Z bytes own ret maxL) (X : On p l e R s m args below meth c n0 T h cells slots) {a : Addr} {ty : FieldType} {n : Nat} {f : Nat → Int32} {z : Int32} (A : AI Z h a ty n f) (hz : z.toInt = (n : Int)) (hd : decode bytes pc = .ok (.arraylength, 1)) (hp : pc + 1 = pc') (k : Go p e below s n0 rc rs P T (mkF m pc' Ls (.int z :: st))) : Go p e below s n0 rc rs P T (mkF m pc Ls (.ref a :: st)) := by
  obtain ⟨locs, X, eT, N, hn⟩ := X; obtain ⟨hx, hZ, hby, hown, hml, hlk, hrt⟩ := C; subst hp
  obtain ⟨cl, A, r1, r2, r3⟩ := A
  refine Go.of (fun t q => X.arraylength hx (by rw [eT]; exact A.1) (State.isArrayOf_alike hZ.alike A.2.1) (g := mkF m pc Ls (.ref a :: st)) rfl rfl (hb hby hd) t ?_) k
  rw [r1, len32 hz]; exact q
theorem Go.alenJ (C : Cx p s m meth c Z bytes own ret maxL) (X : On p l e R s m args below meth c n0 T h cells slots) {a : Addr} {n : Nat} {f : Nat → Int64} {z : Int32} (A : AJ Z h a n f) (hz : z.toInt = (n : Int)) (hd : decode bytes pc = .ok (.arraylength, 1)) (hp : pc + 1 = pc') (k : Go p e below s n0 rc rs P T (mkF m pc' Ls (.int z :: st))) : Go p e below s n0 rc rs P T (mkF m pc Ls (.ref a :: st)) := by
  obtain ⟨locs, X, eT, N, hn⟩ := X; obtain ⟨hx, hZ, hby, hown, hml, hlk, hrt⟩ := C; subst hp
  obtain ⟨cl, A, r1, r2, r3⟩ := A
  refine Go.of (fun t q => X.arraylength hx (by rw [eT]; exact A.1) (State.isArrayOf_alike hZ.alike A.2.1) (g := mkF m pc Ls (.ref a :: st)) rfl rfl (hb hby hd) t ?_) k
  rw [r1, len32 hz]; exact q
theorem Go.iaload (C : Cx p s m meth c Z bytes own ret maxL) (X : On p l e R s m args below meth c n0 T h cells slots) {a : Addr} {n : Nat} {f : Nat → Int32} {j : Int32} {i : Nat} {w : Int32} (A : AI Z h a .int n f) (hj : j.toInt = (i : Int)) (hi : i < n) (hw : f i = w) (hd : decode bytes pc = .ok (.iaload, 1)) (hp : pc + 1 = pc') (k : Go p e below s n0 rc rs P T (mkF m pc' Ls (.int w :: st))) : Go p e below s n0 rc rs P T (mkF m pc Ls (.int j :: .ref a :: st)) := by
  obtain ⟨locs, X, eT, N, hn⟩ := X; obtain ⟨hx, hZ, hby, hown, hml, hlk, hrt⟩ := C; subst hp hw
  obtain ⟨cl, A, r1, r2, r3⟩ := A
  exact Go.of (fun t q => X.iaload hx (j := j) (v := .int (f i)) (by rw [eT]; exact A.1) (State.isArrayOf_alike hZ.alike A.2.1) A.2.2 (in_of hj hi r1) (by rw [clamp_of hj]; exact r3 i hi) (g := mkF m pc Ls (.int j :: .ref a :: st)) rfl rfl (hb hby hd) t q) k
theorem Go.baload (C : Cx p s m meth c Z bytes own ret maxL) (X : On p l e R s m args below meth c n0 T h cells slots) {a : Addr} {n : Nat} {f : Nat → Int32} {j : Int32} {i : Nat} {w : Int32} (A : AI Z h a .byte n f) (hj : j.toInt = (i : Int)) (hi : i < n) (hw : f i = w) (hd : decode bytes pc = .ok (.baload, 1)) (hp : pc + 1 = pc') (k : Go p e below s n0 rc rs P T (mkF m pc' Ls (.int w :: st))) : Go p e below s n0 rc rs P T (mkF m pc Ls (.int j :: .ref a :: st)) := by
  obtain ⟨locs, X, eT, N, hn⟩ := X; obtain ⟨hx, hZ, hby, hown, hml, hlk, hrt⟩ := C; subst hp hw
  obtain ⟨cl, A, r1, r2, r3⟩ := A
  exact Go.of (fun t q => X.baloadBytes hx (j := j) (v := .int (f i)) (by rw [eT]; exact A.1) (State.isArrayOf_alike hZ.alike A.2.1) A.2.2 (in_of hj hi r1) (by rw [clamp_of hj]; exact r3 i hi) (g := mkF m pc Ls (.int j :: .ref a :: st)) rfl rfl (hb hby hd) t q) k
theorem Go.zaload (C : Cx p s m meth c Z bytes own ret maxL) (X : On p l e R s m args below meth c n0 T h cells slots) {a : Addr} {n : Nat} {f : Nat → Int32} {j : Int32} {i : Nat} {w : Int32} (A : AI Z h a .boolean n f) (hj : j.toInt = (i : Int)) (hi : i < n) (hw : f i = w) (hd : decode bytes pc = .ok (.baload, 1)) (hp : pc + 1 = pc') (k : Go p e below s n0 rc rs P T (mkF m pc' Ls (.int w :: st))) : Go p e below s n0 rc rs P T (mkF m pc Ls (.int j :: .ref a :: st)) := by
  obtain ⟨locs, X, eT, N, hn⟩ := X; obtain ⟨hx, hZ, hby, hown, hml, hlk, hrt⟩ := C; subst hp hw
  obtain ⟨cl, A, r1, r2, r3⟩ := A
  exact Go.of (fun t q => X.baloadBooleans hx (j := j) (v := .int (f i)) (by rw [eT]; exact A.1) (State.isArrayOf_alike hZ.alike A.2.1) A.2.2 (in_of hj hi r1) (by rw [clamp_of hj]; exact r3 i hi) (g := mkF m pc Ls (.int j :: .ref a :: st)) rfl rfl (hb hby hd) t q) k
theorem Go.caload (C : Cx p s m meth c Z bytes own ret maxL) (X : On p l e R s m args below meth c n0 T h cells slots) {a : Addr} {n : Nat} {f : Nat → Int32} {j : Int32} {i : Nat} {w : Int32} (A : AI Z h a .char n f) (hj : j.toInt = (i : Int)) (hi : i < n) (hw : f i = w) (hd : decode bytes pc = .ok (.caload, 1)) (hp : pc + 1 = pc') (k : Go p e below s n0 rc rs P T (mkF m pc' Ls (.int w :: st))) : Go p e below s n0 rc rs P T (mkF m pc Ls (.int j :: .ref a :: st)) := by
  obtain ⟨locs, X, eT, N, hn⟩ := X; obtain ⟨hx, hZ, hby, hown, hml, hlk, hrt⟩ := C; subst hp hw
  obtain ⟨cl, A, r1, r2, r3⟩ := A
  exact Go.of (fun t q => X.caload hx (j := j) (v := .int (f i)) (by rw [eT]; exact A.1) (State.isArrayOf_alike hZ.alike A.2.1) A.2.2 (in_of hj hi r1) (by rw [clamp_of hj]; exact r3 i hi) (g := mkF m pc Ls (.int j :: .ref a :: st)) rfl rfl (hb hby hd) t q) k
theorem Go.laload (C : Cx p s m meth c Z bytes own ret maxL) (X : On p l e R s m args below meth c n0 T h cells slots) {a : Addr} {n : Nat} {f : Nat → Int64} {j : Int32} {i : Nat} {w : Int64} (A : AJ Z h a n f) (hj : j.toInt = (i : Int)) (hi : i < n) (hw : f i = w) (hd : decode bytes pc = .ok (.laload, 1)) (hp : pc + 1 = pc') (k : Go p e below s n0 rc rs P T (mkF m pc' Ls (.long w :: st))) : Go p e below s n0 rc rs P T (mkF m pc Ls (.int j :: .ref a :: st)) := by
  obtain ⟨locs, X, eT, N, hn⟩ := X; obtain ⟨hx, hZ, hby, hown, hml, hlk, hrt⟩ := C; subst hp hw
  obtain ⟨cl, A, r1, r2, r3⟩ := A
  exact Go.of (fun t q => X.laload hx (j := j) (v := .long (f i)) (by rw [eT]; exact A.1) (State.isArrayOf_alike hZ.alike A.2.1) A.2.2 (in_of hj hi r1) (by rw [clamp_of hj]; exact r3 i hi) (g := mkF m pc Ls (.int j :: .ref a :: st)) rfl rfl (hb hby hd) t q) k
theorem Go.iastore (C : Cx p s m meth c Z bytes own ret maxL) (X : On p l e R s m args below meth c n0 T h cells slots) {a : Addr} {n : Nat} {f : Nat → Int32} {j x x' : Int32} {i : Nat} (A : AI Z h a .int n f) (hj : j.toInt = (i : Int)) (hi : i < n) (hv : x = x') (ha : n0 ≤ a) (hd : decode bytes pc = .ok (.iastore, 1)) (hp : pc + 1 = pc')
    (k : ∀ T' h', On p l e R s m args below meth c n0 T' h' cells slots → Wr h h' a i (.int x') → AI Z h' a .int n (fun q => if q = i then x' else f q) → Go p e below s n0 rc rs P T' (mkF m pc' Ls st)) : Go p e below s n0 rc rs P T (mkF m pc Ls (.int x :: .int j :: .ref a :: st)) := by
  obtain ⟨locs, X, eT, N, hn⟩ := X; obtain ⟨hx, hZ, hby, hown, hml, hlk, hrt⟩ := C; subst hp hv
  obtain ⟨cl, A', r1, r2, r3⟩ := id A
  obtain ⟨T', h', X', e', W, st'⟩ := RoadKit.stI X hx hZ eT A' (in_of hj hi r1) (g := mkF m pc Ls (.int x :: .int j :: .ref a :: st)) rfl rfl (hb hby hd)
  have N' := Fr.snoc X' N ha
  rw [clamp_of hj] at W
  exact Go.of st' (k T' h' ⟨_, X', e', N', by rw [W.size]; exact hn⟩ W (A.set W))
theorem Go.bastore (C : Cx p s m meth c Z bytes own ret maxL) (X : On p l e R s m args below meth c n0 T h cells slots) {a : Addr} {n : Nat} {f : Nat → Int32} {j x x' : Int32} {i : Nat} (A : AI Z h a .byte n f) (hj : j.toInt = (i : Int)) (hi : i < n) (hv : nar .byte x = x') (ha : n0 ≤ a) (hd : decode bytes pc = .ok (.bastore, 1)) (hp : pc + 1 = pc')
    (k : ∀ T' h', On p l e R s m args below meth c n0 T' h' cells slots → Wr h h' a i (.int x') → AI Z h' a .byte n (fun q => if q = i then x' else f q) → Go p e below s n0 rc rs P T' (mkF m pc' Ls st)) : Go p e below s n0 rc rs P T (mkF m pc Ls (.int x :: .int j :: .ref a :: st)) := by
  obtain ⟨locs, X, eT, N, hn⟩ := X; obtain ⟨hx, hZ, hby, hown, hml, hlk, hrt⟩ := C; subst hp hv
  obtain ⟨cl, A', r1, r2, r3⟩ := id A
  obtain ⟨T', h', X', e', W, st'⟩ := RoadKit.stB X hx hZ eT A' (in_of hj hi r1) (g := mkF m pc Ls (.int x :: .int j :: .ref a :: st)) rfl rfl (hb hby hd)
  have N' := Fr.snoc X' N ha
  rw [clamp_of hj] at W
  exact Go.of st' (k T' h' ⟨_, X', e', N', by rw [W.size]; exact hn⟩ W (A.set W))
theorem Go.castore (C : Cx p s m meth c Z bytes own ret maxL) (X : On p l e R s m args below meth c n0 T h cells slots) {a : Addr} {n : Nat} {f : Nat → Int32} {j x x' : Int32} {i : Nat} (A : AI Z h a .char n f) (hj : j.toInt = (i : Int)) (hi : i < n) (hv : nar .char x = x') (ha : n0 ≤ a) (hd : decode bytes pc = .ok (.castore, 1)) (hp : pc + 1 = pc')
    (k : ∀ T' h', On p l e R s m args below meth c n0 T' h' cells slots → Wr h h' a i (.int x') → AI Z h' a .char n (fun q => if q = i then x' else f q) → Go p e below s n0 rc rs P T' (mkF m pc' Ls st)) : Go p e below s n0 rc rs P T (mkF m pc Ls (.int x :: .int j :: .ref a :: st)) := by
  obtain ⟨locs, X, eT, N, hn⟩ := X; obtain ⟨hx, hZ, hby, hown, hml, hlk, hrt⟩ := C; subst hp hv
  obtain ⟨cl, A', r1, r2, r3⟩ := id A
  obtain ⟨T', h', X', e', W, st'⟩ := RoadKit.stC X hx hZ eT A' (in_of hj hi r1) (g := mkF m pc Ls (.int x :: .int j :: .ref a :: st)) rfl rfl (hb hby hd)
  have N' := Fr.snoc X' N ha
  rw [clamp_of hj] at W
  exact Go.of st' (k T' h' ⟨_, X', e', N', by rw [W.size]; exact hn⟩ W (A.set W))
theorem Go.zastore (C : Cx p s m meth c Z bytes own ret maxL) (X : On p l e R s m args below meth c n0 T h cells slots) {a : Addr} {n : Nat} {f : Nat → Int32} {j x x' : Int32} {i : Nat} (A : AI Z h a .boolean n f) (hj : j.toInt = (i : Int)) (hi : i < n) (hv : nar .boolean x = x') (ha : n0 ≤ a) (hd : decode bytes pc = .ok (.bastore, 1)) (hp : pc + 1 = pc')
    (k : ∀ T' h', On p l e R s m args below meth c n0 T' h' cells slots → Wr h h' a i (.int x') → AI Z h' a .boolean n (fun q => if q = i then x' else f q) → Go p e below s n0 rc rs P T' (mkF m pc' Ls st)) : Go p e below s n0 rc rs P T (mkF m pc Ls (.int x :: .int j :: .ref a :: st)) := by
  obtain ⟨locs, X, eT, N, hn⟩ := X; obtain ⟨hx, hZ, hby, hown, hml, hlk, hrt⟩ := C; subst hp hv
  obtain ⟨cl, A', r1, r2, r3⟩ := id A
  obtain ⟨T', h', X', e', W, st'⟩ := RoadKit.stZ X hx hZ eT A' (in_of hj hi r1) (g := mkF m pc Ls (.int x :: .int j :: .ref a :: st)) rfl rfl (hb hby hd)
  have N' := Fr.snoc X' N ha
  rw [clamp_of hj] at W
  exact Go.of st' (k T' h' ⟨_, X', e', N', by rw [W.size]; exact hn⟩ W (A.set W))
theorem Go.lastore (C : Cx p s m meth c Z bytes own ret maxL) (X : On p l e R s m args below meth c n0 T h cells slots) {a : Addr} {n : Nat} {f : Nat → Int64} {j : Int32} {x : Int64} {i : Nat} (A : AJ Z h a n f) (hj : j.toInt = (i : Int)) (hi : i < n) (ha : n0 ≤ a) (hd : decode bytes pc = .ok (.lastore, 1)) (hp : pc + 1 = pc')
    (k : ∀ T' h', On p l e R s m args below meth c n0 T' h' cells slots → Wr h h' a i (.long x) → AJ Z h' a n (fun q => if q = i then x else f q) → Go p e below s n0 rc rs P T' (mkF m pc' Ls st)) : Go p e below s n0 rc rs P T (mkF m pc Ls (.long x :: .int j :: .ref a :: st)) := by
  obtain ⟨locs, X, eT, N, hn⟩ := X; obtain ⟨hx, hZ, hby, hown, hml, hlk, hrt⟩ := C; subst hp
  obtain ⟨cl, A', r1, r2, r3⟩ := id A
  obtain ⟨T', h', X', e', W, st'⟩ := RoadKit.stJ X hx hZ eT A' (in_of hj hi r1) (g := mkF m pc Ls (.long x :: .int j :: .ref a :: st)) rfl rfl (hb hby hd)
  have N' := Fr.snoc X' N ha
  rw [clamp_of hj] at W
  exact Go.of st' (k T' h' ⟨_, X', e', N', by rw [W.size]; exact hn⟩ W (A.set W))
def AR (Z : State) (h : Heap) (a : Addr) (ty : FieldType) (n : Nat) (f : Nat → Value) : Prop := ∃ cl : Cell, Arr Z h a cl ty ∧ cl.slots.size = n ∧ n < 2 ^ 31 ∧ (∀ i, i < n → cl.slots[i]? = some (f i)) ∧ FitC Z cl
theorem AR.lt {a : Addr} {ty : FieldType} {n : Nat} {f : Nat → Value} (F : AR Z h a ty n f) : a < h.size := by obtain ⟨c, A, -⟩ := F; exact A.lt
theorem AR.ext {h' : Heap} {a : Addr} {ty : FieldType} {n : Nat} {f : Nat → Value} (F : AR Z h a ty n f) (E : Ext h h') : AR Z h' a ty n f := by obtain ⟨c, A, r⟩ := F; exact ⟨c, A.ext E, r⟩
theorem AR.other {h' : Heap} {a b : Addr} {sl : Nat} {v : Value} {ty : FieldType} {n : Nat} {f : Nat → Value} (F : AR Z h b ty n f) (W : Wr h h' a sl v) (q : b ≠ a) : AR Z h' b ty n f := by obtain ⟨c, A, r⟩ := F; exact ⟨c, A.other W q, r⟩
theorem AR.keep {h' : Heap} {a : Addr} {ws : List Addr} {ty : FieldType} {n : Nat} {f : Nat → Value} (F : AR Z h a ty n f) (K : Keep h h' ws) (q : a ∉ ws) : AR Z h' a ty n f := by obtain ⟨c, A, r⟩ := F; exact ⟨c, ⟨K.2.1 a c A.1 q, A.2⟩, r⟩
theorem Go.alenR (C : Cx p s m meth c Z bytes own ret maxL) (X : On p l e R s m args below meth c n0 T h cells slots) {a : Addr} {ty : FieldType} {n : Nat} {f : Nat → Value} {z : Int32} (A : AR Z h a ty n f) (hz : z.toInt = (n : Int)) (hd : decode bytes pc = .ok (.arraylength, 1)) (hp : pc + 1 = pc') (k : Go p e below s n0 rc rs P T (mkF m pc' Ls (.int z :: st))) : Go p e below s n0 rc rs P T (mkF m pc Ls (.ref a :: st)) := by
  obtain ⟨locs, X, eT, N, hn⟩ := X; obtain ⟨hx, hZ, hby, hown, hml, hlk, hrt⟩ := C; subst hp
  obtain ⟨cl, A, r1, r2, r3⟩ := A
  refine Go.of (fun t q => X.arraylength hx (by rw [eT]; exact A.1) (State.isArrayOf_alike hZ.alike A.2.1) (g := mkF m pc Ls (.ref a :: st)) rfl rfl (hb hby hd) t ?_) k
  rw [r1, len32 hz]; exact q
theorem Go.aaload (C : Cx p s m meth c Z bytes own ret maxL) (X : On p l e R s m args below meth c n0 T h cells slots) {a : Addr} {ty : FieldType} {n : Nat} {f : Nat → Value} {j : Int32} {i : Nat} {w : Value} (A : AR Z h a ty n f) (hty : ty.isReference = true) (hj : j.toInt = (i : Int)) (hi : i < n) (hw : f i = w) (hd : decode bytes pc = .ok (.aaload, 1)) (hp : pc + 1 = pc') (k : Go p e below s n0 rc rs P T (mkF m pc' Ls (w :: st))) : Go p e below s n0 rc rs P T (mkF m pc Ls (.int j :: .ref a :: st)) := by
  obtain ⟨locs, X, eT, N, hn⟩ := X; obtain ⟨hx, hZ, hby, hown, hml, hlk, hrt⟩ := C; subst hp hw
  obtain ⟨cl, A, r1, r2, r3, r4⟩ := A
  exact Go.of (fun t q => X.aaload hx (j := j) (v := f i) (by rw [eT]; exact A.1) (State.isArrayOf_alike hZ.alike A.2.1) hty A.2.2 (in_of hj hi r1) (by rw [clamp_of hj]; exact r3 i hi) (g := mkF m pc Ls (.int j :: .ref a :: st)) rfl rfl (hb hby hd) t q) k
theorem Go.cloneA (C : Cx p s m meth c Z bytes own ret maxL) (X : On p l e R s m args below meth c n0 T h cells slots) {ad : String} {i : Nat} {a : Addr} {ty : FieldType} {n W cap : Nat} {f : Nat → Value}
    (w1 : (Cond.methodLink own i ⟨ad, "clone", "()Ljava/lang/Object;"⟩).before a0 Z = true) (w2 : (Cond.sameMethod ad "java/lang/Object" "clone" "()Ljava/lang/Object;").before a0 Z = true) (w3 : (Cond.native ⟨"java/lang/Object", "clone", "()Ljava/lang/Object;"⟩).before a0 Z = true)
    (w4 : (Cond.instanceMethod ⟨"java/lang/Object", "clone", "()Ljava/lang/Object;"⟩).before a0 Z = true) (w5 : (Cond.selects ad ⟨ad, "clone", "()Ljava/lang/Object;"⟩ ⟨"java/lang/Object", "clone", "()Ljava/lang/Object;"⟩).before a0 Z = true) (w6 : (Cond.castable ad "java/lang/Cloneable").before a0 Z = true)
    (A : AR Z h a ty n f) (E : Exa Z h a ad) (hsz : Ls.size = maxL) (hd : decode bytes pc = .ok (.invokevirtual i, 3)) (hf : 1 ≤ R.frames) (hW : (st.map fun v => v.category).sum ≤ W) (hl : W + 14 ≤ R.locals) (hcap : n ≤ cap) (hc : cells + 1 ≤ R.cells) (hsl : slots + cap ≤ R.slots) (hp : pc + 3 = pc')
    (k : ∀ T' h' b, On p l e R s m args below meth c n0 T' h' (cells + 1) (slots + cap) → b = h.size → Ext h h' → AR Z h' b ty n f → Exa Z h' b ad → n0 ≤ b → Go p e below s n0 rc rs P T' (mkF m pc' Ls (.ref b :: st))) : Go p e below s n0 rc rs P T (mkF m pc Ls (.ref a :: st)) := by
  obtain ⟨locs, X, eT, N, hn⟩ := X; obtain ⟨hx, hZ, hby, hown, hml, hlk, hrt⟩ := C; subst hp
  obtain ⟨cl, A, r1, r2, r3, r4⟩ := A
  obtain ⟨T', h', X', e', ex, A', E', st'⟩ := RoadKit.cloneA X hx hZ hown w1 w2 w3 w4 w5 w6 eT A E r4 (g := mkF m pc Ls (.ref a :: st)) rfl (by rw [hml]; exact hsz) rfl (hb hby hd) hf (W := W) (cap := cap) (by simpa using hW) hl (by rw [r1]; exact hcap) hc hsl
  exact Go.of st' (k T' h' h.size ⟨_, X', e', N, Nat.le_trans hn ex.1⟩ rfl ex ⟨cloneOf cl, A', r1, r2, r3, r4⟩ E' hn)
theorem Go.callS (C : Cx p s m meth c Z bytes own ret maxL) (X : On p l e R s m args below meth c n0 T h cells slots) {y : MethodName} {cb : ByteArray} {cm : Nat} {cr : Option FieldType} {rm : Room} {as' : Array Value} {P' : Option Value → Heap → Prop} {i W : Nat} {argsL rest : List Value} (K : Con l Z y cb cm cr rm as' h n0 P') (w1 : (Cond.methodLink own i y).before a0 Z = true) (w2 : (Cond.static y).before a0 Z = true) (w3 : (Cond.initialized y.cls).before a0 Z = true) (w4 : (Cond.code y cb cm cr).before a0 Z = true) (hy : y.cls ≠ "java/lang/invoke/MethodHandle" ∧ y.cls ≠ "java/lang/invoke/VarHandle")
    (has : argsL.toArray = as') (hst : st = argsL.reverse ++ rest) (hlen : ∀ sig, parseMethodDescriptor y.desc = some sig → argsL.length = sig.parameters.length) (hsz : Ls.size = maxL) (hW : (rest.map fun v => v.category).sum ≤ W) (hf : rm.frames + 1 ≤ R.frames) (hlo : W + (cm + 11) + rm.locals ≤ R.locals) (hce : cells + rm.cells ≤ R.cells) (hsl : slots + rm.slots ≤ R.slots) (hd : decode bytes pc = .ok (.invokestatic i, 3)) (hp : pc + 3 = pc')
    (hgrow : ∀ v h', P' v h' → h.size ≤ h'.size)
    (k : ∀ T' h' v, On p l e R s m args below meth c n0 T' h' (cells + rm.cells) (slots + rm.slots) → P' v h' → Go p e below s n0 rc rs P T' (mkF m pc' Ls (v.toList ++ rest))) : Go p e below s n0 rc rs P T (mkF m pc Ls st) := by
  obtain ⟨locs, X, eT, N, hn⟩ := X; obtain ⟨hx, hZ, hby, hown, hml, hlk, hrt⟩ := C; subst hp has hst
  obtain ⟨v, _, ⟨T', L', k', n'⟩, -, X', ⟨Lc, hQ, l', y', z'⟩, st'⟩ := Jvm.LawKit.callS X hx (y := y) hown (mvT hZ w1) (mvT hZ w2) (mvT hZ w3) (mvT hZ w4) hy (K.back (W := W) hZ w4 w3 hf hlo) (g := mkF m pc Ls (argsL.reverse ++ rest)) rfl (by rw [hml]; exact hsz) (argsL := argsL) (rest := rest) hlen rfl (by simpa using hW) (hb hby hd) (fun _ _ => ⟨rfl, eT, hce, hsl⟩)
  dsimp only [Pt.U, Pt.locs, Pt.cells, Pt.slots] at X' l' y' z' st' hQ
  subst l' y' z'
  exact Go.of st' (k T' _ v ⟨_, X', rfl, Fr.app N hQ.2, Nat.le_trans hn (hgrow _ _ hQ.1)⟩ hQ.1)
theorem Go.callI (C : Cx p s m meth c Z bytes own ret maxL) (X : On p l e R s m args below meth c n0 T h cells slots) {y : MethodName} {cb : ByteArray} {cm : Nat} {cr : Option FieldType} {rm : Room} {as' : Array Value} {P' : Option Value → Heap → Prop} {i W : Nat} {argsL rest : List Value} (K : Con l Z y cb cm cr rm as' h n0 P') {a : Addr} (hy1 : y.name = "<init>") (hcr : cr = none) (w1 : (Cond.methodLink own i y).before a0 Z = true) (w2 : (Cond.instanceMethod y).before a0 Z = true) (w3 : (Cond.initialized y.cls).before a0 Z = true) (w4 : (Cond.code y cb cm cr).before a0 Z = true) (hy : y.cls ≠ "java/lang/invoke/MethodHandle" ∧ y.cls ≠ "java/lang/invoke/VarHandle")
    (has : (.ref a :: argsL).toArray = as') (hst : st = argsL.reverse ++ .ref a :: rest) (hlen : ∀ sig, parseMethodDescriptor y.desc = some sig → argsL.length = sig.parameters.length) (hsz : Ls.size = maxL) (hW : (rest.map fun v => v.category).sum ≤ W) (hf : rm.frames + 1 ≤ R.frames) (hlo : W + (cm + 11) + rm.locals ≤ R.locals) (hce : cells + rm.cells ≤ R.cells) (hsl : slots + rm.slots ≤ R.slots) (hd : decode bytes pc = .ok (.invokespecial i, 3)) (hp : pc + 3 = pc')
    (hgrow : ∀ v h', P' v h' → h.size ≤ h'.size)
    (k : ∀ T' h' v, On p l e R s m args below meth c n0 T' h' (cells + rm.cells) (slots + rm.slots) → P' v h' → Go p e below s n0 rc rs P T' (mkF m pc' Ls (v.toList ++ rest))) : Go p e below s n0 rc rs P T (mkF m pc Ls st) := by
  obtain ⟨locs, X, eT, N, hn⟩ := X; obtain ⟨hx, hZ, hby, hown, hml, hlk, hrt⟩ := C; subst hp has hst hcr
  obtain ⟨v, _, ⟨T', L', k', n'⟩, -, X', ⟨Lc, hQ, l', y', z'⟩, st'⟩ := X.specialBack hx (y := y) hy1 hown (mvT hZ w1) (mvT hZ w2) (mvT hZ w4) hy (K.back (W := W) hZ w4 w3 hf hlo) (g := mkF m pc Ls (argsL.reverse ++ .ref a :: rest)) rfl (by rw [hml]; exact hsz) (Steps.refl _) (a := a) (argsL := argsL) (rest := rest) hlen rfl (by simpa using hW) (hb hby hd) (fun _ _ => ⟨rfl, eT, hce, hsl⟩)
  dsimp only [Pt.U, Pt.locs, Pt.cells, Pt.slots] at X' l' y' z' st' hQ
  subst l' y' z'
  exact Go.tr st' (k T' _ v ⟨_, X', rfl, Fr.app N hQ.2, Nat.le_trans hn (hgrow _ _ hQ.1)⟩ hQ.1)
theorem Go.callV (C : Cx p s m meth c Z bytes own ret maxL) (X : On p l e R s m args below meth c n0 T h cells slots) {y : MethodName} {cb : ByteArray} {cm : Nat} {cr : Option FieldType} {rm : Room} {as' : Array Value} {P' : Option Value → Heap → Prop} {i W : Nat} {argsL rest : List Value} (K : Con l Z y cb cm cr rm as' h n0 P') {y0 : MethodName} {a : Addr} {Ck : String} (E : Exa Z h a Ck) (nf : NotFace s y0) (w1 : (Cond.methodLink own i y0).before a0 Z = true) (w2 : (Cond.declares y0).before a0 Z = true) (w5 : (Cond.selects Ck y0 y).before a0 Z = true) (w6 : (Cond.instanceMethod y).before a0 Z = true) (w3 : (Cond.initialized y.cls).before a0 Z = true) (w4 : (Cond.code y cb cm cr).before a0 Z = true) (hy : y0.cls ≠ "java/lang/invoke/MethodHandle" ∧ y0.cls ≠ "java/lang/invoke/VarHandle")
    (has : (.ref a :: argsL).toArray = as') (hst : st = argsL.reverse ++ .ref a :: rest) (hlen : ∀ sig, parseMethodDescriptor y0.desc = some sig → argsL.length = sig.parameters.length) (hsz : Ls.size = maxL) (hW : (rest.map fun v => v.category).sum ≤ W) (hf : rm.frames + 1 ≤ R.frames) (hlo : W + (cm + 11) + rm.locals ≤ R.locals) (hce : cells + rm.cells ≤ R.cells) (hsl : slots + rm.slots ≤ R.slots) (hd : decode bytes pc = .ok (.invokevirtual i, 3)) (hp : pc + 3 = pc')
    (hgrow : ∀ v h', P' v h' → h.size ≤ h'.size)
    (k : ∀ T' h' v, On p l e R s m args below meth c n0 T' h' (cells + rm.cells) (slots + rm.slots) → P' v h' → Go p e below s n0 rc rs P T' (mkF m pc' Ls (v.toList ++ rest))) : Go p e below s n0 rc rs P T (mkF m pc Ls st) := by
  obtain ⟨locs, X, eT, N, hn⟩ := X; obtain ⟨hx, hZ, hby, hown, hml, hlk, hrt⟩ := C; subst hp has hst
  obtain ⟨cq, kq, qa, qb, qc⟩ := isOf hZ eT E
  obtain ⟨v, _, ⟨T', L', k', n'⟩, -, X', ⟨Lc, hQ, l', y', z'⟩, st'⟩ := X.virtualBack hx (y := y0) (z := y) hown (mvT hZ w1) (mvT hZ w2) nf (mvT hZ w5) (mvT hZ w6) hy (K.back (W := W) hZ w4 w3 hf hlo) qa qc (g := mkF m pc Ls (argsL.reverse ++ .ref a :: rest)) rfl (by rw [hml]; exact hsz) (Steps.refl _) (argsL := argsL) (rest := rest) hlen rfl (by simpa using hW) (hb hby hd) (fun _ _ => ⟨rfl, eT, hce, hsl⟩)
  dsimp only [Pt.U, Pt.locs, Pt.cells, Pt.slots] at X' l' y' z' st' hQ
  subst l' y' z'
  exact Go.tr st' (k T' _ v ⟨_, X', rfl, Fr.app N hQ.2, Nat.le_trans hn (hgrow _ _ hQ.1)⟩ hQ.1)
theorem own_selp {y : MethodName} {kk : Nat} (hZ : Z.Warmed39 s.vm) (wi : (Cond.instantiable y.cls kk).before a0 Z = true) (w2 : (Cond.instanceMethod y).before a0 Z = true) (w6 : (Cond.privateMethod y).before a0 Z = true) (hy : y.cls ≠ "java/lang/invoke/MethodHandle" ∧ y.cls ≠ "java/lang/invoke/VarHandle") : (Cond.selects y.cls y y).before args s = true := by
  have wi' : (Cond.instantiable y.cls kk).before args s = true := mvT hZ wi
  obtain ⟨c2, k2, i1, i2, i3, i4, -⟩ := Cond.instantiable_spec wi'
  exact Jvm.Stand.selects_self_of_private i1 i2 (by simp only [Bool.or_eq_false_iff] at i4; exact i4.1) (Cond.privateMethod_at (mvP hZ w6 (args := #[]))) (mvT hZ w2) hy
theorem Go.callP (C : Cx p s m meth c Z bytes own ret maxL) (X : On p l e R s m args below meth c n0 T h cells slots) {y : MethodName} {cb : ByteArray} {cm : Nat} {cr : Option FieldType} {rm : Room} {as' : Array Value} {P' : Option Value → Heap → Prop} {i W : Nat} {argsL rest : List Value} (K : Con l Z y cb cm cr rm as' h n0 P') {a : Addr} {Ck : String} (E : Exa Z h a Ck) (w1 : (Cond.methodLink own i y).before a0 Z = true) (w2 : (Cond.instanceMethod y).before a0 Z = true) {kk : Nat} (w5 : (Cond.instantiable y.cls kk).before a0 Z = true) (w6 : (Cond.privateMethod y).before a0 Z = true) (w3 : (Cond.initialized y.cls).before a0 Z = true) (w4 : (Cond.code y cb cm cr).before a0 Z = true) (hy : y.cls ≠ "java/lang/invoke/MethodHandle" ∧ y.cls ≠ "java/lang/invoke/VarHandle")
    (has : (.ref a :: argsL).toArray = as') (hst : st = argsL.reverse ++ .ref a :: rest) (hlen : ∀ sig, parseMethodDescriptor y.desc = some sig → argsL.length = sig.parameters.length) (hsz : Ls.size = maxL) (hW : (rest.map fun v => v.category).sum ≤ W) (hf : rm.frames + 1 ≤ R.frames) (hlo : W + (cm + 11) + rm.locals ≤ R.locals) (hce : cells + rm.cells ≤ R.cells) (hsl : slots + rm.slots ≤ R.slots) (hd : decode bytes pc = .ok (.invokevirtual i, 3)) (hp : pc + 3 = pc')
    (hgrow : ∀ v h', P' v h' → h.size ≤ h'.size)
    (k : ∀ T' h' v, On p l e R s m args below meth c n0 T' h' (cells + rm.cells) (slots + rm.slots) → P' v h' → Go p e below s n0 rc rs P T' (mkF m pc' Ls (v.toList ++ rest))) : Go p e below s n0 rc rs P T (mkF m pc Ls st) := by
  obtain ⟨locs, X, eT, N, hn⟩ := X; obtain ⟨hx, hZ, hby, hown, hml, hlk, hrt⟩ := C; subst hp has hst
  obtain ⟨cq, qa, qb⟩ := E.cell
  obtain ⟨v, _, ⟨T', L', k', n'⟩, -, X', ⟨Lc, hQ, l', y', z'⟩, st'⟩ := X.privateBack hx (y := y) hown (mvT hZ w1) (mvT hZ w2) (own_selp hZ w5 w2 w6 hy) (Cond.privateMethod_at (mvP hZ w6 (args := #[]))) (mvT hZ w4) hy (K.back (W := W) hZ w4 w3 hf hlo) (g := mkF m pc Ls (argsL.reverse ++ .ref a :: rest)) rfl (by rw [hml]; exact hsz) (Steps.refl _) (a := a) (by rw [eT]; exact qa) qb (argsL := argsL) (rest := rest) hlen rfl (by simpa using hW) (hb hby hd) (fun _ _ => ⟨rfl, eT, hce, hsl⟩)
  dsimp only [Pt.U, Pt.locs, Pt.cells, Pt.slots] at X' l' y' z' st' hQ
  subst l' y' z'
  exact Go.tr st' (k T' _ v ⟨_, X', rfl, Fr.app N hQ.2, Nat.le_trans hn (hgrow _ _ hQ.1)⟩ hQ.1)
end Own
end Jvm.RoadKit
namespace Jvm.RoadKit
theorem own_iadd {x y : Int32} (h1 : -2147483648 ≤ x.toInt + y.toInt) (h2 : x.toInt + y.toInt < 2147483648) : (x + y).toInt = x.toInt + y.toInt := by
  have h3 := c_iadd x y; have h4 := rng32 (x + y); omega
theorem own_isub {x y : Int32} (h1 : -2147483648 ≤ x.toInt - y.toInt) (h2 : x.toInt - y.toInt < 2147483648) : (x - y).toInt = x.toInt - y.toInt := by
  have h3 := c_isub x y; have h4 := rng32 (x - y); omega
theorem own_imul {x y : Int32} (h1 : -2147483648 ≤ x.toInt * y.toInt) (h2 : x.toInt * y.toInt < 2147483648) : (x * y).toInt = x.toInt * y.toInt := by
  have h3 := c_imul x y; have h4 := rng32 (x * y); omega
theorem own_ladd {x y : Int64} (h1 : -9223372036854775808 ≤ x.toInt + y.toInt) (h2 : x.toInt + y.toInt < 9223372036854775808) : (x + y).toInt = x.toInt + y.toInt := by
  have h3 := c_ladd x y; have h4 := rng64 (x + y); omega
theorem own_lsub {x y : Int64} (h1 : -9223372036854775808 ≤ x.toInt - y.toInt) (h2 : x.toInt - y.toInt < 9223372036854775808) : (x - y).toInt = x.toInt - y.toInt := by
  have h3 := c_lsub x y; have h4 := rng64 (x - y); omega
theorem own_lmul {x y : Int64} (h1 : -9223372036854775808 ≤ x.toInt * y.toInt) (h2 : x.toInt * y.toInt < 9223372036854775808) : (x * y).toInt = x.toInt * y.toInt := by
  have h3 := c_lmul x y; have h4 := rng64 (x * y); omega
theorem own_ilt {x y : Int32} : x < y ↔ x.toInt < y.toInt := Int32.lt_iff_toInt_lt
theorem own_jlt {x y : Int64} : x < y ↔ x.toInt < y.toInt := Int64.lt_iff_toInt_lt
theorem own_ieq {x y : Int32} : x = y ↔ x.toInt = y.toInt := Int32.toInt_inj.symm
theorem own_jeq {x y : Int64} : x = y ↔ x.toInt = y.toInt := Int64.toInt_inj.symm
theorem own_nilt {x y : Int32} (h : ¬ x < y) : ¬ x.toInt < y.toInt := fun q => h (own_ilt.mpr q)
theorem own_njlt {x y : Int64} (h : ¬ x < y) : ¬ x.toInt < y.toInt := fun q => h (own_jlt.mpr q)
theorem own_nieq {x y : Int32} (h : ¬ x = y) : ¬ x.toInt = y.toInt := fun q => h (own_ieq.mpr q)
theorem own_njeq {x y : Int64} (h : ¬ x = y) : ¬ x.toInt = y.toInt := fun q => h (own_jeq.mpr q)
theorem own_inc {x y : Int32} (h : x < y) : (x + (1 : Int32)).toInt = x.toInt + 1 := by
  rw [own_ilt] at h
  have h1 := rng32 x; have h2 := rng32 y
  have e : (1 : Int32).toInt = 1 := rfl
  rw [own_iadd (by omega) (by omega), e]
theorem own_dec {x y : Int32} (h : y < x) : (x + (-1 : Int32)).toInt = x.toInt - 1 := by
  rw [own_ilt] at h
  have h1 := rng32 x; have h2 := rng32 y
  have e : (-1 : Int32).toInt = -1 := rfl
  rw [own_iadd (by omega) (by omega), e]; omega
theorem own_nat32 {x : Int32} {n : Nat} (h : x.toInt = (n : Int)) : x = Int32.ofNat n := by
  apply Int32.toInt_inj.mp
  have := rng32 x
  rw [Int32.toInt_ofNat_of_lt (by omega), h]
theorem own_pos31 (x : Int32) : 0 ≤ (x &&& (2147483647 : Int32)).toInt := by
  have h := c_mask x 2147483647 31 (by decide) (by decide)
  rw [h]; exact Int.emod_nonneg _ (by decide)
theorem own_mod (x : Int32) (k : Int32) (d : Int) (hk : k.toInt = d) (hd : 0 < d) : ((x &&& (2147483647 : Int32)) % k).toInt = (x &&& (2147483647 : Int32)).toInt % d ∧ 0 ≤ ((x &&& (2147483647 : Int32)) % k).toInt ∧ ((x &&& (2147483647 : Int32)) % k).toInt < d := by
  have h := (c_irem (x &&& (2147483647 : Int32)) k d hk).1 (own_pos31 x)
  exact ⟨h, by rw [h]; exact Int.emod_nonneg _ (by omega), by rw [h]; exact Int.emod_lt_of_pos _ hd⟩
theorem own_upd {R : Int32 → Prop} {f : Nat → Int32} {x : Int32} {i : Nat} (h : ∀ q, R (f q)) (hx : R x) : ∀ q, R ((fun q => if q = i then x else f q) q) := fun q => by
  by_cases e : q = i
  · simp only [if_pos e]; exact hx
  · simp only [if_neg e]; exact h q
theorem own_i2b (x : Int32) : -128 ≤ (x.toInt8.toInt32).toInt ∧ (x.toInt8.toInt32).toInt ≤ 127 := by have := c_i2b x; omega
theorem own_b2 (x : Int32) : x.toInt8.toInt32.toInt8.toInt32 = x.toInt8.toInt32 := by rw [Int8.toInt8_toInt32]
theorem own_and3 (x : Int32) : x &&& (3 : Int32) = 0 ∨ x &&& (3 : Int32) = 1 ∨ x &&& (3 : Int32) = 2 ∨ x &&& (3 : Int32) = 3 := by
  have h := c_mask x 3 2 (by decide) (by decide)
  have z0 : (0 : Int32).toInt = 0 := rfl
  have z1 : (1 : Int32).toInt = 1 := rfl
  have z2 : (2 : Int32).toInt = 2 := rfl
  have z3 : (3 : Int32).toInt = 3 := rfl
  have h1 : ((2 ^ 2 : Nat) : Int) = 4 := rfl
  rw [h1] at h
  rw [own_ieq, own_ieq, own_ieq, own_ieq, z0, z1, z2, z3]
  omega
theorem own_and1 (x : Int32) : x &&& (1 : Int32) = 0 ∨ x &&& (1 : Int32) = 1 := by
  have h := c_mask x 1 1 (by decide) (by decide)
  have z0 : (0 : Int32).toInt = 0 := rfl
  have z1 : (1 : Int32).toInt = 1 := rfl
  have h1 : ((2 ^ 1 : Nat) : Int) = 2 := rfl
  rw [h1] at h
  rw [own_ieq, own_ieq, z0, z1]
  omega
end Jvm.RoadKit
namespace Jvm.RoadKit
open Sem ClassFile Op Lib Jvm.Stand Jvm.Free Jvm.LawKit
section OwnF
variable {p : Program} {l : Launch} {e : Env} {R : Room} {s : State} {m : MethodId} {args : Array Value} {below : List Frame} {meth : Method} {c : Code} {T : State} {Z : State} {a0 : Array Value} {h : Heap} {cells slots n0 rc rs : Nat} {bytes : ByteArray} {own : String} {ret : Option FieldType} {maxL : Nat} {P : Option Value → Heap → Prop} {Ls : Array Slot} {pc pc' : Nat} {st : List Value}
theorem Go.dloadN (C : Cx p s m meth c Z bytes own ret maxL) (X : On p l e R s m args below meth c n0 T h cells slots) {i : Fin 4} {v : UInt64} (hd : decode bytes pc = .ok (.dload_n i, 1)) (hl : Ls[i.val]? = some (.val (.double v))) (hp : pc + 1 = pc') (k : Go p e below s n0 rc rs P T (mkF m pc' Ls (.double v :: st))) : Go p e below s n0 rc rs P T (mkF m pc Ls st) := by
  obtain ⟨locs, X, eT, N, hn⟩ := X; obtain ⟨hx, hZ, hby, hown, hml, hlk, hrt⟩ := C; subst hp; exact Go.of (fun t q => XS.dloadN X.here hx rfl (hb hby hd) hl q) k
theorem Go.dconst0 (C : Cx p s m meth c Z bytes own ret maxL) (X : On p l e R s m args below meth c n0 T h cells slots) {v : UInt64} (hv : FP.dconst0 = v) (hd : decode bytes pc = .ok (.dconst 0, 1)) (hp : pc + 1 = pc') (k : Go p e below s n0 rc rs P T (mkF m pc' Ls (.double v :: st))) : Go p e below s n0 rc rs P T (mkF m pc Ls st) := by
  obtain ⟨locs, X, eT, N, hn⟩ := X; obtain ⟨hx, hZ, hby, hown, hml, hlk, hrt⟩ := C; subst hp; exact Go.of (fun t q => XS.dconst0 X.here hx rfl (hb hby hd) hv q) k
theorem Go.l2d (C : Cx p s m meth c Z bytes own ret maxL) (X : On p l e R s m args below meth c n0 T h cells slots) {x : Int64} (hd : decode bytes pc = .ok (.l2d, 1)) (hp : pc + 1 = pc') (k : Go p e below s n0 rc rs P T (mkF m pc' Ls (.double (FP.l2d x) :: st))) : Go p e below s n0 rc rs P T (mkF m pc Ls (.long x :: st)) := by
  obtain ⟨locs, X, eT, N, hn⟩ := X; obtain ⟨hx, hZ, hby, hown, hml, hlk, hrt⟩ := C; subst hp; exact Go.of (fun t q => XS.l2dS X.here hx rfl (hb hby hd) rfl rfl q) k
theorem Go.dadd (C : Cx p s m meth c Z bytes own ret maxL) (X : On p l e R s m args below meth c n0 T h cells slots) {x y : UInt64} (hd : decode bytes pc = .ok (.dadd, 1)) (hnn : Jvm.Free.Fl.NoNaN64 (FP.dadd x y)) (hp : pc + 1 = pc') (k : Go p e below s n0 rc rs P T (mkF m pc' Ls (.double (FP.dadd x y) :: st))) : Go p e below s n0 rc rs P T (mkF m pc Ls (.double y :: .double x :: st)) := by
  obtain ⟨locs, X, eT, N, hn⟩ := X; obtain ⟨hx, hZ, hby, hown, hml, hlk, hrt⟩ := C; subst hp; exact Go.of (fun t q => XS.daddS X.here hx rfl (hb hby hd) rfl hnn rfl q) k
theorem Go.dmul (C : Cx p s m meth c Z bytes own ret maxL) (X : On p l e R s m args below meth c n0 T h cells slots) {x y : UInt64} (hd : decode bytes pc = .ok (.dmul, 1)) (hnn : Jvm.Free.Fl.NoNaN64 (FP.dmul x y)) (hp : pc + 1 = pc') (k : Go p e below s n0 rc rs P T (mkF m pc' Ls (.double (FP.dmul x y) :: st))) : Go p e below s n0 rc rs P T (mkF m pc Ls (.double y :: .double x :: st)) := by
  obtain ⟨locs, X, eT, N, hn⟩ := X; obtain ⟨hx, hZ, hby, hown, hml, hlk, hrt⟩ := C; subst hp; exact Go.of (fun t q => XS.dmulS X.here hx rfl (hb hby hd) rfl hnn rfl q) k
theorem Go.dcmp (C : Cx p s m meth c Z bytes own ret maxL) (X : On p l e R s m args below meth c n0 T h cells slots) {x y : UInt64} {o : CmpOp} (hd : decode bytes pc = .ok (.dcmp o, 1)) (hp : pc + 1 = pc') (k : Go p e below s n0 rc rs P T (mkF m pc' Ls (.int (cmpValue (FP.dcmp x y) o) :: st))) : Go p e below s n0 rc rs P T (mkF m pc Ls (.double y :: .double x :: st)) := by
  obtain ⟨locs, X, eT, N, hn⟩ := X; obtain ⟨hx, hZ, hby, hown, hml, hlk, hrt⟩ := C; subst hp; exact Go.of (fun t q => XS.dcmpS X.here hx rfl (hb hby hd) rfl rfl q) k
theorem Go.ldc2D (C : Cx p s m meth c Z bytes own ret maxL) (X : On p l e R s m args below meth c n0 T h cells slots) {i : Nat} {v : UInt64} (hc : (Cond.constantDouble own i v).before a0 Z = true) (hd : decode bytes pc = .ok (.ldc2_w i, 3)) (hp : pc + 3 = pc') (k : Go p e below s n0 rc rs P T (mkF m pc' Ls (.double v :: st))) : Go p e below s n0 rc rs P T (mkF m pc Ls st) := by
  obtain ⟨locs, X, eT, N, hn⟩ := X; obtain ⟨hx, hZ, hby, hown, hml, hlk, hrt⟩ := C; subst hp; exact Go.of (X.ldc2DoubleC hx hown (mvT hZ hc) (g := mkF m pc Ls st) rfl (hb hby hd)) k
theorem Go.maxD (C : Cx p s m meth c Z bytes own ret maxL) (X : On p l e R s m args below meth c n0 T h cells slots) {i W : Nat} {a b : UInt64} {rest : List Value} {cb : ByteArray} (w1 : (Cond.methodLink own i Jvm.Free.Fl.Abs.maxDN).before a0 Z = true) (w2 : (Cond.static Jvm.Free.Fl.Abs.maxDN).before a0 Z = true) (w3 : (Cond.initialized "java/lang/Math").before a0 Z = true) (w4 : (Cond.code Jvm.Free.Fl.Abs.maxDN cb 4 (some .double)).before a0 Z = true) (hcb : cb = Jvm.Free.Fl.Abs.maxDCode) (na : Jvm.Free.Fl.NoNaN64 a) (nb : Jvm.Free.Fl.NoNaN64 b) (hsz : Ls.size = maxL) (hW : (rest.map fun v => v.category).sum ≤ W) (hf : 1 ≤ R.frames) (hlo : W + 15 ≤ R.locals) (hce : cells ≤ R.cells) (hsl : slots ≤ R.slots) (hd : decode bytes pc = .ok (.invokestatic i, 3)) (hp : pc + 3 = pc')
    (k : ∀ T', On p l e R s m args below meth c n0 T' h cells slots → Go p e below s n0 rc rs P T' (mkF m pc' Ls (.double (Native.java_lang_Math.nans.pick64 true a b) :: rest))) : Go p e below s n0 rc rs P T (mkF m pc Ls (.double b :: .double a :: rest)) := by
  subst hcb
  obtain ⟨locs, X, eT, N, hn⟩ := X; obtain ⟨hx, hZ, hby, hown, hml, hlk, hrt⟩ := C; subst hp; 
  obtain ⟨v, _, ⟨T', L', k', n'⟩, -, X', ⟨hv, hB⟩, st'⟩ := Jvm.LawKit.callS X hx (y := Jvm.Free.Fl.Abs.maxDN) hown (mvT hZ w1) (mvT hZ w2) (mvT hZ w3) (mvT hZ w4) (by decide) (Jvm.Free.Fl.Abs.maxD_pays (W := W) a b (mvT hZ w4) hf hlo) (g := mkF m pc Ls (.double b :: .double a :: rest)) rfl (by rw [hml]; exact hsz) (argsL := [.double a, .double b]) (rest := rest) (fun sig hs => by rw [show parseMethodDescriptor Jvm.Free.Fl.Abs.maxDN.desc = some ⟨[.double, .double], some .double⟩ by decide +kernel] at hs; cases hs; rfl) rfl (by simpa using hW) (hb hby hd) (fun _ _ => ⟨hce, hsl, rfl, na, nb⟩)
  subst hv
  cases hB
  exact Go.of st' (k _ ⟨_, X', eT, N, hn⟩)
end OwnF
end Jvm.RoadKit
namespace Jvm.Pilot.@@N@@
open Jvm Jvm.ClassFile Sem Op Lib Jvm.Free Jvm.Stand Jvm.LawKit Jvm.RoadKit Bundle Jvm.Pilot.@@N@@.Jvm.D
open Jvm.FP in
section
def own_Z (x : UInt64) : Int := Core.zval Core.b64 (Core.val64 x)
def own_n : Nat := 992
def own_u : Int := ((2 ^ (80 + own_n) : Nat) : Int)
def own_o : Int := ((2 ^ (2 + (80 + own_n)) : Nat) : Int)
def own_w : Int := ((2 ^ own_n : Nat) : Int)
def own_eps : UInt64 := 4472406533629990549
theorem own_q4 (k : Nat) (hk : k < 9007199254740992) : ∃ V, Core.fits Core.b64 V ∧ V ≠ .nan ∧ Core.zval Core.b64 V = (k : Int) * own_u := by
  obtain ⟨c', q', h1, h2⟩ := Core.round_exact Core.good_b64 false (c := k) (q := -2) (by show k < 2 ^ 53; omega) (by decide) (by decide)
  refine ⟨_, Core.round_fits Core.good_b64 (.fin false k (-2)), by rw [h1]; exact Core.Datum.noConfusion, ?_⟩
  rw [h1]
  show Core.signed false (Core.inUnits c' q' Core.b64.qmin) = _
  rw [h2]
  show ((k * 2 ^ ((-2 : Int) - Core.b64.qmin).toNat : Nat) : Int) = _
  rw [show ((-2 : Int) - Core.b64.qmin).toNat = 80 + own_n by decide]
  exact Int.natCast_mul _ _
theorem own_finv {x : UInt64} (h : Core.DFin x) : ∃ s c q, Core.val64 x = .fin s c q ∧ Core.fits Core.b64 (.fin s c q) := by
  obtain ⟨s, c, q, e⟩ := h
  exact ⟨s, c, q, e, e ▸ Core.val64_fits x⟩
theorem own_prod {x y : UInt64} (hx : Core.DFin x) (hy : Core.DFin y) : ∃ s c q, Core.val64 (Core.dmul x y) = Core.round Core.b64 (.fin s c q) ∧ 2 * Core.b64.qmin ≤ q ∧ Core.signed s (Core.inUnits c q (2 * Core.b64.qmin)) = own_Z x * own_Z y := by
  obtain ⟨s, c, q, ex, fx⟩ := own_finv hx
  obtain ⟨t, d, r, ey, fy⟩ := own_finv hy
  obtain ⟨h1, h2, h3⟩ := Core.product_units fx fy
  refine ⟨s != t, c * d, q + r, ?_, h2, ?_⟩
  · rw [Core.val64_dmul, ex, ey, h1]
  · rw [h3, Core.signed_xor]; unfold own_Z; rw [ex, ey]; rfl
theorem own_pw : (Core.b64.qmin - 2 * Core.b64.qmin).toNat = 2 + (80 + own_n) := by decide
theorem own_mul_le {x y : UInt64} {V : Core.Datum} (hx : Core.DFin x) (hy : Core.DFin y) (hV : Core.fits Core.b64 V) (hn : V ≠ .nan) (h : own_Z x * own_Z y ≤ Core.zval Core.b64 V * own_o) : own_Z (Core.dmul x y) ≤ Core.zval Core.b64 V := by
  obtain ⟨s, c, q, h1, h2, h3⟩ := own_prod hx hy
  unfold own_Z; rw [h1]
  exact Core.zval_round_le Core.good_b64 hV hn (e0 := 2 * Core.b64.qmin) (by decide) h2 (by rw [h3, own_pw]; exact h)
theorem own_mul_ge {x y : UInt64} {V : Core.Datum} (hx : Core.DFin x) (hy : Core.DFin y) (hV : Core.fits Core.b64 V) (hn : V ≠ .nan) (h : Core.zval Core.b64 V * own_o ≤ own_Z x * own_Z y) : Core.zval Core.b64 V ≤ own_Z (Core.dmul x y) := by
  obtain ⟨s, c, q, h1, h2, h3⟩ := own_prod hx hy
  unfold own_Z; rw [h1]
  exact Core.zval_round_ge Core.good_b64 hV hn (e0 := 2 * Core.b64.qmin) (by decide) h2 (by rw [h3, own_pw]; exact h)
theorem own_sumz {x y : UInt64} (hx : Core.DFin x) (hy : Core.DFin y) : ∃ s c q, Core.val64 (Core.dadd x y) = Core.round Core.b64 (.fin s c q) ∧ Core.b64.qmin ≤ q ∧ Core.signed s (Core.inUnits c q Core.b64.qmin) = own_Z x + own_Z y := by
  obtain ⟨s, c, q, ex, fx⟩ := own_finv hx
  obtain ⟨t, d, r, ey, fy⟩ := own_finv hy
  obtain ⟨sg, n, e, h1, h2, h3⟩ := Core.sum_units fx fy
  refine ⟨sg, n, e, ?_, h2, ?_⟩
  · rw [Core.val64_dadd, ex, ey, h1]
  · rw [h3]; unfold own_Z; rw [ex, ey]
theorem own_pw0 : ((2 ^ (Core.b64.qmin - Core.b64.qmin).toNat : Nat) : Int) = 1 := by decide
theorem own_add_le {x y : UInt64} {V : Core.Datum} (hx : Core.DFin x) (hy : Core.DFin y) (hV : Core.fits Core.b64 V) (hn : V ≠ .nan) (h : own_Z x + own_Z y ≤ Core.zval Core.b64 V) : own_Z (Core.dadd x y) ≤ Core.zval Core.b64 V := by
  obtain ⟨s, c, q, h1, h2, h3⟩ := own_sumz hx hy
  unfold own_Z; rw [h1]
  exact Core.zval_round_le Core.good_b64 hV hn (e0 := Core.b64.qmin) (Int.le_refl _) h2 (by rw [h3, own_pw0, Int.mul_one]; exact h)
theorem own_add_ge {x y : UInt64} {V : Core.Datum} (hx : Core.DFin x) (hy : Core.DFin y) (hV : Core.fits Core.b64 V) (hn : V ≠ .nan) (h : Core.zval Core.b64 V ≤ own_Z x + own_Z y) : Core.zval Core.b64 V ≤ own_Z (Core.dadd x y) := by
  obtain ⟨s, c, q, h1, h2, h3⟩ := own_sumz hx hy
  unfold own_Z; rw [h1]
  exact Core.zval_round_ge Core.good_b64 hV hn (e0 := Core.b64.qmin) (Int.le_refl _) h2 (by rw [h3, own_pw0, Int.mul_one]; exact h)
theorem own_l2d {a : Int64} (h0 : 0 ≤ a.toInt) (h1 : a.toInt < 9007199254740992) : own_Z (Core.l2d a) = a.toInt * own_o := by
  have h := Core.l2d_int (a := a) (by rw [show (2 : Nat) ^ 53 = 9007199254740992 by decide]; omega)
  have := Core.whole_zval Core.good_b64 (Core.val64_fits _) h
  rw [show (-Core.b64.qmin).toNat = 2 + (80 + own_n) by decide] at this
  exact this
theorem own_ez : own_Z own_eps = (4835703278458517 : Int) * own_w := by
  have h : Core.val64 own_eps = .fin false 4835703278458517 (-82) := by decide +kernel
  have key : ∀ c : Nat, Core.zval Core.b64 (.fin false c (-82)) = (c : Int) * own_w := fun c => by
    show ((c * 2 ^ ((-82 : Int) - Core.b64.qmin).toNat : Nat) : Int) = _
    rw [show ((-82 : Int) - Core.b64.qmin).toNat = own_n by decide, Int.natCast_mul]; rfl
  unfold own_Z; rw [h, key]; rfl
theorem own_pa (a b : Nat) : ((2 ^ (a + b) : Nat) : Int) = ((2 ^ a : Nat) : Int) * ((2 ^ b : Nat) : Int) := by rw [Nat.pow_add, Int.natCast_mul]
theorem own_uw1 : own_u = ((2 ^ 80 : Nat) : Int) * own_w := own_pa 80 own_n
theorem own_uw : own_u = 1208925819614629174706176 * own_w := by rw [own_uw1, show ((2 ^ 80 : Nat) : Int) = 1208925819614629174706176 by decide]
theorem own_ou1 : own_o = ((2 ^ 2 : Nat) : Int) * own_u := own_pa 2 (80 + own_n)
theorem own_ou : own_o = 4 * own_u := by rw [own_ou1, show ((2 ^ 2 : Nat) : Int) = 4 by decide]
theorem own_u0 : 0 < own_u := Int.natCast_pos.mpr (Nat.two_pow_pos _)
theorem own_w0 : 0 ≤ own_w := Int.natCast_nonneg _
theorem own_o0 : 0 ≤ own_o := Int.natCast_nonneg _
theorem own_cmpm {c w M o k t : Int} (hw : 0 ≤ w) (ho : 0 ≤ o) (h : M * c ≤ k * t) : (c * w) * (M * o) ≤ (k * (t * w)) * o := by
  have e1 : (c * w) * (M * o) = (M * c) * (w * o) := by ac_rfl
  have e2 : (k * (t * w)) * o = (k * t) * (w * o) := by ac_rfl
  rw [e1, e2]
  exact Int.mul_le_mul_of_nonneg_right h (Int.mul_nonneg hw ho)
theorem own_cmpn {c w M o k t : Int} (hw : 0 ≤ w) (ho : 0 ≤ o) (h : k * t ≤ M * c) : (k * (t * w)) * o ≤ (c * w) * (M * o) := by
  have e1 : (c * w) * (M * o) = (M * c) * (w * o) := by ac_rfl
  have e2 : (k * (t * w)) * o = (k * t) * (w * o) := by ac_rfl
  rw [e1, e2]
  exact Int.mul_le_mul_of_nonneg_right h (Int.mul_nonneg hw ho)
theorem own_ef : Core.DFin own_eps := ⟨false, 4835703278458517, -82, by decide +kernel⟩
theorem own_P_le {m : UInt64} {M : Int} {k : Nat} (hm : Core.DFin m) (hZ : own_Z m = M * own_o) (hk : k < 9007199254740992) (h : M * 4835703278458517 ≤ (k : Int) * 1208925819614629174706176) : own_Z (Core.dmul own_eps m) ≤ (k : Int) * own_u := by
  obtain ⟨V, h1, h2, h3⟩ := own_q4 k hk
  rw [← h3]
  refine own_mul_le own_ef hm h1 h2 ?_
  rw [h3, own_ez, hZ, own_uw]
  exact own_cmpm own_w0 own_o0 h
theorem own_P_ge {m : UInt64} {M : Int} {k : Nat} (hm : Core.DFin m) (hZ : own_Z m = M * own_o) (hk : k < 9007199254740992) (h : (k : Int) * 1208925819614629174706176 ≤ M * 4835703278458517) : (k : Int) * own_u ≤ own_Z (Core.dmul own_eps m) := by
  obtain ⟨V, h1, h2, h3⟩ := own_q4 k hk
  rw [← h3]
  refine own_mul_ge own_ef hm h1 h2 ?_
  rw [h3, own_ez, hZ, own_uw]
  exact own_cmpn own_w0 own_o0 h
theorem own_74i (B : Int) : B * own_o = (4 * B) * own_u := by rw [own_ou, ← Int.mul_assoc, Int.mul_comm B 4]
theorem own_S_le {b p : UInt64} {B : Int} {k j : Nat} (hb : Core.DFin b) (hp : Core.DFin p) (hZ : own_Z b = B * own_o) (hP : own_Z p ≤ (k : Int) * own_u) (hj : (j : Int) = 4 * B + k) (h53 : j < 9007199254740992) : own_Z (Core.dadd b p) ≤ (j : Int) * own_u := by
  obtain ⟨V, h1, h2, h3⟩ := own_q4 j h53
  rw [← h3]
  refine own_add_le hb hp h1 h2 ?_
  rw [h3, hZ, own_74i, hj, Int.add_mul]; exact Int.add_le_add_left hP _
theorem own_S_ge {b p : UInt64} {B : Int} {k j : Nat} (hb : Core.DFin b) (hp : Core.DFin p) (hZ : own_Z b = B * own_o) (hP : (k : Int) * own_u ≤ own_Z p) (hj : (j : Int) = 4 * B + k) (h53 : j < 9007199254740992) : (j : Int) * own_u ≤ own_Z (Core.dadd b p) := by
  obtain ⟨V, h1, h2, h3⟩ := own_q4 j h53
  rw [← h3]
  refine own_add_ge hb hp h1 h2 ?_
  rw [h3, hZ, own_74i, hj, Int.add_mul]; exact Int.add_le_add_left hP _
theorem own_gt {a s : UInt64} (ha : Core.val64 a ≠ .nan) (hs : Core.val64 s ≠ .nan) : (0 : Int32) < cmpValue (FP.dcmp a s) .g ↔ own_Z s < own_Z a := by
  rw [show FP.dcmp a s = _ from Core.dcmp_zval ha hs]
  show _ ↔ Core.zval Core.b64 (Core.val64 s) < Core.zval Core.b64 (Core.val64 a)
  generalize Core.zval Core.b64 (Core.val64 s) = y
  generalize Core.zval Core.b64 (Core.val64 a) = x
  rcases Int.lt_trichotomy x y with h | h | h
  · rw [(Core.compare_lt_iff _ _).mpr h]; exact ⟨fun q => absurd q (by decide), fun q => by omega⟩
  · rw [(Core.compare_eq_iff _ _).mpr h]; exact ⟨fun q => absurd q (by decide), fun q => by omega⟩
  · rw [(Core.compare_gt_iff _ _).mpr h]; exact ⟨fun _ => h, fun _ => by decide⟩
open Jvm.Free.Fl in
theorem own_pick {A B : Int64} (a0 : 0 ≤ A.toInt) (b0 : 0 ≤ B.toInt) (a1 : A.toInt < 9007199254740992) (b1 : B.toInt < 9007199254740992) : ∃ M : Int64, Native.java_lang_Math.nans.pick64 true (FP.l2d A) (FP.l2d B) = FP.l2d M ∧ (M = A ∨ M = B) ∧ A.toInt ≤ M.toInt ∧ B.toInt ≤ M.toInt := by
  have e := Core.dcmp_int (Core.l2d_int (a := A) (by rw [show (2 : Nat) ^ 53 = 9007199254740992 by decide]; omega)) (Core.l2d_int (a := B) (by rw [show (2 : Nat) ^ 53 = 9007199254740992 by decide]; omega))
  unfold Native.java_lang_Math.nans.pick64
  rw [show FP.dcmp (FP.l2d A) (FP.l2d B) = _ from e]
  rcases Int.lt_trichotomy A.toInt B.toInt with h | h | h
  · rw [(Core.compare_lt_iff _ _).mpr h]; exact ⟨B, rfl, Or.inr rfl, by omega, by omega⟩
  · rw [(Core.compare_eq_iff _ _).mpr h]
    have e2 : A = B := Int64.toInt_inj.mp h
    subst e2
    exact ⟨A, by simp, Or.inl rfl, by omega, by omega⟩
  · rw [(Core.compare_gt_iff _ _).mpr h]; exact ⟨A, rfl, Or.inl rfl, by omega, by omega⟩
def own_S (A B : Int64) : UInt64 := FP.dadd (FP.l2d B) (FP.dmul own_eps (Native.java_lang_Math.nans.pick64 true (FP.l2d A) (FP.l2d B)))
theorem own_me : Jvm.Free.Fl.Mag64 994 own_eps := by unfold Jvm.Free.Fl.Mag64 own_eps; decide
theorem own_pf (M : Int64) : Jvm.Free.Fl.Fin64 (FP.dmul own_eps (FP.l2d M)) := (Jvm.Free.Fl.dmul_mag own_me (Jvm.Free.Fl.l2d_mag M) (by decide) (by decide)).fin (by decide)
theorem own_Snn {A B : Int64} (a0 : 0 ≤ A.toInt) (b0 : 0 ≤ B.toInt) (a1 : A.toInt < 9007199254740992) (b1 : B.toInt < 9007199254740992) : Jvm.Free.Fl.NoNaN64 (own_S A B) := by
  obtain ⟨M, e, -⟩ := own_pick a0 b0 a1 b1
  unfold own_S; rw [e]
  exact Jvm.Free.Fl.dadd_out (Jvm.Free.Fl.l2d_fin B).noNaN (own_pf M)
/-- at most, by the doubles -/
def own_am (A B : Int64) : Prop := (0 : Int32) < cmpValue (FP.dcmp (FP.l2d A) (own_S A B)) .g
theorem own_amZ {A B : Int64} (a0 : 0 ≤ A.toInt) (b0 : 0 ≤ B.toInt) (a1 : A.toInt < 9007199254740992) (b1 : B.toInt < 9007199254740992) : own_am A B ↔ own_Z (own_S A B) < (4 * A.toInt) * own_u := by
  unfold own_am
  rw [own_gt (Jvm.Free.Fl.val64_no.mp (Jvm.Free.Fl.l2d_fin A).noNaN) (Jvm.Free.Fl.val64_no.mp (own_Snn a0 b0 a1 b1)), show own_Z (FP.l2d A) = _ from own_l2d a0 a1, own_74i]
/-- not above: quarters j/4, at least A, lie below the sum -/
theorem own_no {A B : Int64} (k j : Nat) (a0 : 0 ≤ A.toInt) (b0 : 0 ≤ B.toInt) (a1 : A.toInt < 9007199254740992) (b1 : B.toInt < 9007199254740992) (hk5 : k < 9007199254740992) (hk : (k : Int) * 1208925819614629174706176 ≤ A.toInt * 4835703278458517) (hj : (j : Int) = 4 * B.toInt + k) (h53 : j < 9007199254740992) (h : 4 * A.toInt ≤ j) : ¬ own_am A B := by
  rw [own_amZ a0 b0 a1 b1]
  obtain ⟨M, e, hor, h1, h2⟩ := own_pick a0 b0 a1 b1
  have hM : M.toInt < 9007199254740992 := by rcases hor with q | q <;> rw [q] <;> assumption
  have hP := own_P_ge (m := FP.l2d M) (k := k) (Jvm.Free.Fl.fin64_core.mp (Jvm.Free.Fl.l2d_fin M)) (own_l2d (by omega) hM) hk5 (by omega)
  have hS := own_S_ge (Jvm.Free.Fl.fin64_core.mp (Jvm.Free.Fl.l2d_fin B)) (Jvm.Free.Fl.fin64_core.mp (own_pf M)) (own_l2d b0 b1) hP hj h53
  intro q
  unfold own_S at q; rw [e] at q
  exact absurd (Int.le_trans (Int.mul_le_mul_of_nonneg_right h (Int.le_of_lt own_u0)) hS) (Int.not_le.mpr q)
/-- above: the sum lies below quarters j/4, less than A -/
theorem own_yes {A B : Int64} (k j : Nat) (a0 : 0 ≤ A.toInt) (b0 : 0 ≤ B.toInt) (a1 : A.toInt < 9007199254740992) (b1 : B.toInt < 9007199254740992) (hk5 : k < 9007199254740992) (hk : A.toInt * 4835703278458517 ≤ (k : Int) * 1208925819614629174706176) (hk' : B.toInt * 4835703278458517 ≤ (k : Int) * 1208925819614629174706176) (hj : (j : Int) = 4 * B.toInt + k) (h53 : j < 9007199254740992) (h : j < 4 * A.toInt) : own_am A B := by
  rw [own_amZ a0 b0 a1 b1]
  obtain ⟨M, e, hor, h1, h2⟩ := own_pick a0 b0 a1 b1
  have hM : M.toInt < 9007199254740992 := by rcases hor with q | q <;> rw [q] <;> assumption
  have hP := own_P_le (m := FP.l2d M) (k := k) (Jvm.Free.Fl.fin64_core.mp (Jvm.Free.Fl.l2d_fin M)) (own_l2d (by omega) hM) hk5 (by rcases hor with q | q <;> rw [q] <;> assumption)
  have hS := own_S_le (Jvm.Free.Fl.fin64_core.mp (Jvm.Free.Fl.l2d_fin B)) (Jvm.Free.Fl.fin64_core.mp (own_pf M)) (own_l2d b0 b1) hP hj h53
  unfold own_S; rw [e]
  exact Int.lt_of_le_of_lt hS (Int.mul_lt_mul_of_pos_right h own_u0)
theorem own_m_le {A B : Int64} (a0 : 0 ≤ A.toInt) (h : A.toInt ≤ B.toInt) (b1 : B.toInt < 1000000000000) : ¬ own_am A B := own_no 0 (4 * B.toInt).toNat a0 (by omega) (by omega) (by omega) (by decide) (by omega) (by omega) (by omega) (by omega)
theorem own_m_one {A B : Int64} (h : A.toInt = B.toInt + 1) (b0 : 1073741824 ≤ B.toInt) (b1 : B.toInt < 1000000000000) : ¬ own_am A B := own_no 4 (4 * B.toInt + 4).toNat (by omega) (by omega) (by omega) (by omega) (by decide) (by omega) (by omega) (by omega) (by omega)
theorem own_m_small {A B : Int64} (b0 : 0 ≤ B.toInt) (h : B.toInt < A.toInt) (a1 : A.toInt < 536870912) : own_am A B := own_yes 3 (4 * B.toInt + 3).toNat (by omega) b0 (by omega) (by omega) (by decide) (by omega) (by omega) (by omega) (by omega) (by omega)
theorem own_m_three {A B : Int64} (y : Nat) (b0 : 0 ≤ B.toInt) (h : A.toInt = B.toInt + 3 + y) (b1 : B.toInt < 2147483648) (hy : y < 1073741824) : own_am A B := own_yes (10 + 2 * y) (4 * B.toInt + 10 + 2 * y).toNat (by omega) b0 (by omega) (by omega) (by omega) (by omega) (by omega) (by omega) (by omega) (by omega)
theorem own_m_zero {A B : Int64} (b0 : B.toInt = 0) (h : 0 < A.toInt) (a1 : A.toInt < 1000000000000) : own_am A B := own_yes (2 * A.toInt).toNat (2 * A.toInt).toNat (by omega) (by omega) (by omega) (by omega) (by omega) (by omega) (by omega) (by omega) (by omega) (by omega)
end
theorem own_d0 : FP.dconst0 = FP.l2d (0 : Int64) := by decide +kernel
theorem own_pk (a b : UInt64) : Native.java_lang_Math.nans.pick64 true a b = a ∨ Native.java_lang_Math.nans.pick64 true a b = b := by
  unfold Native.java_lang_Math.nans.pick64
  (repeat' split) <;> simp
theorem own_nl (A : Int64) : Jvm.Free.Fl.NoNaN64 (FP.l2d A) := (Jvm.Free.Fl.l2d_fin A).noNaN
theorem own_nm (A B : Int64) : Jvm.Free.Fl.Fin64 (FP.dmul own_eps (Native.java_lang_Math.nans.pick64 true (FP.l2d A) (FP.l2d B))) := by
  rcases own_pk (FP.l2d A) (FP.l2d B) with q | q <;> rw [q]
  · exact own_pf A
  · exact own_pf B
theorem own_ns (A B : Int64) : Jvm.Free.Fl.NoNaN64 (FP.dadd (FP.l2d B) (FP.dmul own_eps (Native.java_lang_Math.nans.pick64 true (FP.l2d A) (FP.l2d B)))) := Jvm.Free.Fl.dadd_out (own_nl B) (own_nm A B)
theorem d1_0 : decode prog_60_method_15_code 0 = .ok (.dload_n 0, 1) := by decide +kernel
theorem d1_1 : decode prog_60_method_15_code 1 = .ok (.dload_n 2, 1) := by decide +kernel
theorem d1_2 : decode prog_60_method_15_code 2 = .ok (.ldc2_w 253, 3) := by decide +kernel
theorem d1_5 : decode prog_60_method_15_code 5 = .ok (.dload_n 0, 1) := by decide +kernel
theorem d1_6 : decode prog_60_method_15_code 6 = .ok (.dload_n 2, 1) := by decide +kernel
theorem d1_7 : decode prog_60_method_15_code 7 = .ok (.invokestatic 244, 3) := by decide +kernel
theorem d1_10 : decode prog_60_method_15_code 10 = .ok (.dmul, 1) := by decide +kernel
theorem d1_11 : decode prog_60_method_15_code 11 = .ok (.dadd, 1) := by decide +kernel
theorem d1_12 : decode prog_60_method_15_code 12 = .ok (.dcmp .g, 1) := by decide +kernel
theorem d1_13 : decode prog_60_method_15_code 13 = .ok (.ifCond .gt 7, 3) := by decide +kernel
theorem d1_20 : decode prog_60_method_15_code 20 = .ok (.iconst 0, 1) := by decide +kernel
theorem d1_21 : decode prog_60_method_15_code 21 = .ok (.ireturn, 1) := by decide +kernel
theorem d1_16 : decode prog_60_method_15_code 16 = .ok (.iconst 1, 1) := by decide +kernel
theorem d1_17 : decode prog_60_method_15_code 17 = .ok (.goto 4, 3) := by decide +kernel
def own_f_rm_am (a : UInt64) (b : UInt64) : Int32 := (if (0 : Int32) < (cmpValue (FP.dcmp a (FP.dadd b (FP.dmul own_eps (Native.java_lang_Math.nans.pick64 true a b)))) .g) then (0 : Int32) else (1 : Int32))
theorem own_pn0 : plainName "com/example/even_load/evenload/shedding/FeasibleTable" = true := by first | (simp [plainName, overriddenIn]; done) | decide +kernel
theorem own_ef_rm_am (m : MethodId) (x0 : UInt64) (x1 : UInt64) : entryFrame m #[(.double x0), (.double x1)] 4 = mkF m 0 #[.val (.double x0), .second, .val (.double x1), .second] [] := by first | (simp [entryFrame, mkF, argsToLocals, Value.category]; done) | rfl
set_option maxRecDepth 65536 in
set_option maxHeartbeats 40000000 in
theorem rm_am (l : Launch) (Z : State) (a0 : Array Value) (hw : ∀ d ∈ tables_1, d.before a0 Z = true) (a : UInt64) (b : UInt64)  (h0 : Heap) (n0 : Nat) (Z0 : n0 ≤ h0.size) (na : Jvm.Free.Fl.NoNaN64 a) (nb : Jvm.Free.Fl.NoNaN64 b) (nm : Jvm.Free.Fl.NoNaN64 (FP.dmul own_eps (Native.java_lang_Math.nans.pick64 true a b))) (ns : Jvm.Free.Fl.NoNaN64 (FP.dadd b (FP.dmul own_eps (Native.java_lang_Math.nans.pick64 true a b)))) :
    Con l Z (⟨"com/example/even_load/evenload/shedding/FeasibleTable", "atMost", "(DD)Z"⟩ : MethodName) prog_60_method_15_code 4 (some .boolean) ({ frames := 1, cells := 0, slots := 0, locals := 21 } : Room) #[(.double a), (.double b)] h0 n0 (fun rv hv => rv = some (.int (own_f_rm_am a b)) ∧ h0 = hv) := by
  refine Con.enter (plainFor_of_name own_pn0) Z0 ?_
  intro p e s m below meth c T0 C hnm X0
  refine Go.cast (own_ef_rm_am m a b) ?_
  refine Go.dloadN C X0 (pc' := 1) d1_0 rfl rfl ?_
  refine Go.dloadN C X0 (pc' := 2) d1_1 rfl rfl ?_
  refine Go.ldc2D C X0 (pc' := 5) (v := own_eps) (hw _ (List.mem_of_getElem? (i := 7) rfl)) d1_2 rfl ?_
  refine Go.dloadN C X0 (pc' := 6) d1_5 rfl rfl ?_
  refine Go.dloadN C X0 (pc' := 7) d1_6 rfl rfl ?_
  refine Go.maxD C X0 (pc' := 10) (W := 6) (hw _ (List.mem_of_getElem? (i := 8) rfl)) (hw _ (List.mem_of_getElem? (i := 9) rfl)) (hw _ (List.mem_of_getElem? (i := 10) rfl)) (hw _ (List.mem_of_getElem? (i := 11) rfl)) rfl na nb rfl (Nat.le_of_eq rfl) (by decide) (by decide) (by decide) (by decide) d1_7 rfl (fun T3 X3 => ?_)
  refine Go.dmul C X3 (pc' := 11) d1_10 nm rfl ?_
  refine Go.dadd C X3 (pc' := 12) d1_11 ns rfl ?_
  refine Go.dcmp C X3 (pc' := 13) d1_12 rfl ?_
  by_cases c4 : (0 : Int32) < (cmpValue (FP.dcmp a (FP.dadd b (FP.dmul own_eps (Native.java_lang_Math.nans.pick64 true a b)))) .g)
  · refine Go.ifYes C X3 (pc' := 20) d1_13 ((if0 _ _).trans (tlt c4).2.2.1) (by decide) (by decide) ?_
    refine Go.iconst C X3 (pc' := 21) (v := (0 : Int32)) d1_20 rfl rfl ?_
    exact Go.retZ (t := .boolean) C X3 (z' := (0 : Int32)) (by decide) d1_21 ⟨by show some (Value.int (0 : Int32)) = some (Value.int (own_f_rm_am a b)); unfold own_f_rm_am; rw [if_pos c4], rfl⟩ (by decide) (by decide)
  · refine Go.ifNo C X3 (pc' := 16) d1_13 ((if0 _ _).trans (flt c4).2.2.1) rfl ?_
    refine Go.iconst C X3 (pc' := 17) (v := (1 : Int32)) d1_16 rfl rfl ?_
    refine Go.goto C X3 (pc' := 21) d1_17 (by decide) (by decide) ?_
    exact Go.retZ (t := .boolean) C X3 (z' := (1 : Int32)) (by decide) d1_21 ⟨by show some (Value.int (1 : Int32)) = some (Value.int (own_f_rm_am a b)); unfold own_f_rm_am; rw [if_neg c4], rfl⟩ (by decide) (by decide)
theorem own_f1 {A B : Int64} (h : own_am A B) : own_f_rm_am (FP.l2d A) (FP.l2d B) = 0 := if_pos h
theorem own_f0 {A B : Int64} (h : ¬ own_am A B) : own_f_rm_am (FP.l2d A) (FP.l2d B) = 1 := if_neg h
theorem own_mk {x : Int32} (k : Nat) (mm : Int32) (d : Int) (h : (x &&& mm).toInt = x.toInt % d) (hd : 0 < d) : 0 ≤ ((x &&& mm).toInt64).toInt ∧ ((x &&& mm).toInt64).toInt < d := by
  rw [c_i2l, h]; exact ⟨Int.emod_nonneg _ (by omega), Int.emod_lt_of_pos _ hd⟩
theorem own_29 (x : Int32) : 0 ≤ ((x &&& (536870911 : Int32)).toInt64).toInt ∧ ((x &&& (536870911 : Int32)).toInt64).toInt < 536870912 := own_mk 29 _ _ (c_mask x 536870911 29 (by decide) (by decide)) (by decide)
theorem own_30 (x : Int32) : 0 ≤ ((x &&& (1073741823 : Int32)).toInt64).toInt ∧ ((x &&& (1073741823 : Int32)).toInt64).toInt < 1073741824 := own_mk 30 _ _ (c_mask x 1073741823 30 (by decide) (by decide)) (by decide)
theorem own_31 (x : Int32) : 0 ≤ ((x &&& (2147483647 : Int32)).toInt64).toInt ∧ ((x &&& (2147483647 : Int32)).toInt64).toInt < 2147483648 := own_mk 31 _ _ (c_mask x 2147483647 31 (by decide) (by decide)) (by decide)
theorem own_a0 (x y : Int32) (h : ¬ (y &&& (536870911 : Int32)).toInt64 < (x &&& (536870911 : Int32)).toInt64) : own_f_rm_am (FP.l2d (x &&& (536870911 : Int32)).toInt64) (FP.l2d (y &&& (536870911 : Int32)).toInt64) = 1 :=
  own_f0 (own_m_le (own_29 x).1 (by have := own_njlt h; omega) (by have := own_29 y; omega))
theorem own_a1 (x y : Int32) (h : (y &&& (536870911 : Int32)).toInt64 < (x &&& (536870911 : Int32)).toInt64) : own_f_rm_am (FP.l2d (x &&& (536870911 : Int32)).toInt64) (FP.l2d (y &&& (536870911 : Int32)).toInt64) = 0 :=
  own_f1 (own_m_small (own_29 y).1 (own_jlt.mp h) (own_29 x).2)
theorem own_b1 (x y : Int32) : own_f_rm_am (FP.l2d ((1073741824 : Int64) + (x &&& (1073741823 : Int32)).toInt64 + ((y &&& (3 : Int32)) - (2 : Int32)).toInt64)) (FP.l2d ((1073741824 : Int64) + (x &&& (1073741823 : Int32)).toInt64)) = 1 := by
  have h := own_30 x
  have e : (1073741824 : Int64).toInt = 1073741824 := rfl
  have hB : ((1073741824 : Int64) + (x &&& (1073741823 : Int32)).toInt64).toInt = 1073741824 + ((x &&& (1073741823 : Int32)).toInt64).toInt := by rw [own_ladd (by omega) (by omega), e]
  have z : ∃ d : Int, (((y &&& (3 : Int32)) - (2 : Int32)).toInt64).toInt = d ∧ -2 ≤ d ∧ d ≤ 1 := by
    rcases own_and3 y with q | q | q | q <;> rw [q]
    · exact ⟨-2, by decide, by decide, by decide⟩
    · exact ⟨-1, by decide, by decide, by decide⟩
    · exact ⟨0, by decide, by decide, by decide⟩
    · exact ⟨1, by decide, by decide, by decide⟩
  obtain ⟨d, ed, d1, d2⟩ := z
  have hA : ((1073741824 : Int64) + (x &&& (1073741823 : Int32)).toInt64 + ((y &&& (3 : Int32)) - (2 : Int32)).toInt64).toInt = 1073741824 + ((x &&& (1073741823 : Int32)).toInt64).toInt + d := by rw [own_ladd (by omega) (by omega), hB, ed]
  by_cases q : d = 1
  · exact own_f0 (own_m_one (by rw [hA, hB, q]) (by omega) (by omega))
  · exact own_f0 (own_m_le (by omega) (by omega) (by omega))
theorem own_c1 (x y : Int32) : own_f_rm_am (FP.l2d ((x &&& (2147483647 : Int32)).toInt64 + (3 : Int64) + (y &&& (1073741823 : Int32)).toInt64)) (FP.l2d (x &&& (2147483647 : Int32)).toInt64) = 0 := by
  have h := own_31 x; have h2 := own_30 y
  have e : (3 : Int64).toInt = 3 := rfl
  have h3 : ((x &&& (2147483647 : Int32)).toInt64 + (3 : Int64)).toInt = ((x &&& (2147483647 : Int32)).toInt64).toInt + 3 := by rw [own_ladd (by omega) (by omega), e]
  have hA : ((x &&& (2147483647 : Int32)).toInt64 + (3 : Int64) + (y &&& (1073741823 : Int32)).toInt64).toInt = ((x &&& (2147483647 : Int32)).toInt64).toInt + 3 + ((y &&& (1073741823 : Int32)).toInt64).toInt := by rw [own_ladd (by omega) (by omega), h3]
  exact own_f1 (own_m_three ((y &&& (1073741823 : Int32)).toInt64).toInt.toNat h.1 (by rw [hA]; omega) h.2 (by omega))
theorem own_z0 : (0 : Int64).toInt = 0 := rfl
theorem own_d1 (y : Int32) : own_f_rm_am (FP.l2d (0 : Int64)) (FP.l2d (y &&& (2147483647 : Int32)).toInt64) = 1 :=
  own_f0 (own_m_le (by decide) (by have := own_31 y; have := own_z0; omega) (by have := own_31 y; omega))
theorem own_d2 (y : Int32) (h : (y &&& (2147483647 : Int32)).toInt64 = (0 : Int64)) : own_f_rm_am (FP.l2d (y &&& (2147483647 : Int32)).toInt64) (FP.l2d (0 : Int64)) = 1 :=
  own_f0 (own_m_le (own_31 y).1 (by rw [h]; exact Int.le_refl _) (by decide))
theorem own_d3 (y : Int32) (h : ¬ (y &&& (2147483647 : Int32)).toInt64 = (0 : Int64)) : own_f_rm_am (FP.l2d (y &&& (2147483647 : Int32)).toInt64) (FP.l2d (0 : Int64)) = 0 :=
  own_f1 (own_m_zero rfl (by have := own_31 y; have := own_njeq h; have := own_z0; omega) (by have := own_31 y; omega))
theorem own_one1 {x : Int32} (h : x = 1) : (x &&& 1) = 1 := by rw [h]; decide
theorem own_pn1 : plainName "com/example/even_load/evenload/shedding/FeasibleTableAtMostPinLaw" = true := by first | (simp [plainName, overriddenIn]; done) | decide +kernel
theorem own_ef_rm0 (m : MethodId) (x0 : Int32) (x1 : Int32) (x2 : Int32) : entryFrame m #[(.int x0), (.int x1), (.int x2)] maxLocals = mkF m 0 #[.val (.int x0), .val (.int x1), .val (.int x2), .unset, .unset, .unset, .unset, .unset] [] := by first | (simp [entryFrame, mkF, argsToLocals, Value.category, maxLocals]; done) | rfl
theorem own_pd0 : parseMethodDescriptor "(DD)Z" = some ⟨[.double, .double], some .boolean⟩ := by decide +kernel
set_option maxRecDepth 65536 in
set_option maxHeartbeats 40000000 in
theorem rm0 (l : Launch) (Z : State) (a0 : Array Value) (hw : ∀ d ∈ tables_1, d.before a0 Z = true) (x0 x1 x2 : Int32) (h0 : Heap) (n0 : Nat) (Z0 : n0 ≤ h0.size)  :
    Con l Z x code maxLocals ret room_1 #[(.int x0), (.int x1), (.int x2)] h0 n0 (fun rv hv => rv = some (.int 1)) := by
  refine Con.enter (plainFor_of_name own_pn1) Z0 ?_
  intro p e s m below meth c T0 C hnm X0
  refine Go.cast (own_ef_rm0 m x0 x1 x2) ?_
  refine Go.iloadN C X0 (pc' := 1) at_0 rfl rfl ?_
  refine Go.iconst C X0 (pc' := 2) (v := (3 : Int32)) at_1 rfl rfl ?_
  refine Go.iand C X0 (pc' := 3) at_2 rfl ?_
  refine Go.istoreN C X0 (pc' := 4) (Ls' := #[.val (.int x0), .val (.int x1), .val (.int x2), .val (.int (x2 &&& (3 : Int32))), .unset, .unset, .unset, .unset]) at_3 rfl rfl ?_
  rcases (own_and3 x2) with q5 | q5 | q5 | q5
  · rw [q5]
    refine Go.iloadN C X0 (pc' := 5) at_4 rfl rfl ?_
    refine Go.ifNo C X0 (pc' := 8) at_5 ((if0 _ _).trans (teq (by decide)).2) rfl ?_
    refine Go.iloadN C X0 (pc' := 9) at_8 rfl rfl ?_
    refine Go.ldc C X0 (pc' := 11) (hw _ (List.mem_of_getElem? (i := 13) rfl)) at_9 rfl ?_
    refine Go.iand C X0 (pc' := 12) at_11 rfl ?_
    refine Go.i2l C X0 (pc' := 13) at_12 rfl ?_
    refine Go.lstore C X0 (pc' := 15) (Ls' := #[.val (.int x0), .val (.int x1), .val (.int x2), .val (.int (0 : Int32)), .val (.long ((x0 &&& (536870911 : Int32))).toInt64), .second, .unset, .unset]) at_13 rfl rfl ?_
    refine Go.iloadN C X0 (pc' := 16) at_15 rfl rfl ?_
    refine Go.ldc C X0 (pc' := 18) (hw _ (List.mem_of_getElem? (i := 13) rfl)) at_16 rfl ?_
    refine Go.iand C X0 (pc' := 19) at_18 rfl ?_
    refine Go.i2l C X0 (pc' := 20) at_19 rfl ?_
    refine Go.lstore C X0 (pc' := 22) (Ls' := #[.val (.int x0), .val (.int x1), .val (.int x2), .val (.int (0 : Int32)), .val (.long ((x0 &&& (536870911 : Int32))).toInt64), .second, .val (.long ((x1 &&& (536870911 : Int32))).toInt64), .second]) at_20 rfl rfl ?_
    refine Go.lload C X0 (pc' := 24) at_22 rfl rfl ?_
    refine Go.l2d C X0 (pc' := 25) at_24 rfl ?_
    refine Go.lload C X0 (pc' := 27) at_25 rfl rfl ?_
    refine Go.l2d C X0 (pc' := 28) at_27 rfl ?_
    refine Go.callS C X0 (pc' := 31) (W := 0) (argsL := [(.double (FP.l2d ((x0 &&& (536870911 : Int32))).toInt64)), (.double (FP.l2d ((x1 &&& (536870911 : Int32))).toInt64))]) (rest := []) (rm_am l Z a0 hw (FP.l2d ((x0 &&& (536870911 : Int32))).toInt64) (FP.l2d ((x1 &&& (536870911 : Int32))).toInt64)  h0 n0 X0.sz (own_nl _) (own_nl _) (own_nm (((x0 &&& (536870911 : Int32))).toInt64) (((x1 &&& (536870911 : Int32))).toInt64)).noNaN (own_ns (((x0 &&& (536870911 : Int32))).toInt64) (((x1 &&& (536870911 : Int32))).toInt64))) (hw _ (List.mem_of_getElem? (i := 3) rfl)) (hw _ (List.mem_of_getElem? (i := 4) rfl)) (hw _ (List.mem_of_getElem? (i := 5) rfl)) (hw _ (List.mem_of_getElem? (i := 6) rfl)) (by decide) rfl rfl (lenOf own_pd0 rfl) rfl (Nat.le_of_eq rfl) (by decide) (by decide) (by decide) (by decide) at_28 rfl (fun _ _ q => Nat.le_of_eq (congrArg Array.size q.2)) (fun T6 h6 v6 X6 P6 => ?_)
    obtain ⟨rfl, rfl⟩ := P6
    show Go p e below s n0 _ _ _ T6 (mkF m 31 #[.val (.int x0), .val (.int x1), .val (.int x2), .val (.int (0 : Int32)), .val (.long ((x0 &&& (536870911 : Int32))).toInt64), .second, .val (.long ((x1 &&& (536870911 : Int32))).toInt64), .second] [(.int (own_f_rm_am (FP.l2d ((x0 &&& (536870911 : Int32))).toInt64) (FP.l2d ((x1 &&& (536870911 : Int32))).toInt64)))])
    refine Go.lload C X6 (pc' := 33) at_31 rfl rfl ?_
    refine Go.lload C X6 (pc' := 35) at_33 rfl rfl ?_
    refine Go.lcmp C X6 (pc' := 36) at_35 rfl ?_
    by_cases c7 : ((x1 &&& (536870911 : Int32))).toInt64 < ((x0 &&& (536870911 : Int32))).toInt64
    · refine Go.ifYes C X6 (pc' := 43) at_36 ((if0 _ _).trans (tlt ((lw_gt _ _).mpr c7)).2.2.1) (by decide) (by decide) ?_
      refine Go.iconst C X6 (pc' := 44) (v := (0 : Int32)) at_43 rfl rfl ?_
      refine Go.icmpNo C X6 (pc' := 47) at_44 (teq (own_a1 x0 x1 c7)).2 rfl ?_
      refine Go.iconst C X6 (pc' := 48) (v := (1 : Int32)) at_47 rfl rfl ?_
      refine Go.goto C X6 (pc' := 52) at_48 (by decide) (by decide) ?_
      exact Go.retZ (t := .boolean) C X6 (z' := (1 : Int32)) (by decide) at_52 rfl (by decide) (by decide)
    · refine Go.ifNo C X6 (pc' := 39) at_36 ((if0 _ _).trans (flt (fun q => c7 ((lw_gt _ _).mp q))).2.2.1) rfl ?_
      refine Go.iconst C X6 (pc' := 40) (v := (1 : Int32)) at_39 rfl rfl ?_
      refine Go.goto C X6 (pc' := 44) at_40 (by decide) (by decide) ?_
      refine Go.icmpNo C X6 (pc' := 47) at_44 (teq (own_a0 x0 x1 c7)).2 rfl ?_
      refine Go.iconst C X6 (pc' := 48) (v := (1 : Int32)) at_47 rfl rfl ?_
      refine Go.goto C X6 (pc' := 52) at_48 (by decide) (by decide) ?_
      exact Go.retZ (t := .boolean) C X6 (z' := (1 : Int32)) (by decide) at_52 rfl (by decide) (by decide)
  · rw [q5]
    refine Go.iloadN C X0 (pc' := 5) at_4 rfl rfl ?_
    refine Go.ifYes C X0 (pc' := 53) at_5 ((if0 _ _).trans (feq (by decide)).2) (by decide) (by decide) ?_
    refine Go.iloadN C X0 (pc' := 54) at_53 rfl rfl ?_
    refine Go.iconst C X0 (pc' := 55) (v := (1 : Int32)) at_54 rfl rfl ?_
    refine Go.icmpNo C X0 (pc' := 58) at_55 (teq (by decide)).2 rfl ?_
    refine Go.ldc2 C X0 (pc' := 61) (hw _ (List.mem_of_getElem? (i := 12) rfl)) at_58 rfl ?_
    refine Go.iloadN C X0 (pc' := 62) at_61 rfl rfl ?_
    refine Go.ldc C X0 (pc' := 64) (hw _ (List.mem_of_getElem? (i := 2) rfl)) at_62 rfl ?_
    refine Go.iand C X0 (pc' := 65) at_64 rfl ?_
    refine Go.i2l C X0 (pc' := 66) at_65 rfl ?_
    refine Go.ladd C X0 (pc' := 67) at_66 rfl ?_
    refine Go.lstore C X0 (pc' := 69) (Ls' := #[.val (.int x0), .val (.int x1), .val (.int x2), .val (.int (1 : Int32)), .val (.long ((1073741824 : Int64) + ((x0 &&& (1073741823 : Int32))).toInt64)), .second, .unset, .unset]) at_67 rfl rfl ?_
    refine Go.lload C X0 (pc' := 71) at_69 rfl rfl ?_
    refine Go.iloadN C X0 (pc' := 72) at_71 rfl rfl ?_
    refine Go.iconst C X0 (pc' := 73) (v := (3 : Int32)) at_72 rfl rfl ?_
    refine Go.iand C X0 (pc' := 74) at_73 rfl ?_
    refine Go.iconst C X0 (pc' := 75) (v := (2 : Int32)) at_74 rfl rfl ?_
    refine Go.isub C X0 (pc' := 76) at_75 rfl ?_
    refine Go.i2l C X0 (pc' := 77) at_76 rfl ?_
    refine Go.ladd C X0 (pc' := 78) at_77 rfl ?_
    refine Go.lstore C X0 (pc' := 80) (Ls' := #[.val (.int x0), .val (.int x1), .val (.int x2), .val (.int (1 : Int32)), .val (.long ((1073741824 : Int64) + ((x0 &&& (1073741823 : Int32))).toInt64)), .second, .val (.long (((1073741824 : Int64) + ((x0 &&& (1073741823 : Int32))).toInt64) + (((x1 &&& (3 : Int32)) - (2 : Int32))).toInt64)), .second]) at_78 rfl rfl ?_
    refine Go.lload C X0 (pc' := 82) at_80 rfl rfl ?_
    refine Go.l2d C X0 (pc' := 83) at_82 rfl ?_
    refine Go.lload C X0 (pc' := 85) at_83 rfl rfl ?_
    refine Go.l2d C X0 (pc' := 86) at_85 rfl ?_
    refine Go.callS C X0 (pc' := 89) (W := 0) (argsL := [(.double (FP.l2d (((1073741824 : Int64) + ((x0 &&& (1073741823 : Int32))).toInt64) + (((x1 &&& (3 : Int32)) - (2 : Int32))).toInt64))), (.double (FP.l2d ((1073741824 : Int64) + ((x0 &&& (1073741823 : Int32))).toInt64)))]) (rest := []) (rm_am l Z a0 hw (FP.l2d (((1073741824 : Int64) + ((x0 &&& (1073741823 : Int32))).toInt64) + (((x1 &&& (3 : Int32)) - (2 : Int32))).toInt64)) (FP.l2d ((1073741824 : Int64) + ((x0 &&& (1073741823 : Int32))).toInt64))  h0 n0 X0.sz (own_nl _) (own_nl _) (own_nm ((((1073741824 : Int64) + ((x0 &&& (1073741823 : Int32))).toInt64) + (((x1 &&& (3 : Int32)) - (2 : Int32))).toInt64)) (((1073741824 : Int64) + ((x0 &&& (1073741823 : Int32))).toInt64))).noNaN (own_ns ((((1073741824 : Int64) + ((x0 &&& (1073741823 : Int32))).toInt64) + (((x1 &&& (3 : Int32)) - (2 : Int32))).toInt64)) (((1073741824 : Int64) + ((x0 &&& (1073741823 : Int32))).toInt64)))) (hw _ (List.mem_of_getElem? (i := 3) rfl)) (hw _ (List.mem_of_getElem? (i := 4) rfl)) (hw _ (List.mem_of_getElem? (i := 5) rfl)) (hw _ (List.mem_of_getElem? (i := 6) rfl)) (by decide) rfl rfl (lenOf own_pd0 rfl) rfl (Nat.le_of_eq rfl) (by decide) (by decide) (by decide) (by decide) at_86 rfl (fun _ _ q => Nat.le_of_eq (congrArg Array.size q.2)) (fun T8 h8 v8 X8 P8 => ?_)
    obtain ⟨rfl, rfl⟩ := P8
    show Go p e below s n0 _ _ _ T8 (mkF m 89 #[.val (.int x0), .val (.int x1), .val (.int x2), .val (.int (1 : Int32)), .val (.long ((1073741824 : Int64) + ((x0 &&& (1073741823 : Int32))).toInt64)), .second, .val (.long (((1073741824 : Int64) + ((x0 &&& (1073741823 : Int32))).toInt64) + (((x1 &&& (3 : Int32)) - (2 : Int32))).toInt64)), .second] [(.int (own_f_rm_am (FP.l2d (((1073741824 : Int64) + ((x0 &&& (1073741823 : Int32))).toInt64) + (((x1 &&& (3 : Int32)) - (2 : Int32))).toInt64)) (FP.l2d ((1073741824 : Int64) + ((x0 &&& (1073741823 : Int32))).toInt64))))])
    exact Go.retZ (t := .boolean) C X8 (z' := (1 : Int32)) (congrArg Value.int (own_one1 (own_b1 x0 x1))) at_89 rfl (by decide) (by decide)
  · rw [q5]
    refine Go.iloadN C X0 (pc' := 5) at_4 rfl rfl ?_
    refine Go.ifYes C X0 (pc' := 53) at_5 ((if0 _ _).trans (feq (by decide)).2) (by decide) (by decide) ?_
    refine Go.iloadN C X0 (pc' := 54) at_53 rfl rfl ?_
    refine Go.iconst C X0 (pc' := 55) (v := (1 : Int32)) at_54 rfl rfl ?_
    refine Go.icmpYes C X0 (pc' := 90) at_55 (feq (by decide)).2 (by decide) (by decide) ?_
    refine Go.iloadN C X0 (pc' := 91) at_90 rfl rfl ?_
    refine Go.iconst C X0 (pc' := 92) (v := (2 : Int32)) at_91 rfl rfl ?_
    refine Go.icmpNo C X0 (pc' := 95) at_92 (teq (by decide)).2 rfl ?_
    refine Go.iloadN C X0 (pc' := 96) at_95 rfl rfl ?_
    refine Go.ldc C X0 (pc' := 98) (hw _ (List.mem_of_getElem? (i := 0) rfl)) at_96 rfl ?_
    refine Go.iand C X0 (pc' := 99) at_98 rfl ?_
    refine Go.i2l C X0 (pc' := 100) at_99 rfl ?_
    refine Go.lstore C X0 (pc' := 102) (Ls' := #[.val (.int x0), .val (.int x1), .val (.int x2), .val (.int (2 : Int32)), .val (.long ((x0 &&& (2147483647 : Int32))).toInt64), .second, .unset, .unset]) at_100 rfl rfl ?_
    refine Go.lload C X0 (pc' := 104) at_102 rfl rfl ?_
    refine Go.ldc2 C X0 (pc' := 107) (hw _ (List.mem_of_getElem? (i := 1) rfl)) at_104 rfl ?_
    refine Go.ladd C X0 (pc' := 108) at_107 rfl ?_
    refine Go.iloadN C X0 (pc' := 109) at_108 rfl rfl ?_
    refine Go.ldc C X0 (pc' := 111) (hw _ (List.mem_of_getElem? (i := 2) rfl)) at_109 rfl ?_
    refine Go.iand C X0 (pc' := 112) at_111 rfl ?_
    refine Go.i2l C X0 (pc' := 113) at_112 rfl ?_
    refine Go.ladd C X0 (pc' := 114) at_113 rfl ?_
    refine Go.lstore C X0 (pc' := 116) (Ls' := #[.val (.int x0), .val (.int x1), .val (.int x2), .val (.int (2 : Int32)), .val (.long ((x0 &&& (2147483647 : Int32))).toInt64), .second, .val (.long ((((x0 &&& (2147483647 : Int32))).toInt64 + (3 : Int64)) + ((x1 &&& (1073741823 : Int32))).toInt64)), .second]) at_114 rfl rfl ?_
    refine Go.lload C X0 (pc' := 118) at_116 rfl rfl ?_
    refine Go.l2d C X0 (pc' := 119) at_118 rfl ?_
    refine Go.lload C X0 (pc' := 121) at_119 rfl rfl ?_
    refine Go.l2d C X0 (pc' := 122) at_121 rfl ?_
    refine Go.callS C X0 (pc' := 125) (W := 0) (argsL := [(.double (FP.l2d ((((x0 &&& (2147483647 : Int32))).toInt64 + (3 : Int64)) + ((x1 &&& (1073741823 : Int32))).toInt64))), (.double (FP.l2d ((x0 &&& (2147483647 : Int32))).toInt64))]) (rest := []) (rm_am l Z a0 hw (FP.l2d ((((x0 &&& (2147483647 : Int32))).toInt64 + (3 : Int64)) + ((x1 &&& (1073741823 : Int32))).toInt64)) (FP.l2d ((x0 &&& (2147483647 : Int32))).toInt64)  h0 n0 X0.sz (own_nl _) (own_nl _) (own_nm (((((x0 &&& (2147483647 : Int32))).toInt64 + (3 : Int64)) + ((x1 &&& (1073741823 : Int32))).toInt64)) (((x0 &&& (2147483647 : Int32))).toInt64)).noNaN (own_ns (((((x0 &&& (2147483647 : Int32))).toInt64 + (3 : Int64)) + ((x1 &&& (1073741823 : Int32))).toInt64)) (((x0 &&& (2147483647 : Int32))).toInt64))) (hw _ (List.mem_of_getElem? (i := 3) rfl)) (hw _ (List.mem_of_getElem? (i := 4) rfl)) (hw _ (List.mem_of_getElem? (i := 5) rfl)) (hw _ (List.mem_of_getElem? (i := 6) rfl)) (by decide) rfl rfl (lenOf own_pd0 rfl) rfl (Nat.le_of_eq rfl) (by decide) (by decide) (by decide) (by decide) at_122 rfl (fun _ _ q => Nat.le_of_eq (congrArg Array.size q.2)) (fun T9 h9 v9 X9 P9 => ?_)
    obtain ⟨rfl, rfl⟩ := P9
    show Go p e below s n0 _ _ _ T9 (mkF m 125 #[.val (.int x0), .val (.int x1), .val (.int x2), .val (.int (2 : Int32)), .val (.long ((x0 &&& (2147483647 : Int32))).toInt64), .second, .val (.long ((((x0 &&& (2147483647 : Int32))).toInt64 + (3 : Int64)) + ((x1 &&& (1073741823 : Int32))).toInt64)), .second] [(.int (own_f_rm_am (FP.l2d ((((x0 &&& (2147483647 : Int32))).toInt64 + (3 : Int64)) + ((x1 &&& (1073741823 : Int32))).toInt64)) (FP.l2d ((x0 &&& (2147483647 : Int32))).toInt64)))])
    refine Go.ifNo C X9 (pc' := 128) at_125 ((if0 _ _).trans (teq (own_c1 x0 x1)).2) rfl ?_
    refine Go.iconst C X9 (pc' := 129) (v := (1 : Int32)) at_128 rfl rfl ?_
    refine Go.goto C X9 (pc' := 133) at_129 (by decide) (by decide) ?_
    exact Go.retZ (t := .boolean) C X9 (z' := (1 : Int32)) (by decide) at_133 rfl (by decide) (by decide)
  · rw [q5]
    refine Go.iloadN C X0 (pc' := 5) at_4 rfl rfl ?_
    refine Go.ifYes C X0 (pc' := 53) at_5 ((if0 _ _).trans (feq (by decide)).2) (by decide) (by decide) ?_
    refine Go.iloadN C X0 (pc' := 54) at_53 rfl rfl ?_
    refine Go.iconst C X0 (pc' := 55) (v := (1 : Int32)) at_54 rfl rfl ?_
    refine Go.icmpYes C X0 (pc' := 90) at_55 (feq (by decide)).2 (by decide) (by decide) ?_
    refine Go.iloadN C X0 (pc' := 91) at_90 rfl rfl ?_
    refine Go.iconst C X0 (pc' := 92) (v := (2 : Int32)) at_91 rfl rfl ?_
    refine Go.icmpYes C X0 (pc' := 134) at_92 (feq (by decide)).2 (by decide) (by decide) ?_
    refine Go.iloadN C X0 (pc' := 135) at_134 rfl rfl ?_
    refine Go.ldc C X0 (pc' := 137) (hw _ (List.mem_of_getElem? (i := 0) rfl)) at_135 rfl ?_
    refine Go.iand C X0 (pc' := 138) at_137 rfl ?_
    refine Go.i2l C X0 (pc' := 139) at_138 rfl ?_
    refine Go.lstore C X0 (pc' := 141) (Ls' := #[.val (.int x0), .val (.int x1), .val (.int x2), .val (.int (3 : Int32)), .val (.long ((x1 &&& (2147483647 : Int32))).toInt64), .second, .unset, .unset]) at_139 rfl rfl ?_
    refine Go.dconst0 C X0 (pc' := 142) (v := (FP.l2d (0 : Int64))) own_d0 at_141 rfl ?_
    refine Go.lload C X0 (pc' := 144) at_142 rfl rfl ?_
    refine Go.l2d C X0 (pc' := 145) at_144 rfl ?_
    refine Go.callS C X0 (pc' := 148) (W := 0) (argsL := [(.double (FP.l2d (0 : Int64))), (.double (FP.l2d ((x1 &&& (2147483647 : Int32))).toInt64))]) (rest := []) (rm_am l Z a0 hw (FP.l2d (0 : Int64)) (FP.l2d ((x1 &&& (2147483647 : Int32))).toInt64)  h0 n0 X0.sz (own_nl _) (own_nl _) (own_nm ((0 : Int64)) (((x1 &&& (2147483647 : Int32))).toInt64)).noNaN (own_ns ((0 : Int64)) (((x1 &&& (2147483647 : Int32))).toInt64))) (hw _ (List.mem_of_getElem? (i := 3) rfl)) (hw _ (List.mem_of_getElem? (i := 4) rfl)) (hw _ (List.mem_of_getElem? (i := 5) rfl)) (hw _ (List.mem_of_getElem? (i := 6) rfl)) (by decide) rfl rfl (lenOf own_pd0 rfl) rfl (Nat.le_of_eq rfl) (by decide) (by decide) (by decide) (by decide) at_145 rfl (fun _ _ q => Nat.le_of_eq (congrArg Array.size q.2)) (fun T10 h10 v10 X10 P10 => ?_)
    obtain ⟨rfl, rfl⟩ := P10
    show Go p e below s n0 _ _ _ T10 (mkF m 148 #[.val (.int x0), .val (.int x1), .val (.int x2), .val (.int (3 : Int32)), .val (.long ((x1 &&& (2147483647 : Int32))).toInt64), .second, .unset, .unset] [(.int (own_f_rm_am (FP.l2d (0 : Int64)) (FP.l2d ((x1 &&& (2147483647 : Int32))).toInt64)))])
    refine Go.ifNo C X10 (pc' := 151) at_148 ((if0 _ _).trans (feq (fun q => absurd ((own_d1 x1).symm.trans q) (by decide))).1) rfl ?_
    refine Go.lload C X10 (pc' := 153) at_151 rfl rfl ?_
    refine Go.l2d C X10 (pc' := 154) at_153 rfl ?_
    refine Go.dconst0 C X10 (pc' := 155) (v := (FP.l2d (0 : Int64))) own_d0 at_154 rfl ?_
    refine Go.callS C X10 (pc' := 158) (W := 0) (argsL := [(.double (FP.l2d ((x1 &&& (2147483647 : Int32))).toInt64)), (.double (FP.l2d (0 : Int64)))]) (rest := []) (rm_am l Z a0 hw (FP.l2d ((x1 &&& (2147483647 : Int32))).toInt64) (FP.l2d (0 : Int64))  h0 n0 X10.sz (own_nl _) (own_nl _) (own_nm (((x1 &&& (2147483647 : Int32))).toInt64) ((0 : Int64))).noNaN (own_ns (((x1 &&& (2147483647 : Int32))).toInt64) ((0 : Int64)))) (hw _ (List.mem_of_getElem? (i := 3) rfl)) (hw _ (List.mem_of_getElem? (i := 4) rfl)) (hw _ (List.mem_of_getElem? (i := 5) rfl)) (hw _ (List.mem_of_getElem? (i := 6) rfl)) (by decide) rfl rfl (lenOf own_pd0 rfl) rfl (Nat.le_of_eq rfl) (by decide) (by decide) (by decide) (by decide) at_155 rfl (fun _ _ q => Nat.le_of_eq (congrArg Array.size q.2)) (fun T11 h11 v11 X11 P11 => ?_)
    obtain ⟨rfl, rfl⟩ := P11
    show Go p e below s n0 _ _ _ T11 (mkF m 158 #[.val (.int x0), .val (.int x1), .val (.int x2), .val (.int (3 : Int32)), .val (.long ((x1 &&& (2147483647 : Int32))).toInt64), .second, .unset, .unset] [(.int (own_f_rm_am (FP.l2d ((x1 &&& (2147483647 : Int32))).toInt64) (FP.l2d (0 : Int64))))])
    refine Go.lload C X11 (pc' := 160) at_158 rfl rfl ?_
    refine Go.lconst C X11 (pc' := 161) (v := (0 : Int64)) at_160 rfl rfl ?_
    refine Go.lcmp C X11 (pc' := 162) at_161 rfl ?_
    by_cases c12 : ((x1 &&& (2147483647 : Int32))).toInt64 = (0 : Int64)
    · refine Go.ifNo C X11 (pc' := 165) at_162 ((if0 _ _).trans (teq ((lw_eq _ _).mpr c12)).2) rfl ?_
      refine Go.iconst C X11 (pc' := 166) (v := (1 : Int32)) at_165 rfl rfl ?_
      refine Go.goto C X11 (pc' := 170) at_166 (by decide) (by decide) ?_
      refine Go.icmpNo C X11 (pc' := 173) at_170 (teq (own_d2 x1 c12)).2 rfl ?_
      refine Go.iconst C X11 (pc' := 174) (v := (1 : Int32)) at_173 rfl rfl ?_
      refine Go.goto C X11 (pc' := 178) at_174 (by decide) (by decide) ?_
      exact Go.retZ (t := .boolean) C X11 (z' := (1 : Int32)) (by decide) at_178 rfl (by decide) (by decide)
    · refine Go.ifYes C X11 (pc' := 169) at_162 ((if0 _ _).trans (feq (fun q => c12 ((lw_eq _ _).mp q))).2) (by decide) (by decide) ?_
      refine Go.iconst C X11 (pc' := 170) (v := (0 : Int32)) at_169 rfl rfl ?_
      refine Go.icmpNo C X11 (pc' := 173) at_170 (teq (own_d3 x1 c12)).2 rfl ?_
      refine Go.iconst C X11 (pc' := 174) (v := (1 : Int32)) at_173 rfl rfl ?_
      refine Go.goto C X11 (pc' := 178) at_174 (by decide) (by decide) ?_
      exact Go.retZ (t := .boolean) C X11 (z' := (1 : Int32)) (by decide) at_178 rfl (by decide) (by decide)
set_option maxRecDepth 65536 in
set_option maxHeartbeats 40000000 in
theorem comes_1 {Post : Tables → Env → Array Value → State → Outcome → State → Prop} (hpost : ∀ tb e args s v u, (limb_1_1.after args s (.returned v) u = true ∧ limb_1_2.after args s (.returned v) u = true ∧ True) → FrameEnd s (.returned v) u (Jvm.fieldLocs frame_1_writes args s ++ Jvm.arrayLocs frame_1_arrays args s ++ Jvm.staticLocs frame_1_statics s) 0 0 → Post tb e args s (.returned v) u) :
    ArmFor flags0 classFile x code maxLocals ret World_1 tables_1 room_1 Calls_1 rest_1 Pre_1 Post := by
  intro l hfl _ _ p e ha hc hk s m args below hf hA hF happ hP
  obtain ⟨hcalls, hrest, hpre⟩ := hP
  obtain ⟨-, -, -, hnamed, -, -, -, hat⟩ := (Spec.applies_iff hf).mp happ
  obtain ⟨hg, hn⟩ := and_e (Cond.before_iff.mp (show (Jvm.Cond.and given_1 narrow_1).before args s = true from hpre))
  obtain ⟨hcount, hg0⟩ := and_e hg
  obtain ⟨w0, w1, w2, rfl⟩ : ∃ w0 w1 w2 : Value, args = #[w0, w1, w2] := by
    have hs : args.size = 3 := by simpa [Cond.value, given_1] using hcount
    obtain ⟨L⟩ := args
    match L, hs with
    | [w0, w1, w2], _ => exact ⟨w0, w1, w2, rfl⟩
  have hw := fun d (hd : d ∈ tables_1) => atoms_spec (ws := Jvm.Cond.code x code maxLocals ret :: tables_1) hat d (List.mem_cons_of_mem _ hd)
  have hfit : Fit s := fun {y c} hc i hi => by
    obtain ⟨ha, rfl⟩ := Array.getElem?_eq_some_iff.mp hc
    have q := List.all_eq_true.mp ((Array.all_eq_true_iff_forall_mem.mp hF) _ (Array.getElem_mem ha)) i (List.mem_range.mpr hi)
    simpa [Array.getElem?_eq_getElem hi] using q
  obtain ⟨ha0, hg1⟩ := and_e hg0
  obtain ⟨i0, e0⟩ := is_v ha0
  obtain rfl : w0 = (.int i0) := Option.some.inj e0
  obtain ⟨ha1, hg2⟩ := and_e hg1
  obtain ⟨i1, e1⟩ := is_v ha1
  obtain rfl : w1 = (.int i1) := Option.some.inj e1
  obtain ⟨i2, e2⟩ := is_v hg2
  obtain rfl : w2 = (.int i2) := Option.some.inj e2
  obtain ⟨n, o, h1, h2, h3, _, L, rfl, ⟨rfl, N⟩, hq⟩ := rm0 l s _ hw i0 i1 i2 s.heap s.heap.size (Nat.le_refl _)  tables_1 p e ha hc hk s m _ below hf ((Spec.applies_iff_loose hf).mp happ).1 ⟨rfl, State.Warmed39.refl s, rfl⟩ trivial
  refine ⟨n, _, h1, h2, h3, hpost _ _ _ _ _ _ ⟨Cond.after_iff.mpr rfl, Cond.after_iff.mpr (eq_i res_at (Term.int_eval (1)) rfl), trivial⟩ ⟨hq.1, hq.2.1, (hq.2.2.sift fun y hy => Or.inr (N y hy)).mono (by decide) (by decide)⟩⟩
theorem main_1_1 : Claimed_1_1 := comes_1 fun _ _ _ _ _ _ h hF => ⟨h.1, hF⟩
theorem main_1_2 : Claimed_1_2 := comes_1 fun _ _ _ _ _ _ h hF => ⟨h.2.1, hF⟩
end Jvm.Pilot.@@N@@
namespace Jvm.Pilot.@@N@@
open Jvm Jvm.ClassFile Sem Op Lib Jvm.Free Jvm.Stand Jvm.Pilot.@@N@@.Jvm.D
/-! MADE BY PROGRAM (witnessworld.py) out of the Statement's table words and the real class files: 10 classes; the members and pool entries that the words name. The judged class is class 1, her method 1. -/
namespace start1
open Jvm.ClassFile
def u (s : String) : CpInfo := .utf8 (stringToUtf16 s)
/-- a pool by its gaps: so many unusable entries, then the entry; so many at the end -/
def gap : Nat → List CpInfo → List CpInfo
  | 0, r => r
  | n + 1, r => .unusable :: gap n r
def poolList (es : List (Nat × CpInfo)) (last : Nat) : List CpInfo := es.foldr (fun e r => gap e.1 (e.2 :: r)) (gap last [])
def pool (es : List (Nat × CpInfo)) (last : Nat) : Array CpInfo := ⟨poolList es last⟩
def fileOf (pool : Array CpInfo) (this : Nat) (attrs : Array Attribute := #[]) (ms : Array MethodInfo := #[]) (fl : Nat := 33) (sup : Nat := 0) (ifs : Array Nat := #[]) (fds : Array FieldInfo := #[]) : ClassFile where
  minorVersion := 0
  majorVersion := 65
  constantPool := pool
  accessFlags := fl
  thisClass := this
  superClass := sup
  interfaces := ifs
  fields := fds
  methods := ms
  attributes := attrs
def plain (name : String) (sup : Option ClassId) : Class where
  name := name
  kind := .ordinary
  loader := none
  accessFlags := 33
  super := sup
  interfaces := #[]
  cf := none
  fields := #[]
  methods := #[]
  instanceTypes := #[]
  staticTypes := #[]
  resolved := #[]
  callSites := []
  init := .initialized
  statics := none
  mirror := none

def pool0 : Array CpInfo := pool [(5, u "<init>"), (0, u "()V"), (1, .class_ 10), (1, u "java/lang/Object")] 113

def k0m0 : Method := { name := "<init>", desc := "()V", sig := { parameters := [], returnType := none }, accessFlags := 1, code := none }
/-- java/lang/Object -/
def k0 : Class := { plain "java/lang/Object" none with
  accessFlags := 33
  interfaces := #[]
  cf := some (fileOf pool0 8 #[] #[{ accessFlags := 1, nameIndex := 5, descriptorIndex := 6, attributes := #[] }] 33 0 #[] #[])
  fields := #[]
  methods := #[k0m0]
  instanceTypes := #[]
  staticTypes := #[]
  resolved := Array.replicate 124 none
  statics := none }

def pool1 : Array CpInfo := pool [(2, .class_ 4), (1, u "java/lang/Object"), (0, u "<init>"), (0, u "()V"), (0, .integer 536870911), (0, .methodref 9 10), (0, .class_ 11), (0, .nameAndType 12 13), (0, u "com/example/even_load/evenload/shedding/FeasibleTable"), (0, u "atMost"), (0, u "(DD)Z"), (0, .long 1073741824), (1, .integer 1073741823), (0, .integer 2147483647), (0, .long 3), (1, .class_ 21), (0, u "com/example/even_load/evenload/shedding/FeasibleTableAtMostPinLaw"), (2, u "law"), (0, u "(III)Z")] 3

def k1m0 : Method := { name := "<init>", desc := "()V", sig := { parameters := [], returnType := none }, accessFlags := 1, code := none }
def k1c1 : Code := { maxStack := 5, maxLocals := 8, code := code, exceptionTable := #[], attributes := #[] }
def k1m1 : Method := { name := "law", desc := "(III)Z", sig := { parameters := [.int, .int, .int], returnType := some .boolean }, accessFlags := 9, code := some k1c1 }
/-- com/example/even_load/evenload/shedding/FeasibleTableAtMostPinLaw -/
def k1 : Class := { plain "com/example/even_load/evenload/shedding/FeasibleTableAtMostPinLaw" (some 0) with
  accessFlags := 49
  interfaces := #[]
  cf := some (fileOf pool1 20 #[] #[{ accessFlags := 1, nameIndex := 5, descriptorIndex := 6, attributes := #[] }, { accessFlags := 9, nameIndex := 24, descriptorIndex := 25, attributes := #[] }] 49 2 #[] #[])
  fields := #[]
  methods := #[k1m0, k1m1]
  instanceTypes := #[]
  staticTypes := #[]
  resolved := Array.replicate 29 none
  statics := none }

def pool2 : Array CpInfo := pool [(2, .class_ 4), (1, u "java/lang/Object"), (6, .class_ 13), (1, u "com/example/even_load/evenload/shedding/FeasibleTable"), (0, u "planOrder"), (0, u "Ljava/util/List;"), (2, u "rows"), (2, u "node"), (0, u "Lcom/example/even_load/evenload/shedding/Node;"), (2, u "localPlans"), (0, u "Z"), (4, u "capacity"), (9, u "D"), (12, u "spreads"), (0, u "[D"), (2, u "selectivities"), (2, u "wholeCosts"), (2, u "keptCosts"), (2, u "branchCosts"), (2, u "branchSelectivities"), (2, u "noDrops"), (75, u "atMost"), (0, u "(DD)Z"), (44, .class_ 197), (1, u "java/lang/Math"), (1, u "(DD)D"), (44, .methodref 195 245), (0, .nameAndType 246 199), (0, u "max"), (6, .double 4472406533629990549), (1, u "MAX_ROWS"), (0, u "I"), (1, u "TOLERANCE")] 37

def k2c0 : Code := { maxStack := 10, maxLocals := 4, code := prog_60_method_15_code, exceptionTable := #[], attributes := #[] }
def k2m0 : Method := { name := "atMost", desc := "(DD)Z", sig := { parameters := [.double, .double], returnType := some .boolean }, accessFlags := 8, code := some k2c0 }
/-- com/example/even_load/evenload/shedding/FeasibleTable -/
def k2 : Class := { plain "com/example/even_load/evenload/shedding/FeasibleTable" (some 0) with
  accessFlags := 49
  interfaces := #[]
  cf := some (fileOf pool2 11 #[] #[{ accessFlags := 8, nameIndex := 149, descriptorIndex := 150, attributes := #[] }] 49 2 #[] #[{ accessFlags := 25, nameIndex := 255, descriptorIndex := 256, attributes := #[] }, { accessFlags := 24, nameIndex := 258, descriptorIndex := 41, attributes := #[] }, { accessFlags := 18, nameIndex := 21, descriptorIndex := 22, attributes := #[] }, { accessFlags := 18, nameIndex := 25, descriptorIndex := 26, attributes := #[] }, { accessFlags := 18, nameIndex := 31, descriptorIndex := 41, attributes := #[] }, { accessFlags := 18, nameIndex := 54, descriptorIndex := 55, attributes := #[] }, { accessFlags := 18, nameIndex := 58, descriptorIndex := 55, attributes := #[] }, { accessFlags := 18, nameIndex := 61, descriptorIndex := 55, attributes := #[] }, { accessFlags := 18, nameIndex := 64, descriptorIndex := 55, attributes := #[] }, { accessFlags := 18, nameIndex := 67, descriptorIndex := 55, attributes := #[] }, { accessFlags := 18, nameIndex := 70, descriptorIndex := 55, attributes := #[] }, { accessFlags := 18, nameIndex := 14, descriptorIndex := 15, attributes := #[] }, { accessFlags := 18, nameIndex := 73, descriptorIndex := 55, attributes := #[] }, { accessFlags := 18, nameIndex := 18, descriptorIndex := 15, attributes := #[] }])
  fields := #[{ name := "MAX_ROWS", type := .int, accessFlags := 25, slot := 0, constantValue := 0 }, { name := "TOLERANCE", type := .double, accessFlags := 24, slot := 1, constantValue := 0 }, { name := "node", type := (.object "com/example/even_load/evenload/shedding/Node"), accessFlags := 18, slot := 0, constantValue := 0 }, { name := "localPlans", type := .boolean, accessFlags := 18, slot := 1, constantValue := 0 }, { name := "capacity", type := .double, accessFlags := 18, slot := 2, constantValue := 0 }, { name := "spreads", type := (.array .double), accessFlags := 18, slot := 3, constantValue := 0 }, { name := "selectivities", type := (.array .double), accessFlags := 18, slot := 4, constantValue := 0 }, { name := "wholeCosts", type := (.array .double), accessFlags := 18, slot := 5, constantValue := 0 }, { name := "keptCosts", type := (.array .double), accessFlags := 18, slot := 6, constantValue := 0 }, { name := "branchCosts", type := (.array .double), accessFlags := 18, slot := 7, constantValue := 0 }, { name := "branchSelectivities", type := (.array .double), accessFlags := 18, slot := 8, constantValue := 0 }, { name := "planOrder", type := (.object "java/util/List"), accessFlags := 18, slot := 9, constantValue := 0 }, { name := "noDrops", type := (.array .double), accessFlags := 18, slot := 10, constantValue := 0 }, { name := "rows", type := (.object "java/util/List"), accessFlags := 18, slot := 11, constantValue := 0 }]
  methods := #[k2m0]
  instanceTypes := #[(.object "com/example/even_load/evenload/shedding/Node"), .boolean, .double, (.array .double), (.array .double), (.array .double), (.array .double), (.array .double), (.array .double), (.object "java/util/List"), (.array .double), (.object "java/util/List")]
  staticTypes := #[.int, .double]
  resolved := Array.replicate 296 none
  statics := none }

def pool3 : Array CpInfo := pool [(1, .class_ 2), (0, u "java/lang/Math"), (1, .class_ 6), (1, u "java/lang/Object"), (0, u "<init>"), (0, u "()V"), (43, u "(DD)D"), (45, .class_ 100), (1, u "java/lang/Math$RandomNumberGeneratorHolder"), (71, u "negativeZeroFloatBits"), (0, u "J"), (2, u "negativeZeroDoubleBits"), (21, u "max"), (46, u "$assertionsDisabled"), (0, u "Z"), (91, u "twoToTheDoubleScaleDown"), (0, u "D"), (4, u "twoToTheDoubleScaleUp"), (9, u "E"), (3, u "PI"), (2, u "TAU"), (2, u "DEGREES_TO_RADIANS"), (0, u "RADIANS_TO_DEGREES")] 94

def k3m0 : Method := { name := "<init>", desc := "()V", sig := { parameters := [], returnType := none }, accessFlags := 2, code := none }
def k3c1 : Code := { maxStack := 4, maxLocals := 4, code := jdk_29_method_68_code, exceptionTable := #[], attributes := #[] }
def k3m1 : Method := { name := "max", desc := "(DD)D", sig := { parameters := [.double, .double], returnType := some .double }, accessFlags := 9, code := some k3c1 }
/-- java/lang/Math -/
def k3 : Class := { plain "java/lang/Math" (some 0) with
  accessFlags := 49
  interfaces := #[]
  cf := some (fileOf pool3 1 #[.nestMembers #[98]] #[{ accessFlags := 2, nameIndex := 7, descriptorIndex := 8, attributes := #[] }, { accessFlags := 9, nameIndex := 198, descriptorIndex := 52, attributes := #[] }] 49 4 #[] #[{ accessFlags := 25, nameIndex := 354, descriptorIndex := 339, attributes := #[] }, { accessFlags := 25, nameIndex := 358, descriptorIndex := 339, attributes := #[] }, { accessFlags := 25, nameIndex := 361, descriptorIndex := 339, attributes := #[] }, { accessFlags := 26, nameIndex := 364, descriptorIndex := 339, attributes := #[] }, { accessFlags := 26, nameIndex := 365, descriptorIndex := 339, attributes := #[] }, { accessFlags := 26, nameIndex := 172, descriptorIndex := 173, attributes := #[] }, { accessFlags := 26, nameIndex := 176, descriptorIndex := 173, attributes := #[] }, { accessFlags := 8, nameIndex := 344, descriptorIndex := 339, attributes := #[] }, { accessFlags := 8, nameIndex := 338, descriptorIndex := 339, attributes := #[] }, { accessFlags := 4120, nameIndex := 245, descriptorIndex := 246, attributes := #[] }])
  fields := #[{ name := "E", type := .double, accessFlags := 25, slot := 0, constantValue := 0 }, { name := "PI", type := .double, accessFlags := 25, slot := 1, constantValue := 0 }, { name := "TAU", type := .double, accessFlags := 25, slot := 2, constantValue := 0 }, { name := "DEGREES_TO_RADIANS", type := .double, accessFlags := 26, slot := 3, constantValue := 0 }, { name := "RADIANS_TO_DEGREES", type := .double, accessFlags := 26, slot := 4, constantValue := 0 }, { name := "negativeZeroFloatBits", type := .long, accessFlags := 26, slot := 5, constantValue := 0 }, { name := "negativeZeroDoubleBits", type := .long, accessFlags := 26, slot := 6, constantValue := 0 }, { name := "twoToTheDoubleScaleUp", type := .double, accessFlags := 8, slot := 7, constantValue := 0 }, { name := "twoToTheDoubleScaleDown", type := .double, accessFlags := 8, slot := 8, constantValue := 0 }, { name := "$assertionsDisabled", type := .boolean, accessFlags := 4120, slot := 9, constantValue := 0 }]
  methods := #[k3m0, k3m1]
  instanceTypes := #[]
  staticTypes := #[.double, .double, .double, .double, .double, .long, .long, .double, .double, .boolean]
  resolved := Array.replicate 460 none
  statics := none }

def pool4 : Array CpInfo := pool [(1, u "java/lang/Cloneable"), (0, .class_ 1), (0, u "java/lang/Object"), (0, .class_ 3)] 3

/-- java/lang/Cloneable -/
def k4 : Class := { plain "java/lang/Cloneable" (some 0) with
  accessFlags := 1537
  interfaces := #[]
  cf := some (fileOf pool4 2 #[] #[] 1537 4 #[] #[])
  fields := #[]
  methods := #[]
  instanceTypes := #[]
  staticTypes := #[]
  resolved := Array.replicate 8 none
  statics := none }

def pool5 : Array CpInfo := pool [(1, u "java/io/Serializable"), (0, .class_ 1), (0, u "java/lang/Object"), (0, .class_ 3)] 3

/-- java/io/Serializable -/
def k5 : Class := { plain "java/io/Serializable" (some 0) with
  accessFlags := 1537
  interfaces := #[]
  cf := some (fileOf pool5 2 #[] #[] 1537 4 #[] #[])
  fields := #[]
  methods := #[]
  instanceTypes := #[]
  staticTypes := #[]
  resolved := Array.replicate 8 none
  statics := none }

/-- the primitive byte -/
def k6 : Class := { plain "byte" none with kind := .primitive 'B', accessFlags := 0x411 }
/-- [B -/
def k7 : Class := { plain "[B" (some 0) with kind := .array 6 .byte, interfaces := #[4, 5], accessFlags := 1041 }

/-- the primitive int -/
def k8 : Class := { plain "int" none with kind := .primitive 'I', accessFlags := 0x411 }
/-- [I -/
def k9 : Class := { plain "[I" (some 0) with kind := .array 8 .int, interfaces := #[4, 5], accessFlags := 1041 }

def heap : Heap := #[]
def classes : Array Class := #[k0, k1, k2, k3, k4, k5, k6, k7, k8, k9]
def interned : List (Array UInt16 × Addr) := []
def slotsUsed : Nat := 0
def theMethod : MethodId := ⟨1, 1⟩
def args0 : Array Value := #[.int 7, .int 9, .int 0]
def aboutOver (below : List Frame) : State where
  vm := { classes := classes, interned := interned.toArray }
  heap := heap
  slotsUsed := slotsUsed
  threads := #[{ frames := .invoking theMethod args0 :: below }]
def below0 : List Frame := [.native { method := ⟨0, 0⟩, args := #[] }]
def about1 : State := aboutOver below0
def p0 : Program := .bare "" "" ""
def e0 : Env := launch0.env 0 0 0
theorem w_frames : about1.frames = Frame.invoking theMethod args0 :: below0 := rfl
set_option maxRecDepth 65536 in
theorem w_args : argsFit about1.vm theMethod args0 = true := by decide +kernel
set_option maxRecDepth 65536 in
theorem w_heap : heapFits about1 = true := by decide +kernel
set_option maxRecDepth 65536 in
theorem w_runnable : about1.curStatus? = some .runnable := by decide +kernel
set_option maxRecDepth 65536 in
theorem w_alone : about1.alone = true := by decide +kernel
set_option maxRecDepth 65536 in
theorem w_named : about1.methodNamed? x = some theMethod := by decide +kernel
set_option maxRecDepth 65536 in
theorem w_hears : about1.hears theMethod below0 = true := by decide +kernel
set_option maxRecDepth 65536 in
theorem w_ripe : about1.ripe theMethod args0 below0 = true := by decide +kernel
theorem w_running : about1.status = .running := rfl
set_option maxRecDepth 65536 in
theorem w_room : about1.hasRoom e0.platform room_1 = true :=
  launch0.hasRoom_least _ room_1 (by decide +kernel) (by decide +kernel) (by decide +kernel) (by decide +kernel) (by decide +kernel) (by decide +kernel)
theorem allAtoms_all (ts : List Jvm.Cond) (a : Array Jvm.Value) (st : Jvm.State) : (allAtoms ts).before a st = ts.all (fun c => c.before a st) := by
  induction ts with
  | nil => rfl
  | cons c t ih =>
    show (Jvm.Cond.and c (allAtoms t)).before a st = _
    rw [Jvm.Cond.before_and, ih, List.all_cons]
def words1 : List Jvm.Cond := Jvm.Cond.code x code maxLocals ret :: tables_1
/-- a 'code' word, met by the world's own term for the bytes: nothing is compared byte by byte -/
theorem code_word {y : MethodName} {bytes : ByteArray} {mx : Nat} {rt : Option FieldType} {a : Array Value} {s : State} {m : MethodId} {meth : Method} {c : Code} (h1 : s.methodNamed? y = some m) (h2 : s.vm.method? m = some meth) (h3 : meth.code = some c) (h4 : c.code = bytes)
    (h5 : (c.maxLocals == mx && c.exceptionTable.isEmpty && decide (c.maxStack ≤ mostOperands) && decide (meth.sig.returnType = rt) && !meth.locks && decide (parseMethodDescriptor y.desc = some meth.sig)) = true) : (Jvm.Cond.code y bytes mx rt).before a s = true := by
  simp only [Bool.and_eq_true, beq_iff_eq, Bool.not_eq_true', decide_eq_true_eq] at h5
  obtain ⟨⟨⟨⟨⟨g1, g2⟩, g3⟩, g4⟩, g5⟩, g6⟩ := h5
  simp [Cond.before, Cond.holds, Cond.value, h1, h2, h3, h4, g1, g2, g3, g4, g5, g6]
def isCode : Jvm.Cond → Bool
  | .code _ _ _ _ => true
  | _ => false
theorem all_split {L : List Jvm.Cond} {P : Jvm.Cond → Bool} (h1 : L.all (fun c => isCode c || P c) = true) (h2 : ∀ c ∈ L.filter isCode, P c = true) : L.all P = true := by
  refine List.all_eq_true.mpr fun c hc => ?_
  have h := List.all_eq_true.mp h1 c hc
  rcases Bool.eq_false_or_eq_true (isCode c) with hi | hi
  · exact h2 c (List.mem_filter.mpr ⟨hc, hi⟩)
  · simpa [hi] using h
set_option maxRecDepth 65536 in
theorem w_c0 : (Jvm.Cond.code x code maxLocals ret).before args0 about1 = true := code_word (m := ⟨1, 1⟩) (meth := k1m1) (c := k1c1) (by decide +kernel) rfl rfl rfl (by decide +kernel)
set_option maxRecDepth 65536 in
theorem w_c1 : (Jvm.Cond.code ({ cls := "com/example/even_load/evenload/shedding/FeasibleTable", name := "atMost", desc := "(DD)Z" } : Jvm.MethodName) prog_60_method_15_code (4 : Nat) (Option.some Jvm.ClassFile.FieldType.boolean)).before args0 about1 = true := code_word (m := ⟨2, 0⟩) (meth := k2m0) (c := k2c0) (by decide +kernel) rfl rfl rfl (by decide +kernel)
set_option maxRecDepth 65536 in
theorem w_c2 : (Jvm.Cond.code ({ cls := "java/lang/Math", name := "max", desc := "(DD)D" } : Jvm.MethodName) jdk_29_method_68_code (4 : Nat) (Option.some Jvm.ClassFile.FieldType.double)).before args0 about1 = true := code_word (m := ⟨3, 1⟩) (meth := k3m1) (c := k3c1) (by decide +kernel) rfl rfl rfl (by decide +kernel)
def codes1 : List Jvm.Cond := [Jvm.Cond.code x code maxLocals ret, Jvm.Cond.code ({ cls := "com/example/even_load/evenload/shedding/FeasibleTable", name := "atMost", desc := "(DD)Z" } : Jvm.MethodName) prog_60_method_15_code (4 : Nat) (Option.some Jvm.ClassFile.FieldType.boolean), Jvm.Cond.code ({ cls := "java/lang/Math", name := "max", desc := "(DD)D" } : Jvm.MethodName) jdk_29_method_68_code (4 : Nat) (Option.some Jvm.ClassFile.FieldType.double)]
set_option maxRecDepth 65536 in
theorem codes_eq : words1.filter isCode = codes1 := rfl
theorem w_codes : ∀ c ∈ words1.filter isCode, c.before args0 about1 = true := by
  rw [codes_eq]
  intro c hc
  simp only [codes1, List.mem_cons, List.not_mem_nil, or_false] at hc
  rcases hc with rfl | rfl | rfl
  · exact w_c0
  · exact w_c1
  · exact w_c2
set_option maxRecDepth 65536 in
theorem w_t1 : words1.all (fun c => isCode c || c.before args0 about1) = true := by decide +kernel
theorem w_tables : (allAtoms (Jvm.Cond.code x code maxLocals ret :: tables_1)).before args0 about1 = true := by
  rw [allAtoms_all]
  show words1.all (fun c => c.before args0 about1) = true
  refine all_split ?_ w_codes
  rw [w_t1]
set_option maxRecDepth 65536 in
theorem w_case : (Jvm.Cond.and given_1 narrow_1).before args0 about1 = true := by decide +kernel
theorem w_applies : (headSpec (Jvm.Cond.code x code maxLocals ret :: tables_1) room_1).applies x e0.platform about1 = true :=
  (Spec.applies_iff w_frames).mpr ⟨w_running, w_runnable, w_alone, w_named, w_hears, w_ripe, w_room, w_tables⟩
theorem atStart : AtStart classFile x code maxLocals ret World_1 tables_1 room_1 Calls_1 rest_1 Pre_1 launch0 p0 e0 about1 theMethod args0 below0 :=
  ⟨lists_1, trivial, launch0.admits_env _ _ _, launch0.least_env, fairChoices_fair.cas, fairChoices_fair.clock, w_frames, w_args, w_heap, w_applies, trivial, trivial, w_case⟩
end start1
theorem witness_1 : WitnessClaimed_1 := ⟨start1.p0, start1.e0, start1.about1, start1.theMethod, start1.args0, start1.below0, start1.atStart⟩
end Jvm.Pilot.@@N@@
