import JvmDerived
import JvmDerived.Pilot.@@N@@Statement
import JvmDerived.Pilot.@@N@@Code
set_option linter.unusedVariables false
set_option linter.unusedSimpArgs false
namespace Jvm.RoadKit
open Sem ClassFile Op Lib Jvm.Stand Jvm.Free Jvm.LawKit
section Own
variable {p : Program} {l : Launch} {e : Env} {R : Room} {s : State} {m : MethodId} {args : Array Value} {below : List Frame} {meth : Method} {c : Code} {T : State} {Z : State} {a0 : Array Value} {h : Heap} {cells slots n0 rc rs : Nat} {bytes : ByteArray} {own : String} {ret : Option FieldType} {maxL : Nat} {P : Option Value → Heap → Prop} {Ls : Array Slot} {pc pc' : Nat} {st : List Value}
def Cx (p : Program) (s : State) (m : MethodId) (meth : Method) (c : Code) (Z : State) (bytes : ByteArray) (own : String) (ret : Option FieldType) (maxL : Nat) : Prop :=
  p.tables.exec = Jvm.exec ∧ Z.Warmed39 s.vm ∧ c.code = bytes ∧ s.vm.findClass own = some m.cls ∧ c.maxLocals = maxL ∧ meth.locks = false ∧ meth.sig.returnType = ret
def On (p : Program) (l : Launch) (e : Env) (R : Room) (s : State) (m : MethodId) (args : Array Value) (below : List Frame) (meth : Method) (c : Code) (n0 : Nat) (T : State) (h : Heap) (cells slots : Nat) : Prop :=
  ∃ locs, Stand p l e R s m args below meth c T locs cells slots ∧ T.heap = h ∧ Fr n0 locs ∧ n0 ≤ h.size
def Go (p : Program) (e : Env) (below : List Frame) (s : State) (n0 rc rs : Nat) (P : Option Value → Heap → Prop) (T : State) (g : JFrame) : Prop :=
  ∃ s₂ o, Steps p.tables e below (T.setTop g) s₂ ∧ s₂.status = .running ∧ Ended s₂ below o ∧ ∃ v L, o = .returned v ∧ (P v s₂.heap ∧ Fr n0 L) ∧ FrameEnd s o s₂ L rc rs
def Con (l : Launch) (Z : State) (y : MethodName) (bytes : ByteArray) (maxL : Nat) (ret : Option FieldType) (rm : Room) (as' : Array Value) (h0 : Heap) (n0 : Nat) (P : Option Value → Heap → Prop) : Prop :=
  ∀ ws, MetFree l y (head1 (Cond.code y bytes maxL ret :: ws) rm) (fun a U => a = as' ∧ Z.Warmed39 U.vm ∧ U.heap = h0) (fun _ _ _ _ _ => True) (fun _ U o U' => ∃ v L, o = .returned v ∧ (P v U'.heap ∧ Fr n0 L) ∧ FrameEnd U o U' L rm.cells rm.slots)
theorem Go.of {T' : State} {g g' : JFrame} (st : ∀ t, Steps p.tables e below (T'.setTop g') t → Steps p.tables e below (T.setTop g) t) (k : Go p e below s n0 rc rs P T' g') : Go p e below s n0 rc rs P T g := by
  obtain ⟨s₂, o, h1, h2⟩ := k
  exact ⟨s₂, o, st _ h1, h2⟩
theorem Go.tr {T' : State} {g g' : JFrame} (st : Steps p.tables e below (T.setTop g) (T'.setTop g')) (k : Go p e below s n0 rc rs P T' g') : Go p e below s n0 rc rs P T g :=
  Go.of (fun _ q => st.trans q) k
theorem Go.imp {P' : Option Value → Heap → Prop} {g : JFrame} (k : Go p e below s n0 rc rs P' T g) (hi : ∀ v h, P' v h → P v h) : Go p e below s n0 rc rs P T g := by
  obtain ⟨s₂, o, h1, h2, h3, v, L, h4, ⟨h5, h6⟩, h7⟩ := k
  exact ⟨s₂, o, h1, h2, h3, v, L, h4, ⟨hi _ _ h5, h6⟩, h7⟩
theorem Con.enter {y : MethodName} {rm : Room} {as' : Array Value} {h0 : Heap} (hpl : plainFor y = true) (hz : n0 ≤ h0.size)
    (body : ∀ p e s m below meth c T, Cx p s m meth c Z bytes y.cls ret maxL → meth.name = y.name → On p l e rm s m as' below meth c n0 T h0 0 0 → Go p e below s n0 rm.cells rm.slots P T (entryFrame m as' maxL)) :
    Con l Z y bytes maxL ret rm as' h0 n0 P := by
  intro ws
  refine MetFree.of_bodySF hpl hisR ?_
  intro p e s m args below meth c s₁ Bd hml0 hP hK
  obtain ⟨rfl, hZ, hh⟩ := hP
  have X0 := Stand.of_body Bd
  have e0 : s₁.heap = h0 := by rw [← hh, Bd.state]; rfl
  exact body p e s m below meth c s₁ ⟨Bd.exec, hZ, Bd.bytes, findClass_of_methodNamed Bd.named, hml0, BodyLoose.notSynchronized Bd, Bd.returns⟩ (name_of_methodNamed Bd.named Bd.method).1 ⟨[], X0, e0, Fr.nil n0, hz⟩
theorem On.sz (X : On p l e R s m args below meth c n0 T h cells slots) : n0 ≤ h.size := X.elim fun _ q => q.2.2.2
theorem Go.cast {g g' : JFrame} (q : g = g') (k : Go p e below s n0 rc rs P T g') : Go p e below s n0 rc rs P T g := q ▸ k
theorem Con.back {y : MethodName} {rm : Room} {as' : Array Value} {W : Nat} {P' : Option Value → Heap → Prop} {cb : ByteArray} {cm : Nat} {cr : Option FieldType} (K : Con l Z y cb cm cr rm as' h n0 P') (hZ : Z.Warmed39 s.vm) (wc : (Cond.code y cb cm cr).before a0 Z = true) (wz : (Cond.initialized y.cls).before a0 Z = true) (hf : rm.frames + 1 ≤ R.frames) (hl : W + (cm + 11) + rm.locals ≤ R.locals) :
    Back l R p e below s args y 3 W (fun A a => a = as' ∧ A.U.heap = h ∧ A.cells + rm.cells ≤ R.cells ∧ A.slots + rm.slots ≤ R.slots)
      (fun A _ v B => ∃ L, (P' v B.U.heap ∧ Fr n0 L) ∧ B.locs = A.locs ++ L ∧ B.cells = A.cells + rm.cells ∧ B.slots = A.slots + rm.slots) :=
  backOf (Q := fun v h L => P' v h ∧ Fr n0 L) (K []) hZ wc wz hf hl
theorem Go.iadd (C : Cx p s m meth c Z bytes own ret maxL) (X : On p l e R s m args below meth c n0 T h cells slots) {x y : Int32} (hd : decode bytes pc = .ok (.iadd, 1))  (hp : pc + 1 = pc') (k : Go p e below s n0 rc rs P T (mkF m pc' Ls (.int (x + y) :: st))) : Go p e below s n0 rc rs P T (mkF m pc Ls (.int y :: .int x :: st)) := by
  obtain ⟨locs, X, eT, N, hn⟩ := X; obtain ⟨hx, hZ, hby, hown, hml, hlk, hrt⟩ := C
  subst hp; exact Go.of (fun t q => XS.iadd X.here hx rfl (hb hby hd) rfl q) k
theorem Go.isub (C : Cx p s m meth c Z bytes own ret maxL) (X : On p l e R s m args below meth c n0 T h cells slots) {x y : Int32} (hd : decode bytes pc = .ok (.isub, 1))  (hp : pc + 1 = pc') (k : Go p e below s n0 rc rs P T (mkF m pc' Ls (.int (x - y) :: st))) : Go p e below s n0 rc rs P T (mkF m pc Ls (.int y :: .int x :: st)) := by
  obtain ⟨locs, X, eT, N, hn⟩ := X; obtain ⟨hx, hZ, hby, hown, hml, hlk, hrt⟩ := C
  subst hp; exact Go.of (fun t q => XS.isub X.here hx rfl (hb hby hd) rfl q) k
theorem Go.imul (C : Cx p s m meth c Z bytes own ret maxL) (X : On p l e R s m args below meth c n0 T h cells slots) {x y : Int32} (hd : decode bytes pc = .ok (.imul, 1))  (hp : pc + 1 = pc') (k : Go p e below s n0 rc rs P T (mkF m pc' Ls (.int (x * y) :: st))) : Go p e below s n0 rc rs P T (mkF m pc Ls (.int y :: .int x :: st)) := by
  obtain ⟨locs, X, eT, N, hn⟩ := X; obtain ⟨hx, hZ, hby, hown, hml, hlk, hrt⟩ := C
  subst hp; exact Go.of (fun t q => XS.imul X.here hx rfl (hb hby hd) rfl q) k
theorem Go.iand (C : Cx p s m meth c Z bytes own ret maxL) (X : On p l e R s m args below meth c n0 T h cells slots) {x y : Int32} (hd : decode bytes pc = .ok (.iand, 1))  (hp : pc + 1 = pc') (k : Go p e below s n0 rc rs P T (mkF m pc' Ls (.int (x &&& y) :: st))) : Go p e below s n0 rc rs P T (mkF m pc Ls (.int y :: .int x :: st)) := by
  obtain ⟨locs, X, eT, N, hn⟩ := X; obtain ⟨hx, hZ, hby, hown, hml, hlk, hrt⟩ := C
  subst hp; exact Go.of (fun t q => XS.iand X.here hx rfl (hb hby hd) rfl q) k
theorem Go.ior (C : Cx p s m meth c Z bytes own ret maxL) (X : On p l e R s m args below meth c n0 T h cells slots) {x y : Int32} (hd : decode bytes pc = .ok (.ior, 1))  (hp : pc + 1 = pc') (k : Go p e below s n0 rc rs P T (mkF m pc' Ls (.int (x ||| y) :: st))) : Go p e below s n0 rc rs P T (mkF m pc Ls (.int y :: .int x :: st)) := by
  obtain ⟨locs, X, eT, N, hn⟩ := X; obtain ⟨hx, hZ, hby, hown, hml, hlk, hrt⟩ := C
  subst hp; exact Go.of (fun t q => XS.ior X.here hx rfl (hb hby hd) rfl q) k
theorem Go.ixor (C : Cx p s m meth c Z bytes own ret maxL) (X : On p l e R s m args below meth c n0 T h cells slots) {x y : Int32} (hd : decode bytes pc = .ok (.ixor, 1))  (hp : pc + 1 = pc') (k : Go p e below s n0 rc rs P T (mkF m pc' Ls (.int (x ^^^ y) :: st))) : Go p e below s n0 rc rs P T (mkF m pc Ls (.int y :: .int x :: st)) := by
  obtain ⟨locs, X, eT, N, hn⟩ := X; obtain ⟨hx, hZ, hby, hown, hml, hlk, hrt⟩ := C
  subst hp; exact Go.of (fun t q => XS.ixor X.here hx rfl (hb hby hd) rfl q) k
theorem Go.ishl (C : Cx p s m meth c Z bytes own ret maxL) (X : On p l e R s m args below meth c n0 T h cells slots) {x y : Int32} (hd : decode bytes pc = .ok (.ishl, 1))  (hp : pc + 1 = pc') (k : Go p e below s n0 rc rs P T (mkF m pc' Ls (.int (x <<< (y &&& 31)) :: st))) : Go p e below s n0 rc rs P T (mkF m pc Ls (.int y :: .int x :: st)) := by
  obtain ⟨locs, X, eT, N, hn⟩ := X; obtain ⟨hx, hZ, hby, hown, hml, hlk, hrt⟩ := C
  subst hp; exact Go.of (fun t q => XS.ishl X.here hx rfl (hb hby hd) rfl q) k
theorem Go.ishr (C : Cx p s m meth c Z bytes own ret maxL) (X : On p l e R s m args below meth c n0 T h cells slots) {x y : Int32} (hd : decode bytes pc = .ok (.ishr, 1))  (hp : pc + 1 = pc') (k : Go p e below s n0 rc rs P T (mkF m pc' Ls (.int (x >>> (y &&& 31)) :: st))) : Go p e below s n0 rc rs P T (mkF m pc Ls (.int y :: .int x :: st)) := by
  obtain ⟨locs, X, eT, N, hn⟩ := X; obtain ⟨hx, hZ, hby, hown, hml, hlk, hrt⟩ := C
  subst hp; exact Go.of (fun t q => XS.ishr X.here hx rfl (hb hby hd) rfl q) k
theorem Go.iushr (C : Cx p s m meth c Z bytes own ret maxL) (X : On p l e R s m args below meth c n0 T h cells slots) {x y : Int32} (hd : decode bytes pc = .ok (.iushr, 1))  (hp : pc + 1 = pc') (k : Go p e below s n0 rc rs P T (mkF m pc' Ls (.int ((x.toUInt32 >>> (y &&& 31).toUInt32).toInt32) :: st))) : Go p e below s n0 rc rs P T (mkF m pc Ls (.int y :: .int x :: st)) := by
  obtain ⟨locs, X, eT, N, hn⟩ := X; obtain ⟨hx, hZ, hby, hown, hml, hlk, hrt⟩ := C
  subst hp; exact Go.of (fun t q => XS.iushr X.here hx rfl (hb hby hd) rfl q) k
theorem Go.ladd (C : Cx p s m meth c Z bytes own ret maxL) (X : On p l e R s m args below meth c n0 T h cells slots) {x y : Int64} (hd : decode bytes pc = .ok (.ladd, 1))  (hp : pc + 1 = pc') (k : Go p e below s n0 rc rs P T (mkF m pc' Ls (.long (x + y) :: st))) : Go p e below s n0 rc rs P T (mkF m pc Ls (.long y :: .long x :: st)) := by
  obtain ⟨locs, X, eT, N, hn⟩ := X; obtain ⟨hx, hZ, hby, hown, hml, hlk, hrt⟩ := C
  subst hp; exact Go.of (fun t q => XS.ladd X.here hx rfl (hb hby hd) rfl q) k
theorem Go.lsub (C : Cx p s m meth c Z bytes own ret maxL) (X : On p l e R s m args below meth c n0 T h cells slots) {x y : Int64} (hd : decode bytes pc = .ok (.lsub, 1))  (hp : pc + 1 = pc') (k : Go p e below s n0 rc rs P T (mkF m pc' Ls (.long (x - y) :: st))) : Go p e below s n0 rc rs P T (mkF m pc Ls (.long y :: .long x :: st)) := by
  obtain ⟨locs, X, eT, N, hn⟩ := X; obtain ⟨hx, hZ, hby, hown, hml, hlk, hrt⟩ := C
  subst hp; exact Go.of (fun t q => XS.lsub X.here hx rfl (hb hby hd) rfl q) k
theorem Go.lmul (C : Cx p s m meth c Z bytes own ret maxL) (X : On p l e R s m args below meth c n0 T h cells slots) {x y : Int64} (hd : decode bytes pc = .ok (.lmul, 1))  (hp : pc + 1 = pc') (k : Go p e below s n0 rc rs P T (mkF m pc' Ls (.long (x * y) :: st))) : Go p e below s n0 rc rs P T (mkF m pc Ls (.long y :: .long x :: st)) := by
  obtain ⟨locs, X, eT, N, hn⟩ := X; obtain ⟨hx, hZ, hby, hown, hml, hlk, hrt⟩ := C
  subst hp; exact Go.of (fun t q => XS.lmul X.here hx rfl (hb hby hd) rfl q) k
theorem Go.land (C : Cx p s m meth c Z bytes own ret maxL) (X : On p l e R s m args below meth c n0 T h cells slots) {x y : Int64} (hd : decode bytes pc = .ok (.land, 1))  (hp : pc + 1 = pc') (k : Go p e below s n0 rc rs P T (mkF m pc' Ls (.long (x &&& y) :: st))) : Go p e below s n0 rc rs P T (mkF m pc Ls (.long y :: .long x :: st)) := by
  obtain ⟨locs, X, eT, N, hn⟩ := X; obtain ⟨hx, hZ, hby, hown, hml, hlk, hrt⟩ := C
  subst hp; exact Go.of (fun t q => XS.land X.here hx rfl (hb hby hd) rfl q) k
theorem Go.lor (C : Cx p s m meth c Z bytes own ret maxL) (X : On p l e R s m args below meth c n0 T h cells slots) {x y : Int64} (hd : decode bytes pc = .ok (.lor, 1))  (hp : pc + 1 = pc') (k : Go p e below s n0 rc rs P T (mkF m pc' Ls (.long (x ||| y) :: st))) : Go p e below s n0 rc rs P T (mkF m pc Ls (.long y :: .long x :: st)) := by
  obtain ⟨locs, X, eT, N, hn⟩ := X; obtain ⟨hx, hZ, hby, hown, hml, hlk, hrt⟩ := C
  subst hp; exact Go.of (fun t q => XS.lor X.here hx rfl (hb hby hd) rfl q) k
theorem Go.lxor (C : Cx p s m meth c Z bytes own ret maxL) (X : On p l e R s m args below meth c n0 T h cells slots) {x y : Int64} (hd : decode bytes pc = .ok (.lxor, 1))  (hp : pc + 1 = pc') (k : Go p e below s n0 rc rs P T (mkF m pc' Ls (.long (x ^^^ y) :: st))) : Go p e below s n0 rc rs P T (mkF m pc Ls (.long y :: .long x :: st)) := by
  obtain ⟨locs, X, eT, N, hn⟩ := X; obtain ⟨hx, hZ, hby, hown, hml, hlk, hrt⟩ := C
  subst hp; exact Go.of (fun t q => XS.lxor X.here hx rfl (hb hby hd) rfl q) k
theorem Go.lshl (C : Cx p s m meth c Z bytes own ret maxL) (X : On p l e R s m args below meth c n0 T h cells slots) {x : Int64} {y : Int32} (hd : decode bytes pc = .ok (.lshl, 1))  (hp : pc + 1 = pc') (k : Go p e below s n0 rc rs P T (mkF m pc' Ls (.long (x <<< (y &&& 0x3f).toInt64) :: st))) : Go p e below s n0 rc rs P T (mkF m pc Ls (.int y :: .long x :: st)) := by
  obtain ⟨locs, X, eT, N, hn⟩ := X; obtain ⟨hx, hZ, hby, hown, hml, hlk, hrt⟩ := C
  subst hp; exact Go.of (fun t q => XS.lshl X.here hx rfl (hb hby hd) rfl q) k
theorem Go.lshr (C : Cx p s m meth c Z bytes own ret maxL) (X : On p l e R s m args below meth c n0 T h cells slots) {x : Int64} {y : Int32} (hd : decode bytes pc = .ok (.lshr, 1))  (hp : pc + 1 = pc') (k : Go p e below s n0 rc rs P T (mkF m pc' Ls (.long (x >>> (y &&& 0x3f).toInt64) :: st))) : Go p e below s n0 rc rs P T (mkF m pc Ls (.int y :: .long x :: st)) := by
  obtain ⟨locs, X, eT, N, hn⟩ := X; obtain ⟨hx, hZ, hby, hown, hml, hlk, hrt⟩ := C
  subst hp; exact Go.of (fun t q => XS.lshr X.here hx rfl (hb hby hd) rfl q) k
theorem Go.lushr (C : Cx p s m meth c Z bytes own ret maxL) (X : On p l e R s m args below meth c n0 T h cells slots) {x : Int64} {y : Int32} (hd : decode bytes pc = .ok (.lushr, 1))  (hp : pc + 1 = pc') (k : Go p e below s n0 rc rs P T (mkF m pc' Ls (.long ((x.toUInt64 >>> (y &&& 0x3f).toInt64.toUInt64).toInt64) :: st))) : Go p e below s n0 rc rs P T (mkF m pc Ls (.int y :: .long x :: st)) := by
  obtain ⟨locs, X, eT, N, hn⟩ := X; obtain ⟨hx, hZ, hby, hown, hml, hlk, hrt⟩ := C
  subst hp; exact Go.of (fun t q => XS.lushr X.here hx rfl (hb hby hd) rfl q) k
theorem Go.i2l (C : Cx p s m meth c Z bytes own ret maxL) (X : On p l e R s m args below meth c n0 T h cells slots) {x : Int32} (hd : decode bytes pc = .ok (.i2l, 1))  (hp : pc + 1 = pc') (k : Go p e below s n0 rc rs P T (mkF m pc' Ls (.long (x.toInt64) :: st))) : Go p e below s n0 rc rs P T (mkF m pc Ls (.int x :: st)) := by
  obtain ⟨locs, X, eT, N, hn⟩ := X; obtain ⟨hx, hZ, hby, hown, hml, hlk, hrt⟩ := C
  subst hp; exact Go.of (fun t q => XS.i2l X.here hx rfl (hb hby hd) rfl q) k
theorem Go.l2i (C : Cx p s m meth c Z bytes own ret maxL) (X : On p l e R s m args below meth c n0 T h cells slots) {x : Int64} (hd : decode bytes pc = .ok (.l2i, 1))  (hp : pc + 1 = pc') (k : Go p e below s n0 rc rs P T (mkF m pc' Ls (.int (x.toInt32) :: st))) : Go p e below s n0 rc rs P T (mkF m pc Ls (.long x :: st)) := by
  obtain ⟨locs, X, eT, N, hn⟩ := X; obtain ⟨hx, hZ, hby, hown, hml, hlk, hrt⟩ := C
  subst hp; exact Go.of (fun t q => XS.l2i X.here hx rfl (hb hby hd) rfl q) k
theorem Go.i2b (C : Cx p s m meth c Z bytes own ret maxL) (X : On p l e R s m args below meth c n0 T h cells slots) {x : Int32} (hd : decode bytes pc = .ok (.i2b, 1))  (hp : pc + 1 = pc') (k : Go p e below s n0 rc rs P T (mkF m pc' Ls (.int (x.toInt8.toInt32) :: st))) : Go p e below s n0 rc rs P T (mkF m pc Ls (.int x :: st)) := by
  obtain ⟨locs, X, eT, N, hn⟩ := X; obtain ⟨hx, hZ, hby, hown, hml, hlk, hrt⟩ := C
  subst hp; exact Go.of (fun t q => XS.i2b X.here hx rfl (hb hby hd) rfl q) k
theorem Go.i2s (C : Cx p s m meth c Z bytes own ret maxL) (X : On p l e R s m args below meth c n0 T h cells slots) {x : Int32} (hd : decode bytes pc = .ok (.i2s, 1))  (hp : pc + 1 = pc') (k : Go p e below s n0 rc rs P T (mkF m pc' Ls (.int (x.toInt16.toInt32) :: st))) : Go p e below s n0 rc rs P T (mkF m pc Ls (.int x :: st)) := by
  obtain ⟨locs, X, eT, N, hn⟩ := X; obtain ⟨hx, hZ, hby, hown, hml, hlk, hrt⟩ := C
  subst hp; exact Go.of (fun t q => XS.i2s X.here hx rfl (hb hby hd) rfl q) k
theorem Go.i2c (C : Cx p s m meth c Z bytes own ret maxL) (X : On p l e R s m args below meth c n0 T h cells slots) {x : Int32} (hd : decode bytes pc = .ok (.i2c, 1))  (hp : pc + 1 = pc') (k : Go p e below s n0 rc rs P T (mkF m pc' Ls (.int (x.toUInt32.toUInt16.toUInt32.toInt32) :: st))) : Go p e below s n0 rc rs P T (mkF m pc Ls (.int x :: st)) := by
  obtain ⟨locs, X, eT, N, hn⟩ := X; obtain ⟨hx, hZ, hby, hown, hml, hlk, hrt⟩ := C
  subst hp; exact Go.of (fun t q => XS.i2c X.here hx rfl (hb hby hd) rfl q) k
theorem Go.lneg (C : Cx p s m meth c Z bytes own ret maxL) (X : On p l e R s m args below meth c n0 T h cells slots) {x : Int64} (hd : decode bytes pc = .ok (.lneg, 1))  (hp : pc + 1 = pc') (k : Go p e below s n0 rc rs P T (mkF m pc' Ls (.long (-x) :: st))) : Go p e below s n0 rc rs P T (mkF m pc Ls (.long x :: st)) := by
  obtain ⟨locs, X, eT, N, hn⟩ := X; obtain ⟨hx, hZ, hby, hown, hml, hlk, hrt⟩ := C
  subst hp; exact Go.of (fun t q => XS.lneg X.here hx rfl (hb hby hd) rfl q) k
theorem Go.ineg (C : Cx p s m meth c Z bytes own ret maxL) (X : On p l e R s m args below meth c n0 T h cells slots) {x : Int32} (hd : decode bytes pc = .ok (.ineg, 1))  (hp : pc + 1 = pc') (k : Go p e below s n0 rc rs P T (mkF m pc' Ls (.int (-x) :: st))) : Go p e below s n0 rc rs P T (mkF m pc Ls (.int x :: st)) := by
  obtain ⟨locs, X, eT, N, hn⟩ := X; obtain ⟨hx, hZ, hby, hown, hml, hlk, hrt⟩ := C
  subst hp; exact Go.of (fun t q => XS.ineg X.here hx rfl (hb hby hd) rfl q) k
theorem Go.idiv (C : Cx p s m meth c Z bytes own ret maxL) (X : On p l e R s m args below meth c n0 T h cells slots) {x y : Int32} (hd : decode bytes pc = .ok (.idiv, 1)) (hy : y ≠ 0) (hp : pc + 1 = pc') (k : Go p e below s n0 rc rs P T (mkF m pc' Ls (.int (x / y) :: st))) : Go p e below s n0 rc rs P T (mkF m pc Ls (.int y :: .int x :: st)) := by
  obtain ⟨locs, X, eT, N, hn⟩ := X; obtain ⟨hx, hZ, hby, hown, hml, hlk, hrt⟩ := C
  subst hp; exact Go.of (fun t q => XS.idiv X.here hx rfl (hb hby hd) rfl hy q) k
theorem Go.ldiv (C : Cx p s m meth c Z bytes own ret maxL) (X : On p l e R s m args below meth c n0 T h cells slots) {x y : Int64} (hd : decode bytes pc = .ok (.ldiv, 1)) (hy : y ≠ 0) (hp : pc + 1 = pc') (k : Go p e below s n0 rc rs P T (mkF m pc' Ls (.long (x / y) :: st))) : Go p e below s n0 rc rs P T (mkF m pc Ls (.long y :: .long x :: st)) := by
  obtain ⟨locs, X, eT, N, hn⟩ := X; obtain ⟨hx, hZ, hby, hown, hml, hlk, hrt⟩ := C
  subst hp; exact Go.of (fun t q => XS.ldiv X.here hx rfl (hb hby hd) rfl hy q) k
theorem Go.irem (C : Cx p s m meth c Z bytes own ret maxL) (X : On p l e R s m args below meth c n0 T h cells slots) {x y : Int32} (hd : decode bytes pc = .ok (.irem, 1)) (hy : y ≠ 0) (hp : pc + 1 = pc') (k : Go p e below s n0 rc rs P T (mkF m pc' Ls (.int (x % y) :: st))) : Go p e below s n0 rc rs P T (mkF m pc Ls (.int y :: .int x :: st)) := by
  obtain ⟨locs, X, eT, N, hn⟩ := X; obtain ⟨hx, hZ, hby, hown, hml, hlk, hrt⟩ := C
  subst hp; exact Go.of (fun t q => iremM X hx rfl (hb hby hd) rfl hy q) k
theorem Go.lrem (C : Cx p s m meth c Z bytes own ret maxL) (X : On p l e R s m args below meth c n0 T h cells slots) {x y : Int64} (hd : decode bytes pc = .ok (.lrem, 1)) (hy : y ≠ 0) (hp : pc + 1 = pc') (k : Go p e below s n0 rc rs P T (mkF m pc' Ls (.long (x % y) :: st))) : Go p e below s n0 rc rs P T (mkF m pc Ls (.long y :: .long x :: st)) := by
  obtain ⟨locs, X, eT, N, hn⟩ := X; obtain ⟨hx, hZ, hby, hown, hml, hlk, hrt⟩ := C
  subst hp; rw [← lrem_mod] at k; exact Go.of (fun t q => XS.lrem X.here hx rfl (hb hby hd) rfl hy q) k
theorem Go.lcmp (C : Cx p s m meth c Z bytes own ret maxL) (X : On p l e R s m args below meth c n0 T h cells slots) {x y : Int64} (hd : decode bytes pc = .ok (.lcmp, 1))  (hp : pc + 1 = pc') (k : Go p e below s n0 rc rs P T (mkF m pc' Ls (.int (lcmpW x y) :: st))) : Go p e below s n0 rc rs P T (mkF m pc Ls (.long y :: .long x :: st)) := by
  obtain ⟨locs, X, eT, N, hn⟩ := X; obtain ⟨hx, hZ, hby, hown, hml, hlk, hrt⟩ := C
  subst hp; exact Go.of (fun t q => XS.lcmp X.here hx rfl (hb hby hd) rfl q) k
theorem Go.dup (C : Cx p s m meth c Z bytes own ret maxL) (X : On p l e R s m args below meth c n0 T h cells slots) {v : Value} (hd : decode bytes pc = .ok (.dup, 1)) (hc : v.category = 1) (hp : pc + 1 = pc') (k : Go p e below s n0 rc rs P T (mkF m pc' Ls (v :: v :: st))) : Go p e below s n0 rc rs P T (mkF m pc Ls (v :: st)) := by
  obtain ⟨locs, X, eT, N, hn⟩ := X; obtain ⟨hx, hZ, hby, hown, hml, hlk, hrt⟩ := C
  subst hp; exact Go.of (fun t q => XS.dup X.here hx rfl (hb hby hd) rfl hc q) k
theorem Go.pop (C : Cx p s m meth c Z bytes own ret maxL) (X : On p l e R s m args below meth c n0 T h cells slots) {v : Value} (hd : decode bytes pc = .ok (.pop, 1)) (hc : v.category = 1) (hp : pc + 1 = pc') (k : Go p e below s n0 rc rs P T (mkF m pc' Ls st)) : Go p e below s n0 rc rs P T (mkF m pc Ls (v :: st)) := by
  obtain ⟨locs, X, eT, N, hn⟩ := X; obtain ⟨hx, hZ, hby, hown, hml, hlk, hrt⟩ := C
  subst hp; exact Go.of (fun t q => XS.pop X.here hx rfl (hb hby hd) rfl hc q) k
theorem Go.dup_x1 (C : Cx p s m meth c Z bytes own ret maxL) (X : On p l e R s m args below meth c n0 T h cells slots) {v u : Value} (hd : decode bytes pc = .ok (.dup_x1, 1)) (hc : v.category = 1) (hc2 : u.category = 1) (hp : pc + 1 = pc') (k : Go p e below s n0 rc rs P T (mkF m pc' Ls (v :: u :: v :: st))) : Go p e below s n0 rc rs P T (mkF m pc Ls (v :: u :: st)) := by
  obtain ⟨locs, X, eT, N, hn⟩ := X; obtain ⟨hx, hZ, hby, hown, hml, hlk, hrt⟩ := C
  subst hp; exact Go.of (fun t q => XS.dupX1 X.here hx rfl (hb hby hd) rfl hc hc2 q) k
theorem Go.dup2 (C : Cx p s m meth c Z bytes own ret maxL) (X : On p l e R s m args below meth c n0 T h cells slots) {v u : Value} (hd : decode bytes pc = .ok (.dup2, 1)) (hc : v.category = 1) (hc2 : u.category = 1) (hp : pc + 1 = pc') (k : Go p e below s n0 rc rs P T (mkF m pc' Ls (v :: u :: v :: u :: st))) : Go p e below s n0 rc rs P T (mkF m pc Ls (v :: u :: st)) := by
  obtain ⟨locs, X, eT, N, hn⟩ := X; obtain ⟨hx, hZ, hby, hown, hml, hlk, hrt⟩ := C
  subst hp; exact Go.of (fun t q => Jvm.Free.XT.dup2 X.here hx rfl (hb hby hd) rfl hc hc2 q) k
theorem Go.dup2L (C : Cx p s m meth c Z bytes own ret maxL) (X : On p l e R s m args below meth c n0 T h cells slots) {x : Int64} (hd : decode bytes pc = .ok (.dup2, 1))  (hp : pc + 1 = pc') (k : Go p e below s n0 rc rs P T (mkF m pc' Ls (.long x :: .long x :: st))) : Go p e below s n0 rc rs P T (mkF m pc Ls (.long x :: st)) := by
  obtain ⟨locs, X, eT, N, hn⟩ := X; obtain ⟨hx, hZ, hby, hown, hml, hlk, hrt⟩ := C
  subst hp; exact Go.of (fun t q => Jvm.Free.XT.dup2L X.here hx rfl (hb hby hd) rfl q) k
theorem Go.iconst (C : Cx p s m meth c Z bytes own ret maxL) (X : On p l e R s m args below meth c n0 T h cells slots) {i : Int} {v : Int32} (hd : decode bytes pc = .ok (.iconst i, 1)) (hv : Int32.ofInt i = v) (hp : pc + 1 = pc') (k : Go p e below s n0 rc rs P T (mkF m pc' Ls (.int v :: st))) : Go p e below s n0 rc rs P T (mkF m pc Ls st) := by
  obtain ⟨locs, X, eT, N, hn⟩ := X; obtain ⟨hx, hZ, hby, hown, hml, hlk, hrt⟩ := C
  subst hp hv; exact Go.of (fun t q => XS.iconst X.here hx rfl (hb hby hd) q) k
theorem Go.bipush (C : Cx p s m meth c Z bytes own ret maxL) (X : On p l e R s m args below meth c n0 T h cells slots) {i : Int} {v : Int32} (hd : decode bytes pc = .ok (.bipush i, 2)) (hv : (Int8.ofInt i).toInt32 = v) (hp : pc + 2 = pc') (k : Go p e below s n0 rc rs P T (mkF m pc' Ls (.int v :: st))) : Go p e below s n0 rc rs P T (mkF m pc Ls st) := by
  obtain ⟨locs, X, eT, N, hn⟩ := X; obtain ⟨hx, hZ, hby, hown, hml, hlk, hrt⟩ := C
  subst hp hv; exact Go.of (fun t q => XS.bipush X.here hx rfl (hb hby hd) q) k
theorem Go.sipush (C : Cx p s m meth c Z bytes own ret maxL) (X : On p l e R s m args below meth c n0 T h cells slots) {i : Int} {v : Int32} (hd : decode bytes pc = .ok (.sipush i, 3)) (hv : (Int16.ofInt i).toInt32 = v) (hp : pc + 3 = pc') (k : Go p e below s n0 rc rs P T (mkF m pc' Ls (.int v :: st))) : Go p e below s n0 rc rs P T (mkF m pc Ls st) := by
  obtain ⟨locs, X, eT, N, hn⟩ := X; obtain ⟨hx, hZ, hby, hown, hml, hlk, hrt⟩ := C
  subst hp hv; exact Go.of (fun t q => XS.sipush X.here hx rfl (hb hby hd) q) k
theorem Go.lconst (C : Cx p s m meth c Z bytes own ret maxL) (X : On p l e R s m args below meth c n0 T h cells slots) {i : Fin 2} {v : Int64} (hd : decode bytes pc = .ok (.lconst i, 1)) (hv : Int64.ofNat i = v) (hp : pc + 1 = pc') (k : Go p e below s n0 rc rs P T (mkF m pc' Ls (.long v :: st))) : Go p e below s n0 rc rs P T (mkF m pc Ls st) := by
  obtain ⟨locs, X, eT, N, hn⟩ := X; obtain ⟨hx, hZ, hby, hown, hml, hlk, hrt⟩ := C
  subst hp hv; exact Go.of (fun t q => XS.lconst X.here hx rfl (hb hby hd) q) k
theorem Go.aconst_null (C : Cx p s m meth c Z bytes own ret maxL) (X : On p l e R s m args below meth c n0 T h cells slots)  (hd : decode bytes pc = .ok (.aconst_null, 1))  (hp : pc + 1 = pc') (k : Go p e below s n0 rc rs P T (mkF m pc' Ls (.null :: st))) : Go p e below s n0 rc rs P T (mkF m pc Ls st) := by
  obtain ⟨locs, X, eT, N, hn⟩ := X; obtain ⟨hx, hZ, hby, hown, hml, hlk, hrt⟩ := C
  subst hp; exact Go.of (fun t q => XS.aconstNull X.here hx rfl (hb hby hd)  q) k
theorem Go.ldc (C : Cx p s m meth c Z bytes own ret maxL) (X : On p l e R s m args below meth c n0 T h cells slots) {i : Nat} {v : Int32} (hc : (Cond.constant own i v).before a0 Z = true) (hd : decode bytes pc = .ok (.ldc i, 2)) (hp : pc + 2 = pc') (k : Go p e below s n0 rc rs P T (mkF m pc' Ls (.int v :: st))) : Go p e below s n0 rc rs P T (mkF m pc Ls st) := by
  obtain ⟨locs, X, eT, N, hn⟩ := X; obtain ⟨hx, hZ, hby, hown, hml, hlk, hrt⟩ := C
  subst hp; exact Go.of (X.ldcInt hx hown (mvT hZ hc) (g := mkF m pc Ls st) rfl (hb hby hd)) k
theorem Go.ldc2 (C : Cx p s m meth c Z bytes own ret maxL) (X : On p l e R s m args below meth c n0 T h cells slots) {i : Nat} {v : Int64} (hc : (Cond.constantLong own i v).before a0 Z = true) (hd : decode bytes pc = .ok (.ldc2_w i, 3)) (hp : pc + 3 = pc') (k : Go p e below s n0 rc rs P T (mkF m pc' Ls (.long v :: st))) : Go p e below s n0 rc rs P T (mkF m pc Ls st) := by
  obtain ⟨locs, X, eT, N, hn⟩ := X; obtain ⟨hx, hZ, hby, hown, hml, hlk, hrt⟩ := C
  subst hp; exact Go.of (X.ldc2Long hx hown (mvT hZ hc) (g := mkF m pc Ls st) rfl (hb hby hd)) k
theorem Go.iload (C : Cx p s m meth c Z bytes own ret maxL) (X : On p l e R s m args below meth c n0 T h cells slots) {i : Nat} {v : Int32} (hd : decode bytes pc = .ok (.iload i, 2)) (hl : Ls[i]? = some (.val (.int v))) (hp : pc + 2 = pc') (k : Go p e below s n0 rc rs P T (mkF m pc' Ls (.int v :: st))) : Go p e below s n0 rc rs P T (mkF m pc Ls st) := by
  obtain ⟨locs, X, eT, N, hn⟩ := X; obtain ⟨hx, hZ, hby, hown, hml, hlk, hrt⟩ := C
  subst hp; exact Go.of (fun t q => XS.iload X.here hx rfl (hb hby hd) hl q) k
theorem Go.iloadN (C : Cx p s m meth c Z bytes own ret maxL) (X : On p l e R s m args below meth c n0 T h cells slots) {i : Fin 4} {v : Int32} (hd : decode bytes pc = .ok (.iload_n i, 1)) (hl : Ls[i.val]? = some (.val (.int v))) (hp : pc + 1 = pc') (k : Go p e below s n0 rc rs P T (mkF m pc' Ls (.int v :: st))) : Go p e below s n0 rc rs P T (mkF m pc Ls st) := by
  obtain ⟨locs, X, eT, N, hn⟩ := X; obtain ⟨hx, hZ, hby, hown, hml, hlk, hrt⟩ := C
  subst hp; exact Go.of (fun t q => XS.iloadN X.here hx rfl (hb hby hd) hl q) k
theorem Go.istore (C : Cx p s m meth c Z bytes own ret maxL) (X : On p l e R s m args below meth c n0 T h cells slots) {i : Nat} {v : Int32} {Ls' : Array Slot} (hd : decode bytes pc = .ok (.istore i, 2)) (hl : storeLocals Ls i (.int v) = some Ls') (hp : pc + 2 = pc') (k : Go p e below s n0 rc rs P T (mkF m pc' Ls' st)) : Go p e below s n0 rc rs P T (mkF m pc Ls (.int v :: st)) := by
  obtain ⟨locs, X, eT, N, hn⟩ := X; obtain ⟨hx, hZ, hby, hown, hml, hlk, hrt⟩ := C
  subst hp; exact Go.of (fun t q => XS.istore X.here hx rfl (hb hby hd) rfl hl q) k
theorem Go.istoreN (C : Cx p s m meth c Z bytes own ret maxL) (X : On p l e R s m args below meth c n0 T h cells slots) {i : Fin 4} {v : Int32} {Ls' : Array Slot} (hd : decode bytes pc = .ok (.istore_n i, 1)) (hl : storeLocals Ls i.val (.int v) = some Ls') (hp : pc + 1 = pc') (k : Go p e below s n0 rc rs P T (mkF m pc' Ls' st)) : Go p e below s n0 rc rs P T (mkF m pc Ls (.int v :: st)) := by
  obtain ⟨locs, X, eT, N, hn⟩ := X; obtain ⟨hx, hZ, hby, hown, hml, hlk, hrt⟩ := C
  subst hp; exact Go.of (fun t q => XS.istoreN X.here hx rfl (hb hby hd) rfl hl q) k
theorem Go.lload (C : Cx p s m meth c Z bytes own ret maxL) (X : On p l e R s m args below meth c n0 T h cells slots) {i : Nat} {v : Int64} (hd : decode bytes pc = .ok (.lload i, 2)) (hl : Ls[i]? = some (.val (.long v))) (hp : pc + 2 = pc') (k : Go p e below s n0 rc rs P T (mkF m pc' Ls (.long v :: st))) : Go p e below s n0 rc rs P T (mkF m pc Ls st) := by
  obtain ⟨locs, X, eT, N, hn⟩ := X; obtain ⟨hx, hZ, hby, hown, hml, hlk, hrt⟩ := C
  subst hp; exact Go.of (fun t q => XS.lload X.here hx rfl (hb hby hd) hl q) k
theorem Go.lloadN (C : Cx p s m meth c Z bytes own ret maxL) (X : On p l e R s m args below meth c n0 T h cells slots) {i : Fin 4} {v : Int64} (hd : decode bytes pc = .ok (.lload_n i, 1)) (hl : Ls[i.val]? = some (.val (.long v))) (hp : pc + 1 = pc') (k : Go p e below s n0 rc rs P T (mkF m pc' Ls (.long v :: st))) : Go p e below s n0 rc rs P T (mkF m pc Ls st) := by
  obtain ⟨locs, X, eT, N, hn⟩ := X; obtain ⟨hx, hZ, hby, hown, hml, hlk, hrt⟩ := C
  subst hp; exact Go.of (fun t q => XS.lloadN X.here hx rfl (hb hby hd) hl q) k
theorem Go.lstore (C : Cx p s m meth c Z bytes own ret maxL) (X : On p l e R s m args below meth c n0 T h cells slots) {i : Nat} {v : Int64} {Ls' : Array Slot} (hd : decode bytes pc = .ok (.lstore i, 2)) (hl : storeLocals Ls i (.long v) = some Ls') (hp : pc + 2 = pc') (k : Go p e below s n0 rc rs P T (mkF m pc' Ls' st)) : Go p e below s n0 rc rs P T (mkF m pc Ls (.long v :: st)) := by
  obtain ⟨locs, X, eT, N, hn⟩ := X; obtain ⟨hx, hZ, hby, hown, hml, hlk, hrt⟩ := C
  subst hp; exact Go.of (fun t q => XS.lstore X.here hx rfl (hb hby hd) rfl hl q) k
theorem Go.lstoreN (C : Cx p s m meth c Z bytes own ret maxL) (X : On p l e R s m args below meth c n0 T h cells slots) {i : Fin 4} {v : Int64} {Ls' : Array Slot} (hd : decode bytes pc = .ok (.lstore_n i, 1)) (hl : storeLocals Ls i.val (.long v) = some Ls') (hp : pc + 1 = pc') (k : Go p e below s n0 rc rs P T (mkF m pc' Ls' st)) : Go p e below s n0 rc rs P T (mkF m pc Ls (.long v :: st)) := by
  obtain ⟨locs, X, eT, N, hn⟩ := X; obtain ⟨hx, hZ, hby, hown, hml, hlk, hrt⟩ := C
  subst hp; exact Go.of (fun t q => XS.lstoreN X.here hx rfl (hb hby hd) rfl hl q) k
theorem Go.aload (C : Cx p s m meth c Z bytes own ret maxL) (X : On p l e R s m args below meth c n0 T h cells slots) {i : Nat} {v : Value} (hd : decode bytes pc = .ok (.aload i, 2)) (hl : Ls[i]? = some (.val v)) (hv : v.isRef = true) (hp : pc + 2 = pc') (k : Go p e below s n0 rc rs P T (mkF m pc' Ls (v :: st))) : Go p e below s n0 rc rs P T (mkF m pc Ls st) := by
  obtain ⟨locs, X, eT, N, hn⟩ := X; obtain ⟨hx, hZ, hby, hown, hml, hlk, hrt⟩ := C
  subst hp; exact Go.of (fun t q => XS.aload X.here hx rfl (hb hby hd) hl hv q) k
theorem Go.aloadN (C : Cx p s m meth c Z bytes own ret maxL) (X : On p l e R s m args below meth c n0 T h cells slots) {i : Fin 4} {v : Value} (hd : decode bytes pc = .ok (.aload_n i, 1)) (hl : Ls[i.val]? = some (.val v)) (hv : v.isRef = true) (hp : pc + 1 = pc') (k : Go p e below s n0 rc rs P T (mkF m pc' Ls (v :: st))) : Go p e below s n0 rc rs P T (mkF m pc Ls st) := by
  obtain ⟨locs, X, eT, N, hn⟩ := X; obtain ⟨hx, hZ, hby, hown, hml, hlk, hrt⟩ := C
  subst hp; exact Go.of (fun t q => XS.aloadN X.here hx rfl (hb hby hd) hl hv q) k
theorem Go.astore (C : Cx p s m meth c Z bytes own ret maxL) (X : On p l e R s m args below meth c n0 T h cells slots) {i : Nat} {v : Value} {Ls' : Array Slot} (hd : decode bytes pc = .ok (.astore i, 2)) (hv : v.isRef = true) (hl : storeLocals Ls i v = some Ls') (hp : pc + 2 = pc') (k : Go p e below s n0 rc rs P T (mkF m pc' Ls' st)) : Go p e below s n0 rc rs P T (mkF m pc Ls (v :: st)) := by
  obtain ⟨locs, X, eT, N, hn⟩ := X; obtain ⟨hx, hZ, hby, hown, hml, hlk, hrt⟩ := C
  subst hp; exact Go.of (fun t q => XS.astore X.here hx rfl (hb hby hd) rfl hv hl q) k
theorem Go.astoreN (C : Cx p s m meth c Z bytes own ret maxL) (X : On p l e R s m args below meth c n0 T h cells slots) {i : Fin 4} {v : Value} {Ls' : Array Slot} (hd : decode bytes pc = .ok (.astore_n i, 1)) (hv : v.isRef = true) (hl : storeLocals Ls i.val v = some Ls') (hp : pc + 1 = pc') (k : Go p e below s n0 rc rs P T (mkF m pc' Ls' st)) : Go p e below s n0 rc rs P T (mkF m pc Ls (v :: st)) := by
  obtain ⟨locs, X, eT, N, hn⟩ := X; obtain ⟨hx, hZ, hby, hown, hml, hlk, hrt⟩ := C
  subst hp; exact Go.of (fun t q => XS.astoreN X.here hx rfl (hb hby hd) rfl hv hl q) k
theorem Go.iinc (C : Cx p s m meth c Z bytes own ret maxL) (X : On p l e R s m args below meth c n0 T h cells slots) {i : Nat} {d : Int} {v v' : Int32} {Ls' : Array Slot} (hd : decode bytes pc = .ok (.iinc i d, 3)) (hl : Ls[i]? = some (.val (.int v))) (hv : v + Int32.ofInt d = v') (hl' : storeLocals Ls i (.int v') = some Ls') (hp : pc + 3 = pc') (k : Go p e below s n0 rc rs P T (mkF m pc' Ls' st)) : Go p e below s n0 rc rs P T (mkF m pc Ls st) := by
  obtain ⟨locs, X, eT, N, hn⟩ := X; obtain ⟨hx, hZ, hby, hown, hml, hlk, hrt⟩ := C
  subst hp hv; exact Go.of (fun t q => XS.iinc X.here hx rfl (hb hby hd) hl hl' q) k
theorem Go.goto (C : Cx p s m meth c Z bytes own ret maxL) (X : On p l e R s m args below meth c n0 T h cells slots) {o : Int} (hd : decode bytes pc = .ok (.goto o, 3)) (ho : 0 ≤ (pc : Int) + o) (hp : ((pc : Int) + o).toNat = pc') (k : Go p e below s n0 rc rs P T (mkF m pc' Ls st)) : Go p e below s n0 rc rs P T (mkF m pc Ls st) := by
  obtain ⟨locs, X, eT, N, hn⟩ := X; obtain ⟨hx, hZ, hby, hown, hml, hlk, hrt⟩ := C
  exact Go.of (fun t q => XS.goto X.here hx rfl (pc0 := pc) rfl (hb hby hd) ho hp q) k
theorem Go.ifYes (C : Cx p s m meth c Z bytes own ret maxL) (X : On p l e R s m args below meth c n0 T h cells slots) {o : Int} {cd : ClassFile.Cond} {x : Int32} (hd : decode bytes pc = .ok (.ifCond cd o, 3)) (hc : ifCond.holds cd x = true) (ho : 0 ≤ (pc : Int) + o) (hp : ((pc : Int) + o).toNat = pc') (k : Go p e below s n0 rc rs P T (mkF m pc' Ls st)) : Go p e below s n0 rc rs P T (mkF m pc Ls (.int x :: st)) := by
  obtain ⟨locs, X, eT, N, hn⟩ := X; obtain ⟨hx, hZ, hby, hown, hml, hlk, hrt⟩ := C
  exact Go.of (fun t q => XS.ifYes X.here hx rfl (pc0 := pc) rfl (hb hby hd) rfl hc ho hp q) k
theorem Go.ifNo (C : Cx p s m meth c Z bytes own ret maxL) (X : On p l e R s m args below meth c n0 T h cells slots) {o : Int} {cd : ClassFile.Cond} {x : Int32} (hd : decode bytes pc = .ok (.ifCond cd o, 3)) (hc : ifCond.holds cd x = false) (hp : pc + 3 = pc') (k : Go p e below s n0 rc rs P T (mkF m pc' Ls st)) : Go p e below s n0 rc rs P T (mkF m pc Ls (.int x :: st)) := by
  obtain ⟨locs, X, eT, N, hn⟩ := X; obtain ⟨hx, hZ, hby, hown, hml, hlk, hrt⟩ := C
  subst hp; exact Go.of (fun t q => XS.ifNo X.here hx rfl (hb hby hd) rfl hc q) k
theorem Go.icmpYes (C : Cx p s m meth c Z bytes own ret maxL) (X : On p l e R s m args below meth c n0 T h cells slots) {o : Int} {cd : ClassFile.Cond} {x y : Int32} (hd : decode bytes pc = .ok (.if_icmp cd o, 3)) (hc : if_icmp.holds cd x y = true) (ho : 0 ≤ (pc : Int) + o) (hp : ((pc : Int) + o).toNat = pc') (k : Go p e below s n0 rc rs P T (mkF m pc' Ls st)) : Go p e below s n0 rc rs P T (mkF m pc Ls (.int y :: .int x :: st)) := by
  obtain ⟨locs, X, eT, N, hn⟩ := X; obtain ⟨hx, hZ, hby, hown, hml, hlk, hrt⟩ := C
  exact Go.of (fun t q => XS.icmpYes X.here hx rfl (pc0 := pc) rfl (hb hby hd) rfl hc ho hp q) k
theorem Go.icmpNo (C : Cx p s m meth c Z bytes own ret maxL) (X : On p l e R s m args below meth c n0 T h cells slots) {o : Int} {cd : ClassFile.Cond} {x y : Int32} (hd : decode bytes pc = .ok (.if_icmp cd o, 3)) (hc : if_icmp.holds cd x y = false) (hp : pc + 3 = pc') (k : Go p e below s n0 rc rs P T (mkF m pc' Ls st)) : Go p e below s n0 rc rs P T (mkF m pc Ls (.int y :: .int x :: st)) := by
  obtain ⟨locs, X, eT, N, hn⟩ := X; obtain ⟨hx, hZ, hby, hown, hml, hlk, hrt⟩ := C
  subst hp; exact Go.of (fun t q => XS.icmpNo X.here hx rfl (hb hby hd) rfl hc q) k
theorem Go.acmpYes (C : Cx p s m meth c Z bytes own ret maxL) (X : On p l e R s m args below meth c n0 T h cells slots) {o : Int} {cd : ClassFile.ACond} {a b : Addr} (hd : decode bytes pc = .ok (.if_acmp cd o, 3)) (hc : if_acmp.holds cd (some a) (some b) = true) (ho : 0 ≤ (pc : Int) + o) (hp : ((pc : Int) + o).toNat = pc') (k : Go p e below s n0 rc rs P T (mkF m pc' Ls st)) : Go p e below s n0 rc rs P T (mkF m pc Ls (.ref b :: .ref a :: st)) := by
  obtain ⟨locs, X, eT, N, hn⟩ := X; obtain ⟨hx, hZ, hby, hown, hml, hlk, hrt⟩ := C
  exact Go.of (fun t q => XS.acmpYes X.here hx rfl (pc0 := pc) rfl (hb hby hd) rfl hc ho hp q) k
theorem Go.acmpNo (C : Cx p s m meth c Z bytes own ret maxL) (X : On p l e R s m args below meth c n0 T h cells slots) {o : Int} {cd : ClassFile.ACond} {a b : Addr} (hd : decode bytes pc = .ok (.if_acmp cd o, 3)) (hc : if_acmp.holds cd (some a) (some b) = false) (hp : pc + 3 = pc') (k : Go p e below s n0 rc rs P T (mkF m pc' Ls st)) : Go p e below s n0 rc rs P T (mkF m pc Ls (.ref b :: .ref a :: st)) := by
  obtain ⟨locs, X, eT, N, hn⟩ := X; obtain ⟨hx, hZ, hby, hown, hml, hlk, hrt⟩ := C
  subst hp; exact Go.of (fun t q => XS.acmpNo X.here hx rfl (hb hby hd) rfl hc q) k
theorem Go.acmpV (C : Cx p s m meth c Z bytes own ret maxL) (X : On p l e R s m args below meth c n0 T h cells slots) {o : Int} {cd : ClassFile.ACond} {u v : Value} {same : Bool} (hd : decode bytes pc = .ok (.if_acmp cd o, 3)) (h1 : u.isRef = true) (h2 : v.isRef = true) (hq : decide (u = v) = same) (ho : 0 ≤ (pc : Int) + o) (hp : pc' = if acV cd same = true then ((pc : Int) + o).toNat else pc + 3) (k : Go p e below s n0 rc rs P T (mkF m pc' Ls st)) : Go p e below s n0 rc rs P T (mkF m pc Ls (v :: u :: st)) := by
  obtain ⟨locs, X, eT, N, hn⟩ := X; obtain ⟨hx, hZ, hby, hown, hml, hlk, hrt⟩ := C
  exact Go.of (fun t q => acmp X hx rfl h1 h2 (pc0 := pc) rfl (hb hby hd) rfl hq ho hp q) k
theorem Go.ifnullYes (C : Cx p s m meth c Z bytes own ret maxL) (X : On p l e R s m args below meth c n0 T h cells slots) {o : Int} (hd : decode bytes pc = .ok (.ifnull o, 3)) (ho : 0 ≤ (pc : Int) + o) (hp : ((pc : Int) + o).toNat = pc') (k : Go p e below s n0 rc rs P T (mkF m pc' Ls st)) : Go p e below s n0 rc rs P T (mkF m pc Ls (.null :: st)) := by
  obtain ⟨locs, X, eT, N, hn⟩ := X; obtain ⟨hx, hZ, hby, hown, hml, hlk, hrt⟩ := C
  exact Go.of (fun t q => XS.ifnullYes X.here hx rfl (pc0 := pc) rfl (hb hby hd) rfl ho hp q) k
theorem Go.ifnullNo (C : Cx p s m meth c Z bytes own ret maxL) (X : On p l e R s m args below meth c n0 T h cells slots) {o : Int} {a : Addr} (hd : decode bytes pc = .ok (.ifnull o, 3)) (hp : pc + 3 = pc') (k : Go p e below s n0 rc rs P T (mkF m pc' Ls st)) : Go p e below s n0 rc rs P T (mkF m pc Ls (.ref a :: st)) := by
  obtain ⟨locs, X, eT, N, hn⟩ := X; obtain ⟨hx, hZ, hby, hown, hml, hlk, hrt⟩ := C
  subst hp; exact Go.of (fun t q => XS.ifnullNo X.here hx rfl (hb hby hd) rfl q) k
theorem Go.ifnonnullYes (C : Cx p s m meth c Z bytes own ret maxL) (X : On p l e R s m args below meth c n0 T h cells slots) {o : Int} {a : Addr} (hd : decode bytes pc = .ok (.ifnonnull o, 3)) (ho : 0 ≤ (pc : Int) + o) (hp : ((pc : Int) + o).toNat = pc') (k : Go p e below s n0 rc rs P T (mkF m pc' Ls st)) : Go p e below s n0 rc rs P T (mkF m pc Ls (.ref a :: st)) := by
  obtain ⟨locs, X, eT, N, hn⟩ := X; obtain ⟨hx, hZ, hby, hown, hml, hlk, hrt⟩ := C
  exact Go.of (fun t q => XS.ifnonnullYes X.here hx rfl (pc0 := pc) rfl (hb hby hd) rfl ho hp q) k
theorem Go.ifnonnullNo (C : Cx p s m meth c Z bytes own ret maxL) (X : On p l e R s m args below meth c n0 T h cells slots) {o : Int} (hd : decode bytes pc = .ok (.ifnonnull o, 3)) (hp : pc + 3 = pc') (k : Go p e below s n0 rc rs P T (mkF m pc' Ls st)) : Go p e below s n0 rc rs P T (mkF m pc Ls (.null :: st)) := by
  obtain ⟨locs, X, eT, N, hn⟩ := X; obtain ⟨hx, hZ, hby, hown, hml, hlk, hrt⟩ := C
  subst hp; exact Go.of (fun t q => XS.ifnonnullNo X.here hx rfl (hb hby hd) rfl q) k
theorem Go.lswHit (C : Cx p s m meth c Z bytes own ret maxL) (X : On p l e R s m args below meth c n0 T h cells slots) {dflt : Int} {pairs : Array (Int × Int)} {len : Nat} {x : Int32} {a off : Int} (hd : decode bytes pc = .ok (.lookupswitch dflt pairs, len)) (hs : (pairs.toList.zip (pairs.toList.drop 1)).all (fun (a, next) => a.1 < next.1) = true) (hf : pairs.find? (·.1 == x.toInt) = some (a, off)) (ho : 0 ≤ (pc : Int) + off) (hp : ((pc : Int) + off).toNat = pc') (k : Go p e below s n0 rc rs P T (mkF m pc' Ls st)) : Go p e below s n0 rc rs P T (mkF m pc Ls (.int x :: st)) := by
  obtain ⟨locs, X, eT, N, hn⟩ := X; obtain ⟨hx, hZ, hby, hown, hml, hlk, hrt⟩ := C
  subst hp; exact Go.of (fun t q => X.lookupswitchHit hx (g := mkF m pc Ls (.int x :: st)) rfl rfl (hb hby hd) hs hf ho t q) k
theorem Go.lswMiss (C : Cx p s m meth c Z bytes own ret maxL) (X : On p l e R s m args below meth c n0 T h cells slots) {dflt : Int} {pairs : Array (Int × Int)} {len : Nat} {x : Int32} (hd : decode bytes pc = .ok (.lookupswitch dflt pairs, len)) (hs : (pairs.toList.zip (pairs.toList.drop 1)).all (fun (a, next) => a.1 < next.1) = true) (hf : pairs.find? (·.1 == x.toInt) = none) (ho : 0 ≤ (pc : Int) + dflt) (hp : ((pc : Int) + dflt).toNat = pc') (k : Go p e below s n0 rc rs P T (mkF m pc' Ls st)) : Go p e below s n0 rc rs P T (mkF m pc Ls (.int x :: st)) := by
  obtain ⟨locs, X, eT, N, hn⟩ := X; obtain ⟨hx, hZ, hby, hown, hml, hlk, hrt⟩ := C
  subst hp; exact Go.of (fun t q => X.lookupswitchMiss hx (g := mkF m pc Ls (.int x :: st)) rfl rfl (hb hby hd) hs hf ho t q) k
theorem Go.retV  (C : Cx p s m meth c Z bytes own none maxL) (X : On p l e R s m args below meth c n0 T h cells slots) (hd : decode bytes pc = .ok (.return_, 1)) (hq : P none h) (hc : cells ≤ rc) (hs : slots ≤ rs) : Go p e below s n0 rc rs P T (mkF m pc Ls []) := by
  obtain ⟨locs, X, eT, N, hn⟩ := X; obtain ⟨hx, hZ, hby, hown, hml, hlk, hrt⟩ := C
  obtain ⟨fs, hr, hrun, hended, hW, hsame⟩ := X.leave (v := none) (fun _ => rfl) hlk
  refine ⟨_, _, ?_, hrun, hended, _, _, rfl, ⟨?_, N⟩, ⟨_, rfl⟩, hW, hsame.mono hc hs⟩
  · exact X.returnOut hx hrt (hb hby hd) hr
  · show P _ T.heap; rw [eT]; exact hq
theorem own_retS {locs : List Loc} (X : Stand p l e R s m args below meth c T locs cells slots) (hx : p.tables.exec = Jvm.exec) {z z' : Int32} {t : FieldType} {rest : List Value} (hret : meth.sig.returnType = some t) (hn : narrow t (.int z) = .int z') (hd : decode c.code pc = .ok (.ireturn, 1)) {fs : List Frame}
    (hl : ∀ (f : JFrame) (acts : List Action), f.method = m → f.locked = none → f.entered = [] → (doReturn e (T.setTop f) acts (some (.int z'))).1 = T.setFrames fs) : Steps p.tables e below (T.setTop (mkF m pc Ls (.int z :: rest))) (T.setFrames fs) := by
  have hm' : T.vm.method? m = some meth := X.method'
  show Steps p.tables e below (T.setTop { method := m, pc := pc, locals := Ls, stack := _ :: rest, locked := none }) _
  jvm_step X.here [X.here.top, hx, hd, hm', hret, hn]
  first | (intro acts; rw [hl _ acts rfl rfl rfl]) | rw [hl _ _ rfl rfl rfl]
  exact Steps.refl _
theorem Go.retZ {t : FieldType} (C : Cx p s m meth c Z bytes own (some t) maxL) (X : On p l e R s m args below meth c n0 T h cells slots) {z z' : Int32} (hz : narrow t (.int z) = .int z') (hd : decode bytes pc = .ok (.ireturn, 1)) (hq : P (some (.int z')) h) (hc : cells ≤ rc) (hs : slots ≤ rs) : Go p e below s n0 rc rs P T (mkF m pc Ls (.int z :: st)) := by
  obtain ⟨locs, X, eT, N, hn⟩ := X; obtain ⟨hx, hZ, hby, hown, hml, hlk, hrt⟩ := C
  obtain ⟨fs, hr, hrun, hended, hW, hsame⟩ := X.leave (v := (some (.int z'))) (fun h => by rw [hrt] at h; cases h) hlk
  refine ⟨_, _, ?_, hrun, hended, _, _, rfl, ⟨?_, N⟩, ⟨_, rfl⟩, hW, hsame.mono hc hs⟩
  · exact own_retS X hx hrt hz (hb hby hd) hr
  · show P _ T.heap; rw [eT]; exact hq
theorem Go.retI  (C : Cx p s m meth c Z bytes own (some .int) maxL) (X : On p l e R s m args below meth c n0 T h cells slots) {z : Int32} (hd : decode bytes pc = .ok (.ireturn, 1)) (hq : P (some (.int z)) h) (hc : cells ≤ rc) (hs : slots ≤ rs) : Go p e below s n0 rc rs P T (mkF m pc Ls (.int z :: st)) := by
  obtain ⟨locs, X, eT, N, hn⟩ := X; obtain ⟨hx, hZ, hby, hown, hml, hlk, hrt⟩ := C
  obtain ⟨fs, hr, hrun, hended, hW, hsame⟩ := X.leave (v := (some (.int z))) (fun h => by rw [hrt] at h; cases h) hlk
  refine ⟨_, _, ?_, hrun, hended, _, _, rfl, ⟨?_, N⟩, ⟨_, rfl⟩, hW, hsame.mono hc hs⟩
  · exact own_retS X hx hrt rfl (hb hby hd) hr
  · show P _ T.heap; rw [eT]; exact hq
theorem Go.retL  (C : Cx p s m meth c Z bytes own (some .long) maxL) (X : On p l e R s m args below meth c n0 T h cells slots) {z : Int64} (hd : decode bytes pc = .ok (.lreturn, 1)) (hq : P (some (.long z)) h) (hc : cells ≤ rc) (hs : slots ≤ rs) : Go p e below s n0 rc rs P T (mkF m pc Ls (.long z :: st)) := by
  obtain ⟨locs, X, eT, N, hn⟩ := X; obtain ⟨hx, hZ, hby, hown, hml, hlk, hrt⟩ := C
  obtain ⟨fs, hr, hrun, hended, hW, hsame⟩ := X.leave (v := (some (.long z))) (fun h => by rw [hrt] at h; cases h) hlk
  refine ⟨_, _, ?_, hrun, hended, _, _, rfl, ⟨?_, N⟩, ⟨_, rfl⟩, hW, hsame.mono hc hs⟩
  · jvm_step X.here [X.here.top, hx, (hb hby hd), X.method', hrt, narrow]
    first | (intro acts; rw [hr _ acts rfl rfl rfl]) | rw [hr _ _ rfl rfl rfl]
    exact Steps.refl _
  · show P _ T.heap; rw [eT]; exact hq
theorem Go.retA {cn : String} (C : Cx p s m meth c Z bytes own (some (.object cn)) maxL) (X : On p l e R s m args below meth c n0 T h cells slots) {z : Value} (hz : z.isRef = true) (hd : decode bytes pc = .ok (.areturn, 1)) (hq : P (some z) h) (hc : cells ≤ rc) (hs : slots ≤ rs) : Go p e below s n0 rc rs P T (mkF m pc Ls (z :: st)) := by
  obtain ⟨locs, X, eT, N, hn⟩ := X; obtain ⟨hx, hZ, hby, hown, hml, hlk, hrt⟩ := C
  obtain ⟨fs, hr, hrun, hended, hW, hsame⟩ := X.leave (v := (some z)) (fun h => by rw [hrt] at h; cases h) hlk
  refine ⟨_, _, ?_, hrun, hended, _, _, rfl, ⟨?_, N⟩, ⟨_, rfl⟩, hW, hsame.mono hc hs⟩
  · rcases ref_cases hz with rfl | ⟨a, rfl⟩ <;>
    · jvm_step X.here [X.here.top, hx, (hb hby hd), X.method', hrt, Value.isRef, FieldType.isReference]
      first | (intro acts; rw [hr _ acts rfl rfl rfl]) | rw [hr _ _ rfl rfl rfl]
      exact Steps.refl _
  · show P _ T.heap; rw [eT]; exact hq
theorem Go.retAA {ct : FieldType} (C : Cx p s m meth c Z bytes own (some (.array ct)) maxL) (X : On p l e R s m args below meth c n0 T h cells slots) {z : Value} (hz : z.isRef = true) (hd : decode bytes pc = .ok (.areturn, 1)) (hq : P (some z) h) (hc : cells ≤ rc) (hs : slots ≤ rs) : Go p e below s n0 rc rs P T (mkF m pc Ls (z :: st)) := by
  obtain ⟨locs, X, eT, N, hn⟩ := X; obtain ⟨hx, hZ, hby, hown, hml, hlk, hrt⟩ := C
  obtain ⟨fs, hr, hrun, hended, hW, hsame⟩ := X.leave (v := (some z)) (fun h => by rw [hrt] at h; cases h) hlk
  refine ⟨_, _, ?_, hrun, hended, _, _, rfl, ⟨?_, N⟩, ⟨_, rfl⟩, hW, hsame.mono hc hs⟩
  · rcases ref_cases hz with rfl | ⟨a, rfl⟩ <;>
    · jvm_step X.here [X.here.top, hx, (hb hby hd), X.method', hrt, Value.isRef, FieldType.isReference]
      first | (intro acts; rw [hr _ acts rfl rfl rfl]) | rw [hr _ _ rfl rfl rfl]
      exact Steps.refl _
  · show P _ T.heap; rw [eT]; exact hq
theorem Go.getF (C : Cx p s m meth c Z bytes own ret maxL) (X : On p l e R s m args below meth c n0 T h cells slots) {R0 O n d host : String} {i : Nat} {a : Addr} {v : Value} (w : (Cond.fieldLink own i R0 n d).before a0 Z = true ∨ (Cond.fieldLinkNest own i R0 n d host).before a0 Z = true) (via : Via Z R0 O n d) (F : Fld Z h a O n d v) (hd : decode bytes pc = .ok (.getfield i, 3)) (hp : pc + 3 = pc')
    (k : ∀ T', On p l e R s m args below meth c n0 T' h cells slots → Go p e below s n0 rc rs P T' (mkF m pc' Ls (v :: st))) : Go p e below s n0 rc rs P T (mkF m pc Ls (.ref a :: st)) := by
  obtain ⟨locs, X, eT, N, hn⟩ := X; obtain ⟨hx, hZ, hby, hown, hml, hlk, hrt⟩ := C; subst hp
  obtain ⟨T', X', e', st'⟩ := RoadKit.getF X hx hZ hown w via eT F (g := mkF m pc Ls (.ref a :: st)) rfl rfl (hb hby hd)
  exact Go.of st' (k T' ⟨locs, X', e', N, hn⟩)
theorem Go.getS (C : Cx p s m meth c Z bytes own ret maxL) (X : On p l e R s m args below meth c n0 T h cells slots) {R0 O n d : String} {i : Nat} {v : Value} (w : (Cond.fieldLink own i R0 n d).before a0 Z = true) (via : Via Z R0 O n d) (F : Sta Z h O n d v) (hd : decode bytes pc = .ok (.getstatic i, 3)) (hp : pc + 3 = pc')
    (k : ∀ T', On p l e R s m args below meth c n0 T' h cells slots → Go p e below s n0 rc rs P T' (mkF m pc' Ls (v :: st))) : Go p e below s n0 rc rs P T (mkF m pc Ls st) := by
  obtain ⟨locs, X, eT, N, hn⟩ := X; obtain ⟨hx, hZ, hby, hown, hml, hlk, hrt⟩ := C; subst hp
  obtain ⟨T', X', e', st'⟩ := RoadKit.getS X hx hZ (host := "") hown w via eT F (g := mkF m pc Ls st) rfl (hb hby hd)
  exact Go.of st' (k T' ⟨locs, X', e', N, hn⟩)
theorem Go.putF (C : Cx p s m meth c Z bytes own ret maxL) (X : On p l e R s m args below meth c n0 T h cells slots) {R0 O n d host K : String} {i kk : Nat} {ty : FieldType} {a : Addr} {v old : Value} (w : (Cond.fieldLink own i R0 n d).before a0 Z = true ∨ (Cond.fieldLinkNest own i R0 n d host).before a0 Z = true) (via : Via Z R0 O n d) (F : Fld Z h a O n d old) (E : Exa Z h a K) (L : (Cond.lays K O n d).before a0 Z = true ∨ ((Cond.laysFinal K O n d).before a0 Z = true ∧ own = O ∧ meth.name = "<init>")) (wi : (Cond.instantiable K kk).before a0 Z = true) (ha : n0 ≤ a) (hty : parseFieldDescriptor d = some ty) (hn : narrow ty v = v) (hf : fits ty v = true) (hd : decode bytes pc = .ok (.putfield i, 3)) (hp : pc + 3 = pc')
    (k : ∀ T' h', On p l e R s m args below meth c n0 T' h' cells slots → Wr h h' a (slotOf Z O n d) v → Go p e below s n0 rc rs P T' (mkF m pc' Ls st)) : Go p e below s n0 rc rs P T (mkF m pc Ls (v :: .ref a :: st)) := by
  obtain ⟨locs, X, eT, N, hz⟩ := X; obtain ⟨hx, hZ, hby, hown, hml, hlk, hrt⟩ := C; subst hp
  obtain ⟨T', h', X', e', W, st'⟩ := RoadKit.putF X hx hZ hown w via eT F E L wi hty hn hf (g := mkF m pc Ls (v :: .ref a :: st)) rfl rfl (hb hby hd)
  exact Go.of st' (k T' h' ⟨_, X', e', Fr.snoc X' N ha, by rw [W.size]; exact hz⟩ W)
theorem Go.putFN (C : Cx p s m meth c Z bytes own ret maxL) (X : On p l e R s m args below meth c n0 T h cells slots) {R0 O n d K : String} {i kk : Nat} {ty : FieldType} {a : Addr} {v v' old : Value} (w : (Cond.fieldLink own i R0 n d).before a0 Z = true) (via : Via Z R0 O n d) (F : Fld Z h a O n d old) (E : Exa Z h a K) (L : (Cond.lays K O n d).before a0 Z = true ∨ ((Cond.laysFinal K O n d).before a0 Z = true ∧ own = O ∧ meth.name = "<init>")) (wi : (Cond.instantiable K kk).before a0 Z = true) (ha : n0 ≤ a) (hty : parseFieldDescriptor d = some ty) (hn : narrow ty v = v') (hf : fits ty v' = true) (hd : decode bytes pc = .ok (.putfield i, 3)) (hp : pc + 3 = pc')
    (k : ∀ T' h', On p l e R s m args below meth c n0 T' h' cells slots → Wr h h' a (slotOf Z O n d) v' → Go p e below s n0 rc rs P T' (mkF m pc' Ls st)) : Go p e below s n0 rc rs P T (mkF m pc Ls (v :: .ref a :: st)) := by
  obtain ⟨locs, X, eT, N, hz⟩ := X; obtain ⟨hx, hZ, hby, hown, hml, hlk, hrt⟩ := C; subst hp
  obtain ⟨T', h', X', e', W, st'⟩ := RoadKit.putFN X hx hZ hown w via eT F E L wi hty hn hf (g := mkF m pc Ls (v :: .ref a :: st)) rfl rfl (hb hby hd)
  exact Go.of st' (k T' h' ⟨_, X', e', Fr.snoc X' N ha, by rw [W.size]; exact hz⟩ W)
theorem Go.newO (C : Cx p s m meth c Z bytes own ret maxL) (X : On p l e R s m args below meth c n0 T h cells slots) {K : String} {i kk : Nat} (w : (Cond.classLink own i K).before a0 Z = true) (wi : (Cond.instantiable K kk).before a0 Z = true) (wz : (Cond.initialized K).before a0 Z = true) (hd : decode bytes pc = .ok (.new i, 3)) (hc : cells + 1 ≤ R.cells) (hl : slots + kk ≤ R.slots) (hp : pc + 3 = pc')
    (k : ∀ T' h' a, On p l e R s m args below meth c n0 T' h' (cells + 1) (slots + kk) → a = h.size → Ext h h' → Exa Z h' a K → (∀ {O nm d : String} {ty : FieldType}, Laid Z a0 K O nm d → parseFieldDescriptor d = some ty → Fld Z h' a O nm d (defaultValue ty)) → n0 ≤ a → Go p e below s n0 rc rs P T' (mkF m pc' Ls (.ref a :: st))) : Go p e below s n0 rc rs P T (mkF m pc Ls st) := by
  obtain ⟨locs, X, eT, N, hz⟩ := X; obtain ⟨hx, hZ, hby, hown, hml, hlk, hrt⟩ := C; subst hp
  obtain ⟨T', h', X', e', E, A, D, -, st'⟩ := RoadKit.newO X hx hZ hown w wi wz eT (g := mkF m pc Ls st) rfl (hb hby hd) hc hl
  exact Go.of st' (k T' h' h.size ⟨_, X', e', N, Nat.le_trans hz E.1⟩ rfl E A D hz)
theorem Go.initO (C : Cx p s m meth c Z bytes own ret maxL) (X : On p l e R s m args below meth c n0 T h cells slots) {a : Addr} (hI : ∀ locs, Stand p l e R s m args below meth c T locs cells slots → T.heap = h → ∃ T', Stand p l e R s m args below meth c T' locs cells slots ∧ T'.heap = h ∧ ∀ target, Steps p.tables e below (T'.setTop (mkF m (pc + 3) Ls st)) target → Steps p.tables e below (T.setTop (mkF m pc Ls (.ref a :: st))) target) (hp : pc + 3 = pc')
    (k : ∀ T', On p l e R s m args below meth c n0 T' h cells slots → Go p e below s n0 rc rs P T' (mkF m pc' Ls st)) : Go p e below s n0 rc rs P T (mkF m pc Ls (.ref a :: st)) := by
  obtain ⟨locs, X, eT, N, hz⟩ := X; subst hp
  obtain ⟨T', X', e', st'⟩ := hI locs X eT
  exact Go.of st' (k T' ⟨_, X', e', N, hz⟩)
theorem Go.castY (C : Cx p s m meth c Z bytes own ret maxL) (X : On p l e R s m args below meth c n0 T h cells slots) {K : String} {i : Nat} {a : Addr} (w : (Cond.classLink own i K).before a0 Z = true) (F : Ins Z h a K true) (hd : decode bytes pc = .ok (.checkcast i, 3)) (hp : pc + 3 = pc')
    (k : ∀ T', On p l e R s m args below meth c n0 T' h cells slots → Go p e below s n0 rc rs P T' (mkF m pc' Ls (.ref a :: st))) : Go p e below s n0 rc rs P T (mkF m pc Ls (.ref a :: st)) := by
  obtain ⟨locs, X, eT, N, hn⟩ := X; obtain ⟨hx, hZ, hby, hown, hml, hlk, hrt⟩ := C; subst hp
  obtain ⟨T', X', e', st'⟩ := RoadKit.castY X hx hZ hown w eT F (g := mkF m pc Ls (.ref a :: st)) rfl rfl (hb hby hd)
  exact Go.of st' (k T' ⟨locs, X', e', N, hn⟩)
theorem Go.instY (C : Cx p s m meth c Z bytes own ret maxL) (X : On p l e R s m args below meth c n0 T h cells slots) {K : String} {i : Nat} {a : Addr} (w : (Cond.classLink own i K).before a0 Z = true) (F : Ins Z h a K true) (hd : decode bytes pc = .ok (.instanceof i, 3)) (hp : pc + 3 = pc')
    (k : ∀ T', On p l e R s m args below meth c n0 T' h cells slots → Go p e below s n0 rc rs P T' (mkF m pc' Ls (.int 1 :: st))) : Go p e below s n0 rc rs P T (mkF m pc Ls (.ref a :: st)) := by
  obtain ⟨locs, X, eT, N, hn⟩ := X; obtain ⟨hx, hZ, hby, hown, hml, hlk, hrt⟩ := C; subst hp
  obtain ⟨T', X', e', st'⟩ := RoadKit.instY X hx hZ hown w eT F (g := mkF m pc Ls (.ref a :: st)) rfl rfl (hb hby hd)
  exact Go.of st' (k T' ⟨locs, X', e', N, hn⟩)
def AI (Z : State) (h : Heap) (a : Addr) (ty : FieldType) (n : Nat) (f : Nat → Int32) : Prop := ∃ cl : Cell, Arr Z h a cl ty ∧ cl.slots.size = n ∧ n < 2 ^ 31 ∧ ∀ i, i < n → cl.slots[i]? = some (.int (f i))
def AJ (Z : State) (h : Heap) (a : Addr) (n : Nat) (f : Nat → Int64) : Prop := ∃ cl : Cell, Arr Z h a cl .long ∧ cl.slots.size = n ∧ n < 2 ^ 31 ∧ ∀ i, i < n → cl.slots[i]? = some (.long (f i))
theorem clamp_of {j : Int32} {i : Nat} (hj : j.toInt = (i : Int)) : j.toNatClampNeg = i := by
  show j.toInt.toNat = i
  omega
theorem in_of {j : Int32} {i n : Nat} (hj : j.toInt = (i : Int)) (hi : i < n) {sz : Nat} (hs : sz = n) : ¬ (j < 0 ∨ sz ≤ j.toNatClampNeg) := by
  rw [clamp_of hj]
  intro q
  rcases q with q | q
  · rw [Int32.lt_iff_toInt_lt] at q
    have : (0 : Int32).toInt = 0 := rfl
    omega
  · omega
theorem len32 {z : Int32} {n : Nat} (hz : z.toInt = (n : Int)) : n.toInt32 = z := by
  apply Int32.toInt_inj.mp
  rw [hz]
  have h2 : z.toInt < 2147483648 := z.toInt_lt
  rw [hz] at h2
  exact Int32.toInt_ofNat_of_lt (by omega)
section AFacts
variable {h' : Heap} {a b : Addr} {ty : FieldType} {n sl : Nat} {f : Nat → Int32} {g : Nat → Int64} {v : Value} {ws : List Addr}
theorem AI.lt (F : AI Z h a ty n f) : a < h.size := by obtain ⟨c, A, -⟩ := F; exact A.lt
theorem AI.ext (F : AI Z h a ty n f) (E : Ext h h') : AI Z h' a ty n f := by obtain ⟨c, A, r⟩ := F; exact ⟨c, A.ext E, r⟩
theorem AI.other (F : AI Z h b ty n f) (W : Wr h h' a sl v) (q : b ≠ a) : AI Z h' b ty n f := by obtain ⟨c, A, r⟩ := F; exact ⟨c, A.other W q, r⟩
theorem AI.keep (F : AI Z h a ty n f) (K : Keep h h' ws) (q : a ∉ ws) : AI Z h' a ty n f := by obtain ⟨c, A, r⟩ := F; exact ⟨c, ⟨K.2.1 a c A.1 q, A.2⟩, r⟩
theorem AI.congr {f' : Nat → Int32} (F : AI Z h a ty n f) (q : ∀ i, i < n → f i = f' i) : AI Z h a ty n f' := by
  obtain ⟨c, A, r1, r2, r3⟩ := F; exact ⟨c, A, r1, r2, fun i hi => by rw [r3 i hi, q i hi]⟩
theorem AI.bound (F : AI Z h a ty n f) : n < 2 ^ 31 := by obtain ⟨c, A, r1, r2, r3⟩ := F; exact r2
theorem AI.set {i : Nat} {x : Int32} (F : AI Z h a ty n f) (W : Wr h h' a i (.int x)) : AI Z h' a ty n (fun k => if k = i then x else f k) := by
  obtain ⟨c, A, r1, r2, r3⟩ := F
  refine ⟨_, A.same W, by rw [sz_set]; exact r1, r2, fun k hk => ?_⟩
  by_cases q : k = i
  · subst q; simp [Cell.setSlot, r1, hk]
  · simp only [Cell.setSlot, if_neg q]
    rw [Array.getElem?_setIfInBounds_ne (fun e => q e.symm)]
    exact r3 k hk
theorem AI.new {k : ClassId} {z : Int32} {n : Nat} (hz : z.toInt = (n : Int)) (ht : defaultValue ty = .int 0) (A : Arr Z h a (newA k ty z) ty) : AI Z h a ty n (fun _ => 0) := by
  have h2 : z.toInt < 2147483648 := z.toInt_lt
  refine ⟨_, A, by rw [sz_new, clamp_of hz], by omega, fun i hi => ?_⟩
  simp [newA, clamp_of hz, hi, ht]
theorem AJ.lt (F : AJ Z h a n g) : a < h.size := by obtain ⟨c, A, -⟩ := F; exact A.lt
theorem AJ.ext (F : AJ Z h a n g) (E : Ext h h') : AJ Z h' a n g := by obtain ⟨c, A, r⟩ := F; exact ⟨c, A.ext E, r⟩
theorem AJ.other (F : AJ Z h b n g) (W : Wr h h' a sl v) (q : b ≠ a) : AJ Z h' b n g := by obtain ⟨c, A, r⟩ := F; exact ⟨c, A.other W q, r⟩
theorem AJ.keep (F : AJ Z h a n g) (K : Keep h h' ws) (q : a ∉ ws) : AJ Z h' a n g := by obtain ⟨c, A, r⟩ := F; exact ⟨c, ⟨K.2.1 a c A.1 q, A.2⟩, r⟩
theorem AJ.congr {g' : Nat → Int64} (F : AJ Z h a n g) (q : ∀ i, i < n → g i = g' i) : AJ Z h a n g' := by
  obtain ⟨c, A, r1, r2, r3⟩ := F; exact ⟨c, A, r1, r2, fun i hi => by rw [r3 i hi, q i hi]⟩
theorem AJ.set {i : Nat} {x : Int64} (F : AJ Z h a n g) (W : Wr h h' a i (.long x)) : AJ Z h' a n (fun k => if k = i then x else g k) := by
  obtain ⟨c, A, r1, r2, r3⟩ := F
  refine ⟨_, A.same W, by rw [sz_set]; exact r1, r2, fun k hk => ?_⟩
  by_cases q : k = i
  · subst q; simp [Cell.setSlot, r1, hk]
  · simp only [Cell.setSlot, if_neg q]
    rw [Array.getElem?_setIfInBounds_ne (fun e => q e.symm)]
    exact r3 k hk
theorem AJ.new {k : ClassId} {z : Int32} {n : Nat} (hz : z.toInt = (n : Int)) (A : Arr Z h a (newA k .long z) .long) : AJ Z h a n (fun _ => 0) := by
  have h2 : z.toInt < 2147483648 := z.toInt_lt
  refine ⟨_, A, by rw [sz_new, clamp_of hz], by omega, fun i hi => ?_⟩
  simp [newA, clamp_of hz, hi, defaultValue]
end AFacts
theorem Go.newP (C : Cx p s m meth c Z bytes own ret maxL) (X : On p l e R s m args below meth c n0 T h cells slots) {aty : ArrayType} {z : Int32} {nn cap : Nat} (w : (Cond.arrayClass (newarray.typeOf aty)).before a0 Z = true) (hd : decode bytes pc = .ok (.newarray aty, 2)) (hz : z.toInt = (nn : Int)) (hcap : nn ≤ cap) (hbig : cap * 8 ≤ 536870912) (hc : cells + 1 ≤ R.cells) (hl : slots + cap ≤ R.slots) (hp : pc + 2 = pc')
    (k : ∀ T' h' a cA, On p l e R s m args below meth c n0 T' h' (cells + 1) (slots + cap) → a = h.size → Ext h h' → Arr Z h' a (newA cA (newarray.typeOf aty) z) (newarray.typeOf aty) → n0 ≤ a → Go p e below s n0 rc rs P T' (mkF m pc' Ls (.ref a :: st))) : Go p e below s n0 rc rs P T (mkF m pc Ls (.int z :: st)) := by
  obtain ⟨locs, X, eT, N, hn⟩ := X; obtain ⟨hx, hZ, hby, hown, hml, hlk, hrt⟩ := C; subst hp
  obtain ⟨T', h', cA, X', e', E, A, st'⟩ := RoadKit.newP X hx hZ w eT (g := mkF m pc Ls (.int z :: st)) rfl (hb hby hd) rfl (by rw [Int32.lt_iff_toInt_lt]; have : (0 : Int32).toInt = 0 := rfl; omega) (cap := cap) (by rw [clamp_of hz]; exact hcap) hbig hc hl
  exact Go.of st' (k T' h' h.size cA ⟨_, X', e', N, Nat.le_trans hn E.1⟩ rfl E A hn)
theorem Go.alenI (C : Cx p s m meth c Z bytes own ret maxL) (X : On p l e R s m args below meth c n0 T h cells slots) {a : Addr} {ty : FieldType} {n : Nat} {f : Nat → Int32} {z : Int32} (A : AI Z h a ty n f) (hz : z.toInt = (n : Int)) (hd : decode bytes pc = .ok (.arraylength, 1)) (hp : pc + 1 = pc') (k : Go p e below s n0 rc rs P T (mkF m pc' Ls (.int z :: st))) : Go p e below s n0 rc rs P T (mkF m pc Ls (.ref a :: st)) := by
  obtain ⟨locs, X, eT, N, hn⟩ := X; obtain ⟨hx, hZ, hby, hown, hml, hlk, hrt⟩ := C; subst hp
  obtain ⟨cl, A, r1, r2, r3⟩ := A
  refine Go.of (fun t q => X.arraylength hx (by rw [eT]; exact A.1) (State.isArrayOf_alike hZ.alike A.2.1) (g := mkF m pc Ls (.ref a :: st)) rfl rfl (hb hby hd) t ?_) k
  rw [r1, len32 hz]; exact q
theorem Go.alenJ (C : Cx p s m meth c Z bytes own ret maxL) (X : On p l e R s m args below meth c n0 T h cells slots) {a : Addr} {n : Nat} {f : Nat → Int64} {z : Int32} (A : AJ Z h a n f) (hz : z.toInt = (n : Int)) (hd : decode bytes pc = .ok (.arraylength, 1)) (hp : pc + 1 = pc') (k : Go p e below s n0 rc rs P T (mkF m pc' Ls (.int z :: st))) : Go p e below s n0 rc rs P T (mkF m pc Ls (.ref a :: st)) := by
  obtain ⟨locs, X, eT, N, hn⟩ := X; obtain ⟨hx, hZ, hby, hown, hml, hlk, hrt⟩ := C; subst hp
  obtain ⟨cl, A, r1, r2, r3⟩ := A
  refine Go.of (fun t q => X.arraylength hx (by rw [eT]; exact A.1) (State.isArrayOf_alike hZ.alike A.2.1) (g := mkF m pc Ls (.ref a :: st)) rfl rfl (hb hby hd) t ?_) k
  rw [r1, len32 hz]; exact q
theorem Go.iaload (C : Cx p s m meth c Z bytes own ret maxL) (X : On p l e R s m args below meth c n0 T h cells slots) {a : Addr} {n : Nat} {f : Nat → Int32} {j : Int32} {i : Nat} {w : Int32} (A : AI Z h a .int n f) (hj : j.toInt = (i : Int)) (hi : i < n) (hw : f i = w) (hd : decode bytes pc = .ok (.iaload, 1)) (hp : pc + 1 = pc') (k : Go p e below s n0 rc rs P T (mkF m pc' Ls (.int w :: st))) : Go p e below s n0 rc rs P T (mkF m pc Ls (.int j :: .ref a :: st)) := by
  obtain ⟨locs, X, eT, N, hn⟩ := X; obtain ⟨hx, hZ, hby, hown, hml, hlk, hrt⟩ := C; subst hp hw
  obtain ⟨cl, A, r1, r2, r3⟩ := A
  exact Go.of (fun t q => X.iaload hx (j := j) (v := .int (f i)) (by rw [eT]; exact A.1) (State.isArrayOf_alike hZ.alike A.2.1) A.2.2 (in_of hj hi r1) (by rw [clamp_of hj]; exact r3 i hi) (g := mkF m pc Ls (.int j :: .ref a :: st)) rfl rfl (hb hby hd) t q) k
theorem Go.baload (C : Cx p s m meth c Z bytes own ret maxL) (X : On p l e R s m args below meth c n0 T h cells slots) {a : Addr} {n : Nat} {f : Nat → Int32} {j : Int32} {i : Nat} {w : Int32} (A : AI Z h a .byte n f) (hj : j.toInt = (i : Int)) (hi : i < n) (hw : f i = w) (hd : decode bytes pc = .ok (.baload, 1)) (hp : pc + 1 = pc') (k : Go p e below s n0 rc rs P T (mkF m pc' Ls (.int w :: st))) : Go p e below s n0 rc rs P T (mkF m pc Ls (.int j :: .ref a :: st)) := by
  obtain ⟨locs, X, eT, N, hn⟩ := X; obtain ⟨hx, hZ, hby, hown, hml, hlk, hrt⟩ := C; subst hp hw
  obtain ⟨cl, A, r1, r2, r3⟩ := A
  exact Go.of (fun t q => X.baloadBytes hx (j := j) (v := .int (f i)) (by rw [eT]; exact A.1) (State.isArrayOf_alike hZ.alike A.2.1) A.2.2 (in_of hj hi r1) (by rw [clamp_of hj]; exact r3 i hi) (g := mkF m pc Ls (.int j :: .ref a :: st)) rfl rfl (hb hby hd) t q) k
theorem Go.zaload (C : Cx p s m meth c Z bytes own ret maxL) (X : On p l e R s m args below meth c n0 T h cells slots) {a : Addr} {n : Nat} {f : Nat → Int32} {j : Int32} {i : Nat} {w : Int32} (A : AI Z h a .boolean n f) (hj : j.toInt = (i : Int)) (hi : i < n) (hw : f i = w) (hd : decode bytes pc = .ok (.baload, 1)) (hp : pc + 1 = pc') (k : Go p e below s n0 rc rs P T (mkF m pc' Ls (.int w :: st))) : Go p e below s n0 rc rs P T (mkF m pc Ls (.int j :: .ref a :: st)) := by
  obtain ⟨locs, X, eT, N, hn⟩ := X; obtain ⟨hx, hZ, hby, hown, hml, hlk, hrt⟩ := C; subst hp hw
  obtain ⟨cl, A, r1, r2, r3⟩ := A
  exact Go.of (fun t q => X.baloadBooleans hx (j := j) (v := .int (f i)) (by rw [eT]; exact A.1) (State.isArrayOf_alike hZ.alike A.2.1) A.2.2 (in_of hj hi r1) (by rw [clamp_of hj]; exact r3 i hi) (g := mkF m pc Ls (.int j :: .ref a :: st)) rfl rfl (hb hby hd) t q) k
theorem Go.caload (C : Cx p s m meth c Z bytes own ret maxL) (X : On p l e R s m args below meth c n0 T h cells slots) {a : Addr} {n : Nat} {f : Nat → Int32} {j : Int32} {i : Nat} {w : Int32} (A : AI Z h a .char n f) (hj : j.toInt = (i : Int)) (hi : i < n) (hw : f i = w) (hd : decode bytes pc = .ok (.caload, 1)) (hp : pc + 1 = pc') (k : Go p e below s n0 rc rs P T (mkF m pc' Ls (.int w :: st))) : Go p e below s n0 rc rs P T (mkF m pc Ls (.int j :: .ref a :: st)) := by
  obtain ⟨locs, X, eT, N, hn⟩ := X; obtain ⟨hx, hZ, hby, hown, hml, hlk, hrt⟩ := C; subst hp hw
  obtain ⟨cl, A, r1, r2, r3⟩ := A
  exact Go.of (fun t q => X.caload hx (j := j) (v := .int (f i)) (by rw [eT]; exact A.1) (State.isArrayOf_alike hZ.alike A.2.1) A.2.2 (in_of hj hi r1) (by rw [clamp_of hj]; exact r3 i hi) (g := mkF m pc Ls (.int j :: .ref a :: st)) rfl rfl (hb hby hd) t q) k
theorem Go.laload (C : Cx p s m meth c Z bytes own ret maxL) (X : On p l e R s m args below meth c n0 T h cells slots) {a : Addr} {n : Nat} {f : Nat → Int64} {j : Int32} {i : Nat} {w : Int64} (A : AJ Z h a n f) (hj : j.toInt = (i : Int)) (hi : i < n) (hw : f i = w) (hd : decode bytes pc = .ok (.laload, 1)) (hp : pc + 1 = pc') (k : Go p e below s n0 rc rs P T (mkF m pc' Ls (.long w :: st))) : Go p e below s n0 rc rs P T (mkF m pc Ls (.int j :: .ref a :: st)) := by
  obtain ⟨locs, X, eT, N, hn⟩ := X; obtain ⟨hx, hZ, hby, hown, hml, hlk, hrt⟩ := C; subst hp hw
  obtain ⟨cl, A, r1, r2, r3⟩ := A
  exact Go.of (fun t q => X.laload hx (j := j) (v := .long (f i)) (by rw [eT]; exact A.1) (State.isArrayOf_alike hZ.alike A.2.1) A.2.2 (in_of hj hi r1) (by rw [clamp_of hj]; exact r3 i hi) (g := mkF m pc Ls (.int j :: .ref a :: st)) rfl rfl (hb hby hd) t q) k
theorem Go.iastore (C : Cx p s m meth c Z bytes own ret maxL) (X : On p l e R s m args below meth c n0 T h cells slots) {a : Addr} {n : Nat} {f : Nat → Int32} {j x x' : Int32} {i : Nat} (A : AI Z h a .int n f) (hj : j.toInt = (i : Int)) (hi : i < n) (hv : x = x') (ha : n0 ≤ a) (hd : decode bytes pc = .ok (.iastore, 1)) (hp : pc + 1 = pc')
    (k : ∀ T' h', On p l e R s m args below meth c n0 T' h' cells slots → Wr h h' a i (.int x') → AI Z h' a .int n (fun q => if q = i then x' else f q) → Go p e below s n0 rc rs P T' (mkF m pc' Ls st)) : Go p e below s n0 rc rs P T (mkF m pc Ls (.int x :: .int j :: .ref a :: st)) := by
  obtain ⟨locs, X, eT, N, hn⟩ := X; obtain ⟨hx, hZ, hby, hown, hml, hlk, hrt⟩ := C; subst hp hv
  obtain ⟨cl, A', r1, r2, r3⟩ := id A
  obtain ⟨T', h', X', e', W, st'⟩ := RoadKit.stI X hx hZ eT A' (in_of hj hi r1) (g := mkF m pc Ls (.int x :: .int j :: .ref a :: st)) rfl rfl (hb hby hd)
  have N' := Fr.snoc X' N ha
  rw [clamp_of hj] at W
  exact Go.of st' (k T' h' ⟨_, X', e', N', by rw [W.size]; exact hn⟩ W (A.set W))
theorem Go.bastore (C : Cx p s m meth c Z bytes own ret maxL) (X : On p l e R s m args below meth c n0 T h cells slots) {a : Addr} {n : Nat} {f : Nat → Int32} {j x x' : Int32} {i : Nat} (A : AI Z h a .byte n f) (hj : j.toInt = (i : Int)) (hi : i < n) (hv : nar .byte x = x') (ha : n0 ≤ a) (hd : decode bytes pc = .ok (.bastore, 1)) (hp : pc + 1 = pc')
    (k : ∀ T' h', On p l e R s m args below meth c n0 T' h' cells slots → Wr h h' a i (.int x') → AI Z h' a .byte n (fun q => if q = i then x' else f q) → Go p e below s n0 rc rs P T' (mkF m pc' Ls st)) : Go p e below s n0 rc rs P T (mkF m pc Ls (.int x :: .int j :: .ref a :: st)) := by
  obtain ⟨locs, X, eT, N, hn⟩ := X; obtain ⟨hx, hZ, hby, hown, hml, hlk, hrt⟩ := C; subst hp hv
  obtain ⟨cl, A', r1, r2, r3⟩ := id A
  obtain ⟨T', h', X', e', W, st'⟩ := RoadKit.stB X hx hZ eT A' (in_of hj hi r1) (g := mkF m pc Ls (.int x :: .int j :: .ref a :: st)) rfl rfl (hb hby hd)
  have N' := Fr.snoc X' N ha
  rw [clamp_of hj] at W
  exact Go.of st' (k T' h' ⟨_, X', e', N', by rw [W.size]; exact hn⟩ W (A.set W))
theorem Go.castore (C : Cx p s m meth c Z bytes own ret maxL) (X : On p l e R s m args below meth c n0 T h cells slots) {a : Addr} {n : Nat} {f : Nat → Int32} {j x x' : Int32} {i : Nat} (A : AI Z h a .char n f) (hj : j.toInt = (i : Int)) (hi : i < n) (hv : nar .char x = x') (ha : n0 ≤ a) (hd : decode bytes pc = .ok (.castore, 1)) (hp : pc + 1 = pc')
    (k : ∀ T' h', On p l e R s m args below meth c n0 T' h' cells slots → Wr h h' a i (.int x') → AI Z h' a .char n (fun q => if q = i then x' else f q) → Go p e below s n0 rc rs P T' (mkF m pc' Ls st)) : Go p e below s n0 rc rs P T (mkF m pc Ls (.int x :: .int j :: .ref a :: st)) := by
  obtain ⟨locs, X, eT, N, hn⟩ := X; obtain ⟨hx, hZ, hby, hown, hml, hlk, hrt⟩ := C; subst hp hv
  obtain ⟨cl, A', r1, r2, r3⟩ := id A
  obtain ⟨T', h', X', e', W, st'⟩ := RoadKit.stC X hx hZ eT A' (in_of hj hi r1) (g := mkF m pc Ls (.int x :: .int j :: .ref a :: st)) rfl rfl (hb hby hd)
  have N' := Fr.snoc X' N ha
  rw [clamp_of hj] at W
  exact Go.of st' (k T' h' ⟨_, X', e', N', by rw [W.size]; exact hn⟩ W (A.set W))
theorem Go.zastore (C : Cx p s m meth c Z bytes own ret maxL) (X : On p l e R s m args below meth c n0 T h cells slots) {a : Addr} {n : Nat} {f : Nat → Int32} {j x x' : Int32} {i : Nat} (A : AI Z h a .boolean n f) (hj : j.toInt = (i : Int)) (hi : i < n) (hv : nar .boolean x = x') (ha : n0 ≤ a) (hd : decode bytes pc = .ok (.bastore, 1)) (hp : pc + 1 = pc')
    (k : ∀ T' h', On p l e R s m args below meth c n0 T' h' cells slots → Wr h h' a i (.int x') → AI Z h' a .boolean n (fun q => if q = i then x' else f q) → Go p e below s n0 rc rs P T' (mkF m pc' Ls st)) : Go p e below s n0 rc rs P T (mkF m pc Ls (.int x :: .int j :: .ref a :: st)) := by
  obtain ⟨locs, X, eT, N, hn⟩ := X; obtain ⟨hx, hZ, hby, hown, hml, hlk, hrt⟩ := C; subst hp hv
  obtain ⟨cl, A', r1, r2, r3⟩ := id A
  obtain ⟨T', h', X', e', W, st'⟩ := RoadKit.stZ X hx hZ eT A' (in_of hj hi r1) (g := mkF m pc Ls (.int x :: .int j :: .ref a :: st)) rfl rfl (hb hby hd)
  have N' := Fr.snoc X' N ha
  rw [clamp_of hj] at W
  exact Go.of st' (k T' h' ⟨_, X', e', N', by rw [W.size]; exact hn⟩ W (A.set W))
theorem Go.lastore (C : Cx p s m meth c Z bytes own ret maxL) (X : On p l e R s m args below meth c n0 T h cells slots) {a : Addr} {n : Nat} {f : Nat → Int64} {j : Int32} {x : Int64} {i : Nat} (A : AJ Z h a n f) (hj : j.toInt = (i : Int)) (hi : i < n) (ha : n0 ≤ a) (hd : decode bytes pc = .ok (.lastore, 1)) (hp : pc + 1 = pc')
    (k : ∀ T' h', On p l e R s m args below meth c n0 T' h' cells slots → Wr h h' a i (.long x) → AJ Z h' a n (fun q => if q = i then x else f q) → Go p e below s n0 rc rs P T' (mkF m pc' Ls st)) : Go p e below s n0 rc rs P T (mkF m pc Ls (.long x :: .int j :: .ref a :: st)) := by
  obtain ⟨locs, X, eT, N, hn⟩ := X; obtain ⟨hx, hZ, hby, hown, hml, hlk, hrt⟩ := C; subst hp
  obtain ⟨cl, A', r1, r2, r3⟩ := id A
  obtain ⟨T', h', X', e', W, st'⟩ := RoadKit.stJ X hx hZ eT A' (in_of hj hi r1) (g := mkF m pc Ls (.long x :: .int j :: .ref a :: st)) rfl rfl (hb hby hd)
  have N' := Fr.snoc X' N ha
  rw [clamp_of hj] at W
  exact Go.of st' (k T' h' ⟨_, X', e', N', by rw [W.size]; exact hn⟩ W (A.set W))
def AR (Z : State) (h : Heap) (a : Addr) (ty : FieldType) (n : Nat) (f : Nat → Value) : Prop := ∃ cl : Cell, Arr Z h a cl ty ∧ cl.slots.size = n ∧ n < 2 ^ 31 ∧ (∀ i, i < n → cl.slots[i]? = some (f i)) ∧ FitC Z cl
theorem AR.lt {a : Addr} {ty : FieldType} {n : Nat} {f : Nat → Value} (F : AR Z h a ty n f) : a < h.size := by obtain ⟨c, A, -⟩ := F; exact A.lt
theorem AR.ext {h' : Heap} {a : Addr} {ty : FieldType} {n : Nat} {f : Nat → Value} (F : AR Z h a ty n f) (E : Ext h h') : AR Z h' a ty n f := by obtain ⟨c, A, r⟩ := F; exact ⟨c, A.ext E, r⟩
theorem AR.other {h' : Heap} {a b : Addr} {sl : Nat} {v : Value} {ty : FieldType} {n : Nat} {f : Nat → Value} (F : AR Z h b ty n f) (W : Wr h h' a sl v) (q : b ≠ a) : AR Z h' b ty n f := by obtain ⟨c, A, r⟩ := F; exact ⟨c, A.other W q, r⟩
theorem AR.keep {h' : Heap} {a : Addr} {ws : List Addr} {ty : FieldType} {n : Nat} {f : Nat → Value} (F : AR Z h a ty n f) (K : Keep h h' ws) (q : a ∉ ws) : AR Z h' a ty n f := by obtain ⟨c, A, r⟩ := F; exact ⟨c, ⟨K.2.1 a c A.1 q, A.2⟩, r⟩
theorem Go.alenR (C : Cx p s m meth c Z bytes own ret maxL) (X : On p l e R s m args below meth c n0 T h cells slots) {a : Addr} {ty : FieldType} {n : Nat} {f : Nat → Value} {z : Int32} (A : AR Z h a ty n f) (hz : z.toInt = (n : Int)) (hd : decode bytes pc = .ok (.arraylength, 1)) (hp : pc + 1 = pc') (k : Go p e below s n0 rc rs P T (mkF m pc' Ls (.int z :: st))) : Go p e below s n0 rc rs P T (mkF m pc Ls (.ref a :: st)) := by
  obtain ⟨locs, X, eT, N, hn⟩ := X; obtain ⟨hx, hZ, hby, hown, hml, hlk, hrt⟩ := C; subst hp
  obtain ⟨cl, A, r1, r2, r3⟩ := A
  refine Go.of (fun t q => X.arraylength hx (by rw [eT]; exact A.1) (State.isArrayOf_alike hZ.alike A.2.1) (g := mkF m pc Ls (.ref a :: st)) rfl rfl (hb hby hd) t ?_) k
  rw [r1, len32 hz]; exact q
theorem Go.aaload (C : Cx p s m meth c Z bytes own ret maxL) (X : On p l e R s m args below meth c n0 T h cells slots) {a : Addr} {ty : FieldType} {n : Nat} {f : Nat → Value} {j : Int32} {i : Nat} {w : Value} (A : AR Z h a ty n f) (hty : ty.isReference = true) (hj : j.toInt = (i : Int)) (hi : i < n) (hw : f i = w) (hd : decode bytes pc = .ok (.aaload, 1)) (hp : pc + 1 = pc') (k : Go p e below s n0 rc rs P T (mkF m pc' Ls (w :: st))) : Go p e below s n0 rc rs P T (mkF m pc Ls (.int j :: .ref a :: st)) := by
  obtain ⟨locs, X, eT, N, hn⟩ := X; obtain ⟨hx, hZ, hby, hown, hml, hlk, hrt⟩ := C; subst hp hw
  obtain ⟨cl, A, r1, r2, r3, r4⟩ := A
  exact Go.of (fun t q => X.aaload hx (j := j) (v := f i) (by rw [eT]; exact A.1) (State.isArrayOf_alike hZ.alike A.2.1) hty A.2.2 (in_of hj hi r1) (by rw [clamp_of hj]; exact r3 i hi) (g := mkF m pc Ls (.int j :: .ref a :: st)) rfl rfl (hb hby hd) t q) k
theorem Go.cloneA (C : Cx p s m meth c Z bytes own ret maxL) (X : On p l e R s m args below meth c n0 T h cells slots) {ad : String} {i : Nat} {a : Addr} {ty : FieldType} {n W cap : Nat} {f : Nat → Value}
    (w1 : (Cond.methodLink own i ⟨ad, "clone", "()Ljava/lang/Object;"⟩).before a0 Z = true) (w2 : (Cond.sameMethod ad "java/lang/Object" "clone" "()Ljava/lang/Object;").before a0 Z = true) (w3 : (Cond.native ⟨"java/lang/Object", "clone", "()Ljava/lang/Object;"⟩).before a0 Z = true)
    (w4 : (Cond.instanceMethod ⟨"java/lang/Object", "clone", "()Ljava/lang/Object;"⟩).before a0 Z = true) (w5 : (Cond.selects ad ⟨ad, "clone", "()Ljava/lang/Object;"⟩ ⟨"java/lang/Object", "clone", "()Ljava/lang/Object;"⟩).before a0 Z = true) (w6 : (Cond.castable ad "java/lang/Cloneable").before a0 Z = true)
    (A : AR Z h a ty n f) (E : Exa Z h a ad) (hsz : Ls.size = maxL) (hd : decode bytes pc = .ok (.invokevirtual i, 3)) (hf : 1 ≤ R.frames) (hW : (st.map fun v => v.category).sum ≤ W) (hl : W + 14 ≤ R.locals) (hcap : n ≤ cap) (hc : cells + 1 ≤ R.cells) (hsl : slots + cap ≤ R.slots) (hp : pc + 3 = pc')
    (k : ∀ T' h' b, On p l e R s m args below meth c n0 T' h' (cells + 1) (slots + cap) → b = h.size → Ext h h' → AR Z h' b ty n f → Exa Z h' b ad → n0 ≤ b → Go p e below s n0 rc rs P T' (mkF m pc' Ls (.ref b :: st))) : Go p e below s n0 rc rs P T (mkF m pc Ls (.ref a :: st)) := by
  obtain ⟨locs, X, eT, N, hn⟩ := X; obtain ⟨hx, hZ, hby, hown, hml, hlk, hrt⟩ := C; subst hp
  obtain ⟨cl, A, r1, r2, r3, r4⟩ := A
  obtain ⟨T', h', X', e', ex, A', E', st'⟩ := RoadKit.cloneA X hx hZ hown w1 w2 w3 w4 w5 w6 eT A E r4 (g := mkF m pc Ls (.ref a :: st)) rfl (by rw [hml]; exact hsz) rfl (hb hby hd) hf (W := W) (cap := cap) (by simpa using hW) hl (by rw [r1]; exact hcap) hc hsl
  exact Go.of st' (k T' h' h.size ⟨_, X', e', N, Nat.le_trans hn ex.1⟩ rfl ex ⟨cloneOf cl, A', r1, r2, r3, r4⟩ E' hn)
theorem Go.callS (C : Cx p s m meth c Z bytes own ret maxL) (X : On p l e R s m args below meth c n0 T h cells slots) {y : MethodName} {cb : ByteArray} {cm : Nat} {cr : Option FieldType} {rm : Room} {as' : Array Value} {P' : Option Value → Heap → Prop} {i W : Nat} {argsL rest : List Value} (K : Con l Z y cb cm cr rm as' h n0 P') (w1 : (Cond.methodLink own i y).before a0 Z = true) (w2 : (Cond.static y).before a0 Z = true) (w3 : (Cond.initialized y.cls).before a0 Z = true) (w4 : (Cond.code y cb cm cr).before a0 Z = true) (hy : y.cls ≠ "java/lang/invoke/MethodHandle" ∧ y.cls ≠ "java/lang/invoke/VarHandle")
    (has : argsL.toArray = as') (hst : st = argsL.reverse ++ rest) (hlen : ∀ sig, parseMethodDescriptor y.desc = some sig → argsL.length = sig.parameters.length) (hsz : Ls.size = maxL) (hW : (rest.map fun v => v.category).sum ≤ W) (hf : rm.frames + 1 ≤ R.frames) (hlo : W + (cm + 11) + rm.locals ≤ R.locals) (hce : cells + rm.cells ≤ R.cells) (hsl : slots + rm.slots ≤ R.slots) (hd : decode bytes pc = .ok (.invokestatic i, 3)) (hp : pc + 3 = pc')
    (hgrow : ∀ v h', P' v h' → h.size ≤ h'.size)
    (k : ∀ T' h' v, On p l e R s m args below meth c n0 T' h' (cells + rm.cells) (slots + rm.slots) → P' v h' → Go p e below s n0 rc rs P T' (mkF m pc' Ls (v.toList ++ rest))) : Go p e below s n0 rc rs P T (mkF m pc Ls st) := by
  obtain ⟨locs, X, eT, N, hn⟩ := X; obtain ⟨hx, hZ, hby, hown, hml, hlk, hrt⟩ := C; subst hp has hst
  obtain ⟨v, _, ⟨T', L', k', n'⟩, -, X', ⟨Lc, hQ, l', y', z'⟩, st'⟩ := Jvm.LawKit.callS X hx (y := y) hown (mvT hZ w1) (mvT hZ w2) (mvT hZ w3) (mvT hZ w4) hy (K.back (W := W) hZ w4 w3 hf hlo) (g := mkF m pc Ls (argsL.reverse ++ rest)) rfl (by rw [hml]; exact hsz) (argsL := argsL) (rest := rest) hlen rfl (by simpa using hW) (hb hby hd) (fun _ _ => ⟨rfl, eT, hce, hsl⟩)
  dsimp only [Pt.U, Pt.locs, Pt.cells, Pt.slots] at X' l' y' z' st' hQ
  subst l' y' z'
  exact Go.of st' (k T' _ v ⟨_, X', rfl, Fr.app N hQ.2, Nat.le_trans hn (hgrow _ _ hQ.1)⟩ hQ.1)
theorem Go.callI (C : Cx p s m meth c Z bytes own ret maxL) (X : On p l e R s m args below meth c n0 T h cells slots) {y : MethodName} {cb : ByteArray} {cm : Nat} {cr : Option FieldType} {rm : Room} {as' : Array Value} {P' : Option Value → Heap → Prop} {i W : Nat} {argsL rest : List Value} (K : Con l Z y cb cm cr rm as' h n0 P') {a : Addr} (hy1 : y.name = "<init>") (hcr : cr = none) (w1 : (Cond.methodLink own i y).before a0 Z = true) (w2 : (Cond.instanceMethod y).before a0 Z = true) (w3 : (Cond.initialized y.cls).before a0 Z = true) (w4 : (Cond.code y cb cm cr).before a0 Z = true) (hy : y.cls ≠ "java/lang/invoke/MethodHandle" ∧ y.cls ≠ "java/lang/invoke/VarHandle")
    (has : (.ref a :: argsL).toArray = as') (hst : st = argsL.reverse ++ .ref a :: rest) (hlen : ∀ sig, parseMethodDescriptor y.desc = some sig → argsL.length = sig.parameters.length) (hsz : Ls.size = maxL) (hW : (rest.map fun v => v.category).sum ≤ W) (hf : rm.frames + 1 ≤ R.frames) (hlo : W + (cm + 11) + rm.locals ≤ R.locals) (hce : cells + rm.cells ≤ R.cells) (hsl : slots + rm.slots ≤ R.slots) (hd : decode bytes pc = .ok (.invokespecial i, 3)) (hp : pc + 3 = pc')
    (hgrow : ∀ v h', P' v h' → h.size ≤ h'.size)
    (k : ∀ T' h' v, On p l e R s m args below meth c n0 T' h' (cells + rm.cells) (slots + rm.slots) → P' v h' → Go p e below s n0 rc rs P T' (mkF m pc' Ls (v.toList ++ rest))) : Go p e below s n0 rc rs P T (mkF m pc Ls st) := by
  obtain ⟨locs, X, eT, N, hn⟩ := X; obtain ⟨hx, hZ, hby, hown, hml, hlk, hrt⟩ := C; subst hp has hst hcr
  obtain ⟨v, _, ⟨T', L', k', n'⟩, -, X', ⟨Lc, hQ, l', y', z'⟩, st'⟩ := X.specialBack hx (y := y) hy1 hown (mvT hZ w1) (mvT hZ w2) (mvT hZ w4) hy (K.back (W := W) hZ w4 w3 hf hlo) (g := mkF m pc Ls (argsL.reverse ++ .ref a :: rest)) rfl (by rw [hml]; exact hsz) (Steps.refl _) (a := a) (argsL := argsL) (rest := rest) hlen rfl (by simpa using hW) (hb hby hd) (fun _ _ => ⟨rfl, eT, hce, hsl⟩)
  dsimp only [Pt.U, Pt.locs, Pt.cells, Pt.slots] at X' l' y' z' st' hQ
  subst l' y' z'
  exact Go.tr st' (k T' _ v ⟨_, X', rfl, Fr.app N hQ.2, Nat.le_trans hn (hgrow _ _ hQ.1)⟩ hQ.1)
theorem Go.callV (C : Cx p s m meth c Z bytes own ret maxL) (X : On p l e R s m args below meth c n0 T h cells slots) {y : MethodName} {cb : ByteArray} {cm : Nat} {cr : Option FieldType} {rm : Room} {as' : Array Value} {P' : Option Value → Heap → Prop} {i W : Nat} {argsL rest : List Value} (K : Con l Z y cb cm cr rm as' h n0 P') {y0 : MethodName} {a : Addr} {Ck : String} (E : Exa Z h a Ck) (nf : NotFace s y0) (w1 : (Cond.methodLink own i y0).before a0 Z = true) (w2 : (Cond.declares y0).before a0 Z = true) (w5 : (Cond.selects Ck y0 y).before a0 Z = true) (w6 : (Cond.instanceMethod y).before a0 Z = true) (w3 : (Cond.initialized y.cls).before a0 Z = true) (w4 : (Cond.code y cb cm cr).before a0 Z = true) (hy : y0.cls ≠ "java/lang/invoke/MethodHandle" ∧ y0.cls ≠ "java/lang/invoke/VarHandle")
    (has : (.ref a :: argsL).toArray = as') (hst : st = argsL.reverse ++ .ref a :: rest) (hlen : ∀ sig, parseMethodDescriptor y0.desc = some sig → argsL.length = sig.parameters.length) (hsz : Ls.size = maxL) (hW : (rest.map fun v => v.category).sum ≤ W) (hf : rm.frames + 1 ≤ R.frames) (hlo : W + (cm + 11) + rm.locals ≤ R.locals) (hce : cells + rm.cells ≤ R.cells) (hsl : slots + rm.slots ≤ R.slots) (hd : decode bytes pc = .ok (.invokevirtual i, 3)) (hp : pc + 3 = pc')
    (hgrow : ∀ v h', P' v h' → h.size ≤ h'.size)
    (k : ∀ T' h' v, On p l e R s m args below meth c n0 T' h' (cells + rm.cells) (slots + rm.slots) → P' v h' → Go p e below s n0 rc rs P T' (mkF m pc' Ls (v.toList ++ rest))) : Go p e below s n0 rc rs P T (mkF m pc Ls st) := by
  obtain ⟨locs, X, eT, N, hn⟩ := X; obtain ⟨hx, hZ, hby, hown, hml, hlk, hrt⟩ := C; subst hp has hst
  obtain ⟨cq, kq, qa, qb, qc⟩ := isOf hZ eT E
  obtain ⟨v, _, ⟨T', L', k', n'⟩, -, X', ⟨Lc, hQ, l', y', z'⟩, st'⟩ := X.virtualBack hx (y := y0) (z := y) hown (mvT hZ w1) (mvT hZ w2) nf (mvT hZ w5) (mvT hZ w6) hy (K.back (W := W) hZ w4 w3 hf hlo) qa qc (g := mkF m pc Ls (argsL.reverse ++ .ref a :: rest)) rfl (by rw [hml]; exact hsz) (Steps.refl _) (argsL := argsL) (rest := rest) hlen rfl (by simpa using hW) (hb hby hd) (fun _ _ => ⟨rfl, eT, hce, hsl⟩)
  dsimp only [Pt.U, Pt.locs, Pt.cells, Pt.slots] at X' l' y' z' st' hQ
  subst l' y' z'
  exact Go.tr st' (k T' _ v ⟨_, X', rfl, Fr.app N hQ.2, Nat.le_trans hn (hgrow _ _ hQ.1)⟩ hQ.1)
theorem own_selp {y : MethodName} {kk : Nat} (hZ : Z.Warmed39 s.vm) (wi : (Cond.instantiable y.cls kk).before a0 Z = true) (w2 : (Cond.instanceMethod y).before a0 Z = true) (w6 : (Cond.privateMethod y).before a0 Z = true) (hy : y.cls ≠ "java/lang/invoke/MethodHandle" ∧ y.cls ≠ "java/lang/invoke/VarHandle") : (Cond.selects y.cls y y).before args s = true := by
  have wi' : (Cond.instantiable y.cls kk).before args s = true := mvT hZ wi
  obtain ⟨c2, k2, i1, i2, i3, i4, -⟩ := Cond.instantiable_spec wi'
  exact Jvm.Stand.selects_self_of_private i1 i2 (by simp only [Bool.or_eq_false_iff] at i4; exact i4.1) (Cond.privateMethod_at (mvP hZ w6 (args := #[]))) (mvT hZ w2) hy
theorem Go.callP (C : Cx p s m meth c Z bytes own ret maxL) (X : On p l e R s m args below meth c n0 T h cells slots) {y : MethodName} {cb : ByteArray} {cm : Nat} {cr : Option FieldType} {rm : Room} {as' : Array Value} {P' : Option Value → Heap → Prop} {i W : Nat} {argsL rest : List Value} (K : Con l Z y cb cm cr rm as' h n0 P') {a : Addr} {Ck : String} (E : Exa Z h a Ck) (w1 : (Cond.methodLink own i y).before a0 Z = true) (w2 : (Cond.instanceMethod y).before a0 Z = true) {kk : Nat} (w5 : (Cond.instantiable y.cls kk).before a0 Z = true) (w6 : (Cond.privateMethod y).before a0 Z = true) (w3 : (Cond.initialized y.cls).before a0 Z = true) (w4 : (Cond.code y cb cm cr).before a0 Z = true) (hy : y.cls ≠ "java/lang/invoke/MethodHandle" ∧ y.cls ≠ "java/lang/invoke/VarHandle")
    (has : (.ref a :: argsL).toArray = as') (hst : st = argsL.reverse ++ .ref a :: rest) (hlen : ∀ sig, parseMethodDescriptor y.desc = some sig → argsL.length = sig.parameters.length) (hsz : Ls.size = maxL) (hW : (rest.map fun v => v.category).sum ≤ W) (hf : rm.frames + 1 ≤ R.frames) (hlo : W + (cm + 11) + rm.locals ≤ R.locals) (hce : cells + rm.cells ≤ R.cells) (hsl : slots + rm.slots ≤ R.slots) (hd : decode bytes pc = .ok (.invokevirtual i, 3)) (hp : pc + 3 = pc')
    (hgrow : ∀ v h', P' v h' → h.size ≤ h'.size)
    (k : ∀ T' h' v, On p l e R s m args below meth c n0 T' h' (cells + rm.cells) (slots + rm.slots) → P' v h' → Go p e below s n0 rc rs P T' (mkF m pc' Ls (v.toList ++ rest))) : Go p e below s n0 rc rs P T (mkF m pc Ls st) := by
  obtain ⟨locs, X, eT, N, hn⟩ := X; obtain ⟨hx, hZ, hby, hown, hml, hlk, hrt⟩ := C; subst hp has hst
  obtain ⟨cq, qa, qb⟩ := E.cell
  obtain ⟨v, _, ⟨T', L', k', n'⟩, -, X', ⟨Lc, hQ, l', y', z'⟩, st'⟩ := X.privateBack hx (y := y) hown (mvT hZ w1) (mvT hZ w2) (own_selp hZ w5 w2 w6 hy) (Cond.privateMethod_at (mvP hZ w6 (args := #[]))) (mvT hZ w4) hy (K.back (W := W) hZ w4 w3 hf hlo) (g := mkF m pc Ls (argsL.reverse ++ .ref a :: rest)) rfl (by rw [hml]; exact hsz) (Steps.refl _) (a := a) (by rw [eT]; exact qa) qb (argsL := argsL) (rest := rest) hlen rfl (by simpa using hW) (hb hby hd) (fun _ _ => ⟨rfl, eT, hce, hsl⟩)
  dsimp only [Pt.U, Pt.locs, Pt.cells, Pt.slots] at X' l' y' z' st' hQ
  subst l' y' z'
  exact Go.tr st' (k T' _ v ⟨_, X', rfl, Fr.app N hQ.2, Nat.le_trans hn (hgrow _ _ hQ.1)⟩ hQ.1)
end Own
end Jvm.RoadKit
namespace Jvm.RoadKit
theorem own_iadd {x y : Int32} (h1 : -2147483648 ≤ x.toInt + y.toInt) (h2 : x.toInt + y.toInt < 2147483648) : (x + y).toInt = x.toInt + y.toInt := by
  have h3 := c_iadd x y; have h4 := rng32 (x + y); omega
theorem own_isub {x y : Int32} (h1 : -2147483648 ≤ x.toInt - y.toInt) (h2 : x.toInt - y.toInt < 2147483648) : (x - y).toInt = x.toInt - y.toInt := by
  have h3 := c_isub x y; have h4 := rng32 (x - y); omega
theorem own_imul {x y : Int32} (h1 : -2147483648 ≤ x.toInt * y.toInt) (h2 : x.toInt * y.toInt < 2147483648) : (x * y).toInt = x.toInt * y.toInt := by
  have h3 := c_imul x y; have h4 := rng32 (x * y); omega
theorem own_ladd {x y : Int64} (h1 : -9223372036854775808 ≤ x.toInt + y.toInt) (h2 : x.toInt + y.toInt < 9223372036854775808) : (x + y).toInt = x.toInt + y.toInt := by
  have h3 := c_ladd x y; have h4 := rng64 (x + y); omega
theorem own_lsub {x y : Int64} (h1 : -9223372036854775808 ≤ x.toInt - y.toInt) (h2 : x.toInt - y.toInt < 9223372036854775808) : (x - y).toInt = x.toInt - y.toInt := by
  have h3 := c_lsub x y; have h4 := rng64 (x - y); omega
theorem own_lmul {x y : Int64} (h1 : -9223372036854775808 ≤ x.toInt * y.toInt) (h2 : x.toInt * y.toInt < 9223372036854775808) : (x * y).toInt = x.toInt * y.toInt := by
  have h3 := c_lmul x y; have h4 := rng64 (x * y); omega
theorem own_ilt {x y : Int32} : x < y ↔ x.toInt < y.toInt := Int32.lt_iff_toInt_lt
theorem own_jlt {x y : Int64} : x < y ↔ x.toInt < y.toInt := Int64.lt_iff_toInt_lt
theorem own_ieq {x y : Int32} : x = y ↔ x.toInt = y.toInt := Int32.toInt_inj.symm
theorem own_jeq {x y : Int64} : x = y ↔ x.toInt = y.toInt := Int64.toInt_inj.symm
theorem own_nilt {x y : Int32} (h : ¬ x < y) : ¬ x.toInt < y.toInt := fun q => h (own_ilt.mpr q)
theorem own_njlt {x y : Int64} (h : ¬ x < y) : ¬ x.toInt < y.toInt := fun q => h (own_jlt.mpr q)
theorem own_nieq {x y : Int32} (h : ¬ x = y) : ¬ x.toInt = y.toInt := fun q => h (own_ieq.mpr q)
theorem own_njeq {x y : Int64} (h : ¬ x = y) : ¬ x.toInt = y.toInt := fun q => h (own_jeq.mpr q)
theorem own_inc {x y : Int32} (h : x < y) : (x + (1 : Int32)).toInt = x.toInt + 1 := by
  rw [own_ilt] at h
  have h1 := rng32 x; have h2 := rng32 y
  have e : (1 : Int32).toInt = 1 := rfl
  rw [own_iadd (by omega) (by omega), e]
theorem own_dec {x y : Int32} (h : y < x) : (x + (-1 : Int32)).toInt = x.toInt - 1 := by
  rw [own_ilt] at h
  have h1 := rng32 x; have h2 := rng32 y
  have e : (-1 : Int32).toInt = -1 := rfl
  rw [own_iadd (by omega) (by omega), e]; omega
theorem own_nat32 {x : Int32} {n : Nat} (h : x.toInt = (n : Int)) : x = Int32.ofNat n := by
  apply Int32.toInt_inj.mp
  have := rng32 x
  rw [Int32.toInt_ofNat_of_lt (by omega), h]
theorem own_pos31 (x : Int32) : 0 ≤ (x &&& (2147483647 : Int32)).toInt := by
  have h := c_mask x 2147483647 31 (by decide) (by decide)
  rw [h]; exact Int.emod_nonneg _ (by decide)
theorem own_mod (x : Int32) (k : Int32) (d : Int) (hk : k.toInt = d) (hd : 0 < d) : ((x &&& (2147483647 : Int32)) % k).toInt = (x &&& (2147483647 : Int32)).toInt % d ∧ 0 ≤ ((x &&& (2147483647 : Int32)) % k).toInt ∧ ((x &&& (2147483647 : Int32)) % k).toInt < d := by
  have h := (c_irem (x &&& (2147483647 : Int32)) k d hk).1 (own_pos31 x)
  exact ⟨h, by rw [h]; exact Int.emod_nonneg _ (by omega), by rw [h]; exact Int.emod_lt_of_pos _ hd⟩
theorem own_upd {R : Int32 → Prop} {f : Nat → Int32} {x : Int32} {i : Nat} (h : ∀ q, R (f q)) (hx : R x) : ∀ q, R ((fun q => if q = i then x else f q) q) := fun q => by
  by_cases e : q = i
  · simp only [if_pos e]; exact hx
  · simp only [if_neg e]; exact h q
theorem own_i2b (x : Int32) : -128 ≤ (x.toInt8.toInt32).toInt ∧ (x.toInt8.toInt32).toInt ≤ 127 := by have := c_i2b x; omega
theorem own_b2 (x : Int32) : x.toInt8.toInt32.toInt8.toInt32 = x.toInt8.toInt32 := by rw [Int8.toInt8_toInt32]
theorem own_and3 (x : Int32) : x &&& (3 : Int32) = 0 ∨ x &&& (3 : Int32) = 1 ∨ x &&& (3 : Int32) = 2 ∨ x &&& (3 : Int32) = 3 := by
  have h := c_mask x 3 2 (by decide) (by decide)
  have z0 : (0 : Int32).toInt = 0 := rfl
  have z1 : (1 : Int32).toInt = 1 := rfl
  have z2 : (2 : Int32).toInt = 2 := rfl
  have z3 : (3 : Int32).toInt = 3 := rfl
  have h1 : ((2 ^ 2 : Nat) : Int) = 4 := rfl
  rw [h1] at h
  rw [own_ieq, own_ieq, own_ieq, own_ieq, z0, z1, z2, z3]
  omega
theorem own_and1 (x : Int32) : x &&& (1 : Int32) = 0 ∨ x &&& (1 : Int32) = 1 := by
  have h := c_mask x 1 1 (by decide) (by decide)
  have z0 : (0 : Int32).toInt = 0 := rfl
  have z1 : (1 : Int32).toInt = 1 := rfl
  have h1 : ((2 ^ 1 : Nat) : Int) = 2 := rfl
  rw [h1] at h
  rw [own_ieq, own_ieq, z0, z1]
  omega
end Jvm.RoadKit
namespace Jvm.Pilot.@@N@@
open Jvm Jvm.ClassFile Sem Op Lib Jvm.Free Jvm.Stand Jvm.LawKit Jvm.RoadKit Bundle Jvm.Pilot.@@N@@.Jvm.D
theorem own_pn0 : plainName "com/example/ruleweave/ruleweave/store/Records" = true := by first | (simp [plainName, overriddenIn]; done) | decide +kernel
theorem own_ef_rm_init (m : MethodId) (x0 : Addr) (x1 : Int32) : entryFrame m #[(.ref x0), (.int x1)] 2 = mkF m 0 #[.val (.ref x0), .val (.int x1)] [] := by first | (simp [entryFrame, mkF, argsToLocals, Value.category]; done) | rfl
theorem d1_0 : decode prog_16_method_1_code 0 = .ok (.aload_n 0, 1) := by decide +kernel
theorem d1_1 : decode prog_16_method_1_code 1 = .ok (.invokespecial 3, 3) := by decide +kernel
theorem d1_4 : decode prog_16_method_1_code 4 = .ok (.aload_n 0, 1) := by decide +kernel
theorem d1_5 : decode prog_16_method_1_code 5 = .ok (.iload_n 1, 1) := by decide +kernel
theorem d1_6 : decode prog_16_method_1_code 6 = .ok (.putfield 9, 3) := by decide +kernel
theorem d1_9 : decode prog_16_method_1_code 9 = .ok (.aload_n 0, 1) := by decide +kernel
theorem d1_10 : decode prog_16_method_1_code 10 = .ok (.iload_n 1, 1) := by decide +kernel
theorem d1_11 : decode prog_16_method_1_code 11 = .ok (.sipush 1024, 3) := by decide +kernel
theorem d1_14 : decode prog_16_method_1_code 14 = .ok (.imul, 1) := by decide +kernel
theorem d1_15 : decode prog_16_method_1_code 15 = .ok (.newarray .int, 2) := by decide +kernel
theorem d1_17 : decode prog_16_method_1_code 17 = .ok (.putfield 15, 3) := by decide +kernel
theorem d1_20 : decode prog_16_method_1_code 20 = .ok (.return_, 1) := by decide +kernel
set_option maxRecDepth 65536 in
set_option maxHeartbeats 40000000 in
theorem rm_init (l : Launch) (Z : State) (a0 : Array Value) (hw : ∀ d ∈ tables_1, d.before a0 Z = true) (a : Addr) (w : Int32) (nn : Nat) (h0 : Heap) (n0 : Nat) (Z0 : n0 ≤ h0.size) (f0 : Exa Z h0 a "com/example/ruleweave/ruleweave/store/Records") (f1 : Fld Z h0 a "com/example/ruleweave/ruleweave/store/Records" "width" "I" (.int (0 : Int32))) (f2 : Fld Z h0 a "com/example/ruleweave/ruleweave/store/Records" "ints" "[I" .null) (f3 : Fld Z h0 a "com/example/ruleweave/ruleweave/store/Records" "size" "I" (.int (0 : Int32))) (f4 : n0 ≤ a) (hnn : (w * (1024 : Int32)).toInt = (nn : Int)) (hcap : nn ≤ 2048) :
    Con l Z (⟨"com/example/ruleweave/ruleweave/store/Records", "<init>", "(I)V"⟩ : MethodName) prog_16_method_1_code 2 none ({ frames := 1, cells := 1, slots := 2048, locals := 12 } : Room) #[(.ref a), (.int w)] h0 n0 (fun rv hv => ∃ t : Addr, rv = none ∧ h0.size ≤ t ∧ Keep h0 hv [a] ∧ Exa Z hv a "com/example/ruleweave/ruleweave/store/Records" ∧ Fld Z hv a "com/example/ruleweave/ruleweave/store/Records" "width" "I" (.int w) ∧ Fld Z hv a "com/example/ruleweave/ruleweave/store/Records" "ints" "[I" (.ref t) ∧ Fld Z hv a "com/example/ruleweave/ruleweave/store/Records" "size" "I" (.int (0 : Int32)) ∧ AI Z hv t .int nn (fun _ => 0)) := by
  refine Con.enter (plainFor_of_name own_pn0) Z0 ?_
  intro p e s m below meth c T0 C hnm X0
  refine Go.cast (own_ef_rm_init m a w) ?_
  refine Go.aloadN C X0 (pc' := 1) d1_0 rfl rfl rfl ?_
  refine Go.initO C X0 (pc' := 4) (fun locs X eT => RoadKit.initO X C.1 C.2.1 C.2.2.2.1 (hw _ (List.mem_of_getElem? (i := 7) rfl)) (hw _ (List.mem_of_getElem? (i := 8) rfl)) (hw _ (List.mem_of_getElem? (i := 9) rfl)) eT (g := (mkF m 1 #[.val (.ref a), .val (.int w)] [(.ref a)])) rfl (by rw [C.2.2.2.2.1]; rfl) rfl (hb C.2.2.1 d1_1) (by decide) (W := 0) (by show 2 * 0 + _ ≤ _; exact Nat.le_of_eq rfl) (by decide)) rfl (fun T1 X1 => ?_)
  refine Go.aloadN C X1 (pc' := 5) d1_4 rfl rfl rfl ?_
  refine Go.iloadN C X1 (pc' := 6) d1_5 rfl rfl ?_
  refine Go.putF C X1 (pc' := 9) (host := "") (Or.inl (hw _ (List.mem_of_getElem? (i := 10) rfl))) Via.refl f1 f0 (Or.inr ⟨(hw _ (List.mem_of_getElem? (i := 11) rfl)), rfl, hnm⟩) (hw _ (List.mem_of_getElem? (i := 2) rfl)) f4 (ty := .int) (by decide) rfl rfl d1_6 rfl (fun T2 h2 X2 W2 => ?_)
  have Fw2 := f1.same W2
  have K3 : Keep h0 h2 [a] := (Keep.refl h0 [a]).wr W2 (Or.inl (List.mem_of_getElem? (i := 0) rfl))
  have E4 := f0.wr W2
  have F5 := f2.other W2 (Or.inr (slot_ne (Or.inl (hw _ (List.mem_of_getElem? (i := 13) rfl))) (Or.inr (hw _ (List.mem_of_getElem? (i := 11) rfl))) (by decide) (t := (.array .int)) (t' := .int) (by decide) (by decide)))
  have F6 := f3.other W2 (Or.inr (slot_ne (Or.inl (hw _ (List.mem_of_getElem? (i := 22) rfl))) (Or.inr (hw _ (List.mem_of_getElem? (i := 11) rfl))) (by decide) (t := .int) (t' := .int) (by decide) (by decide)))
  refine Go.aloadN C X2 (pc' := 10) d1_9 rfl rfl rfl ?_
  refine Go.iloadN C X2 (pc' := 11) d1_10 rfl rfl ?_
  refine Go.sipush C X2 (pc' := 14) (v := (1024 : Int32)) d1_11 rfl rfl ?_
  refine Go.imul C X2 (pc' := 15) d1_14 rfl ?_
  refine Go.newP C X2 (pc' := 17) (nn := nn) (cap := 2048) (hw _ (List.mem_of_getElem? (i := 0) rfl)) d1_15 hnn hcap (by decide) (by decide) (by decide) rfl (fun T7 h7 b7 k7 X7 g7 E7 Ar7 N7 => ?_)
  have ne_a_b7 : a ≠ b7 := Nat.ne_of_lt (Nat.lt_of_lt_of_eq E4.lt g7.symm)
  have Q7 : h0.size ≤ b7 := Nat.le_trans K3.1 (Nat.le_of_eq g7.symm)
  have K8 : Keep h0 h7 [a] := K3.ext E7
  have E9 := E4.ext E7
  have F10 := F5.ext E7
  have F11 := F6.ext E7
  have F12 := Fw2.ext E7
  have A7 : AI Z h7 b7 .int nn (fun _ => 0) := AI.new hnn rfl Ar7
  refine Go.putF C X7 (pc' := 20) (host := "") (Or.inl (hw _ (List.mem_of_getElem? (i := 12) rfl))) Via.refl F10 E9 (Or.inl (hw _ (List.mem_of_getElem? (i := 13) rfl))) (hw _ (List.mem_of_getElem? (i := 2) rfl)) f4 (ty := (.array .int)) (by decide) rfl rfl d1_17 rfl (fun T13 h13 X13 W13 => ?_)
  have Fw13 := F10.same W13
  have K14 : Keep h0 h13 [a] := K8.wr W13 (Or.inl (List.mem_of_getElem? (i := 0) rfl))
  have E15 := E9.wr W13
  have F16 := F11.other W13 (Or.inr (slot_ne (Or.inl (hw _ (List.mem_of_getElem? (i := 22) rfl))) (Or.inl (hw _ (List.mem_of_getElem? (i := 13) rfl))) (by decide) (t := .int) (t' := (.array .int)) (by decide) (by decide)))
  have F17 := F12.other W13 (Or.inr (slot_ne (Or.inr (hw _ (List.mem_of_getElem? (i := 11) rfl))) (Or.inl (hw _ (List.mem_of_getElem? (i := 13) rfl))) (by decide) (t := .int) (t' := (.array .int)) (by decide) (by decide)))
  have A18 := A7.other W13 (Ne.symm ne_a_b7)
  exact Go.retV C X13 d1_20 ⟨b7, rfl, Q7, K14, E15, F17, Fw13, F16, A18⟩ (by decide) (by decide)
theorem own_ef_rm_add (m : MethodId) (x0 : Addr) (x1 : Int32) : entryFrame m #[(.ref x0), (.int x1)] 2 = mkF m 0 #[.val (.ref x0), .val (.int x1)] [] := by first | (simp [entryFrame, mkF, argsToLocals, Value.category]; done) | rfl
theorem d6_0 : decode prog_16_method_2_code 0 = .ok (.aload_n 0, 1) := by decide +kernel
theorem d6_1 : decode prog_16_method_2_code 1 = .ok (.getfield 19, 3) := by decide +kernel
theorem d6_4 : decode prog_16_method_2_code 4 = .ok (.aload_n 0, 1) := by decide +kernel
theorem d6_5 : decode prog_16_method_2_code 5 = .ok (.getfield 15, 3) := by decide +kernel
theorem d6_8 : decode prog_16_method_2_code 8 = .ok (.arraylength, 1) := by decide +kernel
theorem d6_9 : decode prog_16_method_2_code 9 = .ok (.if_icmp .ne 76, 3) := by decide +kernel
theorem d6_85 : decode prog_16_method_2_code 85 = .ok (.aload_n 0, 1) := by decide +kernel
theorem d6_86 : decode prog_16_method_2_code 86 = .ok (.getfield 15, 3) := by decide +kernel
theorem d6_89 : decode prog_16_method_2_code 89 = .ok (.aload_n 0, 1) := by decide +kernel
theorem d6_90 : decode prog_16_method_2_code 90 = .ok (.dup, 1) := by decide +kernel
theorem d6_91 : decode prog_16_method_2_code 91 = .ok (.getfield 19, 3) := by decide +kernel
theorem d6_94 : decode prog_16_method_2_code 94 = .ok (.dup_x1, 1) := by decide +kernel
theorem d6_95 : decode prog_16_method_2_code 95 = .ok (.iconst 1, 1) := by decide +kernel
theorem d6_96 : decode prog_16_method_2_code 96 = .ok (.iadd, 1) := by decide +kernel
theorem d6_97 : decode prog_16_method_2_code 97 = .ok (.putfield 19, 3) := by decide +kernel
theorem d6_100 : decode prog_16_method_2_code 100 = .ok (.iload_n 1, 1) := by decide +kernel
theorem d6_101 : decode prog_16_method_2_code 101 = .ok (.iastore, 1) := by decide +kernel
theorem d6_102 : decode prog_16_method_2_code 102 = .ok (.return_, 1) := by decide +kernel
set_option maxRecDepth 65536 in
set_option maxHeartbeats 40000000 in
theorem rm_add (l : Launch) (Z : State) (a0 : Array Value) (hw : ∀ d ∈ tables_1, d.before a0 Z = true) (a : Addr) (v : Int32) (t : Addr) (n : Nat) (f : Nat → Int32) (k : Int32) (i : Nat) (z : Int32) (w : Int32) (h0 : Heap) (n0 : Nat) (Z0 : n0 ≤ h0.size) (f0 : Exa Z h0 a "com/example/ruleweave/ruleweave/store/Records") (f1 : Fld Z h0 a "com/example/ruleweave/ruleweave/store/Records" "width" "I" (.int w)) (f2 : Fld Z h0 a "com/example/ruleweave/ruleweave/store/Records" "ints" "[I" (.ref t)) (f3 : Fld Z h0 a "com/example/ruleweave/ruleweave/store/Records" "size" "I" (.int k)) (f4 : n0 ≤ a) (f5 : n0 ≤ t) (f6 : AI Z h0 t .int n f) (f7 : t ≠ a) (hz : z.toInt = (n : Int)) (hk : k.toInt = (i : Int)) (hi : i < n) :
    Con l Z (⟨"com/example/ruleweave/ruleweave/store/Records", "add", "(I)V"⟩ : MethodName) prog_16_method_2_code 2 none ({ frames := 0, cells := 0, slots := 0, locals := 0 } : Room) #[(.ref a), (.int v)] h0 n0 (fun rv hv => rv = none ∧ Keep h0 hv [a, t] ∧ Exa Z hv a "com/example/ruleweave/ruleweave/store/Records" ∧ Fld Z hv a "com/example/ruleweave/ruleweave/store/Records" "width" "I" (.int w) ∧ Fld Z hv a "com/example/ruleweave/ruleweave/store/Records" "ints" "[I" (.ref t) ∧ Fld Z hv a "com/example/ruleweave/ruleweave/store/Records" "size" "I" (.int (k + (1 : Int32))) ∧ AI Z hv t .int n (fun q => if q = i then v else f q)) := by
  refine Con.enter (plainFor_of_name own_pn0) Z0 ?_
  intro p e s m below meth c T0 C hnm X0
  refine Go.cast (own_ef_rm_add m a v) ?_
  refine Go.aloadN C X0 (pc' := 1) d6_0 rfl rfl rfl ?_
  refine Go.getF C X0 (pc' := 4) (host := "") (Or.inl (hw _ (List.mem_of_getElem? (i := 21) rfl))) Via.refl f3 d6_1 rfl (fun T19 X19 => ?_)
  refine Go.aloadN C X19 (pc' := 5) d6_4 rfl rfl rfl ?_
  refine Go.getF C X19 (pc' := 8) (host := "") (Or.inl (hw _ (List.mem_of_getElem? (i := 12) rfl))) Via.refl f2 d6_5 rfl (fun T20 X20 => ?_)
  refine Go.alenI C X20 (pc' := 9) (z := z) f6 hz d6_8 rfl ?_
  refine Go.icmpYes C X20 (pc' := 85) d6_9 (feq (fun q : k = z => by rw [q, hz] at hk; omega)).2 (by decide) (by decide) ?_
  refine Go.aloadN C X20 (pc' := 86) d6_85 rfl rfl rfl ?_
  refine Go.getF C X20 (pc' := 89) (host := "") (Or.inl (hw _ (List.mem_of_getElem? (i := 12) rfl))) Via.refl f2 d6_86 rfl (fun T21 X21 => ?_)
  refine Go.aloadN C X21 (pc' := 90) d6_89 rfl rfl rfl ?_
  refine Go.dup C X21 (pc' := 91) d6_90 rfl rfl ?_
  refine Go.getF C X21 (pc' := 94) (host := "") (Or.inl (hw _ (List.mem_of_getElem? (i := 21) rfl))) Via.refl f3 d6_91 rfl (fun T22 X22 => ?_)
  refine Go.dup_x1 C X22 (pc' := 95) d6_94 rfl rfl rfl ?_
  refine Go.iconst C X22 (pc' := 96) (v := (1 : Int32)) d6_95 rfl rfl ?_
  refine Go.iadd C X22 (pc' := 97) d6_96 rfl ?_
  refine Go.putF C X22 (pc' := 100) (host := "") (Or.inl (hw _ (List.mem_of_getElem? (i := 21) rfl))) Via.refl f3 f0 (Or.inl (hw _ (List.mem_of_getElem? (i := 22) rfl))) (hw _ (List.mem_of_getElem? (i := 2) rfl)) f4 (ty := .int) (by decide) rfl rfl d6_97 rfl (fun T23 h23 X23 W23 => ?_)
  have Fw23 := f3.same W23
  have K24 : Keep h0 h23 [a, t] := (Keep.refl h0 [a, t]).wr W23 (Or.inl (List.mem_of_getElem? (i := 0) rfl))
  have E25 := f0.wr W23
  have F26 := f1.other W23 (Or.inr (slot_ne (Or.inr (hw _ (List.mem_of_getElem? (i := 11) rfl))) (Or.inl (hw _ (List.mem_of_getElem? (i := 22) rfl))) (by decide) (t := .int) (t' := .int) (by decide) (by decide)))
  have F27 := f2.other W23 (Or.inr (slot_ne (Or.inl (hw _ (List.mem_of_getElem? (i := 13) rfl))) (Or.inl (hw _ (List.mem_of_getElem? (i := 22) rfl))) (by decide) (t := (.array .int)) (t' := .int) (by decide) (by decide)))
  have A28 := f6.other W23 f7
  refine Go.iloadN C X23 (pc' := 101) d6_100 rfl rfl ?_
  refine Go.iastore C X23 (pc' := 102) (i := i) (x' := v) A28 hk hi rfl f5 d6_101 rfl (fun T29 h29 X29 W29 A29 => ?_)
  have K30 : Keep h0 h29 [a, t] := K24.wr W29 (Or.inl (List.mem_of_getElem? (i := 1) rfl))
  have E31 := E25.wr W29
  have F32 := F26.other W29 (Or.inl (Ne.symm f7))
  have F33 := F27.other W29 (Or.inl (Ne.symm f7))
  have F34 := Fw23.other W29 (Or.inl (Ne.symm f7))
  exact Go.retV C X29 d6_102 ⟨rfl, K30, E31, F32, F33, F34, A29⟩ (by decide) (by decide)
theorem own_ef_rm_get (m : MethodId) (x0 : Addr) (x1 : Int32) (x2 : Int32) : entryFrame m #[(.ref x0), (.int x1), (.int x2)] 3 = mkF m 0 #[.val (.ref x0), .val (.int x1), .val (.int x2)] [] := by first | (simp [entryFrame, mkF, argsToLocals, Value.category]; done) | rfl
theorem d7_0 : decode prog_16_method_5_code 0 = .ok (.aload_n 0, 1) := by decide +kernel
theorem d7_1 : decode prog_16_method_5_code 1 = .ok (.getfield 15, 3) := by decide +kernel
theorem d7_4 : decode prog_16_method_5_code 4 = .ok (.iload_n 1, 1) := by decide +kernel
theorem d7_5 : decode prog_16_method_5_code 5 = .ok (.aload_n 0, 1) := by decide +kernel
theorem d7_6 : decode prog_16_method_5_code 6 = .ok (.getfield 9, 3) := by decide +kernel
theorem d7_9 : decode prog_16_method_5_code 9 = .ok (.imul, 1) := by decide +kernel
theorem d7_10 : decode prog_16_method_5_code 10 = .ok (.iload_n 2, 1) := by decide +kernel
theorem d7_11 : decode prog_16_method_5_code 11 = .ok (.iadd, 1) := by decide +kernel
theorem d7_12 : decode prog_16_method_5_code 12 = .ok (.iaload, 1) := by decide +kernel
theorem d7_13 : decode prog_16_method_5_code 13 = .ok (.ireturn, 1) := by decide +kernel
set_option maxRecDepth 65536 in
set_option maxHeartbeats 40000000 in
theorem rm_get (l : Launch) (Z : State) (a0 : Array Value) (hw : ∀ d ∈ tables_1, d.before a0 Z = true) (a : Addr) (r : Int32) (j : Int32) (t : Addr) (n : Nat) (f : Nat → Int32) (w : Int32) (i : Nat) (h0 : Heap) (n0 : Nat) (Z0 : n0 ≤ h0.size) (f0 : Fld Z h0 a "com/example/ruleweave/ruleweave/store/Records" "width" "I" (.int w)) (f1 : Fld Z h0 a "com/example/ruleweave/ruleweave/store/Records" "ints" "[I" (.ref t)) (f2 : AI Z h0 t .int n f) (hk : ((r * w) + j).toInt = (i : Int)) (hi : i < n) :
    Con l Z (⟨"com/example/ruleweave/ruleweave/store/Records", "get", "(II)I"⟩ : MethodName) prog_16_method_5_code 3 (some .int) ({ frames := 0, cells := 0, slots := 0, locals := 0 } : Room) #[(.ref a), (.int r), (.int j)] h0 n0 (fun rv hv => rv = some (.int (f i)) ∧ h0 = hv) := by
  refine Con.enter (plainFor_of_name own_pn0) Z0 ?_
  intro p e s m below meth c T0 C hnm X0
  refine Go.cast (own_ef_rm_get m a r j) ?_
  refine Go.aloadN C X0 (pc' := 1) d7_0 rfl rfl rfl ?_
  refine Go.getF C X0 (pc' := 4) (host := "") (Or.inl (hw _ (List.mem_of_getElem? (i := 12) rfl))) Via.refl f1 d7_1 rfl (fun T35 X35 => ?_)
  refine Go.iloadN C X35 (pc' := 5) d7_4 rfl rfl ?_
  refine Go.aloadN C X35 (pc' := 6) d7_5 rfl rfl rfl ?_
  refine Go.getF C X35 (pc' := 9) (host := "") (Or.inl (hw _ (List.mem_of_getElem? (i := 10) rfl))) Via.refl f0 d7_6 rfl (fun T36 X36 => ?_)
  refine Go.imul C X36 (pc' := 10) d7_9 rfl ?_
  refine Go.iloadN C X36 (pc' := 11) d7_10 rfl rfl ?_
  refine Go.iadd C X36 (pc' := 12) d7_11 rfl ?_
  refine Go.iaload C X36 (pc' := 13) (i := i) (w := (f i)) f2 hk hi rfl d7_12 rfl ?_
  exact Go.retI C X36 d7_13 ⟨rfl, rfl⟩ (by decide) (by decide)
theorem own_ef_rm_cnt (m : MethodId) (x0 : Addr) : entryFrame m #[(.ref x0)] 1 = mkF m 0 #[.val (.ref x0)] [] := by first | (simp [entryFrame, mkF, argsToLocals, Value.category]; done) | rfl
theorem d4_0 : decode prog_16_method_4_code 0 = .ok (.aload_n 0, 1) := by decide +kernel
theorem d4_1 : decode prog_16_method_4_code 1 = .ok (.getfield 19, 3) := by decide +kernel
theorem d4_4 : decode prog_16_method_4_code 4 = .ok (.aload_n 0, 1) := by decide +kernel
theorem d4_5 : decode prog_16_method_4_code 5 = .ok (.getfield 9, 3) := by decide +kernel
theorem d4_8 : decode prog_16_method_4_code 8 = .ok (.idiv, 1) := by decide +kernel
theorem d4_9 : decode prog_16_method_4_code 9 = .ok (.ireturn, 1) := by decide +kernel
set_option maxRecDepth 65536 in
set_option maxHeartbeats 40000000 in
theorem rm_cnt (l : Launch) (Z : State) (a0 : Array Value) (hw : ∀ d ∈ tables_1, d.before a0 Z = true) (a : Addr) (k : Int32) (w : Int32) (h0 : Heap) (n0 : Nat) (Z0 : n0 ≤ h0.size) (f0 : Fld Z h0 a "com/example/ruleweave/ruleweave/store/Records" "width" "I" (.int w)) (f1 : Fld Z h0 a "com/example/ruleweave/ruleweave/store/Records" "size" "I" (.int k)) (hw0 : w ≠ 0) :
    Con l Z (⟨"com/example/ruleweave/ruleweave/store/Records", "count", "()I"⟩ : MethodName) prog_16_method_4_code 1 (some .int) ({ frames := 0, cells := 0, slots := 0, locals := 0 } : Room) #[(.ref a)] h0 n0 (fun rv hv => rv = some (.int (k / w)) ∧ h0 = hv) := by
  refine Con.enter (plainFor_of_name own_pn0) Z0 ?_
  intro p e s m below meth c T0 C hnm X0
  refine Go.cast (own_ef_rm_cnt m a) ?_
  refine Go.aloadN C X0 (pc' := 1) d4_0 rfl rfl rfl ?_
  refine Go.getF C X0 (pc' := 4) (host := "") (Or.inl (hw _ (List.mem_of_getElem? (i := 21) rfl))) Via.refl f1 d4_1 rfl (fun T37 X37 => ?_)
  refine Go.aloadN C X37 (pc' := 5) d4_4 rfl rfl rfl ?_
  refine Go.getF C X37 (pc' := 8) (host := "") (Or.inl (hw _ (List.mem_of_getElem? (i := 10) rfl))) Via.refl f0 d4_5 rfl (fun T38 X38 => ?_)
  refine Go.idiv C X38 (pc' := 9) d4_8 hw0 rfl ?_
  exact Go.retI C X38 d4_9 ⟨rfl, rfl⟩ (by decide) (by decide)
theorem own_ai {a b : Int32} {i p : Nat} (ha : a.toInt = (i : Int)) (hb : b.toInt = (p : Int)) (h1 : i < 1000) (h2 : p < 1000) : (a + b).toInt = ((i + p : Nat) : Int) := by
  rw [own_iadd (by omega) (by omega), ha, hb]; omega
theorem own_ef_rm_re_1_0 (m : MethodId) (x0 : Addr) (x1 : Addr) : entryFrame m #[(.ref x0), (.ref x1)] 5 = mkF m 0 #[.val (.ref x0), .val (.ref x1), .unset, .unset, .unset] [] := by first | (simp [entryFrame, mkF, argsToLocals, Value.category]; done) | rfl
theorem d3_0 : decode prog_16_method_7_code 0 = .ok (.new 10, 3) := by decide +kernel
theorem d3_3 : decode prog_16_method_7_code 3 = .ok (.dup, 1) := by decide +kernel
theorem d3_4 : decode prog_16_method_7_code 4 = .ok (.aload_n 0, 1) := by decide +kernel
theorem d3_5 : decode prog_16_method_7_code 5 = .ok (.getfield 9, 3) := by decide +kernel
theorem d3_8 : decode prog_16_method_7_code 8 = .ok (.invokespecial 73, 3) := by decide +kernel
theorem own_pd0 : parseMethodDescriptor "(I)V" = some ⟨[.int], none⟩ := by decide +kernel
theorem d3_11 : decode prog_16_method_7_code 11 = .ok (.astore_n 2, 1) := by decide +kernel
theorem d3_12 : decode prog_16_method_7_code 12 = .ok (.aload_n 2, 1) := by decide +kernel
theorem d3_13 : decode prog_16_method_7_code 13 = .ok (.aload_n 0, 1) := by decide +kernel
theorem d3_14 : decode prog_16_method_7_code 14 = .ok (.getfield 19, 3) := by decide +kernel
theorem d3_17 : decode prog_16_method_7_code 17 = .ok (.newarray .int, 2) := by decide +kernel
theorem d3_19 : decode prog_16_method_7_code 19 = .ok (.putfield 15, 3) := by decide +kernel
theorem d3_22 : decode prog_16_method_7_code 22 = .ok (.aload_n 2, 1) := by decide +kernel
theorem d3_23 : decode prog_16_method_7_code 23 = .ok (.aload_n 0, 1) := by decide +kernel
theorem d3_24 : decode prog_16_method_7_code 24 = .ok (.getfield 19, 3) := by decide +kernel
theorem d3_27 : decode prog_16_method_7_code 27 = .ok (.putfield 19, 3) := by decide +kernel
theorem d3_30 : decode prog_16_method_7_code 30 = .ok (.iconst 0, 1) := by decide +kernel
theorem d3_31 : decode prog_16_method_7_code 31 = .ok (.istore_n 3, 1) := by decide +kernel
theorem d3_32 : decode prog_16_method_7_code 32 = .ok (.iload_n 3, 1) := by decide +kernel
theorem d3_33 : decode prog_16_method_7_code 33 = .ok (.aload_n 0, 1) := by decide +kernel
theorem d3_34 : decode prog_16_method_7_code 34 = .ok (.getfield 19, 3) := by decide +kernel
theorem d3_37 : decode prog_16_method_7_code 37 = .ok (.if_icmp .ge 51, 3) := by decide +kernel
theorem d3_88 : decode prog_16_method_7_code 88 = .ok (.aload_n 2, 1) := by decide +kernel
theorem d3_89 : decode prog_16_method_7_code 89 = .ok (.areturn, 1) := by decide +kernel
set_option maxRecDepth 65536 in
set_option maxHeartbeats 40000000 in
theorem rm_re_1_0 (l : Launch) (Z : State) (a0 : Array Value) (hw : ∀ d ∈ tables_1, d.before a0 Z = true) (a : Addr) (fl : Addr) (t : Addr) (nn : Nat) (g : Nat → Int32) (ff : Nat → Int32) (p0 : Nat) (h0 : Heap) (n0 : Nat) (Z0 : n0 ≤ h0.size) (f0 : Exa Z h0 a "com/example/ruleweave/ruleweave/store/Records") (f1 : Fld Z h0 a "com/example/ruleweave/ruleweave/store/Records" "width" "I" (.int (1 : Int32))) (f2 : Fld Z h0 a "com/example/ruleweave/ruleweave/store/Records" "ints" "[I" (.ref t)) (f3 : Fld Z h0 a "com/example/ruleweave/ruleweave/store/Records" "size" "I" (.int (0 : Int32))) (f4 : AI Z h0 t .int nn g) (f5 : AI Z h0 fl .int 1 ff) (hnn : 4 ≤ nn) (hf0 : (ff 0).toInt = (p0 : Int)) (hp0 : p0 < 1) :
    Con l Z (⟨"com/example/ruleweave/ruleweave/store/Records", "rearranged", "([I)Lcom/example/ruleweave/ruleweave/store/Records;"⟩ : MethodName) prog_16_method_7_code 5 (some (.object "com/example/ruleweave/ruleweave/store/Records")) ({ frames := 2, cells := 3, slots := 2051, locals := 26 } : Room) #[(.ref a), (.ref fl)] h0 n0 (fun rv hv => ∃ cp : Addr, ∃ t2 : Addr, ∃ r2 : Nat → Int32, rv = some (.ref cp) ∧ h0.size ≤ cp ∧ h0.size ≤ t2 ∧ Keep h0 hv [] ∧ Exa Z hv cp "com/example/ruleweave/ruleweave/store/Records" ∧ Fld Z hv cp "com/example/ruleweave/ruleweave/store/Records" "width" "I" (.int (1 : Int32)) ∧ Fld Z hv cp "com/example/ruleweave/ruleweave/store/Records" "ints" "[I" (.ref t2) ∧ Fld Z hv cp "com/example/ruleweave/ruleweave/store/Records" "size" "I" (.int (0 : Int32)) ∧ cp ≠ t2 ∧ AI Z hv t2 .int 0 r2) := by
  refine Con.enter (plainFor_of_name own_pn0) Z0 ?_
  intro p e s m below meth c T0 C hnm X0
  refine Go.cast (own_ef_rm_re_1_0 m a fl) ?_
  refine Go.newO C X0 (pc' := 3) (hw _ (List.mem_of_getElem? (i := 19) rfl)) (hw _ (List.mem_of_getElem? (i := 2) rfl)) (hw _ (List.mem_of_getElem? (i := 3) rfl)) d3_0 (by decide) (by decide) rfl (fun T39 h39 b39 X39 g39 E39 Ex39 D39 N39 => ?_)
  have ne_a_b39 : a ≠ b39 := Nat.ne_of_lt (Nat.lt_of_lt_of_eq f0.lt g39.symm)
  have ne_t_b39 : t ≠ b39 := Nat.ne_of_lt (Nat.lt_of_lt_of_eq f4.lt g39.symm)
  have ne_fl_b39 : fl ≠ b39 := Nat.ne_of_lt (Nat.lt_of_lt_of_eq f5.lt g39.symm)
  have Q39 : h0.size ≤ b39 := Nat.le_trans (Keep.refl h0 []).1 (Nat.le_of_eq g39.symm)
  have K40 : Keep h0 h39 [] := (Keep.refl h0 []).ext E39
  have E41 := f0.ext E39
  have F42 := f1.ext E39
  have F43 := f2.ext E39
  have F44 := f3.ext E39
  have A45 := f4.ext E39
  have A46 := f5.ext E39
  have F47 : Fld Z h39 b39 "com/example/ruleweave/ruleweave/store/Records" "width" "I" (.int (0 : Int32)) := D39 (Or.inr (hw _ (List.mem_of_getElem? (i := 11) rfl))) (ty := .int) (by decide)
  have F48 : Fld Z h39 b39 "com/example/ruleweave/ruleweave/store/Records" "ints" "[I" .null := D39 (Or.inl (hw _ (List.mem_of_getElem? (i := 13) rfl))) (ty := (.array .int)) (by decide)
  have F49 : Fld Z h39 b39 "com/example/ruleweave/ruleweave/store/Records" "size" "I" (.int (0 : Int32)) := D39 (Or.inl (hw _ (List.mem_of_getElem? (i := 22) rfl))) (ty := .int) (by decide)
  refine Go.dup C X39 (pc' := 4) d3_3 rfl rfl ?_
  refine Go.aloadN C X39 (pc' := 5) d3_4 rfl rfl rfl ?_
  refine Go.getF C X39 (pc' := 8) (host := "") (Or.inl (hw _ (List.mem_of_getElem? (i := 10) rfl))) Via.refl F42 d3_5 rfl (fun T50 X50 => ?_)
  refine Go.callI C X50 (pc' := 11) (W := 1) (argsL := [(.int (1 : Int32))]) (rest := [(.ref b39)]) (a := b39) (rm_init l Z a0 hw b39 (1 : Int32) 1024 h39 n0 X50.sz Ex39 F47 F48 F49 N39 rfl (by decide)) rfl rfl (hw _ (List.mem_of_getElem? (i := 20) rfl)) (hw _ (List.mem_of_getElem? (i := 5) rfl)) (hw _ (List.mem_of_getElem? (i := 3) rfl)) (hw _ (List.mem_of_getElem? (i := 6) rfl)) (by decide) rfl rfl (lenOf own_pd0 rfl) rfl (Nat.le_of_eq rfl) (by decide) (by decide) (by decide) (by decide) d3_8 rfl (fun _ _ q => by obtain ⟨_, _, _, K, _⟩ := q; exact K.1) (fun T51 h51 v51 X51 P51 => ?_)
  obtain ⟨t51, rfl, D51_t, K51, O51_0, O51_1, O51_2, O51_3, O51_4⟩ := P51
  have ne_a_t51 : a ≠ t51 := Nat.ne_of_lt (Nat.lt_of_lt_of_le E41.lt D51_t)
  have ne_t_t51 : t ≠ t51 := Nat.ne_of_lt (Nat.lt_of_lt_of_le A45.lt D51_t)
  have ne_fl_t51 : fl ≠ t51 := Nat.ne_of_lt (Nat.lt_of_lt_of_le A46.lt D51_t)
  have ne_b39_t51 : b39 ≠ t51 := Nat.ne_of_lt (Nat.lt_of_lt_of_le Ex39.lt D51_t)
  have N_t51 : n0 ≤ t51 := Nat.le_trans X50.sz D51_t
  have Q_t51 : h0.size ≤ t51 := Nat.le_trans K40.1 D51_t
  have K52 : Keep h0 h51 [] := K40.trans K51 (allS (Or.inr Q39) all0)
  have E53 := E41.keep K51
  have F54 := F42.keep K51 (ninS ne_a_b39 nin0)
  have F55 := F43.keep K51 (ninS ne_a_b39 nin0)
  have F56 := F44.keep K51 (ninS ne_a_b39 nin0)
  have A57 := A45.keep K51 (ninS ne_t_b39 nin0)
  have A58 := A46.keep K51 (ninS ne_fl_b39 nin0)
  have E59 := Ex39.keep K51
  show Go p e below s n0 _ _ _ T51 (mkF m 11 #[.val (.ref a), .val (.ref fl), .unset, .unset, .unset] [(.ref b39)])
  refine Go.astoreN C X51 (pc' := 12) (Ls' := #[.val (.ref a), .val (.ref fl), .val (.ref b39), .unset, .unset]) d3_11 rfl rfl rfl ?_
  refine Go.aloadN C X51 (pc' := 13) d3_12 rfl rfl rfl ?_
  refine Go.aloadN C X51 (pc' := 14) d3_13 rfl rfl rfl ?_
  refine Go.getF C X51 (pc' := 17) (host := "") (Or.inl (hw _ (List.mem_of_getElem? (i := 21) rfl))) Via.refl F56 d3_14 rfl (fun T60 X60 => ?_)
  refine Go.newP C X60 (pc' := 19) (nn := 0) (cap := 0) (hw _ (List.mem_of_getElem? (i := 0) rfl)) d3_17 rfl (by decide) (by decide) (by decide) (by decide) rfl (fun T61 h61 b61 k61 X61 g61 E61 Ar61 N61 => ?_)
  have ne_a_b61 : a ≠ b61 := Nat.ne_of_lt (Nat.lt_of_lt_of_eq E53.lt g61.symm)
  have ne_t_b61 : t ≠ b61 := Nat.ne_of_lt (Nat.lt_of_lt_of_eq A57.lt g61.symm)
  have ne_fl_b61 : fl ≠ b61 := Nat.ne_of_lt (Nat.lt_of_lt_of_eq A58.lt g61.symm)
  have ne_b39_b61 : b39 ≠ b61 := Nat.ne_of_lt (Nat.lt_of_lt_of_eq O51_0.lt g61.symm)
  have ne_t51_b61 : t51 ≠ b61 := Nat.ne_of_lt (Nat.lt_of_lt_of_eq O51_4.lt g61.symm)
  have Q61 : h0.size ≤ b61 := Nat.le_trans K52.1 (Nat.le_of_eq g61.symm)
  have K62 : Keep h0 h61 [] := K52.ext E61
  have E63 := E53.ext E61
  have F64 := F54.ext E61
  have F65 := F55.ext E61
  have F66 := F56.ext E61
  have A67 := A57.ext E61
  have A68 := A58.ext E61
  have E69 := O51_0.ext E61
  have F70 := O51_1.ext E61
  have F71 := O51_2.ext E61
  have F72 := O51_3.ext E61
  have A73 := O51_4.ext E61
  have A61 : AI Z h61 b61 .int 0 (fun _ => 0) := AI.new rfl rfl Ar61
  refine Go.putF C X61 (pc' := 22) (host := "") (Or.inl (hw _ (List.mem_of_getElem? (i := 12) rfl))) Via.refl F71 E69 (Or.inl (hw _ (List.mem_of_getElem? (i := 13) rfl))) (hw _ (List.mem_of_getElem? (i := 2) rfl)) N39 (ty := (.array .int)) (by decide) rfl rfl d3_19 rfl (fun T74 h74 X74 W74 => ?_)
  have Fw74 := F71.same W74
  have K75 : Keep h0 h74 [] := K62.wr W74 (Or.inr Q39)
  have E76 := E63.wr W74
  have F77 := F64.other W74 (Or.inl ne_a_b39)
  have F78 := F65.other W74 (Or.inl ne_a_b39)
  have F79 := F66.other W74 (Or.inl ne_a_b39)
  have A80 := A67.other W74 ne_t_b39
  have A81 := A68.other W74 ne_fl_b39
  have E82 := E69.wr W74
  have F83 := F70.other W74 (Or.inr (slot_ne (Or.inr (hw _ (List.mem_of_getElem? (i := 11) rfl))) (Or.inl (hw _ (List.mem_of_getElem? (i := 13) rfl))) (by decide) (t := .int) (t' := (.array .int)) (by decide) (by decide)))
  have F84 := F72.other W74 (Or.inr (slot_ne (Or.inl (hw _ (List.mem_of_getElem? (i := 22) rfl))) (Or.inl (hw _ (List.mem_of_getElem? (i := 13) rfl))) (by decide) (t := .int) (t' := (.array .int)) (by decide) (by decide)))
  have A85 := A73.other W74 (Ne.symm ne_b39_t51)
  have A86 := A61.other W74 (Ne.symm ne_b39_b61)
  refine Go.aloadN C X74 (pc' := 23) d3_22 rfl rfl rfl ?_
  refine Go.aloadN C X74 (pc' := 24) d3_23 rfl rfl rfl ?_
  refine Go.getF C X74 (pc' := 27) (host := "") (Or.inl (hw _ (List.mem_of_getElem? (i := 21) rfl))) Via.refl F79 d3_24 rfl (fun T87 X87 => ?_)
  refine Go.putF C X87 (pc' := 30) (host := "") (Or.inl (hw _ (List.mem_of_getElem? (i := 21) rfl))) Via.refl F84 E82 (Or.inl (hw _ (List.mem_of_getElem? (i := 22) rfl))) (hw _ (List.mem_of_getElem? (i := 2) rfl)) N39 (ty := .int) (by decide) rfl rfl d3_27 rfl (fun T88 h88 X88 W88 => ?_)
  have Fw88 := F84.same W88
  have K89 : Keep h0 h88 [] := K75.wr W88 (Or.inr Q39)
  have E90 := E76.wr W88
  have F91 := F77.other W88 (Or.inl ne_a_b39)
  have F92 := F78.other W88 (Or.inl ne_a_b39)
  have F93 := F79.other W88 (Or.inl ne_a_b39)
  have A94 := A80.other W88 ne_t_b39
  have A95 := A81.other W88 ne_fl_b39
  have E96 := E82.wr W88
  have F97 := F83.other W88 (Or.inr (slot_ne (Or.inr (hw _ (List.mem_of_getElem? (i := 11) rfl))) (Or.inl (hw _ (List.mem_of_getElem? (i := 22) rfl))) (by decide) (t := .int) (t' := .int) (by decide) (by decide)))
  have A98 := A85.other W88 (Ne.symm ne_b39_t51)
  have A99 := A86.other W88 (Ne.symm ne_b39_b61)
  have F100 := Fw74.other W88 (Or.inr (slot_ne (Or.inl (hw _ (List.mem_of_getElem? (i := 13) rfl))) (Or.inl (hw _ (List.mem_of_getElem? (i := 22) rfl))) (by decide) (t := (.array .int)) (t' := .int) (by decide) (by decide)))
  refine Go.iconst C X88 (pc' := 31) (v := (0 : Int32)) d3_30 rfl rfl ?_
  refine Go.istoreN C X88 (pc' := 32) (Ls' := #[.val (.ref a), .val (.ref fl), .val (.ref b39), .val (.int (0 : Int32)), .unset]) d3_31 rfl rfl ?_
  refine Go.iloadN C X88 (pc' := 33) d3_32 rfl rfl ?_
  refine Go.aloadN C X88 (pc' := 34) d3_33 rfl rfl rfl ?_
  refine Go.getF C X88 (pc' := 37) (host := "") (Or.inl (hw _ (List.mem_of_getElem? (i := 21) rfl))) Via.refl F93 d3_34 rfl (fun T101 X101 => ?_)
  refine Go.icmpYes C X101 (pc' := 88) d3_37 (flt (by decide)).2.1 (by decide) (by decide) ?_
  refine Go.aloadN C X101 (pc' := 89) d3_88 rfl rfl rfl ?_
  exact Go.retA C X101 rfl d3_89 ⟨b39, b61, (fun _ => 0), rfl, Q39, Q61, K89, E96, F97, F100, Fw88, ne_b39_b61, A99⟩ (by decide) (by decide)
theorem own_ef_rm_re_1_1 (m : MethodId) (x0 : Addr) (x1 : Addr) : entryFrame m #[(.ref x0), (.ref x1)] 5 = mkF m 0 #[.val (.ref x0), .val (.ref x1), .unset, .unset, .unset] [] := by first | (simp [entryFrame, mkF, argsToLocals, Value.category]; done) | rfl
theorem d3_40 : decode prog_16_method_7_code 40 = .ok (.iconst 0, 1) := by decide +kernel
theorem d3_41 : decode prog_16_method_7_code 41 = .ok (.istore 4, 2) := by decide +kernel
theorem d3_43 : decode prog_16_method_7_code 43 = .ok (.iload 4, 2) := by decide +kernel
theorem d3_45 : decode prog_16_method_7_code 45 = .ok (.aload_n 0, 1) := by decide +kernel
theorem d3_46 : decode prog_16_method_7_code 46 = .ok (.getfield 9, 3) := by decide +kernel
theorem d3_49 : decode prog_16_method_7_code 49 = .ok (.if_icmp .ge 29, 3) := by decide +kernel
theorem d3_52 : decode prog_16_method_7_code 52 = .ok (.aload_n 2, 1) := by decide +kernel
theorem d3_53 : decode prog_16_method_7_code 53 = .ok (.getfield 15, 3) := by decide +kernel
theorem d3_56 : decode prog_16_method_7_code 56 = .ok (.iload_n 3, 1) := by decide +kernel
theorem d3_57 : decode prog_16_method_7_code 57 = .ok (.iload 4, 2) := by decide +kernel
theorem d3_59 : decode prog_16_method_7_code 59 = .ok (.iadd, 1) := by decide +kernel
theorem d3_60 : decode prog_16_method_7_code 60 = .ok (.aload_n 0, 1) := by decide +kernel
theorem d3_61 : decode prog_16_method_7_code 61 = .ok (.getfield 15, 3) := by decide +kernel
theorem d3_64 : decode prog_16_method_7_code 64 = .ok (.iload_n 3, 1) := by decide +kernel
theorem d3_65 : decode prog_16_method_7_code 65 = .ok (.aload_n 1, 1) := by decide +kernel
theorem d3_66 : decode prog_16_method_7_code 66 = .ok (.iload 4, 2) := by decide +kernel
theorem d3_68 : decode prog_16_method_7_code 68 = .ok (.iaload, 1) := by decide +kernel
theorem d3_69 : decode prog_16_method_7_code 69 = .ok (.iadd, 1) := by decide +kernel
theorem d3_70 : decode prog_16_method_7_code 70 = .ok (.iaload, 1) := by decide +kernel
theorem d3_71 : decode prog_16_method_7_code 71 = .ok (.iastore, 1) := by decide +kernel
theorem d3_72 : decode prog_16_method_7_code 72 = .ok (.iinc 4 1, 3) := by decide +kernel
theorem d3_75 : decode prog_16_method_7_code 75 = .ok (.goto (-32), 3) := by decide +kernel
theorem d3_78 : decode prog_16_method_7_code 78 = .ok (.iload_n 3, 1) := by decide +kernel
theorem d3_79 : decode prog_16_method_7_code 79 = .ok (.aload_n 0, 1) := by decide +kernel
theorem d3_80 : decode prog_16_method_7_code 80 = .ok (.getfield 9, 3) := by decide +kernel
theorem d3_83 : decode prog_16_method_7_code 83 = .ok (.iadd, 1) := by decide +kernel
theorem d3_84 : decode prog_16_method_7_code 84 = .ok (.istore_n 3, 1) := by decide +kernel
theorem d3_85 : decode prog_16_method_7_code 85 = .ok (.goto (-53), 3) := by decide +kernel
set_option maxRecDepth 65536 in
set_option maxHeartbeats 40000000 in
theorem rm_re_1_1 (l : Launch) (Z : State) (a0 : Array Value) (hw : ∀ d ∈ tables_1, d.before a0 Z = true) (a : Addr) (fl : Addr) (t : Addr) (nn : Nat) (g : Nat → Int32) (ff : Nat → Int32) (p0 : Nat) (h0 : Heap) (n0 : Nat) (Z0 : n0 ≤ h0.size) (f0 : Exa Z h0 a "com/example/ruleweave/ruleweave/store/Records") (f1 : Fld Z h0 a "com/example/ruleweave/ruleweave/store/Records" "width" "I" (.int (1 : Int32))) (f2 : Fld Z h0 a "com/example/ruleweave/ruleweave/store/Records" "ints" "[I" (.ref t)) (f3 : Fld Z h0 a "com/example/ruleweave/ruleweave/store/Records" "size" "I" (.int (1 : Int32))) (f4 : AI Z h0 t .int nn g) (f5 : AI Z h0 fl .int 1 ff) (hnn : 4 ≤ nn) (hf0 : (ff 0).toInt = (p0 : Int)) (hp0 : p0 < 1) :
    Con l Z (⟨"com/example/ruleweave/ruleweave/store/Records", "rearranged", "([I)Lcom/example/ruleweave/ruleweave/store/Records;"⟩ : MethodName) prog_16_method_7_code 5 (some (.object "com/example/ruleweave/ruleweave/store/Records")) ({ frames := 2, cells := 3, slots := 2052, locals := 26 } : Room) #[(.ref a), (.ref fl)] h0 n0 (fun rv hv => ∃ cp : Addr, ∃ t2 : Addr, ∃ r2 : Nat → Int32, rv = some (.ref cp) ∧ h0.size ≤ cp ∧ h0.size ≤ t2 ∧ Keep h0 hv [] ∧ Exa Z hv cp "com/example/ruleweave/ruleweave/store/Records" ∧ Fld Z hv cp "com/example/ruleweave/ruleweave/store/Records" "width" "I" (.int (1 : Int32)) ∧ Fld Z hv cp "com/example/ruleweave/ruleweave/store/Records" "ints" "[I" (.ref t2) ∧ Fld Z hv cp "com/example/ruleweave/ruleweave/store/Records" "size" "I" (.int (1 : Int32)) ∧ cp ≠ t2 ∧ AI Z hv t2 .int 1 r2 ∧ (r2 0 = g (0 + p0))) := by
  refine Con.enter (plainFor_of_name own_pn0) Z0 ?_
  intro p e s m below meth c T0 C hnm X0
  refine Go.cast (own_ef_rm_re_1_1 m a fl) ?_
  refine Go.newO C X0 (pc' := 3) (hw _ (List.mem_of_getElem? (i := 19) rfl)) (hw _ (List.mem_of_getElem? (i := 2) rfl)) (hw _ (List.mem_of_getElem? (i := 3) rfl)) d3_0 (by decide) (by decide) rfl (fun T102 h102 b102 X102 g102 E102 Ex102 D102 N102 => ?_)
  have ne_a_b102 : a ≠ b102 := Nat.ne_of_lt (Nat.lt_of_lt_of_eq f0.lt g102.symm)
  have ne_t_b102 : t ≠ b102 := Nat.ne_of_lt (Nat.lt_of_lt_of_eq f4.lt g102.symm)
  have ne_fl_b102 : fl ≠ b102 := Nat.ne_of_lt (Nat.lt_of_lt_of_eq f5.lt g102.symm)
  have Q102 : h0.size ≤ b102 := Nat.le_trans (Keep.refl h0 []).1 (Nat.le_of_eq g102.symm)
  have K103 : Keep h0 h102 [] := (Keep.refl h0 []).ext E102
  have E104 := f0.ext E102
  have F105 := f1.ext E102
  have F106 := f2.ext E102
  have F107 := f3.ext E102
  have A108 := f4.ext E102
  have A109 := f5.ext E102
  have F110 : Fld Z h102 b102 "com/example/ruleweave/ruleweave/store/Records" "width" "I" (.int (0 : Int32)) := D102 (Or.inr (hw _ (List.mem_of_getElem? (i := 11) rfl))) (ty := .int) (by decide)
  have F111 : Fld Z h102 b102 "com/example/ruleweave/ruleweave/store/Records" "ints" "[I" .null := D102 (Or.inl (hw _ (List.mem_of_getElem? (i := 13) rfl))) (ty := (.array .int)) (by decide)
  have F112 : Fld Z h102 b102 "com/example/ruleweave/ruleweave/store/Records" "size" "I" (.int (0 : Int32)) := D102 (Or.inl (hw _ (List.mem_of_getElem? (i := 22) rfl))) (ty := .int) (by decide)
  refine Go.dup C X102 (pc' := 4) d3_3 rfl rfl ?_
  refine Go.aloadN C X102 (pc' := 5) d3_4 rfl rfl rfl ?_
  refine Go.getF C X102 (pc' := 8) (host := "") (Or.inl (hw _ (List.mem_of_getElem? (i := 10) rfl))) Via.refl F105 d3_5 rfl (fun T113 X113 => ?_)
  refine Go.callI C X113 (pc' := 11) (W := 1) (argsL := [(.int (1 : Int32))]) (rest := [(.ref b102)]) (a := b102) (rm_init l Z a0 hw b102 (1 : Int32) 1024 h102 n0 X113.sz Ex102 F110 F111 F112 N102 rfl (by decide)) rfl rfl (hw _ (List.mem_of_getElem? (i := 20) rfl)) (hw _ (List.mem_of_getElem? (i := 5) rfl)) (hw _ (List.mem_of_getElem? (i := 3) rfl)) (hw _ (List.mem_of_getElem? (i := 6) rfl)) (by decide) rfl rfl (lenOf own_pd0 rfl) rfl (Nat.le_of_eq rfl) (by decide) (by decide) (by decide) (by decide) d3_8 rfl (fun _ _ q => by obtain ⟨_, _, _, K, _⟩ := q; exact K.1) (fun T114 h114 v114 X114 P114 => ?_)
  obtain ⟨t114, rfl, D114_t, K114, O114_0, O114_1, O114_2, O114_3, O114_4⟩ := P114
  have ne_a_t114 : a ≠ t114 := Nat.ne_of_lt (Nat.lt_of_lt_of_le E104.lt D114_t)
  have ne_t_t114 : t ≠ t114 := Nat.ne_of_lt (Nat.lt_of_lt_of_le A108.lt D114_t)
  have ne_fl_t114 : fl ≠ t114 := Nat.ne_of_lt (Nat.lt_of_lt_of_le A109.lt D114_t)
  have ne_b102_t114 : b102 ≠ t114 := Nat.ne_of_lt (Nat.lt_of_lt_of_le Ex102.lt D114_t)
  have N_t114 : n0 ≤ t114 := Nat.le_trans X113.sz D114_t
  have Q_t114 : h0.size ≤ t114 := Nat.le_trans K103.1 D114_t
  have K115 : Keep h0 h114 [] := K103.trans K114 (allS (Or.inr Q102) all0)
  have E116 := E104.keep K114
  have F117 := F105.keep K114 (ninS ne_a_b102 nin0)
  have F118 := F106.keep K114 (ninS ne_a_b102 nin0)
  have F119 := F107.keep K114 (ninS ne_a_b102 nin0)
  have A120 := A108.keep K114 (ninS ne_t_b102 nin0)
  have A121 := A109.keep K114 (ninS ne_fl_b102 nin0)
  have E122 := Ex102.keep K114
  show Go p e below s n0 _ _ _ T114 (mkF m 11 #[.val (.ref a), .val (.ref fl), .unset, .unset, .unset] [(.ref b102)])
  refine Go.astoreN C X114 (pc' := 12) (Ls' := #[.val (.ref a), .val (.ref fl), .val (.ref b102), .unset, .unset]) d3_11 rfl rfl rfl ?_
  refine Go.aloadN C X114 (pc' := 13) d3_12 rfl rfl rfl ?_
  refine Go.aloadN C X114 (pc' := 14) d3_13 rfl rfl rfl ?_
  refine Go.getF C X114 (pc' := 17) (host := "") (Or.inl (hw _ (List.mem_of_getElem? (i := 21) rfl))) Via.refl F119 d3_14 rfl (fun T123 X123 => ?_)
  refine Go.newP C X123 (pc' := 19) (nn := 1) (cap := 1) (hw _ (List.mem_of_getElem? (i := 0) rfl)) d3_17 rfl (by decide) (by decide) (by decide) (by decide) rfl (fun T124 h124 b124 k124 X124 g124 E124 Ar124 N124 => ?_)
  have ne_a_b124 : a ≠ b124 := Nat.ne_of_lt (Nat.lt_of_lt_of_eq E116.lt g124.symm)
  have ne_t_b124 : t ≠ b124 := Nat.ne_of_lt (Nat.lt_of_lt_of_eq A120.lt g124.symm)
  have ne_fl_b124 : fl ≠ b124 := Nat.ne_of_lt (Nat.lt_of_lt_of_eq A121.lt g124.symm)
  have ne_b102_b124 : b102 ≠ b124 := Nat.ne_of_lt (Nat.lt_of_lt_of_eq O114_0.lt g124.symm)
  have ne_t114_b124 : t114 ≠ b124 := Nat.ne_of_lt (Nat.lt_of_lt_of_eq O114_4.lt g124.symm)
  have Q124 : h0.size ≤ b124 := Nat.le_trans K115.1 (Nat.le_of_eq g124.symm)
  have K125 : Keep h0 h124 [] := K115.ext E124
  have E126 := E116.ext E124
  have F127 := F117.ext E124
  have F128 := F118.ext E124
  have F129 := F119.ext E124
  have A130 := A120.ext E124
  have A131 := A121.ext E124
  have E132 := O114_0.ext E124
  have F133 := O114_1.ext E124
  have F134 := O114_2.ext E124
  have F135 := O114_3.ext E124
  have A136 := O114_4.ext E124
  have A124 : AI Z h124 b124 .int 1 (fun _ => 0) := AI.new rfl rfl Ar124
  refine Go.putF C X124 (pc' := 22) (host := "") (Or.inl (hw _ (List.mem_of_getElem? (i := 12) rfl))) Via.refl F134 E132 (Or.inl (hw _ (List.mem_of_getElem? (i := 13) rfl))) (hw _ (List.mem_of_getElem? (i := 2) rfl)) N102 (ty := (.array .int)) (by decide) rfl rfl d3_19 rfl (fun T137 h137 X137 W137 => ?_)
  have Fw137 := F134.same W137
  have K138 : Keep h0 h137 [] := K125.wr W137 (Or.inr Q102)
  have E139 := E126.wr W137
  have F140 := F127.other W137 (Or.inl ne_a_b102)
  have F141 := F128.other W137 (Or.inl ne_a_b102)
  have F142 := F129.other W137 (Or.inl ne_a_b102)
  have A143 := A130.other W137 ne_t_b102
  have A144 := A131.other W137 ne_fl_b102
  have E145 := E132.wr W137
  have F146 := F133.other W137 (Or.inr (slot_ne (Or.inr (hw _ (List.mem_of_getElem? (i := 11) rfl))) (Or.inl (hw _ (List.mem_of_getElem? (i := 13) rfl))) (by decide) (t := .int) (t' := (.array .int)) (by decide) (by decide)))
  have F147 := F135.other W137 (Or.inr (slot_ne (Or.inl (hw _ (List.mem_of_getElem? (i := 22) rfl))) (Or.inl (hw _ (List.mem_of_getElem? (i := 13) rfl))) (by decide) (t := .int) (t' := (.array .int)) (by decide) (by decide)))
  have A148 := A136.other W137 (Ne.symm ne_b102_t114)
  have A149 := A124.other W137 (Ne.symm ne_b102_b124)
  refine Go.aloadN C X137 (pc' := 23) d3_22 rfl rfl rfl ?_
  refine Go.aloadN C X137 (pc' := 24) d3_23 rfl rfl rfl ?_
  refine Go.getF C X137 (pc' := 27) (host := "") (Or.inl (hw _ (List.mem_of_getElem? (i := 21) rfl))) Via.refl F142 d3_24 rfl (fun T150 X150 => ?_)
  refine Go.putF C X150 (pc' := 30) (host := "") (Or.inl (hw _ (List.mem_of_getElem? (i := 21) rfl))) Via.refl F147 E145 (Or.inl (hw _ (List.mem_of_getElem? (i := 22) rfl))) (hw _ (List.mem_of_getElem? (i := 2) rfl)) N102 (ty := .int) (by decide) rfl rfl d3_27 rfl (fun T151 h151 X151 W151 => ?_)
  have Fw151 := F147.same W151
  have K152 : Keep h0 h151 [] := K138.wr W151 (Or.inr Q102)
  have E153 := E139.wr W151
  have F154 := F140.other W151 (Or.inl ne_a_b102)
  have F155 := F141.other W151 (Or.inl ne_a_b102)
  have F156 := F142.other W151 (Or.inl ne_a_b102)
  have A157 := A143.other W151 ne_t_b102
  have A158 := A144.other W151 ne_fl_b102
  have E159 := E145.wr W151
  have F160 := F146.other W151 (Or.inr (slot_ne (Or.inr (hw _ (List.mem_of_getElem? (i := 11) rfl))) (Or.inl (hw _ (List.mem_of_getElem? (i := 22) rfl))) (by decide) (t := .int) (t' := .int) (by decide) (by decide)))
  have A161 := A148.other W151 (Ne.symm ne_b102_t114)
  have A162 := A149.other W151 (Ne.symm ne_b102_b124)
  have F163 := Fw137.other W151 (Or.inr (slot_ne (Or.inl (hw _ (List.mem_of_getElem? (i := 13) rfl))) (Or.inl (hw _ (List.mem_of_getElem? (i := 22) rfl))) (by decide) (t := (.array .int)) (t' := .int) (by decide) (by decide)))
  refine Go.iconst C X151 (pc' := 31) (v := (0 : Int32)) d3_30 rfl rfl ?_
  refine Go.istoreN C X151 (pc' := 32) (Ls' := #[.val (.ref a), .val (.ref fl), .val (.ref b102), .val (.int (0 : Int32)), .unset]) d3_31 rfl rfl ?_
  refine Go.iloadN C X151 (pc' := 33) d3_32 rfl rfl ?_
  refine Go.aloadN C X151 (pc' := 34) d3_33 rfl rfl rfl ?_
  refine Go.getF C X151 (pc' := 37) (host := "") (Or.inl (hw _ (List.mem_of_getElem? (i := 21) rfl))) Via.refl F156 d3_34 rfl (fun T164 X164 => ?_)
  refine Go.icmpNo C X164 (pc' := 40) d3_37 (tlt (by decide)).2.1 rfl ?_
  refine Go.iconst C X164 (pc' := 41) (v := (0 : Int32)) d3_40 rfl rfl ?_
  refine Go.istore C X164 (pc' := 43) (Ls' := #[.val (.ref a), .val (.ref fl), .val (.ref b102), .val (.int (0 : Int32)), .val (.int (0 : Int32))]) d3_41 rfl rfl ?_
  refine Go.iload C X164 (pc' := 45) d3_43 rfl rfl ?_
  refine Go.aloadN C X164 (pc' := 46) d3_45 rfl rfl rfl ?_
  refine Go.getF C X164 (pc' := 49) (host := "") (Or.inl (hw _ (List.mem_of_getElem? (i := 10) rfl))) Via.refl F154 d3_46 rfl (fun T165 X165 => ?_)
  refine Go.icmpNo C X165 (pc' := 52) d3_49 (tlt (by decide)).2.1 rfl ?_
  refine Go.aloadN C X165 (pc' := 53) d3_52 rfl rfl rfl ?_
  refine Go.getF C X165 (pc' := 56) (host := "") (Or.inl (hw _ (List.mem_of_getElem? (i := 12) rfl))) Via.refl F163 d3_53 rfl (fun T166 X166 => ?_)
  refine Go.iloadN C X166 (pc' := 57) d3_56 rfl rfl ?_
  refine Go.iload C X166 (pc' := 59) d3_57 rfl rfl ?_
  refine Go.iadd C X166 (pc' := 60) d3_59 rfl ?_
  refine Go.aloadN C X166 (pc' := 61) d3_60 rfl rfl rfl ?_
  refine Go.getF C X166 (pc' := 64) (host := "") (Or.inl (hw _ (List.mem_of_getElem? (i := 12) rfl))) Via.refl F155 d3_61 rfl (fun T167 X167 => ?_)
  refine Go.iloadN C X167 (pc' := 65) d3_64 rfl rfl ?_
  refine Go.aloadN C X167 (pc' := 66) d3_65 rfl rfl rfl ?_
  refine Go.iload C X167 (pc' := 68) d3_66 rfl rfl ?_
  refine Go.iaload C X167 (pc' := 69) (i := 0) (w := (ff 0)) A158 rfl (by decide) rfl d3_68 rfl ?_
  refine Go.iadd C X167 (pc' := 70) d3_69 rfl ?_
  refine Go.iaload C X167 (pc' := 71) (i := (0 + p0)) (w := (g (0 + p0))) A157 (own_ai (i := 0) rfl hf0 (by decide) (by omega)) (by omega) rfl d3_70 rfl ?_
  refine Go.iastore C X167 (pc' := 72) (i := 0) (x' := (g (0 + p0))) A162 rfl (by decide) rfl N124 d3_71 rfl (fun T168 h168 X168 W168 A168 => ?_)
  have K169 : Keep h0 h168 [] := K152.wr W168 (Or.inr Q124)
  have E170 := E153.wr W168
  have F171 := F154.other W168 (Or.inl ne_a_b124)
  have F172 := F155.other W168 (Or.inl ne_a_b124)
  have F173 := F156.other W168 (Or.inl ne_a_b124)
  have A174 := A157.other W168 ne_t_b124
  have A175 := A158.other W168 ne_fl_b124
  have E176 := E159.wr W168
  have F177 := F160.other W168 (Or.inl ne_b102_b124)
  have A178 := A161.other W168 ne_t114_b124
  have F179 := F163.other W168 (Or.inl ne_b102_b124)
  have F180 := Fw151.other W168 (Or.inl ne_b102_b124)
  refine Go.iinc C X168 (pc' := 75) (Ls' := #[.val (.ref a), .val (.ref fl), .val (.ref b102), .val (.int (0 : Int32)), .val (.int (1 : Int32))]) (v' := (1 : Int32)) d3_72 rfl rfl rfl rfl ?_
  refine Go.goto C X168 (pc' := 43) d3_75 (by decide) (by decide) ?_
  refine Go.iload C X168 (pc' := 45) d3_43 rfl rfl ?_
  refine Go.aloadN C X168 (pc' := 46) d3_45 rfl rfl rfl ?_
  refine Go.getF C X168 (pc' := 49) (host := "") (Or.inl (hw _ (List.mem_of_getElem? (i := 10) rfl))) Via.refl F171 d3_46 rfl (fun T181 X181 => ?_)
  refine Go.icmpYes C X181 (pc' := 78) d3_49 (flt (by decide)).2.1 (by decide) (by decide) ?_
  refine Go.iloadN C X181 (pc' := 79) d3_78 rfl rfl ?_
  refine Go.aloadN C X181 (pc' := 80) d3_79 rfl rfl rfl ?_
  refine Go.getF C X181 (pc' := 83) (host := "") (Or.inl (hw _ (List.mem_of_getElem? (i := 10) rfl))) Via.refl F171 d3_80 rfl (fun T182 X182 => ?_)
  refine Go.iadd C X182 (pc' := 84) d3_83 rfl ?_
  refine Go.istoreN C X182 (pc' := 85) (Ls' := #[.val (.ref a), .val (.ref fl), .val (.ref b102), .val (.int ((0 : Int32) + (1 : Int32))), .val (.int (1 : Int32))]) d3_84 rfl rfl ?_
  refine Go.goto C X182 (pc' := 32) d3_85 (by decide) (by decide) ?_
  refine Go.iloadN C X182 (pc' := 33) d3_32 rfl rfl ?_
  refine Go.aloadN C X182 (pc' := 34) d3_33 rfl rfl rfl ?_
  refine Go.getF C X182 (pc' := 37) (host := "") (Or.inl (hw _ (List.mem_of_getElem? (i := 21) rfl))) Via.refl F173 d3_34 rfl (fun T183 X183 => ?_)
  refine Go.icmpYes C X183 (pc' := 88) d3_37 (flt (by decide)).2.1 (by decide) (by decide) ?_
  refine Go.aloadN C X183 (pc' := 89) d3_88 rfl rfl rfl ?_
  exact Go.retA C X183 rfl d3_89 ⟨b102, b124, (fun q => if q = 0 then (g (0 + p0)) else (fun _ => 0) q), rfl, Q102, Q124, K169, E176, F177, F179, F180, ne_b102_b124, A168, (by rfl)⟩ (by decide) (by decide)
theorem own_ef_rm_re_1_2 (m : MethodId) (x0 : Addr) (x1 : Addr) : entryFrame m #[(.ref x0), (.ref x1)] 5 = mkF m 0 #[.val (.ref x0), .val (.ref x1), .unset, .unset, .unset] [] := by first | (simp [entryFrame, mkF, argsToLocals, Value.category]; done) | rfl
set_option maxRecDepth 65536 in
set_option maxHeartbeats 40000000 in
theorem rm_re_1_2 (l : Launch) (Z : State) (a0 : Array Value) (hw : ∀ d ∈ tables_1, d.before a0 Z = true) (a : Addr) (fl : Addr) (t : Addr) (nn : Nat) (g : Nat → Int32) (ff : Nat → Int32) (p0 : Nat) (h0 : Heap) (n0 : Nat) (Z0 : n0 ≤ h0.size) (f0 : Exa Z h0 a "com/example/ruleweave/ruleweave/store/Records") (f1 : Fld Z h0 a "com/example/ruleweave/ruleweave/store/Records" "width" "I" (.int (1 : Int32))) (f2 : Fld Z h0 a "com/example/ruleweave/ruleweave/store/Records" "ints" "[I" (.ref t)) (f3 : Fld Z h0 a "com/example/ruleweave/ruleweave/store/Records" "size" "I" (.int (2 : Int32))) (f4 : AI Z h0 t .int nn g) (f5 : AI Z h0 fl .int 1 ff) (hnn : 4 ≤ nn) (hf0 : (ff 0).toInt = (p0 : Int)) (hp0 : p0 < 1) :
    Con l Z (⟨"com/example/ruleweave/ruleweave/store/Records", "rearranged", "([I)Lcom/example/ruleweave/ruleweave/store/Records;"⟩ : MethodName) prog_16_method_7_code 5 (some (.object "com/example/ruleweave/ruleweave/store/Records")) ({ frames := 2, cells := 3, slots := 2053, locals := 26 } : Room) #[(.ref a), (.ref fl)] h0 n0 (fun rv hv => ∃ cp : Addr, ∃ t2 : Addr, ∃ r2 : Nat → Int32, rv = some (.ref cp) ∧ h0.size ≤ cp ∧ h0.size ≤ t2 ∧ Keep h0 hv [] ∧ Exa Z hv cp "com/example/ruleweave/ruleweave/store/Records" ∧ Fld Z hv cp "com/example/ruleweave/ruleweave/store/Records" "width" "I" (.int (1 : Int32)) ∧ Fld Z hv cp "com/example/ruleweave/ruleweave/store/Records" "ints" "[I" (.ref t2) ∧ Fld Z hv cp "com/example/ruleweave/ruleweave/store/Records" "size" "I" (.int (2 : Int32)) ∧ cp ≠ t2 ∧ AI Z hv t2 .int 2 r2 ∧ (r2 0 = g (0 + p0)) ∧ (r2 1 = g (1 + p0))) := by
  refine Con.enter (plainFor_of_name own_pn0) Z0 ?_
  intro p e s m below meth c T0 C hnm X0
  refine Go.cast (own_ef_rm_re_1_2 m a fl) ?_
  refine Go.newO C X0 (pc' := 3) (hw _ (List.mem_of_getElem? (i := 19) rfl)) (hw _ (List.mem_of_getElem? (i := 2) rfl)) (hw _ (List.mem_of_getElem? (i := 3) rfl)) d3_0 (by decide) (by decide) rfl (fun T184 h184 b184 X184 g184 E184 Ex184 D184 N184 => ?_)
  have ne_a_b184 : a ≠ b184 := Nat.ne_of_lt (Nat.lt_of_lt_of_eq f0.lt g184.symm)
  have ne_t_b184 : t ≠ b184 := Nat.ne_of_lt (Nat.lt_of_lt_of_eq f4.lt g184.symm)
  have ne_fl_b184 : fl ≠ b184 := Nat.ne_of_lt (Nat.lt_of_lt_of_eq f5.lt g184.symm)
  have Q184 : h0.size ≤ b184 := Nat.le_trans (Keep.refl h0 []).1 (Nat.le_of_eq g184.symm)
  have K185 : Keep h0 h184 [] := (Keep.refl h0 []).ext E184
  have E186 := f0.ext E184
  have F187 := f1.ext E184
  have F188 := f2.ext E184
  have F189 := f3.ext E184
  have A190 := f4.ext E184
  have A191 := f5.ext E184
  have F192 : Fld Z h184 b184 "com/example/ruleweave/ruleweave/store/Records" "width" "I" (.int (0 : Int32)) := D184 (Or.inr (hw _ (List.mem_of_getElem? (i := 11) rfl))) (ty := .int) (by decide)
  have F193 : Fld Z h184 b184 "com/example/ruleweave/ruleweave/store/Records" "ints" "[I" .null := D184 (Or.inl (hw _ (List.mem_of_getElem? (i := 13) rfl))) (ty := (.array .int)) (by decide)
  have F194 : Fld Z h184 b184 "com/example/ruleweave/ruleweave/store/Records" "size" "I" (.int (0 : Int32)) := D184 (Or.inl (hw _ (List.mem_of_getElem? (i := 22) rfl))) (ty := .int) (by decide)
  refine Go.dup C X184 (pc' := 4) d3_3 rfl rfl ?_
  refine Go.aloadN C X184 (pc' := 5) d3_4 rfl rfl rfl ?_
  refine Go.getF C X184 (pc' := 8) (host := "") (Or.inl (hw _ (List.mem_of_getElem? (i := 10) rfl))) Via.refl F187 d3_5 rfl (fun T195 X195 => ?_)
  refine Go.callI C X195 (pc' := 11) (W := 1) (argsL := [(.int (1 : Int32))]) (rest := [(.ref b184)]) (a := b184) (rm_init l Z a0 hw b184 (1 : Int32) 1024 h184 n0 X195.sz Ex184 F192 F193 F194 N184 rfl (by decide)) rfl rfl (hw _ (List.mem_of_getElem? (i := 20) rfl)) (hw _ (List.mem_of_getElem? (i := 5) rfl)) (hw _ (List.mem_of_getElem? (i := 3) rfl)) (hw _ (List.mem_of_getElem? (i := 6) rfl)) (by decide) rfl rfl (lenOf own_pd0 rfl) rfl (Nat.le_of_eq rfl) (by decide) (by decide) (by decide) (by decide) d3_8 rfl (fun _ _ q => by obtain ⟨_, _, _, K, _⟩ := q; exact K.1) (fun T196 h196 v196 X196 P196 => ?_)
  obtain ⟨t196, rfl, D196_t, K196, O196_0, O196_1, O196_2, O196_3, O196_4⟩ := P196
  have ne_a_t196 : a ≠ t196 := Nat.ne_of_lt (Nat.lt_of_lt_of_le E186.lt D196_t)
  have ne_t_t196 : t ≠ t196 := Nat.ne_of_lt (Nat.lt_of_lt_of_le A190.lt D196_t)
  have ne_fl_t196 : fl ≠ t196 := Nat.ne_of_lt (Nat.lt_of_lt_of_le A191.lt D196_t)
  have ne_b184_t196 : b184 ≠ t196 := Nat.ne_of_lt (Nat.lt_of_lt_of_le Ex184.lt D196_t)
  have N_t196 : n0 ≤ t196 := Nat.le_trans X195.sz D196_t
  have Q_t196 : h0.size ≤ t196 := Nat.le_trans K185.1 D196_t
  have K197 : Keep h0 h196 [] := K185.trans K196 (allS (Or.inr Q184) all0)
  have E198 := E186.keep K196
  have F199 := F187.keep K196 (ninS ne_a_b184 nin0)
  have F200 := F188.keep K196 (ninS ne_a_b184 nin0)
  have F201 := F189.keep K196 (ninS ne_a_b184 nin0)
  have A202 := A190.keep K196 (ninS ne_t_b184 nin0)
  have A203 := A191.keep K196 (ninS ne_fl_b184 nin0)
  have E204 := Ex184.keep K196
  show Go p e below s n0 _ _ _ T196 (mkF m 11 #[.val (.ref a), .val (.ref fl), .unset, .unset, .unset] [(.ref b184)])
  refine Go.astoreN C X196 (pc' := 12) (Ls' := #[.val (.ref a), .val (.ref fl), .val (.ref b184), .unset, .unset]) d3_11 rfl rfl rfl ?_
  refine Go.aloadN C X196 (pc' := 13) d3_12 rfl rfl rfl ?_
  refine Go.aloadN C X196 (pc' := 14) d3_13 rfl rfl rfl ?_
  refine Go.getF C X196 (pc' := 17) (host := "") (Or.inl (hw _ (List.mem_of_getElem? (i := 21) rfl))) Via.refl F201 d3_14 rfl (fun T205 X205 => ?_)
  refine Go.newP C X205 (pc' := 19) (nn := 2) (cap := 2) (hw _ (List.mem_of_getElem? (i := 0) rfl)) d3_17 rfl (by decide) (by decide) (by decide) (by decide) rfl (fun T206 h206 b206 k206 X206 g206 E206 Ar206 N206 => ?_)
  have ne_a_b206 : a ≠ b206 := Nat.ne_of_lt (Nat.lt_of_lt_of_eq E198.lt g206.symm)
  have ne_t_b206 : t ≠ b206 := Nat.ne_of_lt (Nat.lt_of_lt_of_eq A202.lt g206.symm)
  have ne_fl_b206 : fl ≠ b206 := Nat.ne_of_lt (Nat.lt_of_lt_of_eq A203.lt g206.symm)
  have ne_b184_b206 : b184 ≠ b206 := Nat.ne_of_lt (Nat.lt_of_lt_of_eq O196_0.lt g206.symm)
  have ne_t196_b206 : t196 ≠ b206 := Nat.ne_of_lt (Nat.lt_of_lt_of_eq O196_4.lt g206.symm)
  have Q206 : h0.size ≤ b206 := Nat.le_trans K197.1 (Nat.le_of_eq g206.symm)
  have K207 : Keep h0 h206 [] := K197.ext E206
  have E208 := E198.ext E206
  have F209 := F199.ext E206
  have F210 := F200.ext E206
  have F211 := F201.ext E206
  have A212 := A202.ext E206
  have A213 := A203.ext E206
  have E214 := O196_0.ext E206
  have F215 := O196_1.ext E206
  have F216 := O196_2.ext E206
  have F217 := O196_3.ext E206
  have A218 := O196_4.ext E206
  have A206 : AI Z h206 b206 .int 2 (fun _ => 0) := AI.new rfl rfl Ar206
  refine Go.putF C X206 (pc' := 22) (host := "") (Or.inl (hw _ (List.mem_of_getElem? (i := 12) rfl))) Via.refl F216 E214 (Or.inl (hw _ (List.mem_of_getElem? (i := 13) rfl))) (hw _ (List.mem_of_getElem? (i := 2) rfl)) N184 (ty := (.array .int)) (by decide) rfl rfl d3_19 rfl (fun T219 h219 X219 W219 => ?_)
  have Fw219 := F216.same W219
  have K220 : Keep h0 h219 [] := K207.wr W219 (Or.inr Q184)
  have E221 := E208.wr W219
  have F222 := F209.other W219 (Or.inl ne_a_b184)
  have F223 := F210.other W219 (Or.inl ne_a_b184)
  have F224 := F211.other W219 (Or.inl ne_a_b184)
  have A225 := A212.other W219 ne_t_b184
  have A226 := A213.other W219 ne_fl_b184
  have E227 := E214.wr W219
  have F228 := F215.other W219 (Or.inr (slot_ne (Or.inr (hw _ (List.mem_of_getElem? (i := 11) rfl))) (Or.inl (hw _ (List.mem_of_getElem? (i := 13) rfl))) (by decide) (t := .int) (t' := (.array .int)) (by decide) (by decide)))
  have F229 := F217.other W219 (Or.inr (slot_ne (Or.inl (hw _ (List.mem_of_getElem? (i := 22) rfl))) (Or.inl (hw _ (List.mem_of_getElem? (i := 13) rfl))) (by decide) (t := .int) (t' := (.array .int)) (by decide) (by decide)))
  have A230 := A218.other W219 (Ne.symm ne_b184_t196)
  have A231 := A206.other W219 (Ne.symm ne_b184_b206)
  refine Go.aloadN C X219 (pc' := 23) d3_22 rfl rfl rfl ?_
  refine Go.aloadN C X219 (pc' := 24) d3_23 rfl rfl rfl ?_
  refine Go.getF C X219 (pc' := 27) (host := "") (Or.inl (hw _ (List.mem_of_getElem? (i := 21) rfl))) Via.refl F224 d3_24 rfl (fun T232 X232 => ?_)
  refine Go.putF C X232 (pc' := 30) (host := "") (Or.inl (hw _ (List.mem_of_getElem? (i := 21) rfl))) Via.refl F229 E227 (Or.inl (hw _ (List.mem_of_getElem? (i := 22) rfl))) (hw _ (List.mem_of_getElem? (i := 2) rfl)) N184 (ty := .int) (by decide) rfl rfl d3_27 rfl (fun T233 h233 X233 W233 => ?_)
  have Fw233 := F229.same W233
  have K234 : Keep h0 h233 [] := K220.wr W233 (Or.inr Q184)
  have E235 := E221.wr W233
  have F236 := F222.other W233 (Or.inl ne_a_b184)
  have F237 := F223.other W233 (Or.inl ne_a_b184)
  have F238 := F224.other W233 (Or.inl ne_a_b184)
  have A239 := A225.other W233 ne_t_b184
  have A240 := A226.other W233 ne_fl_b184
  have E241 := E227.wr W233
  have F242 := F228.other W233 (Or.inr (slot_ne (Or.inr (hw _ (List.mem_of_getElem? (i := 11) rfl))) (Or.inl (hw _ (List.mem_of_getElem? (i := 22) rfl))) (by decide) (t := .int) (t' := .int) (by decide) (by decide)))
  have A243 := A230.other W233 (Ne.symm ne_b184_t196)
  have A244 := A231.other W233 (Ne.symm ne_b184_b206)
  have F245 := Fw219.other W233 (Or.inr (slot_ne (Or.inl (hw _ (List.mem_of_getElem? (i := 13) rfl))) (Or.inl (hw _ (List.mem_of_getElem? (i := 22) rfl))) (by decide) (t := (.array .int)) (t' := .int) (by decide) (by decide)))
  refine Go.iconst C X233 (pc' := 31) (v := (0 : Int32)) d3_30 rfl rfl ?_
  refine Go.istoreN C X233 (pc' := 32) (Ls' := #[.val (.ref a), .val (.ref fl), .val (.ref b184), .val (.int (0 : Int32)), .unset]) d3_31 rfl rfl ?_
  refine Go.iloadN C X233 (pc' := 33) d3_32 rfl rfl ?_
  refine Go.aloadN C X233 (pc' := 34) d3_33 rfl rfl rfl ?_
  refine Go.getF C X233 (pc' := 37) (host := "") (Or.inl (hw _ (List.mem_of_getElem? (i := 21) rfl))) Via.refl F238 d3_34 rfl (fun T246 X246 => ?_)
  refine Go.icmpNo C X246 (pc' := 40) d3_37 (tlt (by decide)).2.1 rfl ?_
  refine Go.iconst C X246 (pc' := 41) (v := (0 : Int32)) d3_40 rfl rfl ?_
  refine Go.istore C X246 (pc' := 43) (Ls' := #[.val (.ref a), .val (.ref fl), .val (.ref b184), .val (.int (0 : Int32)), .val (.int (0 : Int32))]) d3_41 rfl rfl ?_
  refine Go.iload C X246 (pc' := 45) d3_43 rfl rfl ?_
  refine Go.aloadN C X246 (pc' := 46) d3_45 rfl rfl rfl ?_
  refine Go.getF C X246 (pc' := 49) (host := "") (Or.inl (hw _ (List.mem_of_getElem? (i := 10) rfl))) Via.refl F236 d3_46 rfl (fun T247 X247 => ?_)
  refine Go.icmpNo C X247 (pc' := 52) d3_49 (tlt (by decide)).2.1 rfl ?_
  refine Go.aloadN C X247 (pc' := 53) d3_52 rfl rfl rfl ?_
  refine Go.getF C X247 (pc' := 56) (host := "") (Or.inl (hw _ (List.mem_of_getElem? (i := 12) rfl))) Via.refl F245 d3_53 rfl (fun T248 X248 => ?_)
  refine Go.iloadN C X248 (pc' := 57) d3_56 rfl rfl ?_
  refine Go.iload C X248 (pc' := 59) d3_57 rfl rfl ?_
  refine Go.iadd C X248 (pc' := 60) d3_59 rfl ?_
  refine Go.aloadN C X248 (pc' := 61) d3_60 rfl rfl rfl ?_
  refine Go.getF C X248 (pc' := 64) (host := "") (Or.inl (hw _ (List.mem_of_getElem? (i := 12) rfl))) Via.refl F237 d3_61 rfl (fun T249 X249 => ?_)
  refine Go.iloadN C X249 (pc' := 65) d3_64 rfl rfl ?_
  refine Go.aloadN C X249 (pc' := 66) d3_65 rfl rfl rfl ?_
  refine Go.iload C X249 (pc' := 68) d3_66 rfl rfl ?_
  refine Go.iaload C X249 (pc' := 69) (i := 0) (w := (ff 0)) A240 rfl (by decide) rfl d3_68 rfl ?_
  refine Go.iadd C X249 (pc' := 70) d3_69 rfl ?_
  refine Go.iaload C X249 (pc' := 71) (i := (0 + p0)) (w := (g (0 + p0))) A239 (own_ai (i := 0) rfl hf0 (by decide) (by omega)) (by omega) rfl d3_70 rfl ?_
  refine Go.iastore C X249 (pc' := 72) (i := 0) (x' := (g (0 + p0))) A244 rfl (by decide) rfl N206 d3_71 rfl (fun T250 h250 X250 W250 A250 => ?_)
  have K251 : Keep h0 h250 [] := K234.wr W250 (Or.inr Q206)
  have E252 := E235.wr W250
  have F253 := F236.other W250 (Or.inl ne_a_b206)
  have F254 := F237.other W250 (Or.inl ne_a_b206)
  have F255 := F238.other W250 (Or.inl ne_a_b206)
  have A256 := A239.other W250 ne_t_b206
  have A257 := A240.other W250 ne_fl_b206
  have E258 := E241.wr W250
  have F259 := F242.other W250 (Or.inl ne_b184_b206)
  have A260 := A243.other W250 ne_t196_b206
  have F261 := F245.other W250 (Or.inl ne_b184_b206)
  have F262 := Fw233.other W250 (Or.inl ne_b184_b206)
  refine Go.iinc C X250 (pc' := 75) (Ls' := #[.val (.ref a), .val (.ref fl), .val (.ref b184), .val (.int (0 : Int32)), .val (.int (1 : Int32))]) (v' := (1 : Int32)) d3_72 rfl rfl rfl rfl ?_
  refine Go.goto C X250 (pc' := 43) d3_75 (by decide) (by decide) ?_
  refine Go.iload C X250 (pc' := 45) d3_43 rfl rfl ?_
  refine Go.aloadN C X250 (pc' := 46) d3_45 rfl rfl rfl ?_
  refine Go.getF C X250 (pc' := 49) (host := "") (Or.inl (hw _ (List.mem_of_getElem? (i := 10) rfl))) Via.refl F253 d3_46 rfl (fun T263 X263 => ?_)
  refine Go.icmpYes C X263 (pc' := 78) d3_49 (flt (by decide)).2.1 (by decide) (by decide) ?_
  refine Go.iloadN C X263 (pc' := 79) d3_78 rfl rfl ?_
  refine Go.aloadN C X263 (pc' := 80) d3_79 rfl rfl rfl ?_
  refine Go.getF C X263 (pc' := 83) (host := "") (Or.inl (hw _ (List.mem_of_getElem? (i := 10) rfl))) Via.refl F253 d3_80 rfl (fun T264 X264 => ?_)
  refine Go.iadd C X264 (pc' := 84) d3_83 rfl ?_
  refine Go.istoreN C X264 (pc' := 85) (Ls' := #[.val (.ref a), .val (.ref fl), .val (.ref b184), .val (.int ((0 : Int32) + (1 : Int32))), .val (.int (1 : Int32))]) d3_84 rfl rfl ?_
  refine Go.goto C X264 (pc' := 32) d3_85 (by decide) (by decide) ?_
  refine Go.iloadN C X264 (pc' := 33) d3_32 rfl rfl ?_
  refine Go.aloadN C X264 (pc' := 34) d3_33 rfl rfl rfl ?_
  refine Go.getF C X264 (pc' := 37) (host := "") (Or.inl (hw _ (List.mem_of_getElem? (i := 21) rfl))) Via.refl F255 d3_34 rfl (fun T265 X265 => ?_)
  refine Go.icmpNo C X265 (pc' := 40) d3_37 (tlt (by decide)).2.1 rfl ?_
  refine Go.iconst C X265 (pc' := 41) (v := (0 : Int32)) d3_40 rfl rfl ?_
  refine Go.istore C X265 (pc' := 43) (Ls' := #[.val (.ref a), .val (.ref fl), .val (.ref b184), .val (.int ((0 : Int32) + (1 : Int32))), .val (.int (0 : Int32))]) d3_41 rfl rfl ?_
  refine Go.iload C X265 (pc' := 45) d3_43 rfl rfl ?_
  refine Go.aloadN C X265 (pc' := 46) d3_45 rfl rfl rfl ?_
  refine Go.getF C X265 (pc' := 49) (host := "") (Or.inl (hw _ (List.mem_of_getElem? (i := 10) rfl))) Via.refl F253 d3_46 rfl (fun T266 X266 => ?_)
  refine Go.icmpNo C X266 (pc' := 52) d3_49 (tlt (by decide)).2.1 rfl ?_
  refine Go.aloadN C X266 (pc' := 53) d3_52 rfl rfl rfl ?_
  refine Go.getF C X266 (pc' := 56) (host := "") (Or.inl (hw _ (List.mem_of_getElem? (i := 12) rfl))) Via.refl F261 d3_53 rfl (fun T267 X267 => ?_)
  refine Go.iloadN C X267 (pc' := 57) d3_56 rfl rfl ?_
  refine Go.iload C X267 (pc' := 59) d3_57 rfl rfl ?_
  refine Go.iadd C X267 (pc' := 60) d3_59 rfl ?_
  refine Go.aloadN C X267 (pc' := 61) d3_60 rfl rfl rfl ?_
  refine Go.getF C X267 (pc' := 64) (host := "") (Or.inl (hw _ (List.mem_of_getElem? (i := 12) rfl))) Via.refl F254 d3_61 rfl (fun T268 X268 => ?_)
  refine Go.iloadN C X268 (pc' := 65) d3_64 rfl rfl ?_
  refine Go.aloadN C X268 (pc' := 66) d3_65 rfl rfl rfl ?_
  refine Go.iload C X268 (pc' := 68) d3_66 rfl rfl ?_
  refine Go.iaload C X268 (pc' := 69) (i := 0) (w := (ff 0)) A257 rfl (by decide) rfl d3_68 rfl ?_
  refine Go.iadd C X268 (pc' := 70) d3_69 rfl ?_
  refine Go.iaload C X268 (pc' := 71) (i := (1 + p0)) (w := (g (1 + p0))) A256 (own_ai (i := 1) rfl hf0 (by decide) (by omega)) (by omega) rfl d3_70 rfl ?_
  refine Go.iastore C X268 (pc' := 72) (i := 1) (x' := (g (1 + p0))) A250 rfl (by decide) rfl N206 d3_71 rfl (fun T269 h269 X269 W269 A269 => ?_)
  have K270 : Keep h0 h269 [] := K251.wr W269 (Or.inr Q206)
  have E271 := E252.wr W269
  have F272 := F253.other W269 (Or.inl ne_a_b206)
  have F273 := F254.other W269 (Or.inl ne_a_b206)
  have F274 := F255.other W269 (Or.inl ne_a_b206)
  have A275 := A256.other W269 ne_t_b206
  have A276 := A257.other W269 ne_fl_b206
  have E277 := E258.wr W269
  have F278 := F259.other W269 (Or.inl ne_b184_b206)
  have A279 := A260.other W269 ne_t196_b206
  have F280 := F261.other W269 (Or.inl ne_b184_b206)
  have F281 := F262.other W269 (Or.inl ne_b184_b206)
  refine Go.iinc C X269 (pc' := 75) (Ls' := #[.val (.ref a), .val (.ref fl), .val (.ref b184), .val (.int ((0 : Int32) + (1 : Int32))), .val (.int (1 : Int32))]) (v' := (1 : Int32)) d3_72 rfl rfl rfl rfl ?_
  refine Go.goto C X269 (pc' := 43) d3_75 (by decide) (by decide) ?_
  refine Go.iload C X269 (pc' := 45) d3_43 rfl rfl ?_
  refine Go.aloadN C X269 (pc' := 46) d3_45 rfl rfl rfl ?_
  refine Go.getF C X269 (pc' := 49) (host := "") (Or.inl (hw _ (List.mem_of_getElem? (i := 10) rfl))) Via.refl F272 d3_46 rfl (fun T282 X282 => ?_)
  refine Go.icmpYes C X282 (pc' := 78) d3_49 (flt (by decide)).2.1 (by decide) (by decide) ?_
  refine Go.iloadN C X282 (pc' := 79) d3_78 rfl rfl ?_
  refine Go.aloadN C X282 (pc' := 80) d3_79 rfl rfl rfl ?_
  refine Go.getF C X282 (pc' := 83) (host := "") (Or.inl (hw _ (List.mem_of_getElem? (i := 10) rfl))) Via.refl F272 d3_80 rfl (fun T283 X283 => ?_)
  refine Go.iadd C X283 (pc' := 84) d3_83 rfl ?_
  refine Go.istoreN C X283 (pc' := 85) (Ls' := #[.val (.ref a), .val (.ref fl), .val (.ref b184), .val (.int (((0 : Int32) + (1 : Int32)) + (1 : Int32))), .val (.int (1 : Int32))]) d3_84 rfl rfl ?_
  refine Go.goto C X283 (pc' := 32) d3_85 (by decide) (by decide) ?_
  refine Go.iloadN C X283 (pc' := 33) d3_32 rfl rfl ?_
  refine Go.aloadN C X283 (pc' := 34) d3_33 rfl rfl rfl ?_
  refine Go.getF C X283 (pc' := 37) (host := "") (Or.inl (hw _ (List.mem_of_getElem? (i := 21) rfl))) Via.refl F274 d3_34 rfl (fun T284 X284 => ?_)
  refine Go.icmpYes C X284 (pc' := 88) d3_37 (flt (by decide)).2.1 (by decide) (by decide) ?_
  refine Go.aloadN C X284 (pc' := 89) d3_88 rfl rfl rfl ?_
  exact Go.retA C X284 rfl d3_89 ⟨b184, b206, (fun q => if q = 1 then (g (1 + p0)) else (fun q => if q = 0 then (g (0 + p0)) else (fun _ => 0) q) q), rfl, Q184, Q206, K270, E277, F278, F280, F281, ne_b184_b206, A269, (by rfl), (by rfl)⟩ (by decide) (by decide)
theorem own_ef_rm_re_2_0 (m : MethodId) (x0 : Addr) (x1 : Addr) : entryFrame m #[(.ref x0), (.ref x1)] 5 = mkF m 0 #[.val (.ref x0), .val (.ref x1), .unset, .unset, .unset] [] := by first | (simp [entryFrame, mkF, argsToLocals, Value.category]; done) | rfl
set_option maxRecDepth 65536 in
set_option maxHeartbeats 40000000 in
theorem rm_re_2_0 (l : Launch) (Z : State) (a0 : Array Value) (hw : ∀ d ∈ tables_1, d.before a0 Z = true) (a : Addr) (fl : Addr) (t : Addr) (nn : Nat) (g : Nat → Int32) (ff : Nat → Int32) (p0 : Nat) (p1 : Nat) (h0 : Heap) (n0 : Nat) (Z0 : n0 ≤ h0.size) (f0 : Exa Z h0 a "com/example/ruleweave/ruleweave/store/Records") (f1 : Fld Z h0 a "com/example/ruleweave/ruleweave/store/Records" "width" "I" (.int (2 : Int32))) (f2 : Fld Z h0 a "com/example/ruleweave/ruleweave/store/Records" "ints" "[I" (.ref t)) (f3 : Fld Z h0 a "com/example/ruleweave/ruleweave/store/Records" "size" "I" (.int (0 : Int32))) (f4 : AI Z h0 t .int nn g) (f5 : AI Z h0 fl .int 2 ff) (hnn : 4 ≤ nn) (hf0 : (ff 0).toInt = (p0 : Int)) (hf1 : (ff 1).toInt = (p1 : Int)) (hp0 : p0 < 2) (hp1 : p1 < 2) :
    Con l Z (⟨"com/example/ruleweave/ruleweave/store/Records", "rearranged", "([I)Lcom/example/ruleweave/ruleweave/store/Records;"⟩ : MethodName) prog_16_method_7_code 5 (some (.object "com/example/ruleweave/ruleweave/store/Records")) ({ frames := 2, cells := 3, slots := 2051, locals := 26 } : Room) #[(.ref a), (.ref fl)] h0 n0 (fun rv hv => ∃ cp : Addr, ∃ t2 : Addr, ∃ r2 : Nat → Int32, rv = some (.ref cp) ∧ h0.size ≤ cp ∧ h0.size ≤ t2 ∧ Keep h0 hv [] ∧ Exa Z hv cp "com/example/ruleweave/ruleweave/store/Records" ∧ Fld Z hv cp "com/example/ruleweave/ruleweave/store/Records" "width" "I" (.int (2 : Int32)) ∧ Fld Z hv cp "com/example/ruleweave/ruleweave/store/Records" "ints" "[I" (.ref t2) ∧ Fld Z hv cp "com/example/ruleweave/ruleweave/store/Records" "size" "I" (.int (0 : Int32)) ∧ cp ≠ t2 ∧ AI Z hv t2 .int 0 r2) := by
  refine Con.enter (plainFor_of_name own_pn0) Z0 ?_
  intro p e s m below meth c T0 C hnm X0
  refine Go.cast (own_ef_rm_re_2_0 m a fl) ?_
  refine Go.newO C X0 (pc' := 3) (hw _ (List.mem_of_getElem? (i := 19) rfl)) (hw _ (List.mem_of_getElem? (i := 2) rfl)) (hw _ (List.mem_of_getElem? (i := 3) rfl)) d3_0 (by decide) (by decide) rfl (fun T285 h285 b285 X285 g285 E285 Ex285 D285 N285 => ?_)
  have ne_a_b285 : a ≠ b285 := Nat.ne_of_lt (Nat.lt_of_lt_of_eq f0.lt g285.symm)
  have ne_t_b285 : t ≠ b285 := Nat.ne_of_lt (Nat.lt_of_lt_of_eq f4.lt g285.symm)
  have ne_fl_b285 : fl ≠ b285 := Nat.ne_of_lt (Nat.lt_of_lt_of_eq f5.lt g285.symm)
  have Q285 : h0.size ≤ b285 := Nat.le_trans (Keep.refl h0 []).1 (Nat.le_of_eq g285.symm)
  have K286 : Keep h0 h285 [] := (Keep.refl h0 []).ext E285
  have E287 := f0.ext E285
  have F288 := f1.ext E285
  have F289 := f2.ext E285
  have F290 := f3.ext E285
  have A291 := f4.ext E285
  have A292 := f5.ext E285
  have F293 : Fld Z h285 b285 "com/example/ruleweave/ruleweave/store/Records" "width" "I" (.int (0 : Int32)) := D285 (Or.inr (hw _ (List.mem_of_getElem? (i := 11) rfl))) (ty := .int) (by decide)
  have F294 : Fld Z h285 b285 "com/example/ruleweave/ruleweave/store/Records" "ints" "[I" .null := D285 (Or.inl (hw _ (List.mem_of_getElem? (i := 13) rfl))) (ty := (.array .int)) (by decide)
  have F295 : Fld Z h285 b285 "com/example/ruleweave/ruleweave/store/Records" "size" "I" (.int (0 : Int32)) := D285 (Or.inl (hw _ (List.mem_of_getElem? (i := 22) rfl))) (ty := .int) (by decide)
  refine Go.dup C X285 (pc' := 4) d3_3 rfl rfl ?_
  refine Go.aloadN C X285 (pc' := 5) d3_4 rfl rfl rfl ?_
  refine Go.getF C X285 (pc' := 8) (host := "") (Or.inl (hw _ (List.mem_of_getElem? (i := 10) rfl))) Via.refl F288 d3_5 rfl (fun T296 X296 => ?_)
  refine Go.callI C X296 (pc' := 11) (W := 1) (argsL := [(.int (2 : Int32))]) (rest := [(.ref b285)]) (a := b285) (rm_init l Z a0 hw b285 (2 : Int32) 2048 h285 n0 X296.sz Ex285 F293 F294 F295 N285 rfl (by decide)) rfl rfl (hw _ (List.mem_of_getElem? (i := 20) rfl)) (hw _ (List.mem_of_getElem? (i := 5) rfl)) (hw _ (List.mem_of_getElem? (i := 3) rfl)) (hw _ (List.mem_of_getElem? (i := 6) rfl)) (by decide) rfl rfl (lenOf own_pd0 rfl) rfl (Nat.le_of_eq rfl) (by decide) (by decide) (by decide) (by decide) d3_8 rfl (fun _ _ q => by obtain ⟨_, _, _, K, _⟩ := q; exact K.1) (fun T297 h297 v297 X297 P297 => ?_)
  obtain ⟨t297, rfl, D297_t, K297, O297_0, O297_1, O297_2, O297_3, O297_4⟩ := P297
  have ne_a_t297 : a ≠ t297 := Nat.ne_of_lt (Nat.lt_of_lt_of_le E287.lt D297_t)
  have ne_t_t297 : t ≠ t297 := Nat.ne_of_lt (Nat.lt_of_lt_of_le A291.lt D297_t)
  have ne_fl_t297 : fl ≠ t297 := Nat.ne_of_lt (Nat.lt_of_lt_of_le A292.lt D297_t)
  have ne_b285_t297 : b285 ≠ t297 := Nat.ne_of_lt (Nat.lt_of_lt_of_le Ex285.lt D297_t)
  have N_t297 : n0 ≤ t297 := Nat.le_trans X296.sz D297_t
  have Q_t297 : h0.size ≤ t297 := Nat.le_trans K286.1 D297_t
  have K298 : Keep h0 h297 [] := K286.trans K297 (allS (Or.inr Q285) all0)
  have E299 := E287.keep K297
  have F300 := F288.keep K297 (ninS ne_a_b285 nin0)
  have F301 := F289.keep K297 (ninS ne_a_b285 nin0)
  have F302 := F290.keep K297 (ninS ne_a_b285 nin0)
  have A303 := A291.keep K297 (ninS ne_t_b285 nin0)
  have A304 := A292.keep K297 (ninS ne_fl_b285 nin0)
  have E305 := Ex285.keep K297
  show Go p e below s n0 _ _ _ T297 (mkF m 11 #[.val (.ref a), .val (.ref fl), .unset, .unset, .unset] [(.ref b285)])
  refine Go.astoreN C X297 (pc' := 12) (Ls' := #[.val (.ref a), .val (.ref fl), .val (.ref b285), .unset, .unset]) d3_11 rfl rfl rfl ?_
  refine Go.aloadN C X297 (pc' := 13) d3_12 rfl rfl rfl ?_
  refine Go.aloadN C X297 (pc' := 14) d3_13 rfl rfl rfl ?_
  refine Go.getF C X297 (pc' := 17) (host := "") (Or.inl (hw _ (List.mem_of_getElem? (i := 21) rfl))) Via.refl F302 d3_14 rfl (fun T306 X306 => ?_)
  refine Go.newP C X306 (pc' := 19) (nn := 0) (cap := 0) (hw _ (List.mem_of_getElem? (i := 0) rfl)) d3_17 rfl (by decide) (by decide) (by decide) (by decide) rfl (fun T307 h307 b307 k307 X307 g307 E307 Ar307 N307 => ?_)
  have ne_a_b307 : a ≠ b307 := Nat.ne_of_lt (Nat.lt_of_lt_of_eq E299.lt g307.symm)
  have ne_t_b307 : t ≠ b307 := Nat.ne_of_lt (Nat.lt_of_lt_of_eq A303.lt g307.symm)
  have ne_fl_b307 : fl ≠ b307 := Nat.ne_of_lt (Nat.lt_of_lt_of_eq A304.lt g307.symm)
  have ne_b285_b307 : b285 ≠ b307 := Nat.ne_of_lt (Nat.lt_of_lt_of_eq O297_0.lt g307.symm)
  have ne_t297_b307 : t297 ≠ b307 := Nat.ne_of_lt (Nat.lt_of_lt_of_eq O297_4.lt g307.symm)
  have Q307 : h0.size ≤ b307 := Nat.le_trans K298.1 (Nat.le_of_eq g307.symm)
  have K308 : Keep h0 h307 [] := K298.ext E307
  have E309 := E299.ext E307
  have F310 := F300.ext E307
  have F311 := F301.ext E307
  have F312 := F302.ext E307
  have A313 := A303.ext E307
  have A314 := A304.ext E307
  have E315 := O297_0.ext E307
  have F316 := O297_1.ext E307
  have F317 := O297_2.ext E307
  have F318 := O297_3.ext E307
  have A319 := O297_4.ext E307
  have A307 : AI Z h307 b307 .int 0 (fun _ => 0) := AI.new rfl rfl Ar307
  refine Go.putF C X307 (pc' := 22) (host := "") (Or.inl (hw _ (List.mem_of_getElem? (i := 12) rfl))) Via.refl F317 E315 (Or.inl (hw _ (List.mem_of_getElem? (i := 13) rfl))) (hw _ (List.mem_of_getElem? (i := 2) rfl)) N285 (ty := (.array .int)) (by decide) rfl rfl d3_19 rfl (fun T320 h320 X320 W320 => ?_)
  have Fw320 := F317.same W320
  have K321 : Keep h0 h320 [] := K308.wr W320 (Or.inr Q285)
  have E322 := E309.wr W320
  have F323 := F310.other W320 (Or.inl ne_a_b285)
  have F324 := F311.other W320 (Or.inl ne_a_b285)
  have F325 := F312.other W320 (Or.inl ne_a_b285)
  have A326 := A313.other W320 ne_t_b285
  have A327 := A314.other W320 ne_fl_b285
  have E328 := E315.wr W320
  have F329 := F316.other W320 (Or.inr (slot_ne (Or.inr (hw _ (List.mem_of_getElem? (i := 11) rfl))) (Or.inl (hw _ (List.mem_of_getElem? (i := 13) rfl))) (by decide) (t := .int) (t' := (.array .int)) (by decide) (by decide)))
  have F330 := F318.other W320 (Or.inr (slot_ne (Or.inl (hw _ (List.mem_of_getElem? (i := 22) rfl))) (Or.inl (hw _ (List.mem_of_getElem? (i := 13) rfl))) (by decide) (t := .int) (t' := (.array .int)) (by decide) (by decide)))
  have A331 := A319.other W320 (Ne.symm ne_b285_t297)
  have A332 := A307.other W320 (Ne.symm ne_b285_b307)
  refine Go.aloadN C X320 (pc' := 23) d3_22 rfl rfl rfl ?_
  refine Go.aloadN C X320 (pc' := 24) d3_23 rfl rfl rfl ?_
  refine Go.getF C X320 (pc' := 27) (host := "") (Or.inl (hw _ (List.mem_of_getElem? (i := 21) rfl))) Via.refl F325 d3_24 rfl (fun T333 X333 => ?_)
  refine Go.putF C X333 (pc' := 30) (host := "") (Or.inl (hw _ (List.mem_of_getElem? (i := 21) rfl))) Via.refl F330 E328 (Or.inl (hw _ (List.mem_of_getElem? (i := 22) rfl))) (hw _ (List.mem_of_getElem? (i := 2) rfl)) N285 (ty := .int) (by decide) rfl rfl d3_27 rfl (fun T334 h334 X334 W334 => ?_)
  have Fw334 := F330.same W334
  have K335 : Keep h0 h334 [] := K321.wr W334 (Or.inr Q285)
  have E336 := E322.wr W334
  have F337 := F323.other W334 (Or.inl ne_a_b285)
  have F338 := F324.other W334 (Or.inl ne_a_b285)
  have F339 := F325.other W334 (Or.inl ne_a_b285)
  have A340 := A326.other W334 ne_t_b285
  have A341 := A327.other W334 ne_fl_b285
  have E342 := E328.wr W334
  have F343 := F329.other W334 (Or.inr (slot_ne (Or.inr (hw _ (List.mem_of_getElem? (i := 11) rfl))) (Or.inl (hw _ (List.mem_of_getElem? (i := 22) rfl))) (by decide) (t := .int) (t' := .int) (by decide) (by decide)))
  have A344 := A331.other W334 (Ne.symm ne_b285_t297)
  have A345 := A332.other W334 (Ne.symm ne_b285_b307)
  have F346 := Fw320.other W334 (Or.inr (slot_ne (Or.inl (hw _ (List.mem_of_getElem? (i := 13) rfl))) (Or.inl (hw _ (List.mem_of_getElem? (i := 22) rfl))) (by decide) (t := (.array .int)) (t' := .int) (by decide) (by decide)))
  refine Go.iconst C X334 (pc' := 31) (v := (0 : Int32)) d3_30 rfl rfl ?_
  refine Go.istoreN C X334 (pc' := 32) (Ls' := #[.val (.ref a), .val (.ref fl), .val (.ref b285), .val (.int (0 : Int32)), .unset]) d3_31 rfl rfl ?_
  refine Go.iloadN C X334 (pc' := 33) d3_32 rfl rfl ?_
  refine Go.aloadN C X334 (pc' := 34) d3_33 rfl rfl rfl ?_
  refine Go.getF C X334 (pc' := 37) (host := "") (Or.inl (hw _ (List.mem_of_getElem? (i := 21) rfl))) Via.refl F339 d3_34 rfl (fun T347 X347 => ?_)
  refine Go.icmpYes C X347 (pc' := 88) d3_37 (flt (by decide)).2.1 (by decide) (by decide) ?_
  refine Go.aloadN C X347 (pc' := 89) d3_88 rfl rfl rfl ?_
  exact Go.retA C X347 rfl d3_89 ⟨b285, b307, (fun _ => 0), rfl, Q285, Q307, K335, E342, F343, F346, Fw334, ne_b285_b307, A345⟩ (by decide) (by decide)
theorem own_ef_rm_re_2_1 (m : MethodId) (x0 : Addr) (x1 : Addr) : entryFrame m #[(.ref x0), (.ref x1)] 5 = mkF m 0 #[.val (.ref x0), .val (.ref x1), .unset, .unset, .unset] [] := by first | (simp [entryFrame, mkF, argsToLocals, Value.category]; done) | rfl
set_option maxRecDepth 65536 in
set_option maxHeartbeats 40000000 in
theorem rm_re_2_1 (l : Launch) (Z : State) (a0 : Array Value) (hw : ∀ d ∈ tables_1, d.before a0 Z = true) (a : Addr) (fl : Addr) (t : Addr) (nn : Nat) (g : Nat → Int32) (ff : Nat → Int32) (p0 : Nat) (p1 : Nat) (h0 : Heap) (n0 : Nat) (Z0 : n0 ≤ h0.size) (f0 : Exa Z h0 a "com/example/ruleweave/ruleweave/store/Records") (f1 : Fld Z h0 a "com/example/ruleweave/ruleweave/store/Records" "width" "I" (.int (2 : Int32))) (f2 : Fld Z h0 a "com/example/ruleweave/ruleweave/store/Records" "ints" "[I" (.ref t)) (f3 : Fld Z h0 a "com/example/ruleweave/ruleweave/store/Records" "size" "I" (.int (2 : Int32))) (f4 : AI Z h0 t .int nn g) (f5 : AI Z h0 fl .int 2 ff) (hnn : 4 ≤ nn) (hf0 : (ff 0).toInt = (p0 : Int)) (hf1 : (ff 1).toInt = (p1 : Int)) (hp0 : p0 < 2) (hp1 : p1 < 2) :
    Con l Z (⟨"com/example/ruleweave/ruleweave/store/Records", "rearranged", "([I)Lcom/example/ruleweave/ruleweave/store/Records;"⟩ : MethodName) prog_16_method_7_code 5 (some (.object "com/example/ruleweave/ruleweave/store/Records")) ({ frames := 2, cells := 3, slots := 2053, locals := 26 } : Room) #[(.ref a), (.ref fl)] h0 n0 (fun rv hv => ∃ cp : Addr, ∃ t2 : Addr, ∃ r2 : Nat → Int32, rv = some (.ref cp) ∧ h0.size ≤ cp ∧ h0.size ≤ t2 ∧ Keep h0 hv [] ∧ Exa Z hv cp "com/example/ruleweave/ruleweave/store/Records" ∧ Fld Z hv cp "com/example/ruleweave/ruleweave/store/Records" "width" "I" (.int (2 : Int32)) ∧ Fld Z hv cp "com/example/ruleweave/ruleweave/store/Records" "ints" "[I" (.ref t2) ∧ Fld Z hv cp "com/example/ruleweave/ruleweave/store/Records" "size" "I" (.int (2 : Int32)) ∧ cp ≠ t2 ∧ AI Z hv t2 .int 2 r2 ∧ (r2 0 = g (0 + p0)) ∧ (r2 1 = g (0 + p1))) := by
  refine Con.enter (plainFor_of_name own_pn0) Z0 ?_
  intro p e s m below meth c T0 C hnm X0
  refine Go.cast (own_ef_rm_re_2_1 m a fl) ?_
  refine Go.newO C X0 (pc' := 3) (hw _ (List.mem_of_getElem? (i := 19) rfl)) (hw _ (List.mem_of_getElem? (i := 2) rfl)) (hw _ (List.mem_of_getElem? (i := 3) rfl)) d3_0 (by decide) (by decide) rfl (fun T348 h348 b348 X348 g348 E348 Ex348 D348 N348 => ?_)
  have ne_a_b348 : a ≠ b348 := Nat.ne_of_lt (Nat.lt_of_lt_of_eq f0.lt g348.symm)
  have ne_t_b348 : t ≠ b348 := Nat.ne_of_lt (Nat.lt_of_lt_of_eq f4.lt g348.symm)
  have ne_fl_b348 : fl ≠ b348 := Nat.ne_of_lt (Nat.lt_of_lt_of_eq f5.lt g348.symm)
  have Q348 : h0.size ≤ b348 := Nat.le_trans (Keep.refl h0 []).1 (Nat.le_of_eq g348.symm)
  have K349 : Keep h0 h348 [] := (Keep.refl h0 []).ext E348
  have E350 := f0.ext E348
  have F351 := f1.ext E348
  have F352 := f2.ext E348
  have F353 := f3.ext E348
  have A354 := f4.ext E348
  have A355 := f5.ext E348
  have F356 : Fld Z h348 b348 "com/example/ruleweave/ruleweave/store/Records" "width" "I" (.int (0 : Int32)) := D348 (Or.inr (hw _ (List.mem_of_getElem? (i := 11) rfl))) (ty := .int) (by decide)
  have F357 : Fld Z h348 b348 "com/example/ruleweave/ruleweave/store/Records" "ints" "[I" .null := D348 (Or.inl (hw _ (List.mem_of_getElem? (i := 13) rfl))) (ty := (.array .int)) (by decide)
  have F358 : Fld Z h348 b348 "com/example/ruleweave/ruleweave/store/Records" "size" "I" (.int (0 : Int32)) := D348 (Or.inl (hw _ (List.mem_of_getElem? (i := 22) rfl))) (ty := .int) (by decide)
  refine Go.dup C X348 (pc' := 4) d3_3 rfl rfl ?_
  refine Go.aloadN C X348 (pc' := 5) d3_4 rfl rfl rfl ?_
  refine Go.getF C X348 (pc' := 8) (host := "") (Or.inl (hw _ (List.mem_of_getElem? (i := 10) rfl))) Via.refl F351 d3_5 rfl (fun T359 X359 => ?_)
  refine Go.callI C X359 (pc' := 11) (W := 1) (argsL := [(.int (2 : Int32))]) (rest := [(.ref b348)]) (a := b348) (rm_init l Z a0 hw b348 (2 : Int32) 2048 h348 n0 X359.sz Ex348 F356 F357 F358 N348 rfl (by decide)) rfl rfl (hw _ (List.mem_of_getElem? (i := 20) rfl)) (hw _ (List.mem_of_getElem? (i := 5) rfl)) (hw _ (List.mem_of_getElem? (i := 3) rfl)) (hw _ (List.mem_of_getElem? (i := 6) rfl)) (by decide) rfl rfl (lenOf own_pd0 rfl) rfl (Nat.le_of_eq rfl) (by decide) (by decide) (by decide) (by decide) d3_8 rfl (fun _ _ q => by obtain ⟨_, _, _, K, _⟩ := q; exact K.1) (fun T360 h360 v360 X360 P360 => ?_)
  obtain ⟨t360, rfl, D360_t, K360, O360_0, O360_1, O360_2, O360_3, O360_4⟩ := P360
  have ne_a_t360 : a ≠ t360 := Nat.ne_of_lt (Nat.lt_of_lt_of_le E350.lt D360_t)
  have ne_t_t360 : t ≠ t360 := Nat.ne_of_lt (Nat.lt_of_lt_of_le A354.lt D360_t)
  have ne_fl_t360 : fl ≠ t360 := Nat.ne_of_lt (Nat.lt_of_lt_of_le A355.lt D360_t)
  have ne_b348_t360 : b348 ≠ t360 := Nat.ne_of_lt (Nat.lt_of_lt_of_le Ex348.lt D360_t)
  have N_t360 : n0 ≤ t360 := Nat.le_trans X359.sz D360_t
  have Q_t360 : h0.size ≤ t360 := Nat.le_trans K349.1 D360_t
  have K361 : Keep h0 h360 [] := K349.trans K360 (allS (Or.inr Q348) all0)
  have E362 := E350.keep K360
  have F363 := F351.keep K360 (ninS ne_a_b348 nin0)
  have F364 := F352.keep K360 (ninS ne_a_b348 nin0)
  have F365 := F353.keep K360 (ninS ne_a_b348 nin0)
  have A366 := A354.keep K360 (ninS ne_t_b348 nin0)
  have A367 := A355.keep K360 (ninS ne_fl_b348 nin0)
  have E368 := Ex348.keep K360
  show Go p e below s n0 _ _ _ T360 (mkF m 11 #[.val (.ref a), .val (.ref fl), .unset, .unset, .unset] [(.ref b348)])
  refine Go.astoreN C X360 (pc' := 12) (Ls' := #[.val (.ref a), .val (.ref fl), .val (.ref b348), .unset, .unset]) d3_11 rfl rfl rfl ?_
  refine Go.aloadN C X360 (pc' := 13) d3_12 rfl rfl rfl ?_
  refine Go.aloadN C X360 (pc' := 14) d3_13 rfl rfl rfl ?_
  refine Go.getF C X360 (pc' := 17) (host := "") (Or.inl (hw _ (List.mem_of_getElem? (i := 21) rfl))) Via.refl F365 d3_14 rfl (fun T369 X369 => ?_)
  refine Go.newP C X369 (pc' := 19) (nn := 2) (cap := 2) (hw _ (List.mem_of_getElem? (i := 0) rfl)) d3_17 rfl (by decide) (by decide) (by decide) (by decide) rfl (fun T370 h370 b370 k370 X370 g370 E370 Ar370 N370 => ?_)
  have ne_a_b370 : a ≠ b370 := Nat.ne_of_lt (Nat.lt_of_lt_of_eq E362.lt g370.symm)
  have ne_t_b370 : t ≠ b370 := Nat.ne_of_lt (Nat.lt_of_lt_of_eq A366.lt g370.symm)
  have ne_fl_b370 : fl ≠ b370 := Nat.ne_of_lt (Nat.lt_of_lt_of_eq A367.lt g370.symm)
  have ne_b348_b370 : b348 ≠ b370 := Nat.ne_of_lt (Nat.lt_of_lt_of_eq O360_0.lt g370.symm)
  have ne_t360_b370 : t360 ≠ b370 := Nat.ne_of_lt (Nat.lt_of_lt_of_eq O360_4.lt g370.symm)
  have Q370 : h0.size ≤ b370 := Nat.le_trans K361.1 (Nat.le_of_eq g370.symm)
  have K371 : Keep h0 h370 [] := K361.ext E370
  have E372 := E362.ext E370
  have F373 := F363.ext E370
  have F374 := F364.ext E370
  have F375 := F365.ext E370
  have A376 := A366.ext E370
  have A377 := A367.ext E370
  have E378 := O360_0.ext E370
  have F379 := O360_1.ext E370
  have F380 := O360_2.ext E370
  have F381 := O360_3.ext E370
  have A382 := O360_4.ext E370
  have A370 : AI Z h370 b370 .int 2 (fun _ => 0) := AI.new rfl rfl Ar370
  refine Go.putF C X370 (pc' := 22) (host := "") (Or.inl (hw _ (List.mem_of_getElem? (i := 12) rfl))) Via.refl F380 E378 (Or.inl (hw _ (List.mem_of_getElem? (i := 13) rfl))) (hw _ (List.mem_of_getElem? (i := 2) rfl)) N348 (ty := (.array .int)) (by decide) rfl rfl d3_19 rfl (fun T383 h383 X383 W383 => ?_)
  have Fw383 := F380.same W383
  have K384 : Keep h0 h383 [] := K371.wr W383 (Or.inr Q348)
  have E385 := E372.wr W383
  have F386 := F373.other W383 (Or.inl ne_a_b348)
  have F387 := F374.other W383 (Or.inl ne_a_b348)
  have F388 := F375.other W383 (Or.inl ne_a_b348)
  have A389 := A376.other W383 ne_t_b348
  have A390 := A377.other W383 ne_fl_b348
  have E391 := E378.wr W383
  have F392 := F379.other W383 (Or.inr (slot_ne (Or.inr (hw _ (List.mem_of_getElem? (i := 11) rfl))) (Or.inl (hw _ (List.mem_of_getElem? (i := 13) rfl))) (by decide) (t := .int) (t' := (.array .int)) (by decide) (by decide)))
  have F393 := F381.other W383 (Or.inr (slot_ne (Or.inl (hw _ (List.mem_of_getElem? (i := 22) rfl))) (Or.inl (hw _ (List.mem_of_getElem? (i := 13) rfl))) (by decide) (t := .int) (t' := (.array .int)) (by decide) (by decide)))
  have A394 := A382.other W383 (Ne.symm ne_b348_t360)
  have A395 := A370.other W383 (Ne.symm ne_b348_b370)
  refine Go.aloadN C X383 (pc' := 23) d3_22 rfl rfl rfl ?_
  refine Go.aloadN C X383 (pc' := 24) d3_23 rfl rfl rfl ?_
  refine Go.getF C X383 (pc' := 27) (host := "") (Or.inl (hw _ (List.mem_of_getElem? (i := 21) rfl))) Via.refl F388 d3_24 rfl (fun T396 X396 => ?_)
  refine Go.putF C X396 (pc' := 30) (host := "") (Or.inl (hw _ (List.mem_of_getElem? (i := 21) rfl))) Via.refl F393 E391 (Or.inl (hw _ (List.mem_of_getElem? (i := 22) rfl))) (hw _ (List.mem_of_getElem? (i := 2) rfl)) N348 (ty := .int) (by decide) rfl rfl d3_27 rfl (fun T397 h397 X397 W397 => ?_)
  have Fw397 := F393.same W397
  have K398 : Keep h0 h397 [] := K384.wr W397 (Or.inr Q348)
  have E399 := E385.wr W397
  have F400 := F386.other W397 (Or.inl ne_a_b348)
  have F401 := F387.other W397 (Or.inl ne_a_b348)
  have F402 := F388.other W397 (Or.inl ne_a_b348)
  have A403 := A389.other W397 ne_t_b348
  have A404 := A390.other W397 ne_fl_b348
  have E405 := E391.wr W397
  have F406 := F392.other W397 (Or.inr (slot_ne (Or.inr (hw _ (List.mem_of_getElem? (i := 11) rfl))) (Or.inl (hw _ (List.mem_of_getElem? (i := 22) rfl))) (by decide) (t := .int) (t' := .int) (by decide) (by decide)))
  have A407 := A394.other W397 (Ne.symm ne_b348_t360)
  have A408 := A395.other W397 (Ne.symm ne_b348_b370)
  have F409 := Fw383.other W397 (Or.inr (slot_ne (Or.inl (hw _ (List.mem_of_getElem? (i := 13) rfl))) (Or.inl (hw _ (List.mem_of_getElem? (i := 22) rfl))) (by decide) (t := (.array .int)) (t' := .int) (by decide) (by decide)))
  refine Go.iconst C X397 (pc' := 31) (v := (0 : Int32)) d3_30 rfl rfl ?_
  refine Go.istoreN C X397 (pc' := 32) (Ls' := #[.val (.ref a), .val (.ref fl), .val (.ref b348), .val (.int (0 : Int32)), .unset]) d3_31 rfl rfl ?_
  refine Go.iloadN C X397 (pc' := 33) d3_32 rfl rfl ?_
  refine Go.aloadN C X397 (pc' := 34) d3_33 rfl rfl rfl ?_
  refine Go.getF C X397 (pc' := 37) (host := "") (Or.inl (hw _ (List.mem_of_getElem? (i := 21) rfl))) Via.refl F402 d3_34 rfl (fun T410 X410 => ?_)
  refine Go.icmpNo C X410 (pc' := 40) d3_37 (tlt (by decide)).2.1 rfl ?_
  refine Go.iconst C X410 (pc' := 41) (v := (0 : Int32)) d3_40 rfl rfl ?_
  refine Go.istore C X410 (pc' := 43) (Ls' := #[.val (.ref a), .val (.ref fl), .val (.ref b348), .val (.int (0 : Int32)), .val (.int (0 : Int32))]) d3_41 rfl rfl ?_
  refine Go.iload C X410 (pc' := 45) d3_43 rfl rfl ?_
  refine Go.aloadN C X410 (pc' := 46) d3_45 rfl rfl rfl ?_
  refine Go.getF C X410 (pc' := 49) (host := "") (Or.inl (hw _ (List.mem_of_getElem? (i := 10) rfl))) Via.refl F400 d3_46 rfl (fun T411 X411 => ?_)
  refine Go.icmpNo C X411 (pc' := 52) d3_49 (tlt (by decide)).2.1 rfl ?_
  refine Go.aloadN C X411 (pc' := 53) d3_52 rfl rfl rfl ?_
  refine Go.getF C X411 (pc' := 56) (host := "") (Or.inl (hw _ (List.mem_of_getElem? (i := 12) rfl))) Via.refl F409 d3_53 rfl (fun T412 X412 => ?_)
  refine Go.iloadN C X412 (pc' := 57) d3_56 rfl rfl ?_
  refine Go.iload C X412 (pc' := 59) d3_57 rfl rfl ?_
  refine Go.iadd C X412 (pc' := 60) d3_59 rfl ?_
  refine Go.aloadN C X412 (pc' := 61) d3_60 rfl rfl rfl ?_
  refine Go.getF C X412 (pc' := 64) (host := "") (Or.inl (hw _ (List.mem_of_getElem? (i := 12) rfl))) Via.refl F401 d3_61 rfl (fun T413 X413 => ?_)
  refine Go.iloadN C X413 (pc' := 65) d3_64 rfl rfl ?_
  refine Go.aloadN C X413 (pc' := 66) d3_65 rfl rfl rfl ?_
  refine Go.iload C X413 (pc' := 68) d3_66 rfl rfl ?_
  refine Go.iaload C X413 (pc' := 69) (i := 0) (w := (ff 0)) A404 rfl (by decide) rfl d3_68 rfl ?_
  refine Go.iadd C X413 (pc' := 70) d3_69 rfl ?_
  refine Go.iaload C X413 (pc' := 71) (i := (0 + p0)) (w := (g (0 + p0))) A403 (own_ai (i := 0) rfl hf0 (by decide) (by omega)) (by omega) rfl d3_70 rfl ?_
  refine Go.iastore C X413 (pc' := 72) (i := 0) (x' := (g (0 + p0))) A408 rfl (by decide) rfl N370 d3_71 rfl (fun T414 h414 X414 W414 A414 => ?_)
  have K415 : Keep h0 h414 [] := K398.wr W414 (Or.inr Q370)
  have E416 := E399.wr W414
  have F417 := F400.other W414 (Or.inl ne_a_b370)
  have F418 := F401.other W414 (Or.inl ne_a_b370)
  have F419 := F402.other W414 (Or.inl ne_a_b370)
  have A420 := A403.other W414 ne_t_b370
  have A421 := A404.other W414 ne_fl_b370
  have E422 := E405.wr W414
  have F423 := F406.other W414 (Or.inl ne_b348_b370)
  have A424 := A407.other W414 ne_t360_b370
  have F425 := F409.other W414 (Or.inl ne_b348_b370)
  have F426 := Fw397.other W414 (Or.inl ne_b348_b370)
  refine Go.iinc C X414 (pc' := 75) (Ls' := #[.val (.ref a), .val (.ref fl), .val (.ref b348), .val (.int (0 : Int32)), .val (.int (1 : Int32))]) (v' := (1 : Int32)) d3_72 rfl rfl rfl rfl ?_
  refine Go.goto C X414 (pc' := 43) d3_75 (by decide) (by decide) ?_
  refine Go.iload C X414 (pc' := 45) d3_43 rfl rfl ?_
  refine Go.aloadN C X414 (pc' := 46) d3_45 rfl rfl rfl ?_
  refine Go.getF C X414 (pc' := 49) (host := "") (Or.inl (hw _ (List.mem_of_getElem? (i := 10) rfl))) Via.refl F417 d3_46 rfl (fun T427 X427 => ?_)
  refine Go.icmpNo C X427 (pc' := 52) d3_49 (tlt (by decide)).2.1 rfl ?_
  refine Go.aloadN C X427 (pc' := 53) d3_52 rfl rfl rfl ?_
  refine Go.getF C X427 (pc' := 56) (host := "") (Or.inl (hw _ (List.mem_of_getElem? (i := 12) rfl))) Via.refl F425 d3_53 rfl (fun T428 X428 => ?_)
  refine Go.iloadN C X428 (pc' := 57) d3_56 rfl rfl ?_
  refine Go.iload C X428 (pc' := 59) d3_57 rfl rfl ?_
  refine Go.iadd C X428 (pc' := 60) d3_59 rfl ?_
  refine Go.aloadN C X428 (pc' := 61) d3_60 rfl rfl rfl ?_
  refine Go.getF C X428 (pc' := 64) (host := "") (Or.inl (hw _ (List.mem_of_getElem? (i := 12) rfl))) Via.refl F418 d3_61 rfl (fun T429 X429 => ?_)
  refine Go.iloadN C X429 (pc' := 65) d3_64 rfl rfl ?_
  refine Go.aloadN C X429 (pc' := 66) d3_65 rfl rfl rfl ?_
  refine Go.iload C X429 (pc' := 68) d3_66 rfl rfl ?_
  refine Go.iaload C X429 (pc' := 69) (i := 1) (w := (ff 1)) A421 rfl (by decide) rfl d3_68 rfl ?_
  refine Go.iadd C X429 (pc' := 70) d3_69 rfl ?_
  refine Go.iaload C X429 (pc' := 71) (i := (0 + p1)) (w := (g (0 + p1))) A420 (own_ai (i := 0) rfl hf1 (by decide) (by omega)) (by omega) rfl d3_70 rfl ?_
  refine Go.iastore C X429 (pc' := 72) (i := 1) (x' := (g (0 + p1))) A414 rfl (by decide) rfl N370 d3_71 rfl (fun T430 h430 X430 W430 A430 => ?_)
  have K431 : Keep h0 h430 [] := K415.wr W430 (Or.inr Q370)
  have E432 := E416.wr W430
  have F433 := F417.other W430 (Or.inl ne_a_b370)
  have F434 := F418.other W430 (Or.inl ne_a_b370)
  have F435 := F419.other W430 (Or.inl ne_a_b370)
  have A436 := A420.other W430 ne_t_b370
  have A437 := A421.other W430 ne_fl_b370
  have E438 := E422.wr W430
  have F439 := F423.other W430 (Or.inl ne_b348_b370)
  have A440 := A424.other W430 ne_t360_b370
  have F441 := F425.other W430 (Or.inl ne_b348_b370)
  have F442 := F426.other W430 (Or.inl ne_b348_b370)
  refine Go.iinc C X430 (pc' := 75) (Ls' := #[.val (.ref a), .val (.ref fl), .val (.ref b348), .val (.int (0 : Int32)), .val (.int (2 : Int32))]) (v' := (2 : Int32)) d3_72 rfl rfl rfl rfl ?_
  refine Go.goto C X430 (pc' := 43) d3_75 (by decide) (by decide) ?_
  refine Go.iload C X430 (pc' := 45) d3_43 rfl rfl ?_
  refine Go.aloadN C X430 (pc' := 46) d3_45 rfl rfl rfl ?_
  refine Go.getF C X430 (pc' := 49) (host := "") (Or.inl (hw _ (List.mem_of_getElem? (i := 10) rfl))) Via.refl F433 d3_46 rfl (fun T443 X443 => ?_)
  refine Go.icmpYes C X443 (pc' := 78) d3_49 (flt (by decide)).2.1 (by decide) (by decide) ?_
  refine Go.iloadN C X443 (pc' := 79) d3_78 rfl rfl ?_
  refine Go.aloadN C X443 (pc' := 80) d3_79 rfl rfl rfl ?_
  refine Go.getF C X443 (pc' := 83) (host := "") (Or.inl (hw _ (List.mem_of_getElem? (i := 10) rfl))) Via.refl F433 d3_80 rfl (fun T444 X444 => ?_)
  refine Go.iadd C X444 (pc' := 84) d3_83 rfl ?_
  refine Go.istoreN C X444 (pc' := 85) (Ls' := #[.val (.ref a), .val (.ref fl), .val (.ref b348), .val (.int ((0 : Int32) + (2 : Int32))), .val (.int (2 : Int32))]) d3_84 rfl rfl ?_
  refine Go.goto C X444 (pc' := 32) d3_85 (by decide) (by decide) ?_
  refine Go.iloadN C X444 (pc' := 33) d3_32 rfl rfl ?_
  refine Go.aloadN C X444 (pc' := 34) d3_33 rfl rfl rfl ?_
  refine Go.getF C X444 (pc' := 37) (host := "") (Or.inl (hw _ (List.mem_of_getElem? (i := 21) rfl))) Via.refl F435 d3_34 rfl (fun T445 X445 => ?_)
  refine Go.icmpYes C X445 (pc' := 88) d3_37 (flt (by decide)).2.1 (by decide) (by decide) ?_
  refine Go.aloadN C X445 (pc' := 89) d3_88 rfl rfl rfl ?_
  exact Go.retA C X445 rfl d3_89 ⟨b348, b370, (fun q => if q = 1 then (g (0 + p1)) else (fun q => if q = 0 then (g (0 + p0)) else (fun _ => 0) q) q), rfl, Q348, Q370, K431, E438, F439, F441, F442, ne_b348_b370, A430, (by rfl), (by rfl)⟩ (by decide) (by decide)
theorem own_ef_rm_re_2_2 (m : MethodId) (x0 : Addr) (x1 : Addr) : entryFrame m #[(.ref x0), (.ref x1)] 5 = mkF m 0 #[.val (.ref x0), .val (.ref x1), .unset, .unset, .unset] [] := by first | (simp [entryFrame, mkF, argsToLocals, Value.category]; done) | rfl
set_option maxRecDepth 65536 in
set_option maxHeartbeats 40000000 in
theorem rm_re_2_2 (l : Launch) (Z : State) (a0 : Array Value) (hw : ∀ d ∈ tables_1, d.before a0 Z = true) (a : Addr) (fl : Addr) (t : Addr) (nn : Nat) (g : Nat → Int32) (ff : Nat → Int32) (p0 : Nat) (p1 : Nat) (h0 : Heap) (n0 : Nat) (Z0 : n0 ≤ h0.size) (f0 : Exa Z h0 a "com/example/ruleweave/ruleweave/store/Records") (f1 : Fld Z h0 a "com/example/ruleweave/ruleweave/store/Records" "width" "I" (.int (2 : Int32))) (f2 : Fld Z h0 a "com/example/ruleweave/ruleweave/store/Records" "ints" "[I" (.ref t)) (f3 : Fld Z h0 a "com/example/ruleweave/ruleweave/store/Records" "size" "I" (.int (4 : Int32))) (f4 : AI Z h0 t .int nn g) (f5 : AI Z h0 fl .int 2 ff) (hnn : 4 ≤ nn) (hf0 : (ff 0).toInt = (p0 : Int)) (hf1 : (ff 1).toInt = (p1 : Int)) (hp0 : p0 < 2) (hp1 : p1 < 2) :
    Con l Z (⟨"com/example/ruleweave/ruleweave/store/Records", "rearranged", "([I)Lcom/example/ruleweave/ruleweave/store/Records;"⟩ : MethodName) prog_16_method_7_code 5 (some (.object "com/example/ruleweave/ruleweave/store/Records")) ({ frames := 2, cells := 3, slots := 2055, locals := 26 } : Room) #[(.ref a), (.ref fl)] h0 n0 (fun rv hv => ∃ cp : Addr, ∃ t2 : Addr, ∃ r2 : Nat → Int32, rv = some (.ref cp) ∧ h0.size ≤ cp ∧ h0.size ≤ t2 ∧ Keep h0 hv [] ∧ Exa Z hv cp "com/example/ruleweave/ruleweave/store/Records" ∧ Fld Z hv cp "com/example/ruleweave/ruleweave/store/Records" "width" "I" (.int (2 : Int32)) ∧ Fld Z hv cp "com/example/ruleweave/ruleweave/store/Records" "ints" "[I" (.ref t2) ∧ Fld Z hv cp "com/example/ruleweave/ruleweave/store/Records" "size" "I" (.int (4 : Int32)) ∧ cp ≠ t2 ∧ AI Z hv t2 .int 4 r2 ∧ (r2 0 = g (0 + p0)) ∧ (r2 1 = g (0 + p1)) ∧ (r2 2 = g (2 + p0)) ∧ (r2 3 = g (2 + p1))) := by
  refine Con.enter (plainFor_of_name own_pn0) Z0 ?_
  intro p e s m below meth c T0 C hnm X0
  refine Go.cast (own_ef_rm_re_2_2 m a fl) ?_
  refine Go.newO C X0 (pc' := 3) (hw _ (List.mem_of_getElem? (i := 19) rfl)) (hw _ (List.mem_of_getElem? (i := 2) rfl)) (hw _ (List.mem_of_getElem? (i := 3) rfl)) d3_0 (by decide) (by decide) rfl (fun T446 h446 b446 X446 g446 E446 Ex446 D446 N446 => ?_)
  have ne_a_b446 : a ≠ b446 := Nat.ne_of_lt (Nat.lt_of_lt_of_eq f0.lt g446.symm)
  have ne_t_b446 : t ≠ b446 := Nat.ne_of_lt (Nat.lt_of_lt_of_eq f4.lt g446.symm)
  have ne_fl_b446 : fl ≠ b446 := Nat.ne_of_lt (Nat.lt_of_lt_of_eq f5.lt g446.symm)
  have Q446 : h0.size ≤ b446 := Nat.le_trans (Keep.refl h0 []).1 (Nat.le_of_eq g446.symm)
  have K447 : Keep h0 h446 [] := (Keep.refl h0 []).ext E446
  have E448 := f0.ext E446
  have F449 := f1.ext E446
  have F450 := f2.ext E446
  have F451 := f3.ext E446
  have A452 := f4.ext E446
  have A453 := f5.ext E446
  have F454 : Fld Z h446 b446 "com/example/ruleweave/ruleweave/store/Records" "width" "I" (.int (0 : Int32)) := D446 (Or.inr (hw _ (List.mem_of_getElem? (i := 11) rfl))) (ty := .int) (by decide)
  have F455 : Fld Z h446 b446 "com/example/ruleweave/ruleweave/store/Records" "ints" "[I" .null := D446 (Or.inl (hw _ (List.mem_of_getElem? (i := 13) rfl))) (ty := (.array .int)) (by decide)
  have F456 : Fld Z h446 b446 "com/example/ruleweave/ruleweave/store/Records" "size" "I" (.int (0 : Int32)) := D446 (Or.inl (hw _ (List.mem_of_getElem? (i := 22) rfl))) (ty := .int) (by decide)
  refine Go.dup C X446 (pc' := 4) d3_3 rfl rfl ?_
  refine Go.aloadN C X446 (pc' := 5) d3_4 rfl rfl rfl ?_
  refine Go.getF C X446 (pc' := 8) (host := "") (Or.inl (hw _ (List.mem_of_getElem? (i := 10) rfl))) Via.refl F449 d3_5 rfl (fun T457 X457 => ?_)
  refine Go.callI C X457 (pc' := 11) (W := 1) (argsL := [(.int (2 : Int32))]) (rest := [(.ref b446)]) (a := b446) (rm_init l Z a0 hw b446 (2 : Int32) 2048 h446 n0 X457.sz Ex446 F454 F455 F456 N446 rfl (by decide)) rfl rfl (hw _ (List.mem_of_getElem? (i := 20) rfl)) (hw _ (List.mem_of_getElem? (i := 5) rfl)) (hw _ (List.mem_of_getElem? (i := 3) rfl)) (hw _ (List.mem_of_getElem? (i := 6) rfl)) (by decide) rfl rfl (lenOf own_pd0 rfl) rfl (Nat.le_of_eq rfl) (by decide) (by decide) (by decide) (by decide) d3_8 rfl (fun _ _ q => by obtain ⟨_, _, _, K, _⟩ := q; exact K.1) (fun T458 h458 v458 X458 P458 => ?_)
  obtain ⟨t458, rfl, D458_t, K458, O458_0, O458_1, O458_2, O458_3, O458_4⟩ := P458
  have ne_a_t458 : a ≠ t458 := Nat.ne_of_lt (Nat.lt_of_lt_of_le E448.lt D458_t)
  have ne_t_t458 : t ≠ t458 := Nat.ne_of_lt (Nat.lt_of_lt_of_le A452.lt D458_t)
  have ne_fl_t458 : fl ≠ t458 := Nat.ne_of_lt (Nat.lt_of_lt_of_le A453.lt D458_t)
  have ne_b446_t458 : b446 ≠ t458 := Nat.ne_of_lt (Nat.lt_of_lt_of_le Ex446.lt D458_t)
  have N_t458 : n0 ≤ t458 := Nat.le_trans X457.sz D458_t
  have Q_t458 : h0.size ≤ t458 := Nat.le_trans K447.1 D458_t
  have K459 : Keep h0 h458 [] := K447.trans K458 (allS (Or.inr Q446) all0)
  have E460 := E448.keep K458
  have F461 := F449.keep K458 (ninS ne_a_b446 nin0)
  have F462 := F450.keep K458 (ninS ne_a_b446 nin0)
  have F463 := F451.keep K458 (ninS ne_a_b446 nin0)
  have A464 := A452.keep K458 (ninS ne_t_b446 nin0)
  have A465 := A453.keep K458 (ninS ne_fl_b446 nin0)
  have E466 := Ex446.keep K458
  show Go p e below s n0 _ _ _ T458 (mkF m 11 #[.val (.ref a), .val (.ref fl), .unset, .unset, .unset] [(.ref b446)])
  refine Go.astoreN C X458 (pc' := 12) (Ls' := #[.val (.ref a), .val (.ref fl), .val (.ref b446), .unset, .unset]) d3_11 rfl rfl rfl ?_
  refine Go.aloadN C X458 (pc' := 13) d3_12 rfl rfl rfl ?_
  refine Go.aloadN C X458 (pc' := 14) d3_13 rfl rfl rfl ?_
  refine Go.getF C X458 (pc' := 17) (host := "") (Or.inl (hw _ (List.mem_of_getElem? (i := 21) rfl))) Via.refl F463 d3_14 rfl (fun T467 X467 => ?_)
  refine Go.newP C X467 (pc' := 19) (nn := 4) (cap := 4) (hw _ (List.mem_of_getElem? (i := 0) rfl)) d3_17 rfl (by decide) (by decide) (by decide) (by decide) rfl (fun T468 h468 b468 k468 X468 g468 E468 Ar468 N468 => ?_)
  have ne_a_b468 : a ≠ b468 := Nat.ne_of_lt (Nat.lt_of_lt_of_eq E460.lt g468.symm)
  have ne_t_b468 : t ≠ b468 := Nat.ne_of_lt (Nat.lt_of_lt_of_eq A464.lt g468.symm)
  have ne_fl_b468 : fl ≠ b468 := Nat.ne_of_lt (Nat.lt_of_lt_of_eq A465.lt g468.symm)
  have ne_b446_b468 : b446 ≠ b468 := Nat.ne_of_lt (Nat.lt_of_lt_of_eq O458_0.lt g468.symm)
  have ne_t458_b468 : t458 ≠ b468 := Nat.ne_of_lt (Nat.lt_of_lt_of_eq O458_4.lt g468.symm)
  have Q468 : h0.size ≤ b468 := Nat.le_trans K459.1 (Nat.le_of_eq g468.symm)
  have K469 : Keep h0 h468 [] := K459.ext E468
  have E470 := E460.ext E468
  have F471 := F461.ext E468
  have F472 := F462.ext E468
  have F473 := F463.ext E468
  have A474 := A464.ext E468
  have A475 := A465.ext E468
  have E476 := O458_0.ext E468
  have F477 := O458_1.ext E468
  have F478 := O458_2.ext E468
  have F479 := O458_3.ext E468
  have A480 := O458_4.ext E468
  have A468 : AI Z h468 b468 .int 4 (fun _ => 0) := AI.new rfl rfl Ar468
  refine Go.putF C X468 (pc' := 22) (host := "") (Or.inl (hw _ (List.mem_of_getElem? (i := 12) rfl))) Via.refl F478 E476 (Or.inl (hw _ (List.mem_of_getElem? (i := 13) rfl))) (hw _ (List.mem_of_getElem? (i := 2) rfl)) N446 (ty := (.array .int)) (by decide) rfl rfl d3_19 rfl (fun T481 h481 X481 W481 => ?_)
  have Fw481 := F478.same W481
  have K482 : Keep h0 h481 [] := K469.wr W481 (Or.inr Q446)
  have E483 := E470.wr W481
  have F484 := F471.other W481 (Or.inl ne_a_b446)
  have F485 := F472.other W481 (Or.inl ne_a_b446)
  have F486 := F473.other W481 (Or.inl ne_a_b446)
  have A487 := A474.other W481 ne_t_b446
  have A488 := A475.other W481 ne_fl_b446
  have E489 := E476.wr W481
  have F490 := F477.other W481 (Or.inr (slot_ne (Or.inr (hw _ (List.mem_of_getElem? (i := 11) rfl))) (Or.inl (hw _ (List.mem_of_getElem? (i := 13) rfl))) (by decide) (t := .int) (t' := (.array .int)) (by decide) (by decide)))
  have F491 := F479.other W481 (Or.inr (slot_ne (Or.inl (hw _ (List.mem_of_getElem? (i := 22) rfl))) (Or.inl (hw _ (List.mem_of_getElem? (i := 13) rfl))) (by decide) (t := .int) (t' := (.array .int)) (by decide) (by decide)))
  have A492 := A480.other W481 (Ne.symm ne_b446_t458)
  have A493 := A468.other W481 (Ne.symm ne_b446_b468)
  refine Go.aloadN C X481 (pc' := 23) d3_22 rfl rfl rfl ?_
  refine Go.aloadN C X481 (pc' := 24) d3_23 rfl rfl rfl ?_
  refine Go.getF C X481 (pc' := 27) (host := "") (Or.inl (hw _ (List.mem_of_getElem? (i := 21) rfl))) Via.refl F486 d3_24 rfl (fun T494 X494 => ?_)
  refine Go.putF C X494 (pc' := 30) (host := "") (Or.inl (hw _ (List.mem_of_getElem? (i := 21) rfl))) Via.refl F491 E489 (Or.inl (hw _ (List.mem_of_getElem? (i := 22) rfl))) (hw _ (List.mem_of_getElem? (i := 2) rfl)) N446 (ty := .int) (by decide) rfl rfl d3_27 rfl (fun T495 h495 X495 W495 => ?_)
  have Fw495 := F491.same W495
  have K496 : Keep h0 h495 [] := K482.wr W495 (Or.inr Q446)
  have E497 := E483.wr W495
  have F498 := F484.other W495 (Or.inl ne_a_b446)
  have F499 := F485.other W495 (Or.inl ne_a_b446)
  have F500 := F486.other W495 (Or.inl ne_a_b446)
  have A501 := A487.other W495 ne_t_b446
  have A502 := A488.other W495 ne_fl_b446
  have E503 := E489.wr W495
  have F504 := F490.other W495 (Or.inr (slot_ne (Or.inr (hw _ (List.mem_of_getElem? (i := 11) rfl))) (Or.inl (hw _ (List.mem_of_getElem? (i := 22) rfl))) (by decide) (t := .int) (t' := .int) (by decide) (by decide)))
  have A505 := A492.other W495 (Ne.symm ne_b446_t458)
  have A506 := A493.other W495 (Ne.symm ne_b446_b468)
  have F507 := Fw481.other W495 (Or.inr (slot_ne (Or.inl (hw _ (List.mem_of_getElem? (i := 13) rfl))) (Or.inl (hw _ (List.mem_of_getElem? (i := 22) rfl))) (by decide) (t := (.array .int)) (t' := .int) (by decide) (by decide)))
  refine Go.iconst C X495 (pc' := 31) (v := (0 : Int32)) d3_30 rfl rfl ?_
  refine Go.istoreN C X495 (pc' := 32) (Ls' := #[.val (.ref a), .val (.ref fl), .val (.ref b446), .val (.int (0 : Int32)), .unset]) d3_31 rfl rfl ?_
  refine Go.iloadN C X495 (pc' := 33) d3_32 rfl rfl ?_
  refine Go.aloadN C X495 (pc' := 34) d3_33 rfl rfl rfl ?_
  refine Go.getF C X495 (pc' := 37) (host := "") (Or.inl (hw _ (List.mem_of_getElem? (i := 21) rfl))) Via.refl F500 d3_34 rfl (fun T508 X508 => ?_)
  refine Go.icmpNo C X508 (pc' := 40) d3_37 (tlt (by decide)).2.1 rfl ?_
  refine Go.iconst C X508 (pc' := 41) (v := (0 : Int32)) d3_40 rfl rfl ?_
  refine Go.istore C X508 (pc' := 43) (Ls' := #[.val (.ref a), .val (.ref fl), .val (.ref b446), .val (.int (0 : Int32)), .val (.int (0 : Int32))]) d3_41 rfl rfl ?_
  refine Go.iload C X508 (pc' := 45) d3_43 rfl rfl ?_
  refine Go.aloadN C X508 (pc' := 46) d3_45 rfl rfl rfl ?_
  refine Go.getF C X508 (pc' := 49) (host := "") (Or.inl (hw _ (List.mem_of_getElem? (i := 10) rfl))) Via.refl F498 d3_46 rfl (fun T509 X509 => ?_)
  refine Go.icmpNo C X509 (pc' := 52) d3_49 (tlt (by decide)).2.1 rfl ?_
  refine Go.aloadN C X509 (pc' := 53) d3_52 rfl rfl rfl ?_
  refine Go.getF C X509 (pc' := 56) (host := "") (Or.inl (hw _ (List.mem_of_getElem? (i := 12) rfl))) Via.refl F507 d3_53 rfl (fun T510 X510 => ?_)
  refine Go.iloadN C X510 (pc' := 57) d3_56 rfl rfl ?_
  refine Go.iload C X510 (pc' := 59) d3_57 rfl rfl ?_
  refine Go.iadd C X510 (pc' := 60) d3_59 rfl ?_
  refine Go.aloadN C X510 (pc' := 61) d3_60 rfl rfl rfl ?_
  refine Go.getF C X510 (pc' := 64) (host := "") (Or.inl (hw _ (List.mem_of_getElem? (i := 12) rfl))) Via.refl F499 d3_61 rfl (fun T511 X511 => ?_)
  refine Go.iloadN C X511 (pc' := 65) d3_64 rfl rfl ?_
  refine Go.aloadN C X511 (pc' := 66) d3_65 rfl rfl rfl ?_
  refine Go.iload C X511 (pc' := 68) d3_66 rfl rfl ?_
  refine Go.iaload C X511 (pc' := 69) (i := 0) (w := (ff 0)) A502 rfl (by decide) rfl d3_68 rfl ?_
  refine Go.iadd C X511 (pc' := 70) d3_69 rfl ?_
  refine Go.iaload C X511 (pc' := 71) (i := (0 + p0)) (w := (g (0 + p0))) A501 (own_ai (i := 0) rfl hf0 (by decide) (by omega)) (by omega) rfl d3_70 rfl ?_
  refine Go.iastore C X511 (pc' := 72) (i := 0) (x' := (g (0 + p0))) A506 rfl (by decide) rfl N468 d3_71 rfl (fun T512 h512 X512 W512 A512 => ?_)
  have K513 : Keep h0 h512 [] := K496.wr W512 (Or.inr Q468)
  have E514 := E497.wr W512
  have F515 := F498.other W512 (Or.inl ne_a_b468)
  have F516 := F499.other W512 (Or.inl ne_a_b468)
  have F517 := F500.other W512 (Or.inl ne_a_b468)
  have A518 := A501.other W512 ne_t_b468
  have A519 := A502.other W512 ne_fl_b468
  have E520 := E503.wr W512
  have F521 := F504.other W512 (Or.inl ne_b446_b468)
  have A522 := A505.other W512 ne_t458_b468
  have F523 := F507.other W512 (Or.inl ne_b446_b468)
  have F524 := Fw495.other W512 (Or.inl ne_b446_b468)
  refine Go.iinc C X512 (pc' := 75) (Ls' := #[.val (.ref a), .val (.ref fl), .val (.ref b446), .val (.int (0 : Int32)), .val (.int (1 : Int32))]) (v' := (1 : Int32)) d3_72 rfl rfl rfl rfl ?_
  refine Go.goto C X512 (pc' := 43) d3_75 (by decide) (by decide) ?_
  refine Go.iload C X512 (pc' := 45) d3_43 rfl rfl ?_
  refine Go.aloadN C X512 (pc' := 46) d3_45 rfl rfl rfl ?_
  refine Go.getF C X512 (pc' := 49) (host := "") (Or.inl (hw _ (List.mem_of_getElem? (i := 10) rfl))) Via.refl F515 d3_46 rfl (fun T525 X525 => ?_)
  refine Go.icmpNo C X525 (pc' := 52) d3_49 (tlt (by decide)).2.1 rfl ?_
  refine Go.aloadN C X525 (pc' := 53) d3_52 rfl rfl rfl ?_
  refine Go.getF C X525 (pc' := 56) (host := "") (Or.inl (hw _ (List.mem_of_getElem? (i := 12) rfl))) Via.refl F523 d3_53 rfl (fun T526 X526 => ?_)
  refine Go.iloadN C X526 (pc' := 57) d3_56 rfl rfl ?_
  refine Go.iload C X526 (pc' := 59) d3_57 rfl rfl ?_
  refine Go.iadd C X526 (pc' := 60) d3_59 rfl ?_
  refine Go.aloadN C X526 (pc' := 61) d3_60 rfl rfl rfl ?_
  refine Go.getF C X526 (pc' := 64) (host := "") (Or.inl (hw _ (List.mem_of_getElem? (i := 12) rfl))) Via.refl F516 d3_61 rfl (fun T527 X527 => ?_)
  refine Go.iloadN C X527 (pc' := 65) d3_64 rfl rfl ?_
  refine Go.aloadN C X527 (pc' := 66) d3_65 rfl rfl rfl ?_
  refine Go.iload C X527 (pc' := 68) d3_66 rfl rfl ?_
  refine Go.iaload C X527 (pc' := 69) (i := 1) (w := (ff 1)) A519 rfl (by decide) rfl d3_68 rfl ?_
  refine Go.iadd C X527 (pc' := 70) d3_69 rfl ?_
  refine Go.iaload C X527 (pc' := 71) (i := (0 + p1)) (w := (g (0 + p1))) A518 (own_ai (i := 0) rfl hf1 (by decide) (by omega)) (by omega) rfl d3_70 rfl ?_
  refine Go.iastore C X527 (pc' := 72) (i := 1) (x' := (g (0 + p1))) A512 rfl (by decide) rfl N468 d3_71 rfl (fun T528 h528 X528 W528 A528 => ?_)
  have K529 : Keep h0 h528 [] := K513.wr W528 (Or.inr Q468)
  have E530 := E514.wr W528
  have F531 := F515.other W528 (Or.inl ne_a_b468)
  have F532 := F516.other W528 (Or.inl ne_a_b468)
  have F533 := F517.other W528 (Or.inl ne_a_b468)
  have A534 := A518.other W528 ne_t_b468
  have A535 := A519.other W528 ne_fl_b468
  have E536 := E520.wr W528
  have F537 := F521.other W528 (Or.inl ne_b446_b468)
  have A538 := A522.other W528 ne_t458_b468
  have F539 := F523.other W528 (Or.inl ne_b446_b468)
  have F540 := F524.other W528 (Or.inl ne_b446_b468)
  refine Go.iinc C X528 (pc' := 75) (Ls' := #[.val (.ref a), .val (.ref fl), .val (.ref b446), .val (.int (0 : Int32)), .val (.int (2 : Int32))]) (v' := (2 : Int32)) d3_72 rfl rfl rfl rfl ?_
  refine Go.goto C X528 (pc' := 43) d3_75 (by decide) (by decide) ?_
  refine Go.iload C X528 (pc' := 45) d3_43 rfl rfl ?_
  refine Go.aloadN C X528 (pc' := 46) d3_45 rfl rfl rfl ?_
  refine Go.getF C X528 (pc' := 49) (host := "") (Or.inl (hw _ (List.mem_of_getElem? (i := 10) rfl))) Via.refl F531 d3_46 rfl (fun T541 X541 => ?_)
  refine Go.icmpYes C X541 (pc' := 78) d3_49 (flt (by decide)).2.1 (by decide) (by decide) ?_
  refine Go.iloadN C X541 (pc' := 79) d3_78 rfl rfl ?_
  refine Go.aloadN C X541 (pc' := 80) d3_79 rfl rfl rfl ?_
  refine Go.getF C X541 (pc' := 83) (host := "") (Or.inl (hw _ (List.mem_of_getElem? (i := 10) rfl))) Via.refl F531 d3_80 rfl (fun T542 X542 => ?_)
  refine Go.iadd C X542 (pc' := 84) d3_83 rfl ?_
  refine Go.istoreN C X542 (pc' := 85) (Ls' := #[.val (.ref a), .val (.ref fl), .val (.ref b446), .val (.int ((0 : Int32) + (2 : Int32))), .val (.int (2 : Int32))]) d3_84 rfl rfl ?_
  refine Go.goto C X542 (pc' := 32) d3_85 (by decide) (by decide) ?_
  refine Go.iloadN C X542 (pc' := 33) d3_32 rfl rfl ?_
  refine Go.aloadN C X542 (pc' := 34) d3_33 rfl rfl rfl ?_
  refine Go.getF C X542 (pc' := 37) (host := "") (Or.inl (hw _ (List.mem_of_getElem? (i := 21) rfl))) Via.refl F533 d3_34 rfl (fun T543 X543 => ?_)
  refine Go.icmpNo C X543 (pc' := 40) d3_37 (tlt (by decide)).2.1 rfl ?_
  refine Go.iconst C X543 (pc' := 41) (v := (0 : Int32)) d3_40 rfl rfl ?_
  refine Go.istore C X543 (pc' := 43) (Ls' := #[.val (.ref a), .val (.ref fl), .val (.ref b446), .val (.int ((0 : Int32) + (2 : Int32))), .val (.int (0 : Int32))]) d3_41 rfl rfl ?_
  refine Go.iload C X543 (pc' := 45) d3_43 rfl rfl ?_
  refine Go.aloadN C X543 (pc' := 46) d3_45 rfl rfl rfl ?_
  refine Go.getF C X543 (pc' := 49) (host := "") (Or.inl (hw _ (List.mem_of_getElem? (i := 10) rfl))) Via.refl F531 d3_46 rfl (fun T544 X544 => ?_)
  refine Go.icmpNo C X544 (pc' := 52) d3_49 (tlt (by decide)).2.1 rfl ?_
  refine Go.aloadN C X544 (pc' := 53) d3_52 rfl rfl rfl ?_
  refine Go.getF C X544 (pc' := 56) (host := "") (Or.inl (hw _ (List.mem_of_getElem? (i := 12) rfl))) Via.refl F539 d3_53 rfl (fun T545 X545 => ?_)
  refine Go.iloadN C X545 (pc' := 57) d3_56 rfl rfl ?_
  refine Go.iload C X545 (pc' := 59) d3_57 rfl rfl ?_
  refine Go.iadd C X545 (pc' := 60) d3_59 rfl ?_
  refine Go.aloadN C X545 (pc' := 61) d3_60 rfl rfl rfl ?_
  refine Go.getF C X545 (pc' := 64) (host := "") (Or.inl (hw _ (List.mem_of_getElem? (i := 12) rfl))) Via.refl F532 d3_61 rfl (fun T546 X546 => ?_)
  refine Go.iloadN C X546 (pc' := 65) d3_64 rfl rfl ?_
  refine Go.aloadN C X546 (pc' := 66) d3_65 rfl rfl rfl ?_
  refine Go.iload C X546 (pc' := 68) d3_66 rfl rfl ?_
  refine Go.iaload C X546 (pc' := 69) (i := 0) (w := (ff 0)) A535 rfl (by decide) rfl d3_68 rfl ?_
  refine Go.iadd C X546 (pc' := 70) d3_69 rfl ?_
  refine Go.iaload C X546 (pc' := 71) (i := (2 + p0)) (w := (g (2 + p0))) A534 (own_ai (i := 2) rfl hf0 (by decide) (by omega)) (by omega) rfl d3_70 rfl ?_
  refine Go.iastore C X546 (pc' := 72) (i := 2) (x' := (g (2 + p0))) A528 rfl (by decide) rfl N468 d3_71 rfl (fun T547 h547 X547 W547 A547 => ?_)
  have K548 : Keep h0 h547 [] := K529.wr W547 (Or.inr Q468)
  have E549 := E530.wr W547
  have F550 := F531.other W547 (Or.inl ne_a_b468)
  have F551 := F532.other W547 (Or.inl ne_a_b468)
  have F552 := F533.other W547 (Or.inl ne_a_b468)
  have A553 := A534.other W547 ne_t_b468
  have A554 := A535.other W547 ne_fl_b468
  have E555 := E536.wr W547
  have F556 := F537.other W547 (Or.inl ne_b446_b468)
  have A557 := A538.other W547 ne_t458_b468
  have F558 := F539.other W547 (Or.inl ne_b446_b468)
  have F559 := F540.other W547 (Or.inl ne_b446_b468)
  refine Go.iinc C X547 (pc' := 75) (Ls' := #[.val (.ref a), .val (.ref fl), .val (.ref b446), .val (.int ((0 : Int32) + (2 : Int32))), .val (.int (1 : Int32))]) (v' := (1 : Int32)) d3_72 rfl rfl rfl rfl ?_
  refine Go.goto C X547 (pc' := 43) d3_75 (by decide) (by decide) ?_
  refine Go.iload C X547 (pc' := 45) d3_43 rfl rfl ?_
  refine Go.aloadN C X547 (pc' := 46) d3_45 rfl rfl rfl ?_
  refine Go.getF C X547 (pc' := 49) (host := "") (Or.inl (hw _ (List.mem_of_getElem? (i := 10) rfl))) Via.refl F550 d3_46 rfl (fun T560 X560 => ?_)
  refine Go.icmpNo C X560 (pc' := 52) d3_49 (tlt (by decide)).2.1 rfl ?_
  refine Go.aloadN C X560 (pc' := 53) d3_52 rfl rfl rfl ?_
  refine Go.getF C X560 (pc' := 56) (host := "") (Or.inl (hw _ (List.mem_of_getElem? (i := 12) rfl))) Via.refl F558 d3_53 rfl (fun T561 X561 => ?_)
  refine Go.iloadN C X561 (pc' := 57) d3_56 rfl rfl ?_
  refine Go.iload C X561 (pc' := 59) d3_57 rfl rfl ?_
  refine Go.iadd C X561 (pc' := 60) d3_59 rfl ?_
  refine Go.aloadN C X561 (pc' := 61) d3_60 rfl rfl rfl ?_
  refine Go.getF C X561 (pc' := 64) (host := "") (Or.inl (hw _ (List.mem_of_getElem? (i := 12) rfl))) Via.refl F551 d3_61 rfl (fun T562 X562 => ?_)
  refine Go.iloadN C X562 (pc' := 65) d3_64 rfl rfl ?_
  refine Go.aloadN C X562 (pc' := 66) d3_65 rfl rfl rfl ?_
  refine Go.iload C X562 (pc' := 68) d3_66 rfl rfl ?_
  refine Go.iaload C X562 (pc' := 69) (i := 1) (w := (ff 1)) A554 rfl (by decide) rfl d3_68 rfl ?_
  refine Go.iadd C X562 (pc' := 70) d3_69 rfl ?_
  refine Go.iaload C X562 (pc' := 71) (i := (2 + p1)) (w := (g (2 + p1))) A553 (own_ai (i := 2) rfl hf1 (by decide) (by omega)) (by omega) rfl d3_70 rfl ?_
  refine Go.iastore C X562 (pc' := 72) (i := 3) (x' := (g (2 + p1))) A547 rfl (by decide) rfl N468 d3_71 rfl (fun T563 h563 X563 W563 A563 => ?_)
  have K564 : Keep h0 h563 [] := K548.wr W563 (Or.inr Q468)
  have E565 := E549.wr W563
  have F566 := F550.other W563 (Or.inl ne_a_b468)
  have F567 := F551.other W563 (Or.inl ne_a_b468)
  have F568 := F552.other W563 (Or.inl ne_a_b468)
  have A569 := A553.other W563 ne_t_b468
  have A570 := A554.other W563 ne_fl_b468
  have E571 := E555.wr W563
  have F572 := F556.other W563 (Or.inl ne_b446_b468)
  have A573 := A557.other W563 ne_t458_b468
  have F574 := F558.other W563 (Or.inl ne_b446_b468)
  have F575 := F559.other W563 (Or.inl ne_b446_b468)
  refine Go.iinc C X563 (pc' := 75) (Ls' := #[.val (.ref a), .val (.ref fl), .val (.ref b446), .val (.int ((0 : Int32) + (2 : Int32))), .val (.int (2 : Int32))]) (v' := (2 : Int32)) d3_72 rfl rfl rfl rfl ?_
  refine Go.goto C X563 (pc' := 43) d3_75 (by decide) (by decide) ?_
  refine Go.iload C X563 (pc' := 45) d3_43 rfl rfl ?_
  refine Go.aloadN C X563 (pc' := 46) d3_45 rfl rfl rfl ?_
  refine Go.getF C X563 (pc' := 49) (host := "") (Or.inl (hw _ (List.mem_of_getElem? (i := 10) rfl))) Via.refl F566 d3_46 rfl (fun T576 X576 => ?_)
  refine Go.icmpYes C X576 (pc' := 78) d3_49 (flt (by decide)).2.1 (by decide) (by decide) ?_
  refine Go.iloadN C X576 (pc' := 79) d3_78 rfl rfl ?_
  refine Go.aloadN C X576 (pc' := 80) d3_79 rfl rfl rfl ?_
  refine Go.getF C X576 (pc' := 83) (host := "") (Or.inl (hw _ (List.mem_of_getElem? (i := 10) rfl))) Via.refl F566 d3_80 rfl (fun T577 X577 => ?_)
  refine Go.iadd C X577 (pc' := 84) d3_83 rfl ?_
  refine Go.istoreN C X577 (pc' := 85) (Ls' := #[.val (.ref a), .val (.ref fl), .val (.ref b446), .val (.int (((0 : Int32) + (2 : Int32)) + (2 : Int32))), .val (.int (2 : Int32))]) d3_84 rfl rfl ?_
  refine Go.goto C X577 (pc' := 32) d3_85 (by decide) (by decide) ?_
  refine Go.iloadN C X577 (pc' := 33) d3_32 rfl rfl ?_
  refine Go.aloadN C X577 (pc' := 34) d3_33 rfl rfl rfl ?_
  refine Go.getF C X577 (pc' := 37) (host := "") (Or.inl (hw _ (List.mem_of_getElem? (i := 21) rfl))) Via.refl F568 d3_34 rfl (fun T578 X578 => ?_)
  refine Go.icmpYes C X578 (pc' := 88) d3_37 (flt (by decide)).2.1 (by decide) (by decide) ?_
  refine Go.aloadN C X578 (pc' := 89) d3_88 rfl rfl rfl ?_
  exact Go.retA C X578 rfl d3_89 ⟨b446, b468, (fun q => if q = 3 then (g (2 + p1)) else (fun q => if q = 2 then (g (2 + p0)) else (fun q => if q = 1 then (g (0 + p1)) else (fun q => if q = 0 then (g (0 + p0)) else (fun _ => 0) q) q) q) q), rfl, Q446, Q468, K564, E571, F572, F574, F575, ne_b446_b468, A563, (by rfl), (by rfl), (by rfl), (by rfl)⟩ (by decide) (by decide)
theorem own_pn1 : plainName "com/example/ruleweave/ruleweave/store/RecordsRearrangedPinLaw" = true := by first | (simp [plainName, overriddenIn]; done) | decide +kernel
theorem own_ef_rm_at (m : MethodId) (x0 : Addr) (x1 : Addr) (x2 : Addr) (x3 : Int32) (x4 : Int32) (x5 : Int32) (x6 : Int32) : entryFrame m #[(.ref x0), (.ref x1), (.ref x2), (.int x3), (.int x4), (.int x5), (.int x6)] 7 = mkF m 0 #[.val (.ref x0), .val (.ref x1), .val (.ref x2), .val (.int x3), .val (.int x4), .val (.int x5), .val (.int x6)] [] := by first | (simp [entryFrame, mkF, argsToLocals, Value.category]; done) | rfl
theorem d5_0 : decode method_3_code 0 = .ok (.iload 5, 2) := by decide +kernel
theorem d5_2 : decode method_3_code 2 = .ok (.iload_n 3, 1) := by decide +kernel
theorem d5_3 : decode method_3_code 3 = .ok (.if_icmp .ge 10, 3) := by decide +kernel
theorem d5_6 : decode method_3_code 6 = .ok (.iload 6, 2) := by decide +kernel
theorem d5_8 : decode method_3_code 8 = .ok (.iload 4, 2) := by decide +kernel
theorem d5_10 : decode method_3_code 10 = .ok (.if_icmp .lt 5, 3) := by decide +kernel
theorem d5_15 : decode method_3_code 15 = .ok (.aload_n 0, 1) := by decide +kernel
theorem d5_16 : decode method_3_code 16 = .ok (.iload 5, 2) := by decide +kernel
theorem d5_18 : decode method_3_code 18 = .ok (.iload 6, 2) := by decide +kernel
theorem d5_20 : decode method_3_code 20 = .ok (.invokevirtual 29, 3) := by decide +kernel
theorem own_pd1 : parseMethodDescriptor "(II)I" = some ⟨[.int, .int], some .int⟩ := by decide +kernel
theorem d5_23 : decode method_3_code 23 = .ok (.aload_n 1, 1) := by decide +kernel
theorem d5_24 : decode method_3_code 24 = .ok (.iload 5, 2) := by decide +kernel
theorem d5_26 : decode method_3_code 26 = .ok (.iload 4, 2) := by decide +kernel
theorem d5_28 : decode method_3_code 28 = .ok (.imul, 1) := by decide +kernel
theorem d5_29 : decode method_3_code 29 = .ok (.aload_n 2, 1) := by decide +kernel
theorem d5_30 : decode method_3_code 30 = .ok (.iload 6, 2) := by decide +kernel
theorem d5_32 : decode method_3_code 32 = .ok (.iaload, 1) := by decide +kernel
theorem d5_33 : decode method_3_code 33 = .ok (.iadd, 1) := by decide +kernel
theorem d5_34 : decode method_3_code 34 = .ok (.iaload, 1) := by decide +kernel
theorem d5_35 : decode method_3_code 35 = .ok (.if_icmp .ne 7, 3) := by decide +kernel
theorem d5_38 : decode method_3_code 38 = .ok (.iconst 1, 1) := by decide +kernel
theorem d5_39 : decode method_3_code 39 = .ok (.goto 4, 3) := by decide +kernel
theorem d5_43 : decode method_3_code 43 = .ok (.ireturn, 1) := by decide +kernel
theorem d5_13 : decode method_3_code 13 = .ok (.iconst 1, 1) := by decide +kernel
theorem d5_14 : decode method_3_code 14 = .ok (.ireturn, 1) := by decide +kernel
set_option maxRecDepth 65536 in
set_option maxHeartbeats 40000000 in
theorem rm_at (l : Launch) (Z : State) (a0 : Array Value) (hw : ∀ d ∈ tables_1, d.before a0 Z = true) (cp : Addr) (va : Addr) (fl : Addr) (n : Int32) (w : Int32) (r : Int32) (f : Int32) (t2 : Addr) (sz : Nat) (r2 : Nat → Int32) (vf : Nat → Int32) (fw : Nat) (ff : Nat → Int32) (wd : Int32) (h0 : Heap) (n0 : Nat) (Z0 : n0 ≤ h0.size) (f0 : Exa Z h0 cp "com/example/ruleweave/ruleweave/store/Records") (f1 : Fld Z h0 cp "com/example/ruleweave/ruleweave/store/Records" "width" "I" (.int wd)) (f2 : Fld Z h0 cp "com/example/ruleweave/ruleweave/store/Records" "ints" "[I" (.ref t2)) (f3 : AI Z h0 t2 .int sz r2) (f4 : AI Z h0 va .int 4 vf) (f5 : AI Z h0 fl .int fw ff) (hv : r < n → f < w → ∃ i jf k : Nat, ((r * wd) + f).toInt = (i : Int) ∧ i < sz ∧ f.toInt = (jf : Int) ∧ jf < fw ∧ ((r * w) + ff jf).toInt = (k : Int) ∧ k < 4 ∧ r2 i = vf k) :
    Con l Z (⟨"com/example/ruleweave/ruleweave/store/RecordsRearrangedPinLaw", "at", "(Lcom/example/ruleweave/ruleweave/store/Records;[I[IIIII)Z"⟩ : MethodName) method_3_code 7 (some .boolean) ({ frames := 1, cells := 0, slots := 0, locals := 14 } : Room) #[(.ref cp), (.ref va), (.ref fl), (.int n), (.int w), (.int r), (.int f)] h0 n0 (fun rv hv => rv = some (.int (1 : Int32)) ∧ h0 = hv) := by
  refine Con.enter (plainFor_of_name own_pn1) Z0 ?_
  intro p e s m below meth c T0 C hnm X0
  refine Go.cast (own_ef_rm_at m cp va fl n w r f) ?_
  refine Go.iload C X0 (pc' := 2) d5_0 rfl rfl ?_
  refine Go.iloadN C X0 (pc' := 3) d5_2 rfl rfl ?_
  by_cases c579 : r < n
  · refine Go.icmpNo C X0 (pc' := 6) d5_3 (tlt c579).2.1 rfl ?_
    refine Go.iload C X0 (pc' := 8) d5_6 rfl rfl ?_
    refine Go.iload C X0 (pc' := 10) d5_8 rfl rfl ?_
    by_cases c580 : f < w
    · refine Go.icmpYes C X0 (pc' := 15) d5_10 (tlt c580).1 (by decide) (by decide) ?_
      obtain ⟨i, jf, k, g1, g2, g3, g4, g5, g6, g7⟩ := hv c579 c580
      refine Go.aloadN C X0 (pc' := 16) d5_15 rfl rfl rfl ?_
      refine Go.iload C X0 (pc' := 18) d5_16 rfl rfl ?_
      refine Go.iload C X0 (pc' := 20) d5_18 rfl rfl ?_
      refine Go.callV C X0 (pc' := 23) (W := 0) (argsL := [(.int r), (.int f)]) (rest := []) (a := cp) (rm_get l Z a0 hw cp r f t2 sz r2 wd i h0 n0 X0.sz f1 f2 f3 g1 g2) f0 (notFace_of_selects (args := #[]) (mvT C.2.1 (hw _ (List.mem_of_getElem? (i := 40) rfl)))) (hw _ (List.mem_of_getElem? (i := 37) rfl)) (hw _ (List.mem_of_getElem? (i := 38) rfl)) (hw _ (List.mem_of_getElem? (i := 40) rfl)) (hw _ (List.mem_of_getElem? (i := 39) rfl)) (hw _ (List.mem_of_getElem? (i := 3) rfl)) (hw _ (List.mem_of_getElem? (i := 41) rfl)) (by decide) rfl rfl (lenOf own_pd1 rfl) rfl (Nat.le_of_eq rfl) (by decide) (by decide) (by decide) (by decide) d5_20 rfl (fun _ _ q => Nat.le_of_eq (congrArg Array.size q.2)) (fun T581 h581 v581 X581 P581 => ?_)
      obtain ⟨rfl, rfl⟩ := P581
      show Go p e below s n0 _ _ _ T581 (mkF m 23 #[.val (.ref cp), .val (.ref va), .val (.ref fl), .val (.int n), .val (.int w), .val (.int r), .val (.int f)] [(.int (r2 i))])
      refine Go.aloadN C X581 (pc' := 24) d5_23 rfl rfl rfl ?_
      refine Go.iload C X581 (pc' := 26) d5_24 rfl rfl ?_
      refine Go.iload C X581 (pc' := 28) d5_26 rfl rfl ?_
      refine Go.imul C X581 (pc' := 29) d5_28 rfl ?_
      refine Go.aloadN C X581 (pc' := 30) d5_29 rfl rfl rfl ?_
      refine Go.iload C X581 (pc' := 32) d5_30 rfl rfl ?_
      refine Go.iaload C X581 (pc' := 33) (i := jf) (w := (ff jf)) f5 g3 g4 rfl d5_32 rfl ?_
      refine Go.iadd C X581 (pc' := 34) d5_33 rfl ?_
      refine Go.iaload C X581 (pc' := 35) (i := k) (w := (vf k)) f4 g5 g6 rfl d5_34 rfl ?_
      refine Go.icmpNo C X581 (pc' := 38) d5_35 (teq g7).2 rfl ?_
      refine Go.iconst C X581 (pc' := 39) (v := (1 : Int32)) d5_38 rfl rfl ?_
      refine Go.goto C X581 (pc' := 43) d5_39 (by decide) (by decide) ?_
      exact Go.retZ (t := .boolean) C X581 (z' := (1 : Int32)) (by decide) d5_43 ⟨rfl, rfl⟩ (by decide) (by decide)
    · refine Go.icmpNo C X0 (pc' := 13) d5_10 (flt c580).1 rfl ?_
      refine Go.iconst C X0 (pc' := 14) (v := (1 : Int32)) d5_13 rfl rfl ?_
      exact Go.retZ (t := .boolean) C X0 (z' := (1 : Int32)) (by decide) d5_14 ⟨rfl, rfl⟩ (by decide) (by decide)
  · refine Go.icmpYes C X0 (pc' := 13) d5_3 (flt c579).2.1 (by decide) (by decide) ?_
    refine Go.iconst C X0 (pc' := 14) (v := (1 : Int32)) d5_13 rfl rfl ?_
    exact Go.retZ (t := .boolean) C X0 (z' := (1 : Int32)) (by decide) d5_14 ⟨rfl, rfl⟩ (by decide) (by decide)
theorem own_c6 (x4 : Int32) : ((1 : Int32) + (x4 &&& (1 : Int32))) = 1 ∨ ((1 : Int32) + (x4 &&& (1 : Int32))) = 2 := by
  rcases own_and1 x4 with q | q <;> rw [q] <;> decide
theorem own_c7 (x4 : Int32) : ((((x4).toUInt32 >>> ((1 : Int32) &&& 31).toUInt32).toInt32 &&& (3 : Int32)) % (3 : Int32)) = 0 ∨ ((((x4).toUInt32 >>> ((1 : Int32) &&& 31).toUInt32).toInt32 &&& (3 : Int32)) % (3 : Int32)) = 1 ∨ ((((x4).toUInt32 >>> ((1 : Int32) &&& 31).toUInt32).toInt32 &&& (3 : Int32)) % (3 : Int32)) = 2 := by
  rcases own_and3 (((x4).toUInt32 >>> ((1 : Int32) &&& 31).toUInt32).toInt32) with q | q | q | q <;> rw [q] <;> decide
theorem own_p (x : Int32) : (x &&& (1 : Int32)).toInt = (((x &&& (1 : Int32)).toInt.toNat : Nat) : Int) ∧ (x &&& (1 : Int32)).toInt.toNat < 2 := by
  rcases own_and1 x with q | q <;> rw [q] <;> decide
theorem own_v1_0 (x0 x1 x2 x3 : Int32) {p : Nat} (hp : p < 1) : (fun q => if q = 0 then x0 else (fun _ => 0) q) (0 + p) = (fun q => if q = 3 then x3 else (fun q => if q = 2 then x2 else (fun q => if q = 1 then x1 else (fun q => if q = 0 then x0 else (fun _ => 0) q) q) q) q) (0 + p) := by
  rcases (by omega : p = 0) with h <;> subst h <;> rfl
theorem own_v2_0 (x0 x1 x2 x3 : Int32) {p : Nat} (hp : p < 1) : (fun q => if q = 1 then x1 else (fun q => if q = 0 then x0 else (fun _ => 0) q) q) (0 + p) = (fun q => if q = 3 then x3 else (fun q => if q = 2 then x2 else (fun q => if q = 1 then x1 else (fun q => if q = 0 then x0 else (fun _ => 0) q) q) q) q) (0 + p) := by
  rcases (by omega : p = 0) with h <;> subst h <;> rfl
theorem own_w2_0 (x0 x1 x2 x3 : Int32) {p : Nat} (hp : p < 2) : (fun q => if q = 1 then x1 else (fun q => if q = 0 then x0 else (fun _ => 0) q) q) (0 + p) = (fun q => if q = 3 then x3 else (fun q => if q = 2 then x2 else (fun q => if q = 1 then x1 else (fun q => if q = 0 then x0 else (fun _ => 0) q) q) q) q) (0 + p) := by
  rcases (by omega : p = 0 ∨ p = 1) with h | h <;> subst h <;> rfl
theorem own_v2_1 (x0 x1 x2 x3 : Int32) {p : Nat} (hp : p < 1) : (fun q => if q = 1 then x1 else (fun q => if q = 0 then x0 else (fun _ => 0) q) q) (1 + p) = (fun q => if q = 3 then x3 else (fun q => if q = 2 then x2 else (fun q => if q = 1 then x1 else (fun q => if q = 0 then x0 else (fun _ => 0) q) q) q) q) (1 + p) := by
  rcases (by omega : p = 0) with h <;> subst h <;> rfl
theorem own_v4_0 (x0 x1 x2 x3 : Int32) {p : Nat} (hp : p < 2) : (fun q => if q = 3 then x3 else (fun q => if q = 2 then x2 else (fun q => if q = 1 then x1 else (fun q => if q = 0 then x0 else (fun _ => 0) q) q) q) q) (0 + p) = (fun q => if q = 3 then x3 else (fun q => if q = 2 then x2 else (fun q => if q = 1 then x1 else (fun q => if q = 0 then x0 else (fun _ => 0) q) q) q) q) (0 + p) := by
  rcases (by omega : p = 0 ∨ p = 1) with h | h <;> subst h <;> rfl
theorem own_v4_2 (x0 x1 x2 x3 : Int32) {p : Nat} (hp : p < 2) : (fun q => if q = 3 then x3 else (fun q => if q = 2 then x2 else (fun q => if q = 1 then x1 else (fun q => if q = 0 then x0 else (fun _ => 0) q) q) q) q) (2 + p) = (fun q => if q = 3 then x3 else (fun q => if q = 2 then x2 else (fun q => if q = 1 then x1 else (fun q => if q = 0 then x0 else (fun _ => 0) q) q) q) q) (2 + p) := by
  rcases (by omega : p = 0 ∨ p = 1) with h | h <;> subst h <;> rfl
theorem own_ef_rm0 (m : MethodId) (x0 : Int32) (x1 : Int32) (x2 : Int32) (x3 : Int32) (x4 : Int32) (x5 : Int32) : entryFrame m #[(.int x0), (.int x1), (.int x2), (.int x3), (.int x4), (.int x5)] maxLocals = mkF m 0 #[.val (.int x0), .val (.int x1), .val (.int x2), .val (.int x3), .val (.int x4), .val (.int x5), .unset, .unset, .unset, .unset, .unset, .unset, .unset] [] := by first | (simp [entryFrame, mkF, argsToLocals, Value.category, maxLocals]; done) | rfl
theorem own_pd2 : parseMethodDescriptor "([I)Lcom/example/ruleweave/ruleweave/store/Records;" = some ⟨[(.array .int)], some (.object "com/example/ruleweave/ruleweave/store/Records")⟩ := by decide +kernel
theorem own_pd3 : parseMethodDescriptor "()I" = some ⟨[], some .int⟩ := by decide +kernel
theorem own_pd4 : parseMethodDescriptor "(Lcom/example/ruleweave/ruleweave/store/Records;[I[IIIII)Z" = some ⟨[(.object "com/example/ruleweave/ruleweave/store/Records"), (.array .int), (.array .int), .int, .int, .int, .int], some .boolean⟩ := by decide +kernel
set_option maxRecDepth 65536 in
set_option maxHeartbeats 40000000 in
theorem rm0 (l : Launch) (Z : State) (a0 : Array Value) (hw : ∀ d ∈ tables_1, d.before a0 Z = true) (x0 x1 x2 x3 x4 x5 : Int32) (h0 : Heap) (n0 : Nat) (Z0 : n0 ≤ h0.size)  :
    Con l Z x code maxLocals ret room_1 #[(.int x0), (.int x1), (.int x2), (.int x3), (.int x4), (.int x5)] h0 n0 (fun rv hv => rv = some (.int 1)) := by
  refine Con.enter (plainFor_of_name own_pn1) Z0 ?_
  intro p e s m below meth c T0 C hnm X0
  refine Go.cast (own_ef_rm0 m x0 x1 x2 x3 x4 x5) ?_
  refine Go.iconst C X0 (pc' := 1) (v := (1 : Int32)) at_0 rfl rfl ?_
  refine Go.iload C X0 (pc' := 3) at_1 rfl rfl ?_
  refine Go.iconst C X0 (pc' := 4) (v := (1 : Int32)) at_3 rfl rfl ?_
  refine Go.iand C X0 (pc' := 5) at_4 rfl ?_
  refine Go.iadd C X0 (pc' := 6) at_5 rfl ?_
  refine Go.istore C X0 (pc' := 8) (Ls' := #[.val (.int x0), .val (.int x1), .val (.int x2), .val (.int x3), .val (.int x4), .val (.int x5), .val (.int ((1 : Int32) + (x4 &&& (1 : Int32)))), .unset, .unset, .unset, .unset, .unset, .unset]) at_6 rfl rfl ?_
  refine Go.iload C X0 (pc' := 10) at_8 rfl rfl ?_
  refine Go.iconst C X0 (pc' := 11) (v := (1 : Int32)) at_10 rfl rfl ?_
  refine Go.iushr C X0 (pc' := 12) at_11 rfl ?_
  refine Go.iconst C X0 (pc' := 13) (v := (3 : Int32)) at_12 rfl rfl ?_
  refine Go.iand C X0 (pc' := 14) at_13 rfl ?_
  refine Go.iconst C X0 (pc' := 15) (v := (3 : Int32)) at_14 rfl rfl ?_
  refine Go.irem C X0 (pc' := 16) at_15 (by decide) rfl ?_
  refine Go.istore C X0 (pc' := 18) (Ls' := #[.val (.int x0), .val (.int x1), .val (.int x2), .val (.int x3), .val (.int x4), .val (.int x5), .val (.int ((1 : Int32) + (x4 &&& (1 : Int32)))), .val (.int ((((x4).toUInt32 >>> ((1 : Int32) &&& 31).toUInt32).toInt32 &&& (3 : Int32)) % (3 : Int32))), .unset, .unset, .unset, .unset, .unset]) at_16 rfl rfl ?_
  rcases own_c6 x4 with q582 | q582
  · rw [q582]
    rcases own_c7 x4 with q583 | q583 | q583
    · rw [q583]
      refine Go.iload C X0 (pc' := 20) at_18 rfl rfl ?_
      refine Go.iload C X0 (pc' := 22) at_20 rfl rfl ?_
      refine Go.imul C X0 (pc' := 23) at_22 rfl ?_
      refine Go.istore C X0 (pc' := 25) (Ls' := #[.val (.int x0), .val (.int x1), .val (.int x2), .val (.int x3), .val (.int x4), .val (.int x5), .val (.int (1 : Int32)), .val (.int (0 : Int32)), .val (.int ((0 : Int32) * (1 : Int32))), .unset, .unset, .unset, .unset]) at_23 rfl rfl ?_
      refine Go.iconst C X0 (pc' := 26) (v := (4 : Int32)) at_25 rfl rfl ?_
      refine Go.newP C X0 (pc' := 28) (nn := 4) (cap := 4) (hw _ (List.mem_of_getElem? (i := 0) rfl)) at_26 rfl (by decide) (by decide) (by decide) (by decide) rfl (fun T584 h584 b584 k584 X584 g584 E584 Ar584 N584 => ?_)
      have A584 : AI Z h584 b584 .int 4 (fun _ => 0) := AI.new rfl rfl Ar584
      refine Go.dup C X584 (pc' := 29) at_28 rfl rfl ?_
      refine Go.iconst C X584 (pc' := 30) (v := (0 : Int32)) at_29 rfl rfl ?_
      refine Go.iloadN C X584 (pc' := 31) at_30 rfl rfl ?_
      refine Go.iastore C X584 (pc' := 32) (i := 0) (x' := x0) A584 rfl (by decide) rfl N584 at_31 rfl (fun T585 h585 X585 W585 A585 => ?_)
      refine Go.dup C X585 (pc' := 33) at_32 rfl rfl ?_
      refine Go.iconst C X585 (pc' := 34) (v := (1 : Int32)) at_33 rfl rfl ?_
      refine Go.iloadN C X585 (pc' := 35) at_34 rfl rfl ?_
      refine Go.iastore C X585 (pc' := 36) (i := 1) (x' := x1) A585 rfl (by decide) rfl N584 at_35 rfl (fun T586 h586 X586 W586 A586 => ?_)
      refine Go.dup C X586 (pc' := 37) at_36 rfl rfl ?_
      refine Go.iconst C X586 (pc' := 38) (v := (2 : Int32)) at_37 rfl rfl ?_
      refine Go.iloadN C X586 (pc' := 39) at_38 rfl rfl ?_
      refine Go.iastore C X586 (pc' := 40) (i := 2) (x' := x2) A586 rfl (by decide) rfl N584 at_39 rfl (fun T587 h587 X587 W587 A587 => ?_)
      refine Go.dup C X587 (pc' := 41) at_40 rfl rfl ?_
      refine Go.iconst C X587 (pc' := 42) (v := (3 : Int32)) at_41 rfl rfl ?_
      refine Go.iloadN C X587 (pc' := 43) at_42 rfl rfl ?_
      refine Go.iastore C X587 (pc' := 44) (i := 3) (x' := x3) A587 rfl (by decide) rfl N584 at_43 rfl (fun T588 h588 X588 W588 A588 => ?_)
      refine Go.astore C X588 (pc' := 46) (Ls' := #[.val (.int x0), .val (.int x1), .val (.int x2), .val (.int x3), .val (.int x4), .val (.int x5), .val (.int (1 : Int32)), .val (.int (0 : Int32)), .val (.int ((0 : Int32) * (1 : Int32))), .val (.ref b584), .unset, .unset, .unset]) at_44 rfl rfl rfl ?_
      refine Go.iload C X588 (pc' := 48) at_46 rfl rfl ?_
      refine Go.newP C X588 (pc' := 50) (nn := 1) (cap := 1) (hw _ (List.mem_of_getElem? (i := 0) rfl)) at_48 rfl (by decide) (by decide) (by decide) (by decide) rfl (fun T589 h589 b589 k589 X589 g589 E589 Ar589 N589 => ?_)
      have ne_b584_b589 : b584 ≠ b589 := Nat.ne_of_lt (Nat.lt_of_lt_of_eq A588.lt g589.symm)
      have A590 := A588.ext E589
      have A589 : AI Z h589 b589 .int 1 (fun _ => 0) := AI.new rfl rfl Ar589
      refine Go.astore C X589 (pc' := 52) (Ls' := #[.val (.int x0), .val (.int x1), .val (.int x2), .val (.int x3), .val (.int x4), .val (.int x5), .val (.int (1 : Int32)), .val (.int (0 : Int32)), .val (.int ((0 : Int32) * (1 : Int32))), .val (.ref b584), .val (.ref b589), .unset, .unset]) at_50 rfl rfl rfl ?_
      refine Go.iload C X589 (pc' := 54) at_52 rfl rfl ?_
      refine Go.iconst C X589 (pc' := 55) (v := (2 : Int32)) at_54 rfl rfl ?_
      refine Go.icmpYes C X589 (pc' := 79) at_55 (feq (by decide)).2 (by decide) (by decide) ?_
      refine Go.aload C X589 (pc' := 81) at_79 rfl rfl rfl ?_
      refine Go.iconst C X589 (pc' := 82) (v := (0 : Int32)) at_81 rfl rfl ?_
      refine Go.iconst C X589 (pc' := 83) (v := (0 : Int32)) at_82 rfl rfl ?_
      refine Go.iastore C X589 (pc' := 84) (i := 0) (x' := (0 : Int32)) A589 rfl (by decide) rfl N589 at_83 rfl (fun T591 h591 X591 W591 A591 => ?_)
      have A592 := A590.other W591 ne_b584_b589
      refine Go.newO C X591 (pc' := 87) (hw _ (List.mem_of_getElem? (i := 1) rfl)) (hw _ (List.mem_of_getElem? (i := 2) rfl)) (hw _ (List.mem_of_getElem? (i := 3) rfl)) at_84 (by decide) (by decide) rfl (fun T593 h593 b593 X593 g593 E593 Ex593 D593 N593 => ?_)
      have ne_b584_b593 : b584 ≠ b593 := Nat.ne_of_lt (Nat.lt_of_lt_of_eq A592.lt g593.symm)
      have ne_b589_b593 : b589 ≠ b593 := Nat.ne_of_lt (Nat.lt_of_lt_of_eq A591.lt g593.symm)
      have A594 := A592.ext E593
      have A595 := A591.ext E593
      have F596 : Fld Z h593 b593 "com/example/ruleweave/ruleweave/store/Records" "width" "I" (.int (0 : Int32)) := D593 (Or.inr (hw _ (List.mem_of_getElem? (i := 11) rfl))) (ty := .int) (by decide)
      have F597 : Fld Z h593 b593 "com/example/ruleweave/ruleweave/store/Records" "ints" "[I" .null := D593 (Or.inl (hw _ (List.mem_of_getElem? (i := 13) rfl))) (ty := (.array .int)) (by decide)
      have F598 : Fld Z h593 b593 "com/example/ruleweave/ruleweave/store/Records" "size" "I" (.int (0 : Int32)) := D593 (Or.inl (hw _ (List.mem_of_getElem? (i := 22) rfl))) (ty := .int) (by decide)
      refine Go.dup C X593 (pc' := 88) at_87 rfl rfl ?_
      refine Go.iload C X593 (pc' := 90) at_88 rfl rfl ?_
      refine Go.callI C X593 (pc' := 93) (W := 1) (argsL := [(.int (1 : Int32))]) (rest := [(.ref b593)]) (a := b593) (rm_init l Z a0 hw b593 (1 : Int32) 1024 h593 n0 X593.sz Ex593 F596 F597 F598 N593 rfl (by decide)) rfl rfl (hw _ (List.mem_of_getElem? (i := 4) rfl)) (hw _ (List.mem_of_getElem? (i := 5) rfl)) (hw _ (List.mem_of_getElem? (i := 3) rfl)) (hw _ (List.mem_of_getElem? (i := 6) rfl)) (by decide) rfl rfl (lenOf own_pd0 rfl) rfl (Nat.le_of_eq rfl) (by decide) (by decide) (by decide) (by decide) at_90 rfl (fun _ _ q => by obtain ⟨_, _, _, K, _⟩ := q; exact K.1) (fun T599 h599 v599 X599 P599 => ?_)
      obtain ⟨t599, rfl, D599_t, K599, O599_0, O599_1, O599_2, O599_3, O599_4⟩ := P599
      have ne_b584_t599 : b584 ≠ t599 := Nat.ne_of_lt (Nat.lt_of_lt_of_le A594.lt D599_t)
      have ne_b589_t599 : b589 ≠ t599 := Nat.ne_of_lt (Nat.lt_of_lt_of_le A595.lt D599_t)
      have ne_b593_t599 : b593 ≠ t599 := Nat.ne_of_lt (Nat.lt_of_lt_of_le Ex593.lt D599_t)
      have N_t599 : n0 ≤ t599 := Nat.le_trans X593.sz D599_t
      have A600 := A594.keep K599 (ninS ne_b584_b593 nin0)
      have A601 := A595.keep K599 (ninS ne_b589_b593 nin0)
      have E602 := Ex593.keep K599
      show Go p e below s n0 _ _ _ T599 (mkF m 93 #[.val (.int x0), .val (.int x1), .val (.int x2), .val (.int x3), .val (.int x4), .val (.int x5), .val (.int (1 : Int32)), .val (.int (0 : Int32)), .val (.int ((0 : Int32) * (1 : Int32))), .val (.ref b584), .val (.ref b589), .unset, .unset] [(.ref b593)])
      refine Go.astore C X599 (pc' := 95) (Ls' := #[.val (.int x0), .val (.int x1), .val (.int x2), .val (.int x3), .val (.int x4), .val (.int x5), .val (.int (1 : Int32)), .val (.int (0 : Int32)), .val (.int ((0 : Int32) * (1 : Int32))), .val (.ref b584), .val (.ref b589), .val (.ref b593), .unset]) at_93 rfl rfl rfl ?_
      refine Go.iload C X599 (pc' := 97) at_95 rfl rfl ?_
      refine Go.ifYes C X599 (pc' := 106) at_97 ((if0 _ _).trans (flt (by decide)).2.2.2) (by decide) (by decide) ?_
      refine Go.iload C X599 (pc' := 108) at_106 rfl rfl ?_
      refine Go.iconst C X599 (pc' := 109) (v := (1 : Int32)) at_108 rfl rfl ?_
      refine Go.icmpYes C X599 (pc' := 118) at_109 (flt (by decide)).2.2.2 (by decide) (by decide) ?_
      refine Go.iload C X599 (pc' := 120) at_118 rfl rfl ?_
      refine Go.iconst C X599 (pc' := 121) (v := (2 : Int32)) at_120 rfl rfl ?_
      refine Go.icmpYes C X599 (pc' := 130) at_121 (flt (by decide)).2.2.2 (by decide) (by decide) ?_
      refine Go.iload C X599 (pc' := 132) at_130 rfl rfl ?_
      refine Go.iconst C X599 (pc' := 133) (v := (3 : Int32)) at_132 rfl rfl ?_
      refine Go.icmpYes C X599 (pc' := 142) at_133 (flt (by decide)).2.2.2 (by decide) (by decide) ?_
      refine Go.aload C X599 (pc' := 144) at_142 rfl rfl rfl ?_
      refine Go.aload C X599 (pc' := 146) at_144 rfl rfl rfl ?_
      refine Go.callV C X599 (pc' := 149) (W := 0) (argsL := [(.ref b589)]) (rest := []) (a := b593) (rm_re_1_0 l Z a0 hw b593 b589 t599 1024 (fun _ => 0) (fun q => if q = 0 then (0 : Int32) else (fun _ => 0) q) 0 h599 n0 X599.sz O599_0 O599_1 O599_2 O599_3 O599_4 A601 (by decide) rfl (by decide)) O599_0 (notFace_of_selects (args := #[]) (mvT C.2.1 (hw _ (List.mem_of_getElem? (i := 17) rfl)))) (hw _ (List.mem_of_getElem? (i := 14) rfl)) (hw _ (List.mem_of_getElem? (i := 15) rfl)) (hw _ (List.mem_of_getElem? (i := 17) rfl)) (hw _ (List.mem_of_getElem? (i := 16) rfl)) (hw _ (List.mem_of_getElem? (i := 3) rfl)) (hw _ (List.mem_of_getElem? (i := 18) rfl)) (by decide) rfl rfl (lenOf own_pd2 rfl) rfl (Nat.le_of_eq rfl) (by decide) (by decide) (by decide) (by decide) at_146 rfl (fun _ _ q => by obtain ⟨_, _, _, _, _, _, K, _⟩ := q; exact K.1) (fun T603 h603 v603 X603 P603 => ?_)
      obtain ⟨cp603, t2603, r2603, rfl, D603_cp, D603_t2, K603, O603_0, O603_1, O603_2, O603_3, O603_4, O603_5⟩ := P603
      have ne_b584_cp603 : b584 ≠ cp603 := Nat.ne_of_lt (Nat.lt_of_lt_of_le A600.lt D603_cp)
      have ne_b589_cp603 : b589 ≠ cp603 := Nat.ne_of_lt (Nat.lt_of_lt_of_le A601.lt D603_cp)
      have ne_b593_cp603 : b593 ≠ cp603 := Nat.ne_of_lt (Nat.lt_of_lt_of_le O599_0.lt D603_cp)
      have ne_t599_cp603 : t599 ≠ cp603 := Nat.ne_of_lt (Nat.lt_of_lt_of_le O599_4.lt D603_cp)
      have N_cp603 : n0 ≤ cp603 := Nat.le_trans X599.sz D603_cp
      have ne_b584_t2603 : b584 ≠ t2603 := Nat.ne_of_lt (Nat.lt_of_lt_of_le A600.lt D603_t2)
      have ne_b589_t2603 : b589 ≠ t2603 := Nat.ne_of_lt (Nat.lt_of_lt_of_le A601.lt D603_t2)
      have ne_b593_t2603 : b593 ≠ t2603 := Nat.ne_of_lt (Nat.lt_of_lt_of_le O599_0.lt D603_t2)
      have ne_t599_t2603 : t599 ≠ t2603 := Nat.ne_of_lt (Nat.lt_of_lt_of_le O599_4.lt D603_t2)
      have N_t2603 : n0 ≤ t2603 := Nat.le_trans X599.sz D603_t2
      have A604 := A600.keep K603 nin0
      have A605 := A601.keep K603 nin0
      have E606 := O599_0.keep K603
      have F607 := O599_1.keep K603 nin0
      have F608 := O599_2.keep K603 nin0
      have F609 := O599_3.keep K603 nin0
      have A610 := O599_4.keep K603 nin0
      show Go p e below s n0 _ _ _ T603 (mkF m 149 #[.val (.int x0), .val (.int x1), .val (.int x2), .val (.int x3), .val (.int x4), .val (.int x5), .val (.int (1 : Int32)), .val (.int (0 : Int32)), .val (.int ((0 : Int32) * (1 : Int32))), .val (.ref b584), .val (.ref b589), .val (.ref b593), .unset] [(.ref cp603)])
      refine Go.astore C X603 (pc' := 151) (Ls' := #[.val (.int x0), .val (.int x1), .val (.int x2), .val (.int x3), .val (.int x4), .val (.int x5), .val (.int (1 : Int32)), .val (.int (0 : Int32)), .val (.int ((0 : Int32) * (1 : Int32))), .val (.ref b584), .val (.ref b589), .val (.ref b593), .val (.ref cp603)]) at_149 rfl rfl rfl ?_
      refine Go.aload C X603 (pc' := 153) at_151 rfl rfl rfl ?_
      refine Go.callV C X603 (pc' := 156) (W := 0) (argsL := []) (rest := []) (a := cp603) (rm_cnt l Z a0 hw cp603 (0 : Int32) (1 : Int32) h603 n0 X603.sz O603_1 O603_3 (by decide)) O603_0 (notFace_of_selects (args := #[]) (mvT C.2.1 (hw _ (List.mem_of_getElem? (i := 26) rfl)))) (hw _ (List.mem_of_getElem? (i := 23) rfl)) (hw _ (List.mem_of_getElem? (i := 24) rfl)) (hw _ (List.mem_of_getElem? (i := 26) rfl)) (hw _ (List.mem_of_getElem? (i := 25) rfl)) (hw _ (List.mem_of_getElem? (i := 3) rfl)) (hw _ (List.mem_of_getElem? (i := 27) rfl)) (by decide) rfl rfl (lenOf own_pd3 rfl) rfl (Nat.le_of_eq rfl) (by decide) (by decide) (by decide) (by decide) at_153 rfl (fun _ _ q => Nat.le_of_eq (congrArg Array.size q.2)) (fun T611 h611 v611 X611 P611 => ?_)
      obtain ⟨rfl, rfl⟩ := P611
      show Go p e below s n0 _ _ _ T611 (mkF m 156 #[.val (.int x0), .val (.int x1), .val (.int x2), .val (.int x3), .val (.int x4), .val (.int x5), .val (.int (1 : Int32)), .val (.int (0 : Int32)), .val (.int ((0 : Int32) * (1 : Int32))), .val (.ref b584), .val (.ref b589), .val (.ref b593), .val (.ref cp603)] [(.int ((0 : Int32) / (1 : Int32)))])
      refine Go.iload C X611 (pc' := 158) at_156 rfl rfl ?_
      refine Go.icmpYes C X611 (pc' := 163) at_158 (teq (by decide)).1 (by decide) (by decide) ?_
      refine Go.aload C X611 (pc' := 165) at_163 rfl rfl rfl ?_
      refine Go.aload C X611 (pc' := 167) at_165 rfl rfl rfl ?_
      refine Go.aload C X611 (pc' := 169) at_167 rfl rfl rfl ?_
      refine Go.iload C X611 (pc' := 171) at_169 rfl rfl ?_
      refine Go.iload C X611 (pc' := 173) at_171 rfl rfl ?_
      refine Go.iconst C X611 (pc' := 174) (v := (0 : Int32)) at_173 rfl rfl ?_
      refine Go.iconst C X611 (pc' := 175) (v := (0 : Int32)) at_174 rfl rfl ?_
      refine Go.callS C X611 (pc' := 178) (W := 0) (argsL := [(.ref cp603), (.ref b584), (.ref b589), (.int (0 : Int32)), (.int (1 : Int32)), (.int (0 : Int32)), (.int (0 : Int32))]) (rest := []) (rm_at l Z a0 hw cp603 b584 b589 (0 : Int32) (1 : Int32) (0 : Int32) (0 : Int32) t2603 0 r2603 (fun q => if q = 3 then x3 else (fun q => if q = 2 then x2 else (fun q => if q = 1 then x1 else (fun q => if q = 0 then x0 else (fun _ => 0) q) q) q) q) 1 (fun q => if q = 0 then (0 : Int32) else (fun _ => 0) q) (1 : Int32) h603 n0 X611.sz O603_0 O603_1 O603_2 O603_5 A604 A605 (fun h => absurd h (by decide))) (hw _ (List.mem_of_getElem? (i := 28) rfl)) (hw _ (List.mem_of_getElem? (i := 29) rfl)) (hw _ (List.mem_of_getElem? (i := 30) rfl)) (hw _ (List.mem_of_getElem? (i := 31) rfl)) (by decide) rfl rfl (lenOf own_pd4 rfl) rfl (Nat.le_of_eq rfl) (by decide) (by decide) (by decide) (by decide) at_175 rfl (fun _ _ q => Nat.le_of_eq (congrArg Array.size q.2)) (fun T612 h612 v612 X612 P612 => ?_)
      obtain ⟨rfl, rfl⟩ := P612
      show Go p e below s n0 _ _ _ T612 (mkF m 178 #[.val (.int x0), .val (.int x1), .val (.int x2), .val (.int x3), .val (.int x4), .val (.int x5), .val (.int (1 : Int32)), .val (.int (0 : Int32)), .val (.int ((0 : Int32) * (1 : Int32))), .val (.ref b584), .val (.ref b589), .val (.ref b593), .val (.ref cp603)] [(.int (1 : Int32))])
      refine Go.ifNo C X612 (pc' := 181) at_178 ((if0 _ _).trans (feq (by decide)).1) rfl ?_
      refine Go.aload C X612 (pc' := 183) at_181 rfl rfl rfl ?_
      refine Go.aload C X612 (pc' := 185) at_183 rfl rfl rfl ?_
      refine Go.aload C X612 (pc' := 187) at_185 rfl rfl rfl ?_
      refine Go.iload C X612 (pc' := 189) at_187 rfl rfl ?_
      refine Go.iload C X612 (pc' := 191) at_189 rfl rfl ?_
      refine Go.iconst C X612 (pc' := 192) (v := (0 : Int32)) at_191 rfl rfl ?_
      refine Go.iconst C X612 (pc' := 193) (v := (1 : Int32)) at_192 rfl rfl ?_
      refine Go.callS C X612 (pc' := 196) (W := 0) (argsL := [(.ref cp603), (.ref b584), (.ref b589), (.int (0 : Int32)), (.int (1 : Int32)), (.int (0 : Int32)), (.int (1 : Int32))]) (rest := []) (rm_at l Z a0 hw cp603 b584 b589 (0 : Int32) (1 : Int32) (0 : Int32) (1 : Int32) t2603 0 r2603 (fun q => if q = 3 then x3 else (fun q => if q = 2 then x2 else (fun q => if q = 1 then x1 else (fun q => if q = 0 then x0 else (fun _ => 0) q) q) q) q) 1 (fun q => if q = 0 then (0 : Int32) else (fun _ => 0) q) (1 : Int32) h603 n0 X612.sz O603_0 O603_1 O603_2 O603_5 A604 A605 (fun h => absurd h (by decide))) (hw _ (List.mem_of_getElem? (i := 28) rfl)) (hw _ (List.mem_of_getElem? (i := 29) rfl)) (hw _ (List.mem_of_getElem? (i := 30) rfl)) (hw _ (List.mem_of_getElem? (i := 31) rfl)) (by decide) rfl rfl (lenOf own_pd4 rfl) rfl (Nat.le_of_eq rfl) (by decide) (by decide) (by decide) (by decide) at_193 rfl (fun _ _ q => Nat.le_of_eq (congrArg Array.size q.2)) (fun T613 h613 v613 X613 P613 => ?_)
      obtain ⟨rfl, rfl⟩ := P613
      show Go p e below s n0 _ _ _ T613 (mkF m 196 #[.val (.int x0), .val (.int x1), .val (.int x2), .val (.int x3), .val (.int x4), .val (.int x5), .val (.int (1 : Int32)), .val (.int (0 : Int32)), .val (.int ((0 : Int32) * (1 : Int32))), .val (.ref b584), .val (.ref b589), .val (.ref b593), .val (.ref cp603)] [(.int (1 : Int32))])
      refine Go.ifNo C X613 (pc' := 199) at_196 ((if0 _ _).trans (feq (by decide)).1) rfl ?_
      refine Go.aload C X613 (pc' := 201) at_199 rfl rfl rfl ?_
      refine Go.aload C X613 (pc' := 203) at_201 rfl rfl rfl ?_
      refine Go.aload C X613 (pc' := 205) at_203 rfl rfl rfl ?_
      refine Go.iload C X613 (pc' := 207) at_205 rfl rfl ?_
      refine Go.iload C X613 (pc' := 209) at_207 rfl rfl ?_
      refine Go.iconst C X613 (pc' := 210) (v := (1 : Int32)) at_209 rfl rfl ?_
      refine Go.iconst C X613 (pc' := 211) (v := (0 : Int32)) at_210 rfl rfl ?_
      refine Go.callS C X613 (pc' := 214) (W := 0) (argsL := [(.ref cp603), (.ref b584), (.ref b589), (.int (0 : Int32)), (.int (1 : Int32)), (.int (1 : Int32)), (.int (0 : Int32))]) (rest := []) (rm_at l Z a0 hw cp603 b584 b589 (0 : Int32) (1 : Int32) (1 : Int32) (0 : Int32) t2603 0 r2603 (fun q => if q = 3 then x3 else (fun q => if q = 2 then x2 else (fun q => if q = 1 then x1 else (fun q => if q = 0 then x0 else (fun _ => 0) q) q) q) q) 1 (fun q => if q = 0 then (0 : Int32) else (fun _ => 0) q) (1 : Int32) h603 n0 X613.sz O603_0 O603_1 O603_2 O603_5 A604 A605 (fun h => absurd h (by decide))) (hw _ (List.mem_of_getElem? (i := 28) rfl)) (hw _ (List.mem_of_getElem? (i := 29) rfl)) (hw _ (List.mem_of_getElem? (i := 30) rfl)) (hw _ (List.mem_of_getElem? (i := 31) rfl)) (by decide) rfl rfl (lenOf own_pd4 rfl) rfl (Nat.le_of_eq rfl) (by decide) (by decide) (by decide) (by decide) at_211 rfl (fun _ _ q => Nat.le_of_eq (congrArg Array.size q.2)) (fun T614 h614 v614 X614 P614 => ?_)
      obtain ⟨rfl, rfl⟩ := P614
      show Go p e below s n0 _ _ _ T614 (mkF m 214 #[.val (.int x0), .val (.int x1), .val (.int x2), .val (.int x3), .val (.int x4), .val (.int x5), .val (.int (1 : Int32)), .val (.int (0 : Int32)), .val (.int ((0 : Int32) * (1 : Int32))), .val (.ref b584), .val (.ref b589), .val (.ref b593), .val (.ref cp603)] [(.int (1 : Int32))])
      refine Go.ifNo C X614 (pc' := 217) at_214 ((if0 _ _).trans (feq (by decide)).1) rfl ?_
      refine Go.aload C X614 (pc' := 219) at_217 rfl rfl rfl ?_
      refine Go.aload C X614 (pc' := 221) at_219 rfl rfl rfl ?_
      refine Go.aload C X614 (pc' := 223) at_221 rfl rfl rfl ?_
      refine Go.iload C X614 (pc' := 225) at_223 rfl rfl ?_
      refine Go.iload C X614 (pc' := 227) at_225 rfl rfl ?_
      refine Go.iconst C X614 (pc' := 228) (v := (1 : Int32)) at_227 rfl rfl ?_
      refine Go.iconst C X614 (pc' := 229) (v := (1 : Int32)) at_228 rfl rfl ?_
      refine Go.callS C X614 (pc' := 232) (W := 0) (argsL := [(.ref cp603), (.ref b584), (.ref b589), (.int (0 : Int32)), (.int (1 : Int32)), (.int (1 : Int32)), (.int (1 : Int32))]) (rest := []) (rm_at l Z a0 hw cp603 b584 b589 (0 : Int32) (1 : Int32) (1 : Int32) (1 : Int32) t2603 0 r2603 (fun q => if q = 3 then x3 else (fun q => if q = 2 then x2 else (fun q => if q = 1 then x1 else (fun q => if q = 0 then x0 else (fun _ => 0) q) q) q) q) 1 (fun q => if q = 0 then (0 : Int32) else (fun _ => 0) q) (1 : Int32) h603 n0 X614.sz O603_0 O603_1 O603_2 O603_5 A604 A605 (fun h => absurd h (by decide))) (hw _ (List.mem_of_getElem? (i := 28) rfl)) (hw _ (List.mem_of_getElem? (i := 29) rfl)) (hw _ (List.mem_of_getElem? (i := 30) rfl)) (hw _ (List.mem_of_getElem? (i := 31) rfl)) (by decide) rfl rfl (lenOf own_pd4 rfl) rfl (Nat.le_of_eq rfl) (by decide) (by decide) (by decide) (by decide) at_229 rfl (fun _ _ q => Nat.le_of_eq (congrArg Array.size q.2)) (fun T615 h615 v615 X615 P615 => ?_)
      obtain ⟨rfl, rfl⟩ := P615
      show Go p e below s n0 _ _ _ T615 (mkF m 232 #[.val (.int x0), .val (.int x1), .val (.int x2), .val (.int x3), .val (.int x4), .val (.int x5), .val (.int (1 : Int32)), .val (.int (0 : Int32)), .val (.int ((0 : Int32) * (1 : Int32))), .val (.ref b584), .val (.ref b589), .val (.ref b593), .val (.ref cp603)] [(.int (1 : Int32))])
      refine Go.ifNo C X615 (pc' := 235) at_232 ((if0 _ _).trans (feq (by decide)).1) rfl ?_
      refine Go.iconst C X615 (pc' := 236) (v := (1 : Int32)) at_235 rfl rfl ?_
      refine Go.goto C X615 (pc' := 240) at_236 (by decide) (by decide) ?_
      exact Go.retZ (t := .boolean) C X615 (z' := (1 : Int32)) (by decide) at_240 rfl (by decide) (by decide)
    · rw [q583]
      refine Go.iload C X0 (pc' := 20) at_18 rfl rfl ?_
      refine Go.iload C X0 (pc' := 22) at_20 rfl rfl ?_
      refine Go.imul C X0 (pc' := 23) at_22 rfl ?_
      refine Go.istore C X0 (pc' := 25) (Ls' := #[.val (.int x0), .val (.int x1), .val (.int x2), .val (.int x3), .val (.int x4), .val (.int x5), .val (.int (1 : Int32)), .val (.int (1 : Int32)), .val (.int ((1 : Int32) * (1 : Int32))), .unset, .unset, .unset, .unset]) at_23 rfl rfl ?_
      refine Go.iconst C X0 (pc' := 26) (v := (4 : Int32)) at_25 rfl rfl ?_
      refine Go.newP C X0 (pc' := 28) (nn := 4) (cap := 4) (hw _ (List.mem_of_getElem? (i := 0) rfl)) at_26 rfl (by decide) (by decide) (by decide) (by decide) rfl (fun T616 h616 b616 k616 X616 g616 E616 Ar616 N616 => ?_)
      have A616 : AI Z h616 b616 .int 4 (fun _ => 0) := AI.new rfl rfl Ar616
      refine Go.dup C X616 (pc' := 29) at_28 rfl rfl ?_
      refine Go.iconst C X616 (pc' := 30) (v := (0 : Int32)) at_29 rfl rfl ?_
      refine Go.iloadN C X616 (pc' := 31) at_30 rfl rfl ?_
      refine Go.iastore C X616 (pc' := 32) (i := 0) (x' := x0) A616 rfl (by decide) rfl N616 at_31 rfl (fun T617 h617 X617 W617 A617 => ?_)
      refine Go.dup C X617 (pc' := 33) at_32 rfl rfl ?_
      refine Go.iconst C X617 (pc' := 34) (v := (1 : Int32)) at_33 rfl rfl ?_
      refine Go.iloadN C X617 (pc' := 35) at_34 rfl rfl ?_
      refine Go.iastore C X617 (pc' := 36) (i := 1) (x' := x1) A617 rfl (by decide) rfl N616 at_35 rfl (fun T618 h618 X618 W618 A618 => ?_)
      refine Go.dup C X618 (pc' := 37) at_36 rfl rfl ?_
      refine Go.iconst C X618 (pc' := 38) (v := (2 : Int32)) at_37 rfl rfl ?_
      refine Go.iloadN C X618 (pc' := 39) at_38 rfl rfl ?_
      refine Go.iastore C X618 (pc' := 40) (i := 2) (x' := x2) A618 rfl (by decide) rfl N616 at_39 rfl (fun T619 h619 X619 W619 A619 => ?_)
      refine Go.dup C X619 (pc' := 41) at_40 rfl rfl ?_
      refine Go.iconst C X619 (pc' := 42) (v := (3 : Int32)) at_41 rfl rfl ?_
      refine Go.iloadN C X619 (pc' := 43) at_42 rfl rfl ?_
      refine Go.iastore C X619 (pc' := 44) (i := 3) (x' := x3) A619 rfl (by decide) rfl N616 at_43 rfl (fun T620 h620 X620 W620 A620 => ?_)
      refine Go.astore C X620 (pc' := 46) (Ls' := #[.val (.int x0), .val (.int x1), .val (.int x2), .val (.int x3), .val (.int x4), .val (.int x5), .val (.int (1 : Int32)), .val (.int (1 : Int32)), .val (.int ((1 : Int32) * (1 : Int32))), .val (.ref b616), .unset, .unset, .unset]) at_44 rfl rfl rfl ?_
      refine Go.iload C X620 (pc' := 48) at_46 rfl rfl ?_
      refine Go.newP C X620 (pc' := 50) (nn := 1) (cap := 1) (hw _ (List.mem_of_getElem? (i := 0) rfl)) at_48 rfl (by decide) (by decide) (by decide) (by decide) rfl (fun T621 h621 b621 k621 X621 g621 E621 Ar621 N621 => ?_)
      have ne_b616_b621 : b616 ≠ b621 := Nat.ne_of_lt (Nat.lt_of_lt_of_eq A620.lt g621.symm)
      have A622 := A620.ext E621
      have A621 : AI Z h621 b621 .int 1 (fun _ => 0) := AI.new rfl rfl Ar621
      refine Go.astore C X621 (pc' := 52) (Ls' := #[.val (.int x0), .val (.int x1), .val (.int x2), .val (.int x3), .val (.int x4), .val (.int x5), .val (.int (1 : Int32)), .val (.int (1 : Int32)), .val (.int ((1 : Int32) * (1 : Int32))), .val (.ref b616), .val (.ref b621), .unset, .unset]) at_50 rfl rfl rfl ?_
      refine Go.iload C X621 (pc' := 54) at_52 rfl rfl ?_
      refine Go.iconst C X621 (pc' := 55) (v := (2 : Int32)) at_54 rfl rfl ?_
      refine Go.icmpYes C X621 (pc' := 79) at_55 (feq (by decide)).2 (by decide) (by decide) ?_
      refine Go.aload C X621 (pc' := 81) at_79 rfl rfl rfl ?_
      refine Go.iconst C X621 (pc' := 82) (v := (0 : Int32)) at_81 rfl rfl ?_
      refine Go.iconst C X621 (pc' := 83) (v := (0 : Int32)) at_82 rfl rfl ?_
      refine Go.iastore C X621 (pc' := 84) (i := 0) (x' := (0 : Int32)) A621 rfl (by decide) rfl N621 at_83 rfl (fun T623 h623 X623 W623 A623 => ?_)
      have A624 := A622.other W623 ne_b616_b621
      refine Go.newO C X623 (pc' := 87) (hw _ (List.mem_of_getElem? (i := 1) rfl)) (hw _ (List.mem_of_getElem? (i := 2) rfl)) (hw _ (List.mem_of_getElem? (i := 3) rfl)) at_84 (by decide) (by decide) rfl (fun T625 h625 b625 X625 g625 E625 Ex625 D625 N625 => ?_)
      have ne_b616_b625 : b616 ≠ b625 := Nat.ne_of_lt (Nat.lt_of_lt_of_eq A624.lt g625.symm)
      have ne_b621_b625 : b621 ≠ b625 := Nat.ne_of_lt (Nat.lt_of_lt_of_eq A623.lt g625.symm)
      have A626 := A624.ext E625
      have A627 := A623.ext E625
      have F628 : Fld Z h625 b625 "com/example/ruleweave/ruleweave/store/Records" "width" "I" (.int (0 : Int32)) := D625 (Or.inr (hw _ (List.mem_of_getElem? (i := 11) rfl))) (ty := .int) (by decide)
      have F629 : Fld Z h625 b625 "com/example/ruleweave/ruleweave/store/Records" "ints" "[I" .null := D625 (Or.inl (hw _ (List.mem_of_getElem? (i := 13) rfl))) (ty := (.array .int)) (by decide)
      have F630 : Fld Z h625 b625 "com/example/ruleweave/ruleweave/store/Records" "size" "I" (.int (0 : Int32)) := D625 (Or.inl (hw _ (List.mem_of_getElem? (i := 22) rfl))) (ty := .int) (by decide)
      refine Go.dup C X625 (pc' := 88) at_87 rfl rfl ?_
      refine Go.iload C X625 (pc' := 90) at_88 rfl rfl ?_
      refine Go.callI C X625 (pc' := 93) (W := 1) (argsL := [(.int (1 : Int32))]) (rest := [(.ref b625)]) (a := b625) (rm_init l Z a0 hw b625 (1 : Int32) 1024 h625 n0 X625.sz Ex625 F628 F629 F630 N625 rfl (by decide)) rfl rfl (hw _ (List.mem_of_getElem? (i := 4) rfl)) (hw _ (List.mem_of_getElem? (i := 5) rfl)) (hw _ (List.mem_of_getElem? (i := 3) rfl)) (hw _ (List.mem_of_getElem? (i := 6) rfl)) (by decide) rfl rfl (lenOf own_pd0 rfl) rfl (Nat.le_of_eq rfl) (by decide) (by decide) (by decide) (by decide) at_90 rfl (fun _ _ q => by obtain ⟨_, _, _, K, _⟩ := q; exact K.1) (fun T631 h631 v631 X631 P631 => ?_)
      obtain ⟨t631, rfl, D631_t, K631, O631_0, O631_1, O631_2, O631_3, O631_4⟩ := P631
      have ne_b616_t631 : b616 ≠ t631 := Nat.ne_of_lt (Nat.lt_of_lt_of_le A626.lt D631_t)
      have ne_b621_t631 : b621 ≠ t631 := Nat.ne_of_lt (Nat.lt_of_lt_of_le A627.lt D631_t)
      have ne_b625_t631 : b625 ≠ t631 := Nat.ne_of_lt (Nat.lt_of_lt_of_le Ex625.lt D631_t)
      have N_t631 : n0 ≤ t631 := Nat.le_trans X625.sz D631_t
      have A632 := A626.keep K631 (ninS ne_b616_b625 nin0)
      have A633 := A627.keep K631 (ninS ne_b621_b625 nin0)
      have E634 := Ex625.keep K631
      show Go p e below s n0 _ _ _ T631 (mkF m 93 #[.val (.int x0), .val (.int x1), .val (.int x2), .val (.int x3), .val (.int x4), .val (.int x5), .val (.int (1 : Int32)), .val (.int (1 : Int32)), .val (.int ((1 : Int32) * (1 : Int32))), .val (.ref b616), .val (.ref b621), .unset, .unset] [(.ref b625)])
      refine Go.astore C X631 (pc' := 95) (Ls' := #[.val (.int x0), .val (.int x1), .val (.int x2), .val (.int x3), .val (.int x4), .val (.int x5), .val (.int (1 : Int32)), .val (.int (1 : Int32)), .val (.int ((1 : Int32) * (1 : Int32))), .val (.ref b616), .val (.ref b621), .val (.ref b625), .unset]) at_93 rfl rfl rfl ?_
      refine Go.iload C X631 (pc' := 97) at_95 rfl rfl ?_
      refine Go.ifNo C X631 (pc' := 100) at_97 ((if0 _ _).trans (tlt (by decide)).2.2.2) rfl ?_
      refine Go.aload C X631 (pc' := 102) at_100 rfl rfl rfl ?_
      refine Go.iloadN C X631 (pc' := 103) at_102 rfl rfl ?_
      refine Go.callV C X631 (pc' := 106) (W := 0) (argsL := [(.int x0)]) (rest := []) (a := b625) (rm_add l Z a0 hw b625 x0 t631 1024 (fun _ => 0) (0 : Int32) 0 (1024 : Int32) (1 : Int32) h631 n0 X631.sz O631_0 O631_1 O631_2 O631_3 N625 N_t631 O631_4 (Ne.symm ne_b625_t631) rfl rfl (by decide)) O631_0 (notFace_of_selects (args := #[]) (mvT C.2.1 (hw _ (List.mem_of_getElem? (i := 35) rfl)))) (hw _ (List.mem_of_getElem? (i := 32) rfl)) (hw _ (List.mem_of_getElem? (i := 33) rfl)) (hw _ (List.mem_of_getElem? (i := 35) rfl)) (hw _ (List.mem_of_getElem? (i := 34) rfl)) (hw _ (List.mem_of_getElem? (i := 3) rfl)) (hw _ (List.mem_of_getElem? (i := 36) rfl)) (by decide) rfl rfl (lenOf own_pd0 rfl) rfl (Nat.le_of_eq rfl) (by decide) (by decide) (by decide) (by decide) at_103 rfl (fun _ _ q => by obtain ⟨_, K, _⟩ := q; exact K.1) (fun T635 h635 v635 X635 P635 => ?_)
      obtain ⟨rfl, K635, O635_0, O635_1, O635_2, O635_3, O635_4⟩ := P635
      have A636 := A632.keep K635 (ninS ne_b616_b625 (ninS ne_b616_t631 nin0))
      have A637 := A633.keep K635 (ninS ne_b621_b625 (ninS ne_b621_t631 nin0))
      have E638 := O631_0.keep K635
      show Go p e below s n0 _ _ _ T635 (mkF m 106 #[.val (.int x0), .val (.int x1), .val (.int x2), .val (.int x3), .val (.int x4), .val (.int x5), .val (.int (1 : Int32)), .val (.int (1 : Int32)), .val (.int ((1 : Int32) * (1 : Int32))), .val (.ref b616), .val (.ref b621), .val (.ref b625), .unset] [])
      refine Go.iload C X635 (pc' := 108) at_106 rfl rfl ?_
      refine Go.iconst C X635 (pc' := 109) (v := (1 : Int32)) at_108 rfl rfl ?_
      refine Go.icmpYes C X635 (pc' := 118) at_109 (flt (by decide)).2.2.2 (by decide) (by decide) ?_
      refine Go.iload C X635 (pc' := 120) at_118 rfl rfl ?_
      refine Go.iconst C X635 (pc' := 121) (v := (2 : Int32)) at_120 rfl rfl ?_
      refine Go.icmpYes C X635 (pc' := 130) at_121 (flt (by decide)).2.2.2 (by decide) (by decide) ?_
      refine Go.iload C X635 (pc' := 132) at_130 rfl rfl ?_
      refine Go.iconst C X635 (pc' := 133) (v := (3 : Int32)) at_132 rfl rfl ?_
      refine Go.icmpYes C X635 (pc' := 142) at_133 (flt (by decide)).2.2.2 (by decide) (by decide) ?_
      refine Go.aload C X635 (pc' := 144) at_142 rfl rfl rfl ?_
      refine Go.aload C X635 (pc' := 146) at_144 rfl rfl rfl ?_
      refine Go.callV C X635 (pc' := 149) (W := 0) (argsL := [(.ref b621)]) (rest := []) (a := b625) (rm_re_1_1 l Z a0 hw b625 b621 t631 1024 (fun q => if q = 0 then x0 else (fun _ => 0) q) (fun q => if q = 0 then (0 : Int32) else (fun _ => 0) q) 0 h635 n0 X635.sz O635_0 O635_1 O635_2 O635_3 O635_4 A637 (by decide) rfl (by decide)) O635_0 (notFace_of_selects (args := #[]) (mvT C.2.1 (hw _ (List.mem_of_getElem? (i := 17) rfl)))) (hw _ (List.mem_of_getElem? (i := 14) rfl)) (hw _ (List.mem_of_getElem? (i := 15) rfl)) (hw _ (List.mem_of_getElem? (i := 17) rfl)) (hw _ (List.mem_of_getElem? (i := 16) rfl)) (hw _ (List.mem_of_getElem? (i := 3) rfl)) (hw _ (List.mem_of_getElem? (i := 18) rfl)) (by decide) rfl rfl (lenOf own_pd2 rfl) rfl (Nat.le_of_eq rfl) (by decide) (by decide) (by decide) (by decide) at_146 rfl (fun _ _ q => by obtain ⟨_, _, _, _, _, _, K, _⟩ := q; exact K.1) (fun T639 h639 v639 X639 P639 => ?_)
      obtain ⟨cp639, t2639, r2639, rfl, D639_cp, D639_t2, K639, O639_0, O639_1, O639_2, O639_3, O639_4, O639_5, Y639_0⟩ := P639
      have ne_b616_cp639 : b616 ≠ cp639 := Nat.ne_of_lt (Nat.lt_of_lt_of_le A636.lt D639_cp)
      have ne_b621_cp639 : b621 ≠ cp639 := Nat.ne_of_lt (Nat.lt_of_lt_of_le A637.lt D639_cp)
      have ne_b625_cp639 : b625 ≠ cp639 := Nat.ne_of_lt (Nat.lt_of_lt_of_le O635_0.lt D639_cp)
      have ne_t631_cp639 : t631 ≠ cp639 := Nat.ne_of_lt (Nat.lt_of_lt_of_le O635_4.lt D639_cp)
      have N_cp639 : n0 ≤ cp639 := Nat.le_trans X635.sz D639_cp
      have ne_b616_t2639 : b616 ≠ t2639 := Nat.ne_of_lt (Nat.lt_of_lt_of_le A636.lt D639_t2)
      have ne_b621_t2639 : b621 ≠ t2639 := Nat.ne_of_lt (Nat.lt_of_lt_of_le A637.lt D639_t2)
      have ne_b625_t2639 : b625 ≠ t2639 := Nat.ne_of_lt (Nat.lt_of_lt_of_le O635_0.lt D639_t2)
      have ne_t631_t2639 : t631 ≠ t2639 := Nat.ne_of_lt (Nat.lt_of_lt_of_le O635_4.lt D639_t2)
      have N_t2639 : n0 ≤ t2639 := Nat.le_trans X635.sz D639_t2
      have A640 := A636.keep K639 nin0
      have A641 := A637.keep K639 nin0
      have E642 := O635_0.keep K639
      have F643 := O635_1.keep K639 nin0
      have F644 := O635_2.keep K639 nin0
      have F645 := O635_3.keep K639 nin0
      have A646 := O635_4.keep K639 nin0
      show Go p e below s n0 _ _ _ T639 (mkF m 149 #[.val (.int x0), .val (.int x1), .val (.int x2), .val (.int x3), .val (.int x4), .val (.int x5), .val (.int (1 : Int32)), .val (.int (1 : Int32)), .val (.int ((1 : Int32) * (1 : Int32))), .val (.ref b616), .val (.ref b621), .val (.ref b625), .unset] [(.ref cp639)])
      refine Go.astore C X639 (pc' := 151) (Ls' := #[.val (.int x0), .val (.int x1), .val (.int x2), .val (.int x3), .val (.int x4), .val (.int x5), .val (.int (1 : Int32)), .val (.int (1 : Int32)), .val (.int ((1 : Int32) * (1 : Int32))), .val (.ref b616), .val (.ref b621), .val (.ref b625), .val (.ref cp639)]) at_149 rfl rfl rfl ?_
      refine Go.aload C X639 (pc' := 153) at_151 rfl rfl rfl ?_
      refine Go.callV C X639 (pc' := 156) (W := 0) (argsL := []) (rest := []) (a := cp639) (rm_cnt l Z a0 hw cp639 (1 : Int32) (1 : Int32) h639 n0 X639.sz O639_1 O639_3 (by decide)) O639_0 (notFace_of_selects (args := #[]) (mvT C.2.1 (hw _ (List.mem_of_getElem? (i := 26) rfl)))) (hw _ (List.mem_of_getElem? (i := 23) rfl)) (hw _ (List.mem_of_getElem? (i := 24) rfl)) (hw _ (List.mem_of_getElem? (i := 26) rfl)) (hw _ (List.mem_of_getElem? (i := 25) rfl)) (hw _ (List.mem_of_getElem? (i := 3) rfl)) (hw _ (List.mem_of_getElem? (i := 27) rfl)) (by decide) rfl rfl (lenOf own_pd3 rfl) rfl (Nat.le_of_eq rfl) (by decide) (by decide) (by decide) (by decide) at_153 rfl (fun _ _ q => Nat.le_of_eq (congrArg Array.size q.2)) (fun T647 h647 v647 X647 P647 => ?_)
      obtain ⟨rfl, rfl⟩ := P647
      show Go p e below s n0 _ _ _ T647 (mkF m 156 #[.val (.int x0), .val (.int x1), .val (.int x2), .val (.int x3), .val (.int x4), .val (.int x5), .val (.int (1 : Int32)), .val (.int (1 : Int32)), .val (.int ((1 : Int32) * (1 : Int32))), .val (.ref b616), .val (.ref b621), .val (.ref b625), .val (.ref cp639)] [(.int ((1 : Int32) / (1 : Int32)))])
      refine Go.iload C X647 (pc' := 158) at_156 rfl rfl ?_
      refine Go.icmpYes C X647 (pc' := 163) at_158 (teq (by decide)).1 (by decide) (by decide) ?_
      refine Go.aload C X647 (pc' := 165) at_163 rfl rfl rfl ?_
      refine Go.aload C X647 (pc' := 167) at_165 rfl rfl rfl ?_
      refine Go.aload C X647 (pc' := 169) at_167 rfl rfl rfl ?_
      refine Go.iload C X647 (pc' := 171) at_169 rfl rfl ?_
      refine Go.iload C X647 (pc' := 173) at_171 rfl rfl ?_
      refine Go.iconst C X647 (pc' := 174) (v := (0 : Int32)) at_173 rfl rfl ?_
      refine Go.iconst C X647 (pc' := 175) (v := (0 : Int32)) at_174 rfl rfl ?_
      refine Go.callS C X647 (pc' := 178) (W := 0) (argsL := [(.ref cp639), (.ref b616), (.ref b621), (.int (1 : Int32)), (.int (1 : Int32)), (.int (0 : Int32)), (.int (0 : Int32))]) (rest := []) (rm_at l Z a0 hw cp639 b616 b621 (1 : Int32) (1 : Int32) (0 : Int32) (0 : Int32) t2639 1 r2639 (fun q => if q = 3 then x3 else (fun q => if q = 2 then x2 else (fun q => if q = 1 then x1 else (fun q => if q = 0 then x0 else (fun _ => 0) q) q) q) q) 1 (fun q => if q = 0 then (0 : Int32) else (fun _ => 0) q) (1 : Int32) h639 n0 X647.sz O639_0 O639_1 O639_2 O639_5 A640 A641 (fun _ _ => ⟨0, 0, 0 + 0, rfl, by decide, rfl, by decide, own_ai (i := 0) rfl rfl (by decide) (by decide), (by decide), Y639_0.trans (own_v1_0 _ _ _ _ (by decide))⟩)) (hw _ (List.mem_of_getElem? (i := 28) rfl)) (hw _ (List.mem_of_getElem? (i := 29) rfl)) (hw _ (List.mem_of_getElem? (i := 30) rfl)) (hw _ (List.mem_of_getElem? (i := 31) rfl)) (by decide) rfl rfl (lenOf own_pd4 rfl) rfl (Nat.le_of_eq rfl) (by decide) (by decide) (by decide) (by decide) at_175 rfl (fun _ _ q => Nat.le_of_eq (congrArg Array.size q.2)) (fun T648 h648 v648 X648 P648 => ?_)
      obtain ⟨rfl, rfl⟩ := P648
      show Go p e below s n0 _ _ _ T648 (mkF m 178 #[.val (.int x0), .val (.int x1), .val (.int x2), .val (.int x3), .val (.int x4), .val (.int x5), .val (.int (1 : Int32)), .val (.int (1 : Int32)), .val (.int ((1 : Int32) * (1 : Int32))), .val (.ref b616), .val (.ref b621), .val (.ref b625), .val (.ref cp639)] [(.int (1 : Int32))])
      refine Go.ifNo C X648 (pc' := 181) at_178 ((if0 _ _).trans (feq (by decide)).1) rfl ?_
      refine Go.aload C X648 (pc' := 183) at_181 rfl rfl rfl ?_
      refine Go.aload C X648 (pc' := 185) at_183 rfl rfl rfl ?_
      refine Go.aload C X648 (pc' := 187) at_185 rfl rfl rfl ?_
      refine Go.iload C X648 (pc' := 189) at_187 rfl rfl ?_
      refine Go.iload C X648 (pc' := 191) at_189 rfl rfl ?_
      refine Go.iconst C X648 (pc' := 192) (v := (0 : Int32)) at_191 rfl rfl ?_
      refine Go.iconst C X648 (pc' := 193) (v := (1 : Int32)) at_192 rfl rfl ?_
      refine Go.callS C X648 (pc' := 196) (W := 0) (argsL := [(.ref cp639), (.ref b616), (.ref b621), (.int (1 : Int32)), (.int (1 : Int32)), (.int (0 : Int32)), (.int (1 : Int32))]) (rest := []) (rm_at l Z a0 hw cp639 b616 b621 (1 : Int32) (1 : Int32) (0 : Int32) (1 : Int32) t2639 1 r2639 (fun q => if q = 3 then x3 else (fun q => if q = 2 then x2 else (fun q => if q = 1 then x1 else (fun q => if q = 0 then x0 else (fun _ => 0) q) q) q) q) 1 (fun q => if q = 0 then (0 : Int32) else (fun _ => 0) q) (1 : Int32) h639 n0 X648.sz O639_0 O639_1 O639_2 O639_5 A640 A641 (fun _ h => absurd h (by decide))) (hw _ (List.mem_of_getElem? (i := 28) rfl)) (hw _ (List.mem_of_getElem? (i := 29) rfl)) (hw _ (List.mem_of_getElem? (i := 30) rfl)) (hw _ (List.mem_of_getElem? (i := 31) rfl)) (by decide) rfl rfl (lenOf own_pd4 rfl) rfl (Nat.le_of_eq rfl) (by decide) (by decide) (by decide) (by decide) at_193 rfl (fun _ _ q => Nat.le_of_eq (congrArg Array.size q.2)) (fun T649 h649 v649 X649 P649 => ?_)
      obtain ⟨rfl, rfl⟩ := P649
      show Go p e below s n0 _ _ _ T649 (mkF m 196 #[.val (.int x0), .val (.int x1), .val (.int x2), .val (.int x3), .val (.int x4), .val (.int x5), .val (.int (1 : Int32)), .val (.int (1 : Int32)), .val (.int ((1 : Int32) * (1 : Int32))), .val (.ref b616), .val (.ref b621), .val (.ref b625), .val (.ref cp639)] [(.int (1 : Int32))])
      refine Go.ifNo C X649 (pc' := 199) at_196 ((if0 _ _).trans (feq (by decide)).1) rfl ?_
      refine Go.aload C X649 (pc' := 201) at_199 rfl rfl rfl ?_
      refine Go.aload C X649 (pc' := 203) at_201 rfl rfl rfl ?_
      refine Go.aload C X649 (pc' := 205) at_203 rfl rfl rfl ?_
      refine Go.iload C X649 (pc' := 207) at_205 rfl rfl ?_
      refine Go.iload C X649 (pc' := 209) at_207 rfl rfl ?_
      refine Go.iconst C X649 (pc' := 210) (v := (1 : Int32)) at_209 rfl rfl ?_
      refine Go.iconst C X649 (pc' := 211) (v := (0 : Int32)) at_210 rfl rfl ?_
      refine Go.callS C X649 (pc' := 214) (W := 0) (argsL := [(.ref cp639), (.ref b616), (.ref b621), (.int (1 : Int32)), (.int (1 : Int32)), (.int (1 : Int32)), (.int (0 : Int32))]) (rest := []) (rm_at l Z a0 hw cp639 b616 b621 (1 : Int32) (1 : Int32) (1 : Int32) (0 : Int32) t2639 1 r2639 (fun q => if q = 3 then x3 else (fun q => if q = 2 then x2 else (fun q => if q = 1 then x1 else (fun q => if q = 0 then x0 else (fun _ => 0) q) q) q) q) 1 (fun q => if q = 0 then (0 : Int32) else (fun _ => 0) q) (1 : Int32) h639 n0 X649.sz O639_0 O639_1 O639_2 O639_5 A640 A641 (fun h => absurd h (by decide))) (hw _ (List.mem_of_getElem? (i := 28) rfl)) (hw _ (List.mem_of_getElem? (i := 29) rfl)) (hw _ (List.mem_of_getElem? (i := 30) rfl)) (hw _ (List.mem_of_getElem? (i := 31) rfl)) (by decide) rfl rfl (lenOf own_pd4 rfl) rfl (Nat.le_of_eq rfl) (by decide) (by decide) (by decide) (by decide) at_211 rfl (fun _ _ q => Nat.le_of_eq (congrArg Array.size q.2)) (fun T650 h650 v650 X650 P650 => ?_)
      obtain ⟨rfl, rfl⟩ := P650
      show Go p e below s n0 _ _ _ T650 (mkF m 214 #[.val (.int x0), .val (.int x1), .val (.int x2), .val (.int x3), .val (.int x4), .val (.int x5), .val (.int (1 : Int32)), .val (.int (1 : Int32)), .val (.int ((1 : Int32) * (1 : Int32))), .val (.ref b616), .val (.ref b621), .val (.ref b625), .val (.ref cp639)] [(.int (1 : Int32))])
      refine Go.ifNo C X650 (pc' := 217) at_214 ((if0 _ _).trans (feq (by decide)).1) rfl ?_
      refine Go.aload C X650 (pc' := 219) at_217 rfl rfl rfl ?_
      refine Go.aload C X650 (pc' := 221) at_219 rfl rfl rfl ?_
      refine Go.aload C X650 (pc' := 223) at_221 rfl rfl rfl ?_
      refine Go.iload C X650 (pc' := 225) at_223 rfl rfl ?_
      refine Go.iload C X650 (pc' := 227) at_225 rfl rfl ?_
      refine Go.iconst C X650 (pc' := 228) (v := (1 : Int32)) at_227 rfl rfl ?_
      refine Go.iconst C X650 (pc' := 229) (v := (1 : Int32)) at_228 rfl rfl ?_
      refine Go.callS C X650 (pc' := 232) (W := 0) (argsL := [(.ref cp639), (.ref b616), (.ref b621), (.int (1 : Int32)), (.int (1 : Int32)), (.int (1 : Int32)), (.int (1 : Int32))]) (rest := []) (rm_at l Z a0 hw cp639 b616 b621 (1 : Int32) (1 : Int32) (1 : Int32) (1 : Int32) t2639 1 r2639 (fun q => if q = 3 then x3 else (fun q => if q = 2 then x2 else (fun q => if q = 1 then x1 else (fun q => if q = 0 then x0 else (fun _ => 0) q) q) q) q) 1 (fun q => if q = 0 then (0 : Int32) else (fun _ => 0) q) (1 : Int32) h639 n0 X650.sz O639_0 O639_1 O639_2 O639_5 A640 A641 (fun h => absurd h (by decide))) (hw _ (List.mem_of_getElem? (i := 28) rfl)) (hw _ (List.mem_of_getElem? (i := 29) rfl)) (hw _ (List.mem_of_getElem? (i := 30) rfl)) (hw _ (List.mem_of_getElem? (i := 31) rfl)) (by decide) rfl rfl (lenOf own_pd4 rfl) rfl (Nat.le_of_eq rfl) (by decide) (by decide) (by decide) (by decide) at_229 rfl (fun _ _ q => Nat.le_of_eq (congrArg Array.size q.2)) (fun T651 h651 v651 X651 P651 => ?_)
      obtain ⟨rfl, rfl⟩ := P651
      show Go p e below s n0 _ _ _ T651 (mkF m 232 #[.val (.int x0), .val (.int x1), .val (.int x2), .val (.int x3), .val (.int x4), .val (.int x5), .val (.int (1 : Int32)), .val (.int (1 : Int32)), .val (.int ((1 : Int32) * (1 : Int32))), .val (.ref b616), .val (.ref b621), .val (.ref b625), .val (.ref cp639)] [(.int (1 : Int32))])
      refine Go.ifNo C X651 (pc' := 235) at_232 ((if0 _ _).trans (feq (by decide)).1) rfl ?_
      refine Go.iconst C X651 (pc' := 236) (v := (1 : Int32)) at_235 rfl rfl ?_
      refine Go.goto C X651 (pc' := 240) at_236 (by decide) (by decide) ?_
      exact Go.retZ (t := .boolean) C X651 (z' := (1 : Int32)) (by decide) at_240 rfl (by decide) (by decide)
    · rw [q583]
      refine Go.iload C X0 (pc' := 20) at_18 rfl rfl ?_
      refine Go.iload C X0 (pc' := 22) at_20 rfl rfl ?_
      refine Go.imul C X0 (pc' := 23) at_22 rfl ?_
      refine Go.istore C X0 (pc' := 25) (Ls' := #[.val (.int x0), .val (.int x1), .val (.int x2), .val (.int x3), .val (.int x4), .val (.int x5), .val (.int (1 : Int32)), .val (.int (2 : Int32)), .val (.int ((2 : Int32) * (1 : Int32))), .unset, .unset, .unset, .unset]) at_23 rfl rfl ?_
      refine Go.iconst C X0 (pc' := 26) (v := (4 : Int32)) at_25 rfl rfl ?_
      refine Go.newP C X0 (pc' := 28) (nn := 4) (cap := 4) (hw _ (List.mem_of_getElem? (i := 0) rfl)) at_26 rfl (by decide) (by decide) (by decide) (by decide) rfl (fun T652 h652 b652 k652 X652 g652 E652 Ar652 N652 => ?_)
      have A652 : AI Z h652 b652 .int 4 (fun _ => 0) := AI.new rfl rfl Ar652
      refine Go.dup C X652 (pc' := 29) at_28 rfl rfl ?_
      refine Go.iconst C X652 (pc' := 30) (v := (0 : Int32)) at_29 rfl rfl ?_
      refine Go.iloadN C X652 (pc' := 31) at_30 rfl rfl ?_
      refine Go.iastore C X652 (pc' := 32) (i := 0) (x' := x0) A652 rfl (by decide) rfl N652 at_31 rfl (fun T653 h653 X653 W653 A653 => ?_)
      refine Go.dup C X653 (pc' := 33) at_32 rfl rfl ?_
      refine Go.iconst C X653 (pc' := 34) (v := (1 : Int32)) at_33 rfl rfl ?_
      refine Go.iloadN C X653 (pc' := 35) at_34 rfl rfl ?_
      refine Go.iastore C X653 (pc' := 36) (i := 1) (x' := x1) A653 rfl (by decide) rfl N652 at_35 rfl (fun T654 h654 X654 W654 A654 => ?_)
      refine Go.dup C X654 (pc' := 37) at_36 rfl rfl ?_
      refine Go.iconst C X654 (pc' := 38) (v := (2 : Int32)) at_37 rfl rfl ?_
      refine Go.iloadN C X654 (pc' := 39) at_38 rfl rfl ?_
      refine Go.iastore C X654 (pc' := 40) (i := 2) (x' := x2) A654 rfl (by decide) rfl N652 at_39 rfl (fun T655 h655 X655 W655 A655 => ?_)
      refine Go.dup C X655 (pc' := 41) at_40 rfl rfl ?_
      refine Go.iconst C X655 (pc' := 42) (v := (3 : Int32)) at_41 rfl rfl ?_
      refine Go.iloadN C X655 (pc' := 43) at_42 rfl rfl ?_
      refine Go.iastore C X655 (pc' := 44) (i := 3) (x' := x3) A655 rfl (by decide) rfl N652 at_43 rfl (fun T656 h656 X656 W656 A656 => ?_)
      refine Go.astore C X656 (pc' := 46) (Ls' := #[.val (.int x0), .val (.int x1), .val (.int x2), .val (.int x3), .val (.int x4), .val (.int x5), .val (.int (1 : Int32)), .val (.int (2 : Int32)), .val (.int ((2 : Int32) * (1 : Int32))), .val (.ref b652), .unset, .unset, .unset]) at_44 rfl rfl rfl ?_
      refine Go.iload C X656 (pc' := 48) at_46 rfl rfl ?_
      refine Go.newP C X656 (pc' := 50) (nn := 1) (cap := 1) (hw _ (List.mem_of_getElem? (i := 0) rfl)) at_48 rfl (by decide) (by decide) (by decide) (by decide) rfl (fun T657 h657 b657 k657 X657 g657 E657 Ar657 N657 => ?_)
      have ne_b652_b657 : b652 ≠ b657 := Nat.ne_of_lt (Nat.lt_of_lt_of_eq A656.lt g657.symm)
      have A658 := A656.ext E657
      have A657 : AI Z h657 b657 .int 1 (fun _ => 0) := AI.new rfl rfl Ar657
      refine Go.astore C X657 (pc' := 52) (Ls' := #[.val (.int x0), .val (.int x1), .val (.int x2), .val (.int x3), .val (.int x4), .val (.int x5), .val (.int (1 : Int32)), .val (.int (2 : Int32)), .val (.int ((2 : Int32) * (1 : Int32))), .val (.ref b652), .val (.ref b657), .unset, .unset]) at_50 rfl rfl rfl ?_
      refine Go.iload C X657 (pc' := 54) at_52 rfl rfl ?_
      refine Go.iconst C X657 (pc' := 55) (v := (2 : Int32)) at_54 rfl rfl ?_
      refine Go.icmpYes C X657 (pc' := 79) at_55 (feq (by decide)).2 (by decide) (by decide) ?_
      refine Go.aload C X657 (pc' := 81) at_79 rfl rfl rfl ?_
      refine Go.iconst C X657 (pc' := 82) (v := (0 : Int32)) at_81 rfl rfl ?_
      refine Go.iconst C X657 (pc' := 83) (v := (0 : Int32)) at_82 rfl rfl ?_
      refine Go.iastore C X657 (pc' := 84) (i := 0) (x' := (0 : Int32)) A657 rfl (by decide) rfl N657 at_83 rfl (fun T659 h659 X659 W659 A659 => ?_)
      have A660 := A658.other W659 ne_b652_b657
      refine Go.newO C X659 (pc' := 87) (hw _ (List.mem_of_getElem? (i := 1) rfl)) (hw _ (List.mem_of_getElem? (i := 2) rfl)) (hw _ (List.mem_of_getElem? (i := 3) rfl)) at_84 (by decide) (by decide) rfl (fun T661 h661 b661 X661 g661 E661 Ex661 D661 N661 => ?_)
      have ne_b652_b661 : b652 ≠ b661 := Nat.ne_of_lt (Nat.lt_of_lt_of_eq A660.lt g661.symm)
      have ne_b657_b661 : b657 ≠ b661 := Nat.ne_of_lt (Nat.lt_of_lt_of_eq A659.lt g661.symm)
      have A662 := A660.ext E661
      have A663 := A659.ext E661
      have F664 : Fld Z h661 b661 "com/example/ruleweave/ruleweave/store/Records" "width" "I" (.int (0 : Int32)) := D661 (Or.inr (hw _ (List.mem_of_getElem? (i := 11) rfl))) (ty := .int) (by decide)
      have F665 : Fld Z h661 b661 "com/example/ruleweave/ruleweave/store/Records" "ints" "[I" .null := D661 (Or.inl (hw _ (List.mem_of_getElem? (i := 13) rfl))) (ty := (.array .int)) (by decide)
      have F666 : Fld Z h661 b661 "com/example/ruleweave/ruleweave/store/Records" "size" "I" (.int (0 : Int32)) := D661 (Or.inl (hw _ (List.mem_of_getElem? (i := 22) rfl))) (ty := .int) (by decide)
      refine Go.dup C X661 (pc' := 88) at_87 rfl rfl ?_
      refine Go.iload C X661 (pc' := 90) at_88 rfl rfl ?_
      refine Go.callI C X661 (pc' := 93) (W := 1) (argsL := [(.int (1 : Int32))]) (rest := [(.ref b661)]) (a := b661) (rm_init l Z a0 hw b661 (1 : Int32) 1024 h661 n0 X661.sz Ex661 F664 F665 F666 N661 rfl (by decide)) rfl rfl (hw _ (List.mem_of_getElem? (i := 4) rfl)) (hw _ (List.mem_of_getElem? (i := 5) rfl)) (hw _ (List.mem_of_getElem? (i := 3) rfl)) (hw _ (List.mem_of_getElem? (i := 6) rfl)) (by decide) rfl rfl (lenOf own_pd0 rfl) rfl (Nat.le_of_eq rfl) (by decide) (by decide) (by decide) (by decide) at_90 rfl (fun _ _ q => by obtain ⟨_, _, _, K, _⟩ := q; exact K.1) (fun T667 h667 v667 X667 P667 => ?_)
      obtain ⟨t667, rfl, D667_t, K667, O667_0, O667_1, O667_2, O667_3, O667_4⟩ := P667
      have ne_b652_t667 : b652 ≠ t667 := Nat.ne_of_lt (Nat.lt_of_lt_of_le A662.lt D667_t)
      have ne_b657_t667 : b657 ≠ t667 := Nat.ne_of_lt (Nat.lt_of_lt_of_le A663.lt D667_t)
      have ne_b661_t667 : b661 ≠ t667 := Nat.ne_of_lt (Nat.lt_of_lt_of_le Ex661.lt D667_t)
      have N_t667 : n0 ≤ t667 := Nat.le_trans X661.sz D667_t
      have A668 := A662.keep K667 (ninS ne_b652_b661 nin0)
      have A669 := A663.keep K667 (ninS ne_b657_b661 nin0)
      have E670 := Ex661.keep K667
      show Go p e below s n0 _ _ _ T667 (mkF m 93 #[.val (.int x0), .val (.int x1), .val (.int x2), .val (.int x3), .val (.int x4), .val (.int x5), .val (.int (1 : Int32)), .val (.int (2 : Int32)), .val (.int ((2 : Int32) * (1 : Int32))), .val (.ref b652), .val (.ref b657), .unset, .unset] [(.ref b661)])
      refine Go.astore C X667 (pc' := 95) (Ls' := #[.val (.int x0), .val (.int x1), .val (.int x2), .val (.int x3), .val (.int x4), .val (.int x5), .val (.int (1 : Int32)), .val (.int (2 : Int32)), .val (.int ((2 : Int32) * (1 : Int32))), .val (.ref b652), .val (.ref b657), .val (.ref b661), .unset]) at_93 rfl rfl rfl ?_
      refine Go.iload C X667 (pc' := 97) at_95 rfl rfl ?_
      refine Go.ifNo C X667 (pc' := 100) at_97 ((if0 _ _).trans (tlt (by decide)).2.2.2) rfl ?_
      refine Go.aload C X667 (pc' := 102) at_100 rfl rfl rfl ?_
      refine Go.iloadN C X667 (pc' := 103) at_102 rfl rfl ?_
      refine Go.callV C X667 (pc' := 106) (W := 0) (argsL := [(.int x0)]) (rest := []) (a := b661) (rm_add l Z a0 hw b661 x0 t667 1024 (fun _ => 0) (0 : Int32) 0 (1024 : Int32) (1 : Int32) h667 n0 X667.sz O667_0 O667_1 O667_2 O667_3 N661 N_t667 O667_4 (Ne.symm ne_b661_t667) rfl rfl (by decide)) O667_0 (notFace_of_selects (args := #[]) (mvT C.2.1 (hw _ (List.mem_of_getElem? (i := 35) rfl)))) (hw _ (List.mem_of_getElem? (i := 32) rfl)) (hw _ (List.mem_of_getElem? (i := 33) rfl)) (hw _ (List.mem_of_getElem? (i := 35) rfl)) (hw _ (List.mem_of_getElem? (i := 34) rfl)) (hw _ (List.mem_of_getElem? (i := 3) rfl)) (hw _ (List.mem_of_getElem? (i := 36) rfl)) (by decide) rfl rfl (lenOf own_pd0 rfl) rfl (Nat.le_of_eq rfl) (by decide) (by decide) (by decide) (by decide) at_103 rfl (fun _ _ q => by obtain ⟨_, K, _⟩ := q; exact K.1) (fun T671 h671 v671 X671 P671 => ?_)
      obtain ⟨rfl, K671, O671_0, O671_1, O671_2, O671_3, O671_4⟩ := P671
      have A672 := A668.keep K671 (ninS ne_b652_b661 (ninS ne_b652_t667 nin0))
      have A673 := A669.keep K671 (ninS ne_b657_b661 (ninS ne_b657_t667 nin0))
      have E674 := O667_0.keep K671
      show Go p e below s n0 _ _ _ T671 (mkF m 106 #[.val (.int x0), .val (.int x1), .val (.int x2), .val (.int x3), .val (.int x4), .val (.int x5), .val (.int (1 : Int32)), .val (.int (2 : Int32)), .val (.int ((2 : Int32) * (1 : Int32))), .val (.ref b652), .val (.ref b657), .val (.ref b661), .unset] [])
      refine Go.iload C X671 (pc' := 108) at_106 rfl rfl ?_
      refine Go.iconst C X671 (pc' := 109) (v := (1 : Int32)) at_108 rfl rfl ?_
      refine Go.icmpNo C X671 (pc' := 112) at_109 (tlt (by decide)).2.2.2 rfl ?_
      refine Go.aload C X671 (pc' := 114) at_112 rfl rfl rfl ?_
      refine Go.iloadN C X671 (pc' := 115) at_114 rfl rfl ?_
      refine Go.callV C X671 (pc' := 118) (W := 0) (argsL := [(.int x1)]) (rest := []) (a := b661) (rm_add l Z a0 hw b661 x1 t667 1024 (fun q => if q = 0 then x0 else (fun _ => 0) q) ((0 : Int32) + (1 : Int32)) 1 (1024 : Int32) (1 : Int32) h671 n0 X671.sz O671_0 O671_1 O671_2 O671_3 N661 N_t667 O671_4 (Ne.symm ne_b661_t667) rfl rfl (by decide)) O671_0 (notFace_of_selects (args := #[]) (mvT C.2.1 (hw _ (List.mem_of_getElem? (i := 35) rfl)))) (hw _ (List.mem_of_getElem? (i := 32) rfl)) (hw _ (List.mem_of_getElem? (i := 33) rfl)) (hw _ (List.mem_of_getElem? (i := 35) rfl)) (hw _ (List.mem_of_getElem? (i := 34) rfl)) (hw _ (List.mem_of_getElem? (i := 3) rfl)) (hw _ (List.mem_of_getElem? (i := 36) rfl)) (by decide) rfl rfl (lenOf own_pd0 rfl) rfl (Nat.le_of_eq rfl) (by decide) (by decide) (by decide) (by decide) at_115 rfl (fun _ _ q => by obtain ⟨_, K, _⟩ := q; exact K.1) (fun T675 h675 v675 X675 P675 => ?_)
      obtain ⟨rfl, K675, O675_0, O675_1, O675_2, O675_3, O675_4⟩ := P675
      have A676 := A672.keep K675 (ninS ne_b652_b661 (ninS ne_b652_t667 nin0))
      have A677 := A673.keep K675 (ninS ne_b657_b661 (ninS ne_b657_t667 nin0))
      have E678 := O671_0.keep K675
      show Go p e below s n0 _ _ _ T675 (mkF m 118 #[.val (.int x0), .val (.int x1), .val (.int x2), .val (.int x3), .val (.int x4), .val (.int x5), .val (.int (1 : Int32)), .val (.int (2 : Int32)), .val (.int ((2 : Int32) * (1 : Int32))), .val (.ref b652), .val (.ref b657), .val (.ref b661), .unset] [])
      refine Go.iload C X675 (pc' := 120) at_118 rfl rfl ?_
      refine Go.iconst C X675 (pc' := 121) (v := (2 : Int32)) at_120 rfl rfl ?_
      refine Go.icmpYes C X675 (pc' := 130) at_121 (flt (by decide)).2.2.2 (by decide) (by decide) ?_
      refine Go.iload C X675 (pc' := 132) at_130 rfl rfl ?_
      refine Go.iconst C X675 (pc' := 133) (v := (3 : Int32)) at_132 rfl rfl ?_
      refine Go.icmpYes C X675 (pc' := 142) at_133 (flt (by decide)).2.2.2 (by decide) (by decide) ?_
      refine Go.aload C X675 (pc' := 144) at_142 rfl rfl rfl ?_
      refine Go.aload C X675 (pc' := 146) at_144 rfl rfl rfl ?_
      refine Go.callV C X675 (pc' := 149) (W := 0) (argsL := [(.ref b657)]) (rest := []) (a := b661) (rm_re_1_2 l Z a0 hw b661 b657 t667 1024 (fun q => if q = 1 then x1 else (fun q => if q = 0 then x0 else (fun _ => 0) q) q) (fun q => if q = 0 then (0 : Int32) else (fun _ => 0) q) 0 h675 n0 X675.sz O675_0 O675_1 O675_2 O675_3 O675_4 A677 (by decide) rfl (by decide)) O675_0 (notFace_of_selects (args := #[]) (mvT C.2.1 (hw _ (List.mem_of_getElem? (i := 17) rfl)))) (hw _ (List.mem_of_getElem? (i := 14) rfl)) (hw _ (List.mem_of_getElem? (i := 15) rfl)) (hw _ (List.mem_of_getElem? (i := 17) rfl)) (hw _ (List.mem_of_getElem? (i := 16) rfl)) (hw _ (List.mem_of_getElem? (i := 3) rfl)) (hw _ (List.mem_of_getElem? (i := 18) rfl)) (by decide) rfl rfl (lenOf own_pd2 rfl) rfl (Nat.le_of_eq rfl) (by decide) (by decide) (by decide) (by decide) at_146 rfl (fun _ _ q => by obtain ⟨_, _, _, _, _, _, K, _⟩ := q; exact K.1) (fun T679 h679 v679 X679 P679 => ?_)
      obtain ⟨cp679, t2679, r2679, rfl, D679_cp, D679_t2, K679, O679_0, O679_1, O679_2, O679_3, O679_4, O679_5, Y679_0, Y679_1⟩ := P679
      have ne_b652_cp679 : b652 ≠ cp679 := Nat.ne_of_lt (Nat.lt_of_lt_of_le A676.lt D679_cp)
      have ne_b657_cp679 : b657 ≠ cp679 := Nat.ne_of_lt (Nat.lt_of_lt_of_le A677.lt D679_cp)
      have ne_b661_cp679 : b661 ≠ cp679 := Nat.ne_of_lt (Nat.lt_of_lt_of_le O675_0.lt D679_cp)
      have ne_t667_cp679 : t667 ≠ cp679 := Nat.ne_of_lt (Nat.lt_of_lt_of_le O675_4.lt D679_cp)
      have N_cp679 : n0 ≤ cp679 := Nat.le_trans X675.sz D679_cp
      have ne_b652_t2679 : b652 ≠ t2679 := Nat.ne_of_lt (Nat.lt_of_lt_of_le A676.lt D679_t2)
      have ne_b657_t2679 : b657 ≠ t2679 := Nat.ne_of_lt (Nat.lt_of_lt_of_le A677.lt D679_t2)
      have ne_b661_t2679 : b661 ≠ t2679 := Nat.ne_of_lt (Nat.lt_of_lt_of_le O675_0.lt D679_t2)
      have ne_t667_t2679 : t667 ≠ t2679 := Nat.ne_of_lt (Nat.lt_of_lt_of_le O675_4.lt D679_t2)
      have N_t2679 : n0 ≤ t2679 := Nat.le_trans X675.sz D679_t2
      have A680 := A676.keep K679 nin0
      have A681 := A677.keep K679 nin0
      have E682 := O675_0.keep K679
      have F683 := O675_1.keep K679 nin0
      have F684 := O675_2.keep K679 nin0
      have F685 := O675_3.keep K679 nin0
      have A686 := O675_4.keep K679 nin0
      show Go p e below s n0 _ _ _ T679 (mkF m 149 #[.val (.int x0), .val (.int x1), .val (.int x2), .val (.int x3), .val (.int x4), .val (.int x5), .val (.int (1 : Int32)), .val (.int (2 : Int32)), .val (.int ((2 : Int32) * (1 : Int32))), .val (.ref b652), .val (.ref b657), .val (.ref b661), .unset] [(.ref cp679)])
      refine Go.astore C X679 (pc' := 151) (Ls' := #[.val (.int x0), .val (.int x1), .val (.int x2), .val (.int x3), .val (.int x4), .val (.int x5), .val (.int (1 : Int32)), .val (.int (2 : Int32)), .val (.int ((2 : Int32) * (1 : Int32))), .val (.ref b652), .val (.ref b657), .val (.ref b661), .val (.ref cp679)]) at_149 rfl rfl rfl ?_
      refine Go.aload C X679 (pc' := 153) at_151 rfl rfl rfl ?_
      refine Go.callV C X679 (pc' := 156) (W := 0) (argsL := []) (rest := []) (a := cp679) (rm_cnt l Z a0 hw cp679 (2 : Int32) (1 : Int32) h679 n0 X679.sz O679_1 O679_3 (by decide)) O679_0 (notFace_of_selects (args := #[]) (mvT C.2.1 (hw _ (List.mem_of_getElem? (i := 26) rfl)))) (hw _ (List.mem_of_getElem? (i := 23) rfl)) (hw _ (List.mem_of_getElem? (i := 24) rfl)) (hw _ (List.mem_of_getElem? (i := 26) rfl)) (hw _ (List.mem_of_getElem? (i := 25) rfl)) (hw _ (List.mem_of_getElem? (i := 3) rfl)) (hw _ (List.mem_of_getElem? (i := 27) rfl)) (by decide) rfl rfl (lenOf own_pd3 rfl) rfl (Nat.le_of_eq rfl) (by decide) (by decide) (by decide) (by decide) at_153 rfl (fun _ _ q => Nat.le_of_eq (congrArg Array.size q.2)) (fun T687 h687 v687 X687 P687 => ?_)
      obtain ⟨rfl, rfl⟩ := P687
      show Go p e below s n0 _ _ _ T687 (mkF m 156 #[.val (.int x0), .val (.int x1), .val (.int x2), .val (.int x3), .val (.int x4), .val (.int x5), .val (.int (1 : Int32)), .val (.int (2 : Int32)), .val (.int ((2 : Int32) * (1 : Int32))), .val (.ref b652), .val (.ref b657), .val (.ref b661), .val (.ref cp679)] [(.int ((2 : Int32) / (1 : Int32)))])
      refine Go.iload C X687 (pc' := 158) at_156 rfl rfl ?_
      refine Go.icmpYes C X687 (pc' := 163) at_158 (teq (by decide)).1 (by decide) (by decide) ?_
      refine Go.aload C X687 (pc' := 165) at_163 rfl rfl rfl ?_
      refine Go.aload C X687 (pc' := 167) at_165 rfl rfl rfl ?_
      refine Go.aload C X687 (pc' := 169) at_167 rfl rfl rfl ?_
      refine Go.iload C X687 (pc' := 171) at_169 rfl rfl ?_
      refine Go.iload C X687 (pc' := 173) at_171 rfl rfl ?_
      refine Go.iconst C X687 (pc' := 174) (v := (0 : Int32)) at_173 rfl rfl ?_
      refine Go.iconst C X687 (pc' := 175) (v := (0 : Int32)) at_174 rfl rfl ?_
      refine Go.callS C X687 (pc' := 178) (W := 0) (argsL := [(.ref cp679), (.ref b652), (.ref b657), (.int (2 : Int32)), (.int (1 : Int32)), (.int (0 : Int32)), (.int (0 : Int32))]) (rest := []) (rm_at l Z a0 hw cp679 b652 b657 (2 : Int32) (1 : Int32) (0 : Int32) (0 : Int32) t2679 2 r2679 (fun q => if q = 3 then x3 else (fun q => if q = 2 then x2 else (fun q => if q = 1 then x1 else (fun q => if q = 0 then x0 else (fun _ => 0) q) q) q) q) 1 (fun q => if q = 0 then (0 : Int32) else (fun _ => 0) q) (1 : Int32) h679 n0 X687.sz O679_0 O679_1 O679_2 O679_5 A680 A681 (fun _ _ => ⟨0, 0, 0 + 0, rfl, by decide, rfl, by decide, own_ai (i := 0) rfl rfl (by decide) (by decide), (by decide), Y679_0.trans (own_v2_0 _ _ _ _ (by decide))⟩)) (hw _ (List.mem_of_getElem? (i := 28) rfl)) (hw _ (List.mem_of_getElem? (i := 29) rfl)) (hw _ (List.mem_of_getElem? (i := 30) rfl)) (hw _ (List.mem_of_getElem? (i := 31) rfl)) (by decide) rfl rfl (lenOf own_pd4 rfl) rfl (Nat.le_of_eq rfl) (by decide) (by decide) (by decide) (by decide) at_175 rfl (fun _ _ q => Nat.le_of_eq (congrArg Array.size q.2)) (fun T688 h688 v688 X688 P688 => ?_)
      obtain ⟨rfl, rfl⟩ := P688
      show Go p e below s n0 _ _ _ T688 (mkF m 178 #[.val (.int x0), .val (.int x1), .val (.int x2), .val (.int x3), .val (.int x4), .val (.int x5), .val (.int (1 : Int32)), .val (.int (2 : Int32)), .val (.int ((2 : Int32) * (1 : Int32))), .val (.ref b652), .val (.ref b657), .val (.ref b661), .val (.ref cp679)] [(.int (1 : Int32))])
      refine Go.ifNo C X688 (pc' := 181) at_178 ((if0 _ _).trans (feq (by decide)).1) rfl ?_
      refine Go.aload C X688 (pc' := 183) at_181 rfl rfl rfl ?_
      refine Go.aload C X688 (pc' := 185) at_183 rfl rfl rfl ?_
      refine Go.aload C X688 (pc' := 187) at_185 rfl rfl rfl ?_
      refine Go.iload C X688 (pc' := 189) at_187 rfl rfl ?_
      refine Go.iload C X688 (pc' := 191) at_189 rfl rfl ?_
      refine Go.iconst C X688 (pc' := 192) (v := (0 : Int32)) at_191 rfl rfl ?_
      refine Go.iconst C X688 (pc' := 193) (v := (1 : Int32)) at_192 rfl rfl ?_
      refine Go.callS C X688 (pc' := 196) (W := 0) (argsL := [(.ref cp679), (.ref b652), (.ref b657), (.int (2 : Int32)), (.int (1 : Int32)), (.int (0 : Int32)), (.int (1 : Int32))]) (rest := []) (rm_at l Z a0 hw cp679 b652 b657 (2 : Int32) (1 : Int32) (0 : Int32) (1 : Int32) t2679 2 r2679 (fun q => if q = 3 then x3 else (fun q => if q = 2 then x2 else (fun q => if q = 1 then x1 else (fun q => if q = 0 then x0 else (fun _ => 0) q) q) q) q) 1 (fun q => if q = 0 then (0 : Int32) else (fun _ => 0) q) (1 : Int32) h679 n0 X688.sz O679_0 O679_1 O679_2 O679_5 A680 A681 (fun _ h => absurd h (by decide))) (hw _ (List.mem_of_getElem? (i := 28) rfl)) (hw _ (List.mem_of_getElem? (i := 29) rfl)) (hw _ (List.mem_of_getElem? (i := 30) rfl)) (hw _ (List.mem_of_getElem? (i := 31) rfl)) (by decide) rfl rfl (lenOf own_pd4 rfl) rfl (Nat.le_of_eq rfl) (by decide) (by decide) (by decide) (by decide) at_193 rfl (fun _ _ q => Nat.le_of_eq (congrArg Array.size q.2)) (fun T689 h689 v689 X689 P689 => ?_)
      obtain ⟨rfl, rfl⟩ := P689
      show Go p e below s n0 _ _ _ T689 (mkF m 196 #[.val (.int x0), .val (.int x1), .val (.int x2), .val (.int x3), .val (.int x4), .val (.int x5), .val (.int (1 : Int32)), .val (.int (2 : Int32)), .val (.int ((2 : Int32) * (1 : Int32))), .val (.ref b652), .val (.ref b657), .val (.ref b661), .val (.ref cp679)] [(.int (1 : Int32))])
      refine Go.ifNo C X689 (pc' := 199) at_196 ((if0 _ _).trans (feq (by decide)).1) rfl ?_
      refine Go.aload C X689 (pc' := 201) at_199 rfl rfl rfl ?_
      refine Go.aload C X689 (pc' := 203) at_201 rfl rfl rfl ?_
      refine Go.aload C X689 (pc' := 205) at_203 rfl rfl rfl ?_
      refine Go.iload C X689 (pc' := 207) at_205 rfl rfl ?_
      refine Go.iload C X689 (pc' := 209) at_207 rfl rfl ?_
      refine Go.iconst C X689 (pc' := 210) (v := (1 : Int32)) at_209 rfl rfl ?_
      refine Go.iconst C X689 (pc' := 211) (v := (0 : Int32)) at_210 rfl rfl ?_
      refine Go.callS C X689 (pc' := 214) (W := 0) (argsL := [(.ref cp679), (.ref b652), (.ref b657), (.int (2 : Int32)), (.int (1 : Int32)), (.int (1 : Int32)), (.int (0 : Int32))]) (rest := []) (rm_at l Z a0 hw cp679 b652 b657 (2 : Int32) (1 : Int32) (1 : Int32) (0 : Int32) t2679 2 r2679 (fun q => if q = 3 then x3 else (fun q => if q = 2 then x2 else (fun q => if q = 1 then x1 else (fun q => if q = 0 then x0 else (fun _ => 0) q) q) q) q) 1 (fun q => if q = 0 then (0 : Int32) else (fun _ => 0) q) (1 : Int32) h679 n0 X689.sz O679_0 O679_1 O679_2 O679_5 A680 A681 (fun _ _ => ⟨1, 0, 1 + 0, rfl, by decide, rfl, by decide, own_ai (i := 1) rfl rfl (by decide) (by decide), (by decide), Y679_1.trans (own_v2_1 _ _ _ _ (by decide))⟩)) (hw _ (List.mem_of_getElem? (i := 28) rfl)) (hw _ (List.mem_of_getElem? (i := 29) rfl)) (hw _ (List.mem_of_getElem? (i := 30) rfl)) (hw _ (List.mem_of_getElem? (i := 31) rfl)) (by decide) rfl rfl (lenOf own_pd4 rfl) rfl (Nat.le_of_eq rfl) (by decide) (by decide) (by decide) (by decide) at_211 rfl (fun _ _ q => Nat.le_of_eq (congrArg Array.size q.2)) (fun T690 h690 v690 X690 P690 => ?_)
      obtain ⟨rfl, rfl⟩ := P690
      show Go p e below s n0 _ _ _ T690 (mkF m 214 #[.val (.int x0), .val (.int x1), .val (.int x2), .val (.int x3), .val (.int x4), .val (.int x5), .val (.int (1 : Int32)), .val (.int (2 : Int32)), .val (.int ((2 : Int32) * (1 : Int32))), .val (.ref b652), .val (.ref b657), .val (.ref b661), .val (.ref cp679)] [(.int (1 : Int32))])
      refine Go.ifNo C X690 (pc' := 217) at_214 ((if0 _ _).trans (feq (by decide)).1) rfl ?_
      refine Go.aload C X690 (pc' := 219) at_217 rfl rfl rfl ?_
      refine Go.aload C X690 (pc' := 221) at_219 rfl rfl rfl ?_
      refine Go.aload C X690 (pc' := 223) at_221 rfl rfl rfl ?_
      refine Go.iload C X690 (pc' := 225) at_223 rfl rfl ?_
      refine Go.iload C X690 (pc' := 227) at_225 rfl rfl ?_
      refine Go.iconst C X690 (pc' := 228) (v := (1 : Int32)) at_227 rfl rfl ?_
      refine Go.iconst C X690 (pc' := 229) (v := (1 : Int32)) at_228 rfl rfl ?_
      refine Go.callS C X690 (pc' := 232) (W := 0) (argsL := [(.ref cp679), (.ref b652), (.ref b657), (.int (2 : Int32)), (.int (1 : Int32)), (.int (1 : Int32)), (.int (1 : Int32))]) (rest := []) (rm_at l Z a0 hw cp679 b652 b657 (2 : Int32) (1 : Int32) (1 : Int32) (1 : Int32) t2679 2 r2679 (fun q => if q = 3 then x3 else (fun q => if q = 2 then x2 else (fun q => if q = 1 then x1 else (fun q => if q = 0 then x0 else (fun _ => 0) q) q) q) q) 1 (fun q => if q = 0 then (0 : Int32) else (fun _ => 0) q) (1 : Int32) h679 n0 X690.sz O679_0 O679_1 O679_2 O679_5 A680 A681 (fun _ h => absurd h (by decide))) (hw _ (List.mem_of_getElem? (i := 28) rfl)) (hw _ (List.mem_of_getElem? (i := 29) rfl)) (hw _ (List.mem_of_getElem? (i := 30) rfl)) (hw _ (List.mem_of_getElem? (i := 31) rfl)) (by decide) rfl rfl (lenOf own_pd4 rfl) rfl (Nat.le_of_eq rfl) (by decide) (by decide) (by decide) (by decide) at_229 rfl (fun _ _ q => Nat.le_of_eq (congrArg Array.size q.2)) (fun T691 h691 v691 X691 P691 => ?_)
      obtain ⟨rfl, rfl⟩ := P691
      show Go p e below s n0 _ _ _ T691 (mkF m 232 #[.val (.int x0), .val (.int x1), .val (.int x2), .val (.int x3), .val (.int x4), .val (.int x5), .val (.int (1 : Int32)), .val (.int (2 : Int32)), .val (.int ((2 : Int32) * (1 : Int32))), .val (.ref b652), .val (.ref b657), .val (.ref b661), .val (.ref cp679)] [(.int (1 : Int32))])
      refine Go.ifNo C X691 (pc' := 235) at_232 ((if0 _ _).trans (feq (by decide)).1) rfl ?_
      refine Go.iconst C X691 (pc' := 236) (v := (1 : Int32)) at_235 rfl rfl ?_
      refine Go.goto C X691 (pc' := 240) at_236 (by decide) (by decide) ?_
      exact Go.retZ (t := .boolean) C X691 (z' := (1 : Int32)) (by decide) at_240 rfl (by decide) (by decide)
  · rw [q582]
    rcases own_c7 x4 with q583 | q583 | q583
    · rw [q583]
      refine Go.iload C X0 (pc' := 20) at_18 rfl rfl ?_
      refine Go.iload C X0 (pc' := 22) at_20 rfl rfl ?_
      refine Go.imul C X0 (pc' := 23) at_22 rfl ?_
      refine Go.istore C X0 (pc' := 25) (Ls' := #[.val (.int x0), .val (.int x1), .val (.int x2), .val (.int x3), .val (.int x4), .val (.int x5), .val (.int (2 : Int32)), .val (.int (0 : Int32)), .val (.int ((0 : Int32) * (2 : Int32))), .unset, .unset, .unset, .unset]) at_23 rfl rfl ?_
      refine Go.iconst C X0 (pc' := 26) (v := (4 : Int32)) at_25 rfl rfl ?_
      refine Go.newP C X0 (pc' := 28) (nn := 4) (cap := 4) (hw _ (List.mem_of_getElem? (i := 0) rfl)) at_26 rfl (by decide) (by decide) (by decide) (by decide) rfl (fun T692 h692 b692 k692 X692 g692 E692 Ar692 N692 => ?_)
      have A692 : AI Z h692 b692 .int 4 (fun _ => 0) := AI.new rfl rfl Ar692
      refine Go.dup C X692 (pc' := 29) at_28 rfl rfl ?_
      refine Go.iconst C X692 (pc' := 30) (v := (0 : Int32)) at_29 rfl rfl ?_
      refine Go.iloadN C X692 (pc' := 31) at_30 rfl rfl ?_
      refine Go.iastore C X692 (pc' := 32) (i := 0) (x' := x0) A692 rfl (by decide) rfl N692 at_31 rfl (fun T693 h693 X693 W693 A693 => ?_)
      refine Go.dup C X693 (pc' := 33) at_32 rfl rfl ?_
      refine Go.iconst C X693 (pc' := 34) (v := (1 : Int32)) at_33 rfl rfl ?_
      refine Go.iloadN C X693 (pc' := 35) at_34 rfl rfl ?_
      refine Go.iastore C X693 (pc' := 36) (i := 1) (x' := x1) A693 rfl (by decide) rfl N692 at_35 rfl (fun T694 h694 X694 W694 A694 => ?_)
      refine Go.dup C X694 (pc' := 37) at_36 rfl rfl ?_
      refine Go.iconst C X694 (pc' := 38) (v := (2 : Int32)) at_37 rfl rfl ?_
      refine Go.iloadN C X694 (pc' := 39) at_38 rfl rfl ?_
      refine Go.iastore C X694 (pc' := 40) (i := 2) (x' := x2) A694 rfl (by decide) rfl N692 at_39 rfl (fun T695 h695 X695 W695 A695 => ?_)
      refine Go.dup C X695 (pc' := 41) at_40 rfl rfl ?_
      refine Go.iconst C X695 (pc' := 42) (v := (3 : Int32)) at_41 rfl rfl ?_
      refine Go.iloadN C X695 (pc' := 43) at_42 rfl rfl ?_
      refine Go.iastore C X695 (pc' := 44) (i := 3) (x' := x3) A695 rfl (by decide) rfl N692 at_43 rfl (fun T696 h696 X696 W696 A696 => ?_)
      refine Go.astore C X696 (pc' := 46) (Ls' := #[.val (.int x0), .val (.int x1), .val (.int x2), .val (.int x3), .val (.int x4), .val (.int x5), .val (.int (2 : Int32)), .val (.int (0 : Int32)), .val (.int ((0 : Int32) * (2 : Int32))), .val (.ref b692), .unset, .unset, .unset]) at_44 rfl rfl rfl ?_
      refine Go.iload C X696 (pc' := 48) at_46 rfl rfl ?_
      refine Go.newP C X696 (pc' := 50) (nn := 2) (cap := 2) (hw _ (List.mem_of_getElem? (i := 0) rfl)) at_48 rfl (by decide) (by decide) (by decide) (by decide) rfl (fun T697 h697 b697 k697 X697 g697 E697 Ar697 N697 => ?_)
      have ne_b692_b697 : b692 ≠ b697 := Nat.ne_of_lt (Nat.lt_of_lt_of_eq A696.lt g697.symm)
      have A698 := A696.ext E697
      have A697 : AI Z h697 b697 .int 2 (fun _ => 0) := AI.new rfl rfl Ar697
      refine Go.astore C X697 (pc' := 52) (Ls' := #[.val (.int x0), .val (.int x1), .val (.int x2), .val (.int x3), .val (.int x4), .val (.int x5), .val (.int (2 : Int32)), .val (.int (0 : Int32)), .val (.int ((0 : Int32) * (2 : Int32))), .val (.ref b692), .val (.ref b697), .unset, .unset]) at_50 rfl rfl rfl ?_
      refine Go.iload C X697 (pc' := 54) at_52 rfl rfl ?_
      refine Go.iconst C X697 (pc' := 55) (v := (2 : Int32)) at_54 rfl rfl ?_
      refine Go.icmpNo C X697 (pc' := 58) at_55 (teq (by decide)).2 rfl ?_
      refine Go.aload C X697 (pc' := 60) at_58 rfl rfl rfl ?_
      refine Go.iconst C X697 (pc' := 61) (v := (0 : Int32)) at_60 rfl rfl ?_
      refine Go.iload C X697 (pc' := 63) at_61 rfl rfl ?_
      refine Go.iconst C X697 (pc' := 64) (v := (1 : Int32)) at_63 rfl rfl ?_
      refine Go.iand C X697 (pc' := 65) at_64 rfl ?_
      refine Go.iastore C X697 (pc' := 66) (i := 0) (x' := (x5 &&& (1 : Int32))) A697 rfl (by decide) rfl N697 at_65 rfl (fun T699 h699 X699 W699 A699 => ?_)
      have A700 := A698.other W699 ne_b692_b697
      refine Go.aload C X699 (pc' := 68) at_66 rfl rfl rfl ?_
      refine Go.iconst C X699 (pc' := 69) (v := (1 : Int32)) at_68 rfl rfl ?_
      refine Go.iload C X699 (pc' := 71) at_69 rfl rfl ?_
      refine Go.iconst C X699 (pc' := 72) (v := (1 : Int32)) at_71 rfl rfl ?_
      refine Go.iushr C X699 (pc' := 73) at_72 rfl ?_
      refine Go.iconst C X699 (pc' := 74) (v := (1 : Int32)) at_73 rfl rfl ?_
      refine Go.iand C X699 (pc' := 75) at_74 rfl ?_
      refine Go.iastore C X699 (pc' := 76) (i := 1) (x' := (((x5).toUInt32 >>> ((1 : Int32) &&& 31).toUInt32).toInt32 &&& (1 : Int32))) A699 rfl (by decide) rfl N697 at_75 rfl (fun T701 h701 X701 W701 A701 => ?_)
      have A702 := A700.other W701 ne_b692_b697
      refine Go.goto C X701 (pc' := 84) at_76 (by decide) (by decide) ?_
      refine Go.newO C X701 (pc' := 87) (hw _ (List.mem_of_getElem? (i := 1) rfl)) (hw _ (List.mem_of_getElem? (i := 2) rfl)) (hw _ (List.mem_of_getElem? (i := 3) rfl)) at_84 (by decide) (by decide) rfl (fun T703 h703 b703 X703 g703 E703 Ex703 D703 N703 => ?_)
      have ne_b692_b703 : b692 ≠ b703 := Nat.ne_of_lt (Nat.lt_of_lt_of_eq A702.lt g703.symm)
      have ne_b697_b703 : b697 ≠ b703 := Nat.ne_of_lt (Nat.lt_of_lt_of_eq A701.lt g703.symm)
      have A704 := A702.ext E703
      have A705 := A701.ext E703
      have F706 : Fld Z h703 b703 "com/example/ruleweave/ruleweave/store/Records" "width" "I" (.int (0 : Int32)) := D703 (Or.inr (hw _ (List.mem_of_getElem? (i := 11) rfl))) (ty := .int) (by decide)
      have F707 : Fld Z h703 b703 "com/example/ruleweave/ruleweave/store/Records" "ints" "[I" .null := D703 (Or.inl (hw _ (List.mem_of_getElem? (i := 13) rfl))) (ty := (.array .int)) (by decide)
      have F708 : Fld Z h703 b703 "com/example/ruleweave/ruleweave/store/Records" "size" "I" (.int (0 : Int32)) := D703 (Or.inl (hw _ (List.mem_of_getElem? (i := 22) rfl))) (ty := .int) (by decide)
      refine Go.dup C X703 (pc' := 88) at_87 rfl rfl ?_
      refine Go.iload C X703 (pc' := 90) at_88 rfl rfl ?_
      refine Go.callI C X703 (pc' := 93) (W := 1) (argsL := [(.int (2 : Int32))]) (rest := [(.ref b703)]) (a := b703) (rm_init l Z a0 hw b703 (2 : Int32) 2048 h703 n0 X703.sz Ex703 F706 F707 F708 N703 rfl (by decide)) rfl rfl (hw _ (List.mem_of_getElem? (i := 4) rfl)) (hw _ (List.mem_of_getElem? (i := 5) rfl)) (hw _ (List.mem_of_getElem? (i := 3) rfl)) (hw _ (List.mem_of_getElem? (i := 6) rfl)) (by decide) rfl rfl (lenOf own_pd0 rfl) rfl (Nat.le_of_eq rfl) (by decide) (by decide) (by decide) (by decide) at_90 rfl (fun _ _ q => by obtain ⟨_, _, _, K, _⟩ := q; exact K.1) (fun T709 h709 v709 X709 P709 => ?_)
      obtain ⟨t709, rfl, D709_t, K709, O709_0, O709_1, O709_2, O709_3, O709_4⟩ := P709
      have ne_b692_t709 : b692 ≠ t709 := Nat.ne_of_lt (Nat.lt_of_lt_of_le A704.lt D709_t)
      have ne_b697_t709 : b697 ≠ t709 := Nat.ne_of_lt (Nat.lt_of_lt_of_le A705.lt D709_t)
      have ne_b703_t709 : b703 ≠ t709 := Nat.ne_of_lt (Nat.lt_of_lt_of_le Ex703.lt D709_t)
      have N_t709 : n0 ≤ t709 := Nat.le_trans X703.sz D709_t
      have A710 := A704.keep K709 (ninS ne_b692_b703 nin0)
      have A711 := A705.keep K709 (ninS ne_b697_b703 nin0)
      have E712 := Ex703.keep K709
      show Go p e below s n0 _ _ _ T709 (mkF m 93 #[.val (.int x0), .val (.int x1), .val (.int x2), .val (.int x3), .val (.int x4), .val (.int x5), .val (.int (2 : Int32)), .val (.int (0 : Int32)), .val (.int ((0 : Int32) * (2 : Int32))), .val (.ref b692), .val (.ref b697), .unset, .unset] [(.ref b703)])
      refine Go.astore C X709 (pc' := 95) (Ls' := #[.val (.int x0), .val (.int x1), .val (.int x2), .val (.int x3), .val (.int x4), .val (.int x5), .val (.int (2 : Int32)), .val (.int (0 : Int32)), .val (.int ((0 : Int32) * (2 : Int32))), .val (.ref b692), .val (.ref b697), .val (.ref b703), .unset]) at_93 rfl rfl rfl ?_
      refine Go.iload C X709 (pc' := 97) at_95 rfl rfl ?_
      refine Go.ifYes C X709 (pc' := 106) at_97 ((if0 _ _).trans (flt (by decide)).2.2.2) (by decide) (by decide) ?_
      refine Go.iload C X709 (pc' := 108) at_106 rfl rfl ?_
      refine Go.iconst C X709 (pc' := 109) (v := (1 : Int32)) at_108 rfl rfl ?_
      refine Go.icmpYes C X709 (pc' := 118) at_109 (flt (by decide)).2.2.2 (by decide) (by decide) ?_
      refine Go.iload C X709 (pc' := 120) at_118 rfl rfl ?_
      refine Go.iconst C X709 (pc' := 121) (v := (2 : Int32)) at_120 rfl rfl ?_
      refine Go.icmpYes C X709 (pc' := 130) at_121 (flt (by decide)).2.2.2 (by decide) (by decide) ?_
      refine Go.iload C X709 (pc' := 132) at_130 rfl rfl ?_
      refine Go.iconst C X709 (pc' := 133) (v := (3 : Int32)) at_132 rfl rfl ?_
      refine Go.icmpYes C X709 (pc' := 142) at_133 (flt (by decide)).2.2.2 (by decide) (by decide) ?_
      refine Go.aload C X709 (pc' := 144) at_142 rfl rfl rfl ?_
      refine Go.aload C X709 (pc' := 146) at_144 rfl rfl rfl ?_
      refine Go.callV C X709 (pc' := 149) (W := 0) (argsL := [(.ref b697)]) (rest := []) (a := b703) (rm_re_2_0 l Z a0 hw b703 b697 t709 2048 (fun _ => 0) (fun q => if q = 1 then (((x5).toUInt32 >>> ((1 : Int32) &&& 31).toUInt32).toInt32 &&& (1 : Int32)) else (fun q => if q = 0 then (x5 &&& (1 : Int32)) else (fun _ => 0) q) q) ((x5 &&& (1 : Int32)).toInt.toNat) ((((x5).toUInt32 >>> ((1 : Int32) &&& 31).toUInt32).toInt32 &&& (1 : Int32)).toInt.toNat) h709 n0 X709.sz O709_0 O709_1 O709_2 O709_3 O709_4 A711 (by decide) (own_p (x5)).1 (own_p (((x5).toUInt32 >>> ((1 : Int32) &&& 31).toUInt32).toInt32)).1 (own_p (x5)).2 (own_p (((x5).toUInt32 >>> ((1 : Int32) &&& 31).toUInt32).toInt32)).2) O709_0 (notFace_of_selects (args := #[]) (mvT C.2.1 (hw _ (List.mem_of_getElem? (i := 17) rfl)))) (hw _ (List.mem_of_getElem? (i := 14) rfl)) (hw _ (List.mem_of_getElem? (i := 15) rfl)) (hw _ (List.mem_of_getElem? (i := 17) rfl)) (hw _ (List.mem_of_getElem? (i := 16) rfl)) (hw _ (List.mem_of_getElem? (i := 3) rfl)) (hw _ (List.mem_of_getElem? (i := 18) rfl)) (by decide) rfl rfl (lenOf own_pd2 rfl) rfl (Nat.le_of_eq rfl) (by decide) (by decide) (by decide) (by decide) at_146 rfl (fun _ _ q => by obtain ⟨_, _, _, _, _, _, K, _⟩ := q; exact K.1) (fun T713 h713 v713 X713 P713 => ?_)
      obtain ⟨cp713, t2713, r2713, rfl, D713_cp, D713_t2, K713, O713_0, O713_1, O713_2, O713_3, O713_4, O713_5⟩ := P713
      have ne_b692_cp713 : b692 ≠ cp713 := Nat.ne_of_lt (Nat.lt_of_lt_of_le A710.lt D713_cp)
      have ne_b697_cp713 : b697 ≠ cp713 := Nat.ne_of_lt (Nat.lt_of_lt_of_le A711.lt D713_cp)
      have ne_b703_cp713 : b703 ≠ cp713 := Nat.ne_of_lt (Nat.lt_of_lt_of_le O709_0.lt D713_cp)
      have ne_t709_cp713 : t709 ≠ cp713 := Nat.ne_of_lt (Nat.lt_of_lt_of_le O709_4.lt D713_cp)
      have N_cp713 : n0 ≤ cp713 := Nat.le_trans X709.sz D713_cp
      have ne_b692_t2713 : b692 ≠ t2713 := Nat.ne_of_lt (Nat.lt_of_lt_of_le A710.lt D713_t2)
      have ne_b697_t2713 : b697 ≠ t2713 := Nat.ne_of_lt (Nat.lt_of_lt_of_le A711.lt D713_t2)
      have ne_b703_t2713 : b703 ≠ t2713 := Nat.ne_of_lt (Nat.lt_of_lt_of_le O709_0.lt D713_t2)
      have ne_t709_t2713 : t709 ≠ t2713 := Nat.ne_of_lt (Nat.lt_of_lt_of_le O709_4.lt D713_t2)
      have N_t2713 : n0 ≤ t2713 := Nat.le_trans X709.sz D713_t2
      have A714 := A710.keep K713 nin0
      have A715 := A711.keep K713 nin0
      have E716 := O709_0.keep K713
      have F717 := O709_1.keep K713 nin0
      have F718 := O709_2.keep K713 nin0
      have F719 := O709_3.keep K713 nin0
      have A720 := O709_4.keep K713 nin0
      show Go p e below s n0 _ _ _ T713 (mkF m 149 #[.val (.int x0), .val (.int x1), .val (.int x2), .val (.int x3), .val (.int x4), .val (.int x5), .val (.int (2 : Int32)), .val (.int (0 : Int32)), .val (.int ((0 : Int32) * (2 : Int32))), .val (.ref b692), .val (.ref b697), .val (.ref b703), .unset] [(.ref cp713)])
      refine Go.astore C X713 (pc' := 151) (Ls' := #[.val (.int x0), .val (.int x1), .val (.int x2), .val (.int x3), .val (.int x4), .val (.int x5), .val (.int (2 : Int32)), .val (.int (0 : Int32)), .val (.int ((0 : Int32) * (2 : Int32))), .val (.ref b692), .val (.ref b697), .val (.ref b703), .val (.ref cp713)]) at_149 rfl rfl rfl ?_
      refine Go.aload C X713 (pc' := 153) at_151 rfl rfl rfl ?_
      refine Go.callV C X713 (pc' := 156) (W := 0) (argsL := []) (rest := []) (a := cp713) (rm_cnt l Z a0 hw cp713 (0 : Int32) (2 : Int32) h713 n0 X713.sz O713_1 O713_3 (by decide)) O713_0 (notFace_of_selects (args := #[]) (mvT C.2.1 (hw _ (List.mem_of_getElem? (i := 26) rfl)))) (hw _ (List.mem_of_getElem? (i := 23) rfl)) (hw _ (List.mem_of_getElem? (i := 24) rfl)) (hw _ (List.mem_of_getElem? (i := 26) rfl)) (hw _ (List.mem_of_getElem? (i := 25) rfl)) (hw _ (List.mem_of_getElem? (i := 3) rfl)) (hw _ (List.mem_of_getElem? (i := 27) rfl)) (by decide) rfl rfl (lenOf own_pd3 rfl) rfl (Nat.le_of_eq rfl) (by decide) (by decide) (by decide) (by decide) at_153 rfl (fun _ _ q => Nat.le_of_eq (congrArg Array.size q.2)) (fun T721 h721 v721 X721 P721 => ?_)
      obtain ⟨rfl, rfl⟩ := P721
      show Go p e below s n0 _ _ _ T721 (mkF m 156 #[.val (.int x0), .val (.int x1), .val (.int x2), .val (.int x3), .val (.int x4), .val (.int x5), .val (.int (2 : Int32)), .val (.int (0 : Int32)), .val (.int ((0 : Int32) * (2 : Int32))), .val (.ref b692), .val (.ref b697), .val (.ref b703), .val (.ref cp713)] [(.int ((0 : Int32) / (2 : Int32)))])
      refine Go.iload C X721 (pc' := 158) at_156 rfl rfl ?_
      refine Go.icmpYes C X721 (pc' := 163) at_158 (teq (by decide)).1 (by decide) (by decide) ?_
      refine Go.aload C X721 (pc' := 165) at_163 rfl rfl rfl ?_
      refine Go.aload C X721 (pc' := 167) at_165 rfl rfl rfl ?_
      refine Go.aload C X721 (pc' := 169) at_167 rfl rfl rfl ?_
      refine Go.iload C X721 (pc' := 171) at_169 rfl rfl ?_
      refine Go.iload C X721 (pc' := 173) at_171 rfl rfl ?_
      refine Go.iconst C X721 (pc' := 174) (v := (0 : Int32)) at_173 rfl rfl ?_
      refine Go.iconst C X721 (pc' := 175) (v := (0 : Int32)) at_174 rfl rfl ?_
      refine Go.callS C X721 (pc' := 178) (W := 0) (argsL := [(.ref cp713), (.ref b692), (.ref b697), (.int (0 : Int32)), (.int (2 : Int32)), (.int (0 : Int32)), (.int (0 : Int32))]) (rest := []) (rm_at l Z a0 hw cp713 b692 b697 (0 : Int32) (2 : Int32) (0 : Int32) (0 : Int32) t2713 0 r2713 (fun q => if q = 3 then x3 else (fun q => if q = 2 then x2 else (fun q => if q = 1 then x1 else (fun q => if q = 0 then x0 else (fun _ => 0) q) q) q) q) 2 (fun q => if q = 1 then (((x5).toUInt32 >>> ((1 : Int32) &&& 31).toUInt32).toInt32 &&& (1 : Int32)) else (fun q => if q = 0 then (x5 &&& (1 : Int32)) else (fun _ => 0) q) q) (2 : Int32) h713 n0 X721.sz O713_0 O713_1 O713_2 O713_5 A714 A715 (fun h => absurd h (by decide))) (hw _ (List.mem_of_getElem? (i := 28) rfl)) (hw _ (List.mem_of_getElem? (i := 29) rfl)) (hw _ (List.mem_of_getElem? (i := 30) rfl)) (hw _ (List.mem_of_getElem? (i := 31) rfl)) (by decide) rfl rfl (lenOf own_pd4 rfl) rfl (Nat.le_of_eq rfl) (by decide) (by decide) (by decide) (by decide) at_175 rfl (fun _ _ q => Nat.le_of_eq (congrArg Array.size q.2)) (fun T722 h722 v722 X722 P722 => ?_)
      obtain ⟨rfl, rfl⟩ := P722
      show Go p e below s n0 _ _ _ T722 (mkF m 178 #[.val (.int x0), .val (.int x1), .val (.int x2), .val (.int x3), .val (.int x4), .val (.int x5), .val (.int (2 : Int32)), .val (.int (0 : Int32)), .val (.int ((0 : Int32) * (2 : Int32))), .val (.ref b692), .val (.ref b697), .val (.ref b703), .val (.ref cp713)] [(.int (1 : Int32))])
      refine Go.ifNo C X722 (pc' := 181) at_178 ((if0 _ _).trans (feq (by decide)).1) rfl ?_
      refine Go.aload C X722 (pc' := 183) at_181 rfl rfl rfl ?_
      refine Go.aload C X722 (pc' := 185) at_183 rfl rfl rfl ?_
      refine Go.aload C X722 (pc' := 187) at_185 rfl rfl rfl ?_
      refine Go.iload C X722 (pc' := 189) at_187 rfl rfl ?_
      refine Go.iload C X722 (pc' := 191) at_189 rfl rfl ?_
      refine Go.iconst C X722 (pc' := 192) (v := (0 : Int32)) at_191 rfl rfl ?_
      refine Go.iconst C X722 (pc' := 193) (v := (1 : Int32)) at_192 rfl rfl ?_
      refine Go.callS C X722 (pc' := 196) (W := 0) (argsL := [(.ref cp713), (.ref b692), (.ref b697), (.int (0 : Int32)), (.int (2 : Int32)), (.int (0 : Int32)), (.int (1 : Int32))]) (rest := []) (rm_at l Z a0 hw cp713 b692 b697 (0 : Int32) (2 : Int32) (0 : Int32) (1 : Int32) t2713 0 r2713 (fun q => if q = 3 then x3 else (fun q => if q = 2 then x2 else (fun q => if q = 1 then x1 else (fun q => if q = 0 then x0 else (fun _ => 0) q) q) q) q) 2 (fun q => if q = 1 then (((x5).toUInt32 >>> ((1 : Int32) &&& 31).toUInt32).toInt32 &&& (1 : Int32)) else (fun q => if q = 0 then (x5 &&& (1 : Int32)) else (fun _ => 0) q) q) (2 : Int32) h713 n0 X722.sz O713_0 O713_1 O713_2 O713_5 A714 A715 (fun h => absurd h (by decide))) (hw _ (List.mem_of_getElem? (i := 28) rfl)) (hw _ (List.mem_of_getElem? (i := 29) rfl)) (hw _ (List.mem_of_getElem? (i := 30) rfl)) (hw _ (List.mem_of_getElem? (i := 31) rfl)) (by decide) rfl rfl (lenOf own_pd4 rfl) rfl (Nat.le_of_eq rfl) (by decide) (by decide) (by decide) (by decide) at_193 rfl (fun _ _ q => Nat.le_of_eq (congrArg Array.size q.2)) (fun T723 h723 v723 X723 P723 => ?_)
      obtain ⟨rfl, rfl⟩ := P723
      show Go p e below s n0 _ _ _ T723 (mkF m 196 #[.val (.int x0), .val (.int x1), .val (.int x2), .val (.int x3), .val (.int x4), .val (.int x5), .val (.int (2 : Int32)), .val (.int (0 : Int32)), .val (.int ((0 : Int32) * (2 : Int32))), .val (.ref b692), .val (.ref b697), .val (.ref b703), .val (.ref cp713)] [(.int (1 : Int32))])
      refine Go.ifNo C X723 (pc' := 199) at_196 ((if0 _ _).trans (feq (by decide)).1) rfl ?_
      refine Go.aload C X723 (pc' := 201) at_199 rfl rfl rfl ?_
      refine Go.aload C X723 (pc' := 203) at_201 rfl rfl rfl ?_
      refine Go.aload C X723 (pc' := 205) at_203 rfl rfl rfl ?_
      refine Go.iload C X723 (pc' := 207) at_205 rfl rfl ?_
      refine Go.iload C X723 (pc' := 209) at_207 rfl rfl ?_
      refine Go.iconst C X723 (pc' := 210) (v := (1 : Int32)) at_209 rfl rfl ?_
      refine Go.iconst C X723 (pc' := 211) (v := (0 : Int32)) at_210 rfl rfl ?_
      refine Go.callS C X723 (pc' := 214) (W := 0) (argsL := [(.ref cp713), (.ref b692), (.ref b697), (.int (0 : Int32)), (.int (2 : Int32)), (.int (1 : Int32)), (.int (0 : Int32))]) (rest := []) (rm_at l Z a0 hw cp713 b692 b697 (0 : Int32) (2 : Int32) (1 : Int32) (0 : Int32) t2713 0 r2713 (fun q => if q = 3 then x3 else (fun q => if q = 2 then x2 else (fun q => if q = 1 then x1 else (fun q => if q = 0 then x0 else (fun _ => 0) q) q) q) q) 2 (fun q => if q = 1 then (((x5).toUInt32 >>> ((1 : Int32) &&& 31).toUInt32).toInt32 &&& (1 : Int32)) else (fun q => if q = 0 then (x5 &&& (1 : Int32)) else (fun _ => 0) q) q) (2 : Int32) h713 n0 X723.sz O713_0 O713_1 O713_2 O713_5 A714 A715 (fun h => absurd h (by decide))) (hw _ (List.mem_of_getElem? (i := 28) rfl)) (hw _ (List.mem_of_getElem? (i := 29) rfl)) (hw _ (List.mem_of_getElem? (i := 30) rfl)) (hw _ (List.mem_of_getElem? (i := 31) rfl)) (by decide) rfl rfl (lenOf own_pd4 rfl) rfl (Nat.le_of_eq rfl) (by decide) (by decide) (by decide) (by decide) at_211 rfl (fun _ _ q => Nat.le_of_eq (congrArg Array.size q.2)) (fun T724 h724 v724 X724 P724 => ?_)
      obtain ⟨rfl, rfl⟩ := P724
      show Go p e below s n0 _ _ _ T724 (mkF m 214 #[.val (.int x0), .val (.int x1), .val (.int x2), .val (.int x3), .val (.int x4), .val (.int x5), .val (.int (2 : Int32)), .val (.int (0 : Int32)), .val (.int ((0 : Int32) * (2 : Int32))), .val (.ref b692), .val (.ref b697), .val (.ref b703), .val (.ref cp713)] [(.int (1 : Int32))])
      refine Go.ifNo C X724 (pc' := 217) at_214 ((if0 _ _).trans (feq (by decide)).1) rfl ?_
      refine Go.aload C X724 (pc' := 219) at_217 rfl rfl rfl ?_
      refine Go.aload C X724 (pc' := 221) at_219 rfl rfl rfl ?_
      refine Go.aload C X724 (pc' := 223) at_221 rfl rfl rfl ?_
      refine Go.iload C X724 (pc' := 225) at_223 rfl rfl ?_
      refine Go.iload C X724 (pc' := 227) at_225 rfl rfl ?_
      refine Go.iconst C X724 (pc' := 228) (v := (1 : Int32)) at_227 rfl rfl ?_
      refine Go.iconst C X724 (pc' := 229) (v := (1 : Int32)) at_228 rfl rfl ?_
      refine Go.callS C X724 (pc' := 232) (W := 0) (argsL := [(.ref cp713), (.ref b692), (.ref b697), (.int (0 : Int32)), (.int (2 : Int32)), (.int (1 : Int32)), (.int (1 : Int32))]) (rest := []) (rm_at l Z a0 hw cp713 b692 b697 (0 : Int32) (2 : Int32) (1 : Int32) (1 : Int32) t2713 0 r2713 (fun q => if q = 3 then x3 else (fun q => if q = 2 then x2 else (fun q => if q = 1 then x1 else (fun q => if q = 0 then x0 else (fun _ => 0) q) q) q) q) 2 (fun q => if q = 1 then (((x5).toUInt32 >>> ((1 : Int32) &&& 31).toUInt32).toInt32 &&& (1 : Int32)) else (fun q => if q = 0 then (x5 &&& (1 : Int32)) else (fun _ => 0) q) q) (2 : Int32) h713 n0 X724.sz O713_0 O713_1 O713_2 O713_5 A714 A715 (fun h => absurd h (by decide))) (hw _ (List.mem_of_getElem? (i := 28) rfl)) (hw _ (List.mem_of_getElem? (i := 29) rfl)) (hw _ (List.mem_of_getElem? (i := 30) rfl)) (hw _ (List.mem_of_getElem? (i := 31) rfl)) (by decide) rfl rfl (lenOf own_pd4 rfl) rfl (Nat.le_of_eq rfl) (by decide) (by decide) (by decide) (by decide) at_229 rfl (fun _ _ q => Nat.le_of_eq (congrArg Array.size q.2)) (fun T725 h725 v725 X725 P725 => ?_)
      obtain ⟨rfl, rfl⟩ := P725
      show Go p e below s n0 _ _ _ T725 (mkF m 232 #[.val (.int x0), .val (.int x1), .val (.int x2), .val (.int x3), .val (.int x4), .val (.int x5), .val (.int (2 : Int32)), .val (.int (0 : Int32)), .val (.int ((0 : Int32) * (2 : Int32))), .val (.ref b692), .val (.ref b697), .val (.ref b703), .val (.ref cp713)] [(.int (1 : Int32))])
      refine Go.ifNo C X725 (pc' := 235) at_232 ((if0 _ _).trans (feq (by decide)).1) rfl ?_
      refine Go.iconst C X725 (pc' := 236) (v := (1 : Int32)) at_235 rfl rfl ?_
      refine Go.goto C X725 (pc' := 240) at_236 (by decide) (by decide) ?_
      exact Go.retZ (t := .boolean) C X725 (z' := (1 : Int32)) (by decide) at_240 rfl (by decide) (by decide)
    · rw [q583]
      refine Go.iload C X0 (pc' := 20) at_18 rfl rfl ?_
      refine Go.iload C X0 (pc' := 22) at_20 rfl rfl ?_
      refine Go.imul C X0 (pc' := 23) at_22 rfl ?_
      refine Go.istore C X0 (pc' := 25) (Ls' := #[.val (.int x0), .val (.int x1), .val (.int x2), .val (.int x3), .val (.int x4), .val (.int x5), .val (.int (2 : Int32)), .val (.int (1 : Int32)), .val (.int ((1 : Int32) * (2 : Int32))), .unset, .unset, .unset, .unset]) at_23 rfl rfl ?_
      refine Go.iconst C X0 (pc' := 26) (v := (4 : Int32)) at_25 rfl rfl ?_
      refine Go.newP C X0 (pc' := 28) (nn := 4) (cap := 4) (hw _ (List.mem_of_getElem? (i := 0) rfl)) at_26 rfl (by decide) (by decide) (by decide) (by decide) rfl (fun T726 h726 b726 k726 X726 g726 E726 Ar726 N726 => ?_)
      have A726 : AI Z h726 b726 .int 4 (fun _ => 0) := AI.new rfl rfl Ar726
      refine Go.dup C X726 (pc' := 29) at_28 rfl rfl ?_
      refine Go.iconst C X726 (pc' := 30) (v := (0 : Int32)) at_29 rfl rfl ?_
      refine Go.iloadN C X726 (pc' := 31) at_30 rfl rfl ?_
      refine Go.iastore C X726 (pc' := 32) (i := 0) (x' := x0) A726 rfl (by decide) rfl N726 at_31 rfl (fun T727 h727 X727 W727 A727 => ?_)
      refine Go.dup C X727 (pc' := 33) at_32 rfl rfl ?_
      refine Go.iconst C X727 (pc' := 34) (v := (1 : Int32)) at_33 rfl rfl ?_
      refine Go.iloadN C X727 (pc' := 35) at_34 rfl rfl ?_
      refine Go.iastore C X727 (pc' := 36) (i := 1) (x' := x1) A727 rfl (by decide) rfl N726 at_35 rfl (fun T728 h728 X728 W728 A728 => ?_)
      refine Go.dup C X728 (pc' := 37) at_36 rfl rfl ?_
      refine Go.iconst C X728 (pc' := 38) (v := (2 : Int32)) at_37 rfl rfl ?_
      refine Go.iloadN C X728 (pc' := 39) at_38 rfl rfl ?_
      refine Go.iastore C X728 (pc' := 40) (i := 2) (x' := x2) A728 rfl (by decide) rfl N726 at_39 rfl (fun T729 h729 X729 W729 A729 => ?_)
      refine Go.dup C X729 (pc' := 41) at_40 rfl rfl ?_
      refine Go.iconst C X729 (pc' := 42) (v := (3 : Int32)) at_41 rfl rfl ?_
      refine Go.iloadN C X729 (pc' := 43) at_42 rfl rfl ?_
      refine Go.iastore C X729 (pc' := 44) (i := 3) (x' := x3) A729 rfl (by decide) rfl N726 at_43 rfl (fun T730 h730 X730 W730 A730 => ?_)
      refine Go.astore C X730 (pc' := 46) (Ls' := #[.val (.int x0), .val (.int x1), .val (.int x2), .val (.int x3), .val (.int x4), .val (.int x5), .val (.int (2 : Int32)), .val (.int (1 : Int32)), .val (.int ((1 : Int32) * (2 : Int32))), .val (.ref b726), .unset, .unset, .unset]) at_44 rfl rfl rfl ?_
      refine Go.iload C X730 (pc' := 48) at_46 rfl rfl ?_
      refine Go.newP C X730 (pc' := 50) (nn := 2) (cap := 2) (hw _ (List.mem_of_getElem? (i := 0) rfl)) at_48 rfl (by decide) (by decide) (by decide) (by decide) rfl (fun T731 h731 b731 k731 X731 g731 E731 Ar731 N731 => ?_)
      have ne_b726_b731 : b726 ≠ b731 := Nat.ne_of_lt (Nat.lt_of_lt_of_eq A730.lt g731.symm)
      have A732 := A730.ext E731
      have A731 : AI Z h731 b731 .int 2 (fun _ => 0) := AI.new rfl rfl Ar731
      refine Go.astore C X731 (pc' := 52) (Ls' := #[.val (.int x0), .val (.int x1), .val (.int x2), .val (.int x3), .val (.int x4), .val (.int x5), .val (.int (2 : Int32)), .val (.int (1 : Int32)), .val (.int ((1 : Int32) * (2 : Int32))), .val (.ref b726), .val (.ref b731), .unset, .unset]) at_50 rfl rfl rfl ?_
      refine Go.iload C X731 (pc' := 54) at_52 rfl rfl ?_
      refine Go.iconst C X731 (pc' := 55) (v := (2 : Int32)) at_54 rfl rfl ?_
      refine Go.icmpNo C X731 (pc' := 58) at_55 (teq (by decide)).2 rfl ?_
      refine Go.aload C X731 (pc' := 60) at_58 rfl rfl rfl ?_
      refine Go.iconst C X731 (pc' := 61) (v := (0 : Int32)) at_60 rfl rfl ?_
      refine Go.iload C X731 (pc' := 63) at_61 rfl rfl ?_
      refine Go.iconst C X731 (pc' := 64) (v := (1 : Int32)) at_63 rfl rfl ?_
      refine Go.iand C X731 (pc' := 65) at_64 rfl ?_
      refine Go.iastore C X731 (pc' := 66) (i := 0) (x' := (x5 &&& (1 : Int32))) A731 rfl (by decide) rfl N731 at_65 rfl (fun T733 h733 X733 W733 A733 => ?_)
      have A734 := A732.other W733 ne_b726_b731
      refine Go.aload C X733 (pc' := 68) at_66 rfl rfl rfl ?_
      refine Go.iconst C X733 (pc' := 69) (v := (1 : Int32)) at_68 rfl rfl ?_
      refine Go.iload C X733 (pc' := 71) at_69 rfl rfl ?_
      refine Go.iconst C X733 (pc' := 72) (v := (1 : Int32)) at_71 rfl rfl ?_
      refine Go.iushr C X733 (pc' := 73) at_72 rfl ?_
      refine Go.iconst C X733 (pc' := 74) (v := (1 : Int32)) at_73 rfl rfl ?_
      refine Go.iand C X733 (pc' := 75) at_74 rfl ?_
      refine Go.iastore C X733 (pc' := 76) (i := 1) (x' := (((x5).toUInt32 >>> ((1 : Int32) &&& 31).toUInt32).toInt32 &&& (1 : Int32))) A733 rfl (by decide) rfl N731 at_75 rfl (fun T735 h735 X735 W735 A735 => ?_)
      have A736 := A734.other W735 ne_b726_b731
      refine Go.goto C X735 (pc' := 84) at_76 (by decide) (by decide) ?_
      refine Go.newO C X735 (pc' := 87) (hw _ (List.mem_of_getElem? (i := 1) rfl)) (hw _ (List.mem_of_getElem? (i := 2) rfl)) (hw _ (List.mem_of_getElem? (i := 3) rfl)) at_84 (by decide) (by decide) rfl (fun T737 h737 b737 X737 g737 E737 Ex737 D737 N737 => ?_)
      have ne_b726_b737 : b726 ≠ b737 := Nat.ne_of_lt (Nat.lt_of_lt_of_eq A736.lt g737.symm)
      have ne_b731_b737 : b731 ≠ b737 := Nat.ne_of_lt (Nat.lt_of_lt_of_eq A735.lt g737.symm)
      have A738 := A736.ext E737
      have A739 := A735.ext E737
      have F740 : Fld Z h737 b737 "com/example/ruleweave/ruleweave/store/Records" "width" "I" (.int (0 : Int32)) := D737 (Or.inr (hw _ (List.mem_of_getElem? (i := 11) rfl))) (ty := .int) (by decide)
      have F741 : Fld Z h737 b737 "com/example/ruleweave/ruleweave/store/Records" "ints" "[I" .null := D737 (Or.inl (hw _ (List.mem_of_getElem? (i := 13) rfl))) (ty := (.array .int)) (by decide)
      have F742 : Fld Z h737 b737 "com/example/ruleweave/ruleweave/store/Records" "size" "I" (.int (0 : Int32)) := D737 (Or.inl (hw _ (List.mem_of_getElem? (i := 22) rfl))) (ty := .int) (by decide)
      refine Go.dup C X737 (pc' := 88) at_87 rfl rfl ?_
      refine Go.iload C X737 (pc' := 90) at_88 rfl rfl ?_
      refine Go.callI C X737 (pc' := 93) (W := 1) (argsL := [(.int (2 : Int32))]) (rest := [(.ref b737)]) (a := b737) (rm_init l Z a0 hw b737 (2 : Int32) 2048 h737 n0 X737.sz Ex737 F740 F741 F742 N737 rfl (by decide)) rfl rfl (hw _ (List.mem_of_getElem? (i := 4) rfl)) (hw _ (List.mem_of_getElem? (i := 5) rfl)) (hw _ (List.mem_of_getElem? (i := 3) rfl)) (hw _ (List.mem_of_getElem? (i := 6) rfl)) (by decide) rfl rfl (lenOf own_pd0 rfl) rfl (Nat.le_of_eq rfl) (by decide) (by decide) (by decide) (by decide) at_90 rfl (fun _ _ q => by obtain ⟨_, _, _, K, _⟩ := q; exact K.1) (fun T743 h743 v743 X743 P743 => ?_)
      obtain ⟨t743, rfl, D743_t, K743, O743_0, O743_1, O743_2, O743_3, O743_4⟩ := P743
      have ne_b726_t743 : b726 ≠ t743 := Nat.ne_of_lt (Nat.lt_of_lt_of_le A738.lt D743_t)
      have ne_b731_t743 : b731 ≠ t743 := Nat.ne_of_lt (Nat.lt_of_lt_of_le A739.lt D743_t)
      have ne_b737_t743 : b737 ≠ t743 := Nat.ne_of_lt (Nat.lt_of_lt_of_le Ex737.lt D743_t)
      have N_t743 : n0 ≤ t743 := Nat.le_trans X737.sz D743_t
      have A744 := A738.keep K743 (ninS ne_b726_b737 nin0)
      have A745 := A739.keep K743 (ninS ne_b731_b737 nin0)
      have E746 := Ex737.keep K743
      show Go p e below s n0 _ _ _ T743 (mkF m 93 #[.val (.int x0), .val (.int x1), .val (.int x2), .val (.int x3), .val (.int x4), .val (.int x5), .val (.int (2 : Int32)), .val (.int (1 : Int32)), .val (.int ((1 : Int32) * (2 : Int32))), .val (.ref b726), .val (.ref b731), .unset, .unset] [(.ref b737)])
      refine Go.astore C X743 (pc' := 95) (Ls' := #[.val (.int x0), .val (.int x1), .val (.int x2), .val (.int x3), .val (.int x4), .val (.int x5), .val (.int (2 : Int32)), .val (.int (1 : Int32)), .val (.int ((1 : Int32) * (2 : Int32))), .val (.ref b726), .val (.ref b731), .val (.ref b737), .unset]) at_93 rfl rfl rfl ?_
      refine Go.iload C X743 (pc' := 97) at_95 rfl rfl ?_
      refine Go.ifNo C X743 (pc' := 100) at_97 ((if0 _ _).trans (tlt (by decide)).2.2.2) rfl ?_
      refine Go.aload C X743 (pc' := 102) at_100 rfl rfl rfl ?_
      refine Go.iloadN C X743 (pc' := 103) at_102 rfl rfl ?_
      refine Go.callV C X743 (pc' := 106) (W := 0) (argsL := [(.int x0)]) (rest := []) (a := b737) (rm_add l Z a0 hw b737 x0 t743 2048 (fun _ => 0) (0 : Int32) 0 (2048 : Int32) (2 : Int32) h743 n0 X743.sz O743_0 O743_1 O743_2 O743_3 N737 N_t743 O743_4 (Ne.symm ne_b737_t743) rfl rfl (by decide)) O743_0 (notFace_of_selects (args := #[]) (mvT C.2.1 (hw _ (List.mem_of_getElem? (i := 35) rfl)))) (hw _ (List.mem_of_getElem? (i := 32) rfl)) (hw _ (List.mem_of_getElem? (i := 33) rfl)) (hw _ (List.mem_of_getElem? (i := 35) rfl)) (hw _ (List.mem_of_getElem? (i := 34) rfl)) (hw _ (List.mem_of_getElem? (i := 3) rfl)) (hw _ (List.mem_of_getElem? (i := 36) rfl)) (by decide) rfl rfl (lenOf own_pd0 rfl) rfl (Nat.le_of_eq rfl) (by decide) (by decide) (by decide) (by decide) at_103 rfl (fun _ _ q => by obtain ⟨_, K, _⟩ := q; exact K.1) (fun T747 h747 v747 X747 P747 => ?_)
      obtain ⟨rfl, K747, O747_0, O747_1, O747_2, O747_3, O747_4⟩ := P747
      have A748 := A744.keep K747 (ninS ne_b726_b737 (ninS ne_b726_t743 nin0))
      have A749 := A745.keep K747 (ninS ne_b731_b737 (ninS ne_b731_t743 nin0))
      have E750 := O743_0.keep K747
      show Go p e below s n0 _ _ _ T747 (mkF m 106 #[.val (.int x0), .val (.int x1), .val (.int x2), .val (.int x3), .val (.int x4), .val (.int x5), .val (.int (2 : Int32)), .val (.int (1 : Int32)), .val (.int ((1 : Int32) * (2 : Int32))), .val (.ref b726), .val (.ref b731), .val (.ref b737), .unset] [])
      refine Go.iload C X747 (pc' := 108) at_106 rfl rfl ?_
      refine Go.iconst C X747 (pc' := 109) (v := (1 : Int32)) at_108 rfl rfl ?_
      refine Go.icmpNo C X747 (pc' := 112) at_109 (tlt (by decide)).2.2.2 rfl ?_
      refine Go.aload C X747 (pc' := 114) at_112 rfl rfl rfl ?_
      refine Go.iloadN C X747 (pc' := 115) at_114 rfl rfl ?_
      refine Go.callV C X747 (pc' := 118) (W := 0) (argsL := [(.int x1)]) (rest := []) (a := b737) (rm_add l Z a0 hw b737 x1 t743 2048 (fun q => if q = 0 then x0 else (fun _ => 0) q) ((0 : Int32) + (1 : Int32)) 1 (2048 : Int32) (2 : Int32) h747 n0 X747.sz O747_0 O747_1 O747_2 O747_3 N737 N_t743 O747_4 (Ne.symm ne_b737_t743) rfl rfl (by decide)) O747_0 (notFace_of_selects (args := #[]) (mvT C.2.1 (hw _ (List.mem_of_getElem? (i := 35) rfl)))) (hw _ (List.mem_of_getElem? (i := 32) rfl)) (hw _ (List.mem_of_getElem? (i := 33) rfl)) (hw _ (List.mem_of_getElem? (i := 35) rfl)) (hw _ (List.mem_of_getElem? (i := 34) rfl)) (hw _ (List.mem_of_getElem? (i := 3) rfl)) (hw _ (List.mem_of_getElem? (i := 36) rfl)) (by decide) rfl rfl (lenOf own_pd0 rfl) rfl (Nat.le_of_eq rfl) (by decide) (by decide) (by decide) (by decide) at_115 rfl (fun _ _ q => by obtain ⟨_, K, _⟩ := q; exact K.1) (fun T751 h751 v751 X751 P751 => ?_)
      obtain ⟨rfl, K751, O751_0, O751_1, O751_2, O751_3, O751_4⟩ := P751
      have A752 := A748.keep K751 (ninS ne_b726_b737 (ninS ne_b726_t743 nin0))
      have A753 := A749.keep K751 (ninS ne_b731_b737 (ninS ne_b731_t743 nin0))
      have E754 := O747_0.keep K751
      show Go p e below s n0 _ _ _ T751 (mkF m 118 #[.val (.int x0), .val (.int x1), .val (.int x2), .val (.int x3), .val (.int x4), .val (.int x5), .val (.int (2 : Int32)), .val (.int (1 : Int32)), .val (.int ((1 : Int32) * (2 : Int32))), .val (.ref b726), .val (.ref b731), .val (.ref b737), .unset] [])
      refine Go.iload C X751 (pc' := 120) at_118 rfl rfl ?_
      refine Go.iconst C X751 (pc' := 121) (v := (2 : Int32)) at_120 rfl rfl ?_
      refine Go.icmpYes C X751 (pc' := 130) at_121 (flt (by decide)).2.2.2 (by decide) (by decide) ?_
      refine Go.iload C X751 (pc' := 132) at_130 rfl rfl ?_
      refine Go.iconst C X751 (pc' := 133) (v := (3 : Int32)) at_132 rfl rfl ?_
      refine Go.icmpYes C X751 (pc' := 142) at_133 (flt (by decide)).2.2.2 (by decide) (by decide) ?_
      refine Go.aload C X751 (pc' := 144) at_142 rfl rfl rfl ?_
      refine Go.aload C X751 (pc' := 146) at_144 rfl rfl rfl ?_
      refine Go.callV C X751 (pc' := 149) (W := 0) (argsL := [(.ref b731)]) (rest := []) (a := b737) (rm_re_2_1 l Z a0 hw b737 b731 t743 2048 (fun q => if q = 1 then x1 else (fun q => if q = 0 then x0 else (fun _ => 0) q) q) (fun q => if q = 1 then (((x5).toUInt32 >>> ((1 : Int32) &&& 31).toUInt32).toInt32 &&& (1 : Int32)) else (fun q => if q = 0 then (x5 &&& (1 : Int32)) else (fun _ => 0) q) q) ((x5 &&& (1 : Int32)).toInt.toNat) ((((x5).toUInt32 >>> ((1 : Int32) &&& 31).toUInt32).toInt32 &&& (1 : Int32)).toInt.toNat) h751 n0 X751.sz O751_0 O751_1 O751_2 O751_3 O751_4 A753 (by decide) (own_p (x5)).1 (own_p (((x5).toUInt32 >>> ((1 : Int32) &&& 31).toUInt32).toInt32)).1 (own_p (x5)).2 (own_p (((x5).toUInt32 >>> ((1 : Int32) &&& 31).toUInt32).toInt32)).2) O751_0 (notFace_of_selects (args := #[]) (mvT C.2.1 (hw _ (List.mem_of_getElem? (i := 17) rfl)))) (hw _ (List.mem_of_getElem? (i := 14) rfl)) (hw _ (List.mem_of_getElem? (i := 15) rfl)) (hw _ (List.mem_of_getElem? (i := 17) rfl)) (hw _ (List.mem_of_getElem? (i := 16) rfl)) (hw _ (List.mem_of_getElem? (i := 3) rfl)) (hw _ (List.mem_of_getElem? (i := 18) rfl)) (by decide) rfl rfl (lenOf own_pd2 rfl) rfl (Nat.le_of_eq rfl) (by decide) (by decide) (by decide) (by decide) at_146 rfl (fun _ _ q => by obtain ⟨_, _, _, _, _, _, K, _⟩ := q; exact K.1) (fun T755 h755 v755 X755 P755 => ?_)
      obtain ⟨cp755, t2755, r2755, rfl, D755_cp, D755_t2, K755, O755_0, O755_1, O755_2, O755_3, O755_4, O755_5, Y755_0, Y755_1⟩ := P755
      have ne_b726_cp755 : b726 ≠ cp755 := Nat.ne_of_lt (Nat.lt_of_lt_of_le A752.lt D755_cp)
      have ne_b731_cp755 : b731 ≠ cp755 := Nat.ne_of_lt (Nat.lt_of_lt_of_le A753.lt D755_cp)
      have ne_b737_cp755 : b737 ≠ cp755 := Nat.ne_of_lt (Nat.lt_of_lt_of_le O751_0.lt D755_cp)
      have ne_t743_cp755 : t743 ≠ cp755 := Nat.ne_of_lt (Nat.lt_of_lt_of_le O751_4.lt D755_cp)
      have N_cp755 : n0 ≤ cp755 := Nat.le_trans X751.sz D755_cp
      have ne_b726_t2755 : b726 ≠ t2755 := Nat.ne_of_lt (Nat.lt_of_lt_of_le A752.lt D755_t2)
      have ne_b731_t2755 : b731 ≠ t2755 := Nat.ne_of_lt (Nat.lt_of_lt_of_le A753.lt D755_t2)
      have ne_b737_t2755 : b737 ≠ t2755 := Nat.ne_of_lt (Nat.lt_of_lt_of_le O751_0.lt D755_t2)
      have ne_t743_t2755 : t743 ≠ t2755 := Nat.ne_of_lt (Nat.lt_of_lt_of_le O751_4.lt D755_t2)
      have N_t2755 : n0 ≤ t2755 := Nat.le_trans X751.sz D755_t2
      have A756 := A752.keep K755 nin0
      have A757 := A753.keep K755 nin0
      have E758 := O751_0.keep K755
      have F759 := O751_1.keep K755 nin0
      have F760 := O751_2.keep K755 nin0
      have F761 := O751_3.keep K755 nin0
      have A762 := O751_4.keep K755 nin0
      show Go p e below s n0 _ _ _ T755 (mkF m 149 #[.val (.int x0), .val (.int x1), .val (.int x2), .val (.int x3), .val (.int x4), .val (.int x5), .val (.int (2 : Int32)), .val (.int (1 : Int32)), .val (.int ((1 : Int32) * (2 : Int32))), .val (.ref b726), .val (.ref b731), .val (.ref b737), .unset] [(.ref cp755)])
      refine Go.astore C X755 (pc' := 151) (Ls' := #[.val (.int x0), .val (.int x1), .val (.int x2), .val (.int x3), .val (.int x4), .val (.int x5), .val (.int (2 : Int32)), .val (.int (1 : Int32)), .val (.int ((1 : Int32) * (2 : Int32))), .val (.ref b726), .val (.ref b731), .val (.ref b737), .val (.ref cp755)]) at_149 rfl rfl rfl ?_
      refine Go.aload C X755 (pc' := 153) at_151 rfl rfl rfl ?_
      refine Go.callV C X755 (pc' := 156) (W := 0) (argsL := []) (rest := []) (a := cp755) (rm_cnt l Z a0 hw cp755 (2 : Int32) (2 : Int32) h755 n0 X755.sz O755_1 O755_3 (by decide)) O755_0 (notFace_of_selects (args := #[]) (mvT C.2.1 (hw _ (List.mem_of_getElem? (i := 26) rfl)))) (hw _ (List.mem_of_getElem? (i := 23) rfl)) (hw _ (List.mem_of_getElem? (i := 24) rfl)) (hw _ (List.mem_of_getElem? (i := 26) rfl)) (hw _ (List.mem_of_getElem? (i := 25) rfl)) (hw _ (List.mem_of_getElem? (i := 3) rfl)) (hw _ (List.mem_of_getElem? (i := 27) rfl)) (by decide) rfl rfl (lenOf own_pd3 rfl) rfl (Nat.le_of_eq rfl) (by decide) (by decide) (by decide) (by decide) at_153 rfl (fun _ _ q => Nat.le_of_eq (congrArg Array.size q.2)) (fun T763 h763 v763 X763 P763 => ?_)
      obtain ⟨rfl, rfl⟩ := P763
      show Go p e below s n0 _ _ _ T763 (mkF m 156 #[.val (.int x0), .val (.int x1), .val (.int x2), .val (.int x3), .val (.int x4), .val (.int x5), .val (.int (2 : Int32)), .val (.int (1 : Int32)), .val (.int ((1 : Int32) * (2 : Int32))), .val (.ref b726), .val (.ref b731), .val (.ref b737), .val (.ref cp755)] [(.int ((2 : Int32) / (2 : Int32)))])
      refine Go.iload C X763 (pc' := 158) at_156 rfl rfl ?_
      refine Go.icmpYes C X763 (pc' := 163) at_158 (teq (by decide)).1 (by decide) (by decide) ?_
      refine Go.aload C X763 (pc' := 165) at_163 rfl rfl rfl ?_
      refine Go.aload C X763 (pc' := 167) at_165 rfl rfl rfl ?_
      refine Go.aload C X763 (pc' := 169) at_167 rfl rfl rfl ?_
      refine Go.iload C X763 (pc' := 171) at_169 rfl rfl ?_
      refine Go.iload C X763 (pc' := 173) at_171 rfl rfl ?_
      refine Go.iconst C X763 (pc' := 174) (v := (0 : Int32)) at_173 rfl rfl ?_
      refine Go.iconst C X763 (pc' := 175) (v := (0 : Int32)) at_174 rfl rfl ?_
      refine Go.callS C X763 (pc' := 178) (W := 0) (argsL := [(.ref cp755), (.ref b726), (.ref b731), (.int (1 : Int32)), (.int (2 : Int32)), (.int (0 : Int32)), (.int (0 : Int32))]) (rest := []) (rm_at l Z a0 hw cp755 b726 b731 (1 : Int32) (2 : Int32) (0 : Int32) (0 : Int32) t2755 2 r2755 (fun q => if q = 3 then x3 else (fun q => if q = 2 then x2 else (fun q => if q = 1 then x1 else (fun q => if q = 0 then x0 else (fun _ => 0) q) q) q) q) 2 (fun q => if q = 1 then (((x5).toUInt32 >>> ((1 : Int32) &&& 31).toUInt32).toInt32 &&& (1 : Int32)) else (fun q => if q = 0 then (x5 &&& (1 : Int32)) else (fun _ => 0) q) q) (2 : Int32) h755 n0 X763.sz O755_0 O755_1 O755_2 O755_5 A756 A757 (fun _ _ => ⟨0, 0, 0 + (x5 &&& (1 : Int32)).toInt.toNat, rfl, by decide, rfl, by decide, own_ai (i := 0) rfl (own_p (x5)).1 (by decide) (by have := (own_p (x5)).2; omega), (by have := (own_p (x5)).2; omega), Y755_0.trans (own_w2_0 _ _ _ _ (own_p (x5)).2)⟩)) (hw _ (List.mem_of_getElem? (i := 28) rfl)) (hw _ (List.mem_of_getElem? (i := 29) rfl)) (hw _ (List.mem_of_getElem? (i := 30) rfl)) (hw _ (List.mem_of_getElem? (i := 31) rfl)) (by decide) rfl rfl (lenOf own_pd4 rfl) rfl (Nat.le_of_eq rfl) (by decide) (by decide) (by decide) (by decide) at_175 rfl (fun _ _ q => Nat.le_of_eq (congrArg Array.size q.2)) (fun T764 h764 v764 X764 P764 => ?_)
      obtain ⟨rfl, rfl⟩ := P764
      show Go p e below s n0 _ _ _ T764 (mkF m 178 #[.val (.int x0), .val (.int x1), .val (.int x2), .val (.int x3), .val (.int x4), .val (.int x5), .val (.int (2 : Int32)), .val (.int (1 : Int32)), .val (.int ((1 : Int32) * (2 : Int32))), .val (.ref b726), .val (.ref b731), .val (.ref b737), .val (.ref cp755)] [(.int (1 : Int32))])
      refine Go.ifNo C X764 (pc' := 181) at_178 ((if0 _ _).trans (feq (by decide)).1) rfl ?_
      refine Go.aload C X764 (pc' := 183) at_181 rfl rfl rfl ?_
      refine Go.aload C X764 (pc' := 185) at_183 rfl rfl rfl ?_
      refine Go.aload C X764 (pc' := 187) at_185 rfl rfl rfl ?_
      refine Go.iload C X764 (pc' := 189) at_187 rfl rfl ?_
      refine Go.iload C X764 (pc' := 191) at_189 rfl rfl ?_
      refine Go.iconst C X764 (pc' := 192) (v := (0 : Int32)) at_191 rfl rfl ?_
      refine Go.iconst C X764 (pc' := 193) (v := (1 : Int32)) at_192 rfl rfl ?_
      refine Go.callS C X764 (pc' := 196) (W := 0) (argsL := [(.ref cp755), (.ref b726), (.ref b731), (.int (1 : Int32)), (.int (2 : Int32)), (.int (0 : Int32)), (.int (1 : Int32))]) (rest := []) (rm_at l Z a0 hw cp755 b726 b731 (1 : Int32) (2 : Int32) (0 : Int32) (1 : Int32) t2755 2 r2755 (fun q => if q = 3 then x3 else (fun q => if q = 2 then x2 else (fun q => if q = 1 then x1 else (fun q => if q = 0 then x0 else (fun _ => 0) q) q) q) q) 2 (fun q => if q = 1 then (((x5).toUInt32 >>> ((1 : Int32) &&& 31).toUInt32).toInt32 &&& (1 : Int32)) else (fun q => if q = 0 then (x5 &&& (1 : Int32)) else (fun _ => 0) q) q) (2 : Int32) h755 n0 X764.sz O755_0 O755_1 O755_2 O755_5 A756 A757 (fun _ _ => ⟨1, 1, 0 + (((x5).toUInt32 >>> ((1 : Int32) &&& 31).toUInt32).toInt32 &&& (1 : Int32)).toInt.toNat, rfl, by decide, rfl, by decide, own_ai (i := 0) rfl (own_p (((x5).toUInt32 >>> ((1 : Int32) &&& 31).toUInt32).toInt32)).1 (by decide) (by have := (own_p (((x5).toUInt32 >>> ((1 : Int32) &&& 31).toUInt32).toInt32)).2; omega), (by have := (own_p (((x5).toUInt32 >>> ((1 : Int32) &&& 31).toUInt32).toInt32)).2; omega), Y755_1.trans (own_w2_0 _ _ _ _ (own_p (((x5).toUInt32 >>> ((1 : Int32) &&& 31).toUInt32).toInt32)).2)⟩)) (hw _ (List.mem_of_getElem? (i := 28) rfl)) (hw _ (List.mem_of_getElem? (i := 29) rfl)) (hw _ (List.mem_of_getElem? (i := 30) rfl)) (hw _ (List.mem_of_getElem? (i := 31) rfl)) (by decide) rfl rfl (lenOf own_pd4 rfl) rfl (Nat.le_of_eq rfl) (by decide) (by decide) (by decide) (by decide) at_193 rfl (fun _ _ q => Nat.le_of_eq (congrArg Array.size q.2)) (fun T765 h765 v765 X765 P765 => ?_)
      obtain ⟨rfl, rfl⟩ := P765
      show Go p e below s n0 _ _ _ T765 (mkF m 196 #[.val (.int x0), .val (.int x1), .val (.int x2), .val (.int x3), .val (.int x4), .val (.int x5), .val (.int (2 : Int32)), .val (.int (1 : Int32)), .val (.int ((1 : Int32) * (2 : Int32))), .val (.ref b726), .val (.ref b731), .val (.ref b737), .val (.ref cp755)] [(.int (1 : Int32))])
      refine Go.ifNo C X765 (pc' := 199) at_196 ((if0 _ _).trans (feq (by decide)).1) rfl ?_
      refine Go.aload C X765 (pc' := 201) at_199 rfl rfl rfl ?_
      refine Go.aload C X765 (pc' := 203) at_201 rfl rfl rfl ?_
      refine Go.aload C X765 (pc' := 205) at_203 rfl rfl rfl ?_
      refine Go.iload C X765 (pc' := 207) at_205 rfl rfl ?_
      refine Go.iload C X765 (pc' := 209) at_207 rfl rfl ?_
      refine Go.iconst C X765 (pc' := 210) (v := (1 : Int32)) at_209 rfl rfl ?_
      refine Go.iconst C X765 (pc' := 211) (v := (0 : Int32)) at_210 rfl rfl ?_
      refine Go.callS C X765 (pc' := 214) (W := 0) (argsL := [(.ref cp755), (.ref b726), (.ref b731), (.int (1 : Int32)), (.int (2 : Int32)), (.int (1 : Int32)), (.int (0 : Int32))]) (rest := []) (rm_at l Z a0 hw cp755 b726 b731 (1 : Int32) (2 : Int32) (1 : Int32) (0 : Int32) t2755 2 r2755 (fun q => if q = 3 then x3 else (fun q => if q = 2 then x2 else (fun q => if q = 1 then x1 else (fun q => if q = 0 then x0 else (fun _ => 0) q) q) q) q) 2 (fun q => if q = 1 then (((x5).toUInt32 >>> ((1 : Int32) &&& 31).toUInt32).toInt32 &&& (1 : Int32)) else (fun q => if q = 0 then (x5 &&& (1 : Int32)) else (fun _ => 0) q) q) (2 : Int32) h755 n0 X765.sz O755_0 O755_1 O755_2 O755_5 A756 A757 (fun h => absurd h (by decide))) (hw _ (List.mem_of_getElem? (i := 28) rfl)) (hw _ (List.mem_of_getElem? (i := 29) rfl)) (hw _ (List.mem_of_getElem? (i := 30) rfl)) (hw _ (List.mem_of_getElem? (i := 31) rfl)) (by decide) rfl rfl (lenOf own_pd4 rfl) rfl (Nat.le_of_eq rfl) (by decide) (by decide) (by decide) (by decide) at_211 rfl (fun _ _ q => Nat.le_of_eq (congrArg Array.size q.2)) (fun T766 h766 v766 X766 P766 => ?_)
      obtain ⟨rfl, rfl⟩ := P766
      show Go p e below s n0 _ _ _ T766 (mkF m 214 #[.val (.int x0), .val (.int x1), .val (.int x2), .val (.int x3), .val (.int x4), .val (.int x5), .val (.int (2 : Int32)), .val (.int (1 : Int32)), .val (.int ((1 : Int32) * (2 : Int32))), .val (.ref b726), .val (.ref b731), .val (.ref b737), .val (.ref cp755)] [(.int (1 : Int32))])
      refine Go.ifNo C X766 (pc' := 217) at_214 ((if0 _ _).trans (feq (by decide)).1) rfl ?_
      refine Go.aload C X766 (pc' := 219) at_217 rfl rfl rfl ?_
      refine Go.aload C X766 (pc' := 221) at_219 rfl rfl rfl ?_
      refine Go.aload C X766 (pc' := 223) at_221 rfl rfl rfl ?_
      refine Go.iload C X766 (pc' := 225) at_223 rfl rfl ?_
      refine Go.iload C X766 (pc' := 227) at_225 rfl rfl ?_
      refine Go.iconst C X766 (pc' := 228) (v := (1 : Int32)) at_227 rfl rfl ?_
      refine Go.iconst C X766 (pc' := 229) (v := (1 : Int32)) at_228 rfl rfl ?_
      refine Go.callS C X766 (pc' := 232) (W := 0) (argsL := [(.ref cp755), (.ref b726), (.ref b731), (.int (1 : Int32)), (.int (2 : Int32)), (.int (1 : Int32)), (.int (1 : Int32))]) (rest := []) (rm_at l Z a0 hw cp755 b726 b731 (1 : Int32) (2 : Int32) (1 : Int32) (1 : Int32) t2755 2 r2755 (fun q => if q = 3 then x3 else (fun q => if q = 2 then x2 else (fun q => if q = 1 then x1 else (fun q => if q = 0 then x0 else (fun _ => 0) q) q) q) q) 2 (fun q => if q = 1 then (((x5).toUInt32 >>> ((1 : Int32) &&& 31).toUInt32).toInt32 &&& (1 : Int32)) else (fun q => if q = 0 then (x5 &&& (1 : Int32)) else (fun _ => 0) q) q) (2 : Int32) h755 n0 X766.sz O755_0 O755_1 O755_2 O755_5 A756 A757 (fun h => absurd h (by decide))) (hw _ (List.mem_of_getElem? (i := 28) rfl)) (hw _ (List.mem_of_getElem? (i := 29) rfl)) (hw _ (List.mem_of_getElem? (i := 30) rfl)) (hw _ (List.mem_of_getElem? (i := 31) rfl)) (by decide) rfl rfl (lenOf own_pd4 rfl) rfl (Nat.le_of_eq rfl) (by decide) (by decide) (by decide) (by decide) at_229 rfl (fun _ _ q => Nat.le_of_eq (congrArg Array.size q.2)) (fun T767 h767 v767 X767 P767 => ?_)
      obtain ⟨rfl, rfl⟩ := P767
      show Go p e below s n0 _ _ _ T767 (mkF m 232 #[.val (.int x0), .val (.int x1), .val (.int x2), .val (.int x3), .val (.int x4), .val (.int x5), .val (.int (2 : Int32)), .val (.int (1 : Int32)), .val (.int ((1 : Int32) * (2 : Int32))), .val (.ref b726), .val (.ref b731), .val (.ref b737), .val (.ref cp755)] [(.int (1 : Int32))])
      refine Go.ifNo C X767 (pc' := 235) at_232 ((if0 _ _).trans (feq (by decide)).1) rfl ?_
      refine Go.iconst C X767 (pc' := 236) (v := (1 : Int32)) at_235 rfl rfl ?_
      refine Go.goto C X767 (pc' := 240) at_236 (by decide) (by decide) ?_
      exact Go.retZ (t := .boolean) C X767 (z' := (1 : Int32)) (by decide) at_240 rfl (by decide) (by decide)
    · rw [q583]
      refine Go.iload C X0 (pc' := 20) at_18 rfl rfl ?_
      refine Go.iload C X0 (pc' := 22) at_20 rfl rfl ?_
      refine Go.imul C X0 (pc' := 23) at_22 rfl ?_
      refine Go.istore C X0 (pc' := 25) (Ls' := #[.val (.int x0), .val (.int x1), .val (.int x2), .val (.int x3), .val (.int x4), .val (.int x5), .val (.int (2 : Int32)), .val (.int (2 : Int32)), .val (.int ((2 : Int32) * (2 : Int32))), .unset, .unset, .unset, .unset]) at_23 rfl rfl ?_
      refine Go.iconst C X0 (pc' := 26) (v := (4 : Int32)) at_25 rfl rfl ?_
      refine Go.newP C X0 (pc' := 28) (nn := 4) (cap := 4) (hw _ (List.mem_of_getElem? (i := 0) rfl)) at_26 rfl (by decide) (by decide) (by decide) (by decide) rfl (fun T768 h768 b768 k768 X768 g768 E768 Ar768 N768 => ?_)
      have A768 : AI Z h768 b768 .int 4 (fun _ => 0) := AI.new rfl rfl Ar768
      refine Go.dup C X768 (pc' := 29) at_28 rfl rfl ?_
      refine Go.iconst C X768 (pc' := 30) (v := (0 : Int32)) at_29 rfl rfl ?_
      refine Go.iloadN C X768 (pc' := 31) at_30 rfl rfl ?_
      refine Go.iastore C X768 (pc' := 32) (i := 0) (x' := x0) A768 rfl (by decide) rfl N768 at_31 rfl (fun T769 h769 X769 W769 A769 => ?_)
      refine Go.dup C X769 (pc' := 33) at_32 rfl rfl ?_
      refine Go.iconst C X769 (pc' := 34) (v := (1 : Int32)) at_33 rfl rfl ?_
      refine Go.iloadN C X769 (pc' := 35) at_34 rfl rfl ?_
      refine Go.iastore C X769 (pc' := 36) (i := 1) (x' := x1) A769 rfl (by decide) rfl N768 at_35 rfl (fun T770 h770 X770 W770 A770 => ?_)
      refine Go.dup C X770 (pc' := 37) at_36 rfl rfl ?_
      refine Go.iconst C X770 (pc' := 38) (v := (2 : Int32)) at_37 rfl rfl ?_
      refine Go.iloadN C X770 (pc' := 39) at_38 rfl rfl ?_
      refine Go.iastore C X770 (pc' := 40) (i := 2) (x' := x2) A770 rfl (by decide) rfl N768 at_39 rfl (fun T771 h771 X771 W771 A771 => ?_)
      refine Go.dup C X771 (pc' := 41) at_40 rfl rfl ?_
      refine Go.iconst C X771 (pc' := 42) (v := (3 : Int32)) at_41 rfl rfl ?_
      refine Go.iloadN C X771 (pc' := 43) at_42 rfl rfl ?_
      refine Go.iastore C X771 (pc' := 44) (i := 3) (x' := x3) A771 rfl (by decide) rfl N768 at_43 rfl (fun T772 h772 X772 W772 A772 => ?_)
      refine Go.astore C X772 (pc' := 46) (Ls' := #[.val (.int x0), .val (.int x1), .val (.int x2), .val (.int x3), .val (.int x4), .val (.int x5), .val (.int (2 : Int32)), .val (.int (2 : Int32)), .val (.int ((2 : Int32) * (2 : Int32))), .val (.ref b768), .unset, .unset, .unset]) at_44 rfl rfl rfl ?_
      refine Go.iload C X772 (pc' := 48) at_46 rfl rfl ?_
      refine Go.newP C X772 (pc' := 50) (nn := 2) (cap := 2) (hw _ (List.mem_of_getElem? (i := 0) rfl)) at_48 rfl (by decide) (by decide) (by decide) (by decide) rfl (fun T773 h773 b773 k773 X773 g773 E773 Ar773 N773 => ?_)
      have ne_b768_b773 : b768 ≠ b773 := Nat.ne_of_lt (Nat.lt_of_lt_of_eq A772.lt g773.symm)
      have A774 := A772.ext E773
      have A773 : AI Z h773 b773 .int 2 (fun _ => 0) := AI.new rfl rfl Ar773
      refine Go.astore C X773 (pc' := 52) (Ls' := #[.val (.int x0), .val (.int x1), .val (.int x2), .val (.int x3), .val (.int x4), .val (.int x5), .val (.int (2 : Int32)), .val (.int (2 : Int32)), .val (.int ((2 : Int32) * (2 : Int32))), .val (.ref b768), .val (.ref b773), .unset, .unset]) at_50 rfl rfl rfl ?_
      refine Go.iload C X773 (pc' := 54) at_52 rfl rfl ?_
      refine Go.iconst C X773 (pc' := 55) (v := (2 : Int32)) at_54 rfl rfl ?_
      refine Go.icmpNo C X773 (pc' := 58) at_55 (teq (by decide)).2 rfl ?_
      refine Go.aload C X773 (pc' := 60) at_58 rfl rfl rfl ?_
      refine Go.iconst C X773 (pc' := 61) (v := (0 : Int32)) at_60 rfl rfl ?_
      refine Go.iload C X773 (pc' := 63) at_61 rfl rfl ?_
      refine Go.iconst C X773 (pc' := 64) (v := (1 : Int32)) at_63 rfl rfl ?_
      refine Go.iand C X773 (pc' := 65) at_64 rfl ?_
      refine Go.iastore C X773 (pc' := 66) (i := 0) (x' := (x5 &&& (1 : Int32))) A773 rfl (by decide) rfl N773 at_65 rfl (fun T775 h775 X775 W775 A775 => ?_)
      have A776 := A774.other W775 ne_b768_b773
      refine Go.aload C X775 (pc' := 68) at_66 rfl rfl rfl ?_
      refine Go.iconst C X775 (pc' := 69) (v := (1 : Int32)) at_68 rfl rfl ?_
      refine Go.iload C X775 (pc' := 71) at_69 rfl rfl ?_
      refine Go.iconst C X775 (pc' := 72) (v := (1 : Int32)) at_71 rfl rfl ?_
      refine Go.iushr C X775 (pc' := 73) at_72 rfl ?_
      refine Go.iconst C X775 (pc' := 74) (v := (1 : Int32)) at_73 rfl rfl ?_
      refine Go.iand C X775 (pc' := 75) at_74 rfl ?_
      refine Go.iastore C X775 (pc' := 76) (i := 1) (x' := (((x5).toUInt32 >>> ((1 : Int32) &&& 31).toUInt32).toInt32 &&& (1 : Int32))) A775 rfl (by decide) rfl N773 at_75 rfl (fun T777 h777 X777 W777 A777 => ?_)
      have A778 := A776.other W777 ne_b768_b773
      refine Go.goto C X777 (pc' := 84) at_76 (by decide) (by decide) ?_
      refine Go.newO C X777 (pc' := 87) (hw _ (List.mem_of_getElem? (i := 1) rfl)) (hw _ (List.mem_of_getElem? (i := 2) rfl)) (hw _ (List.mem_of_getElem? (i := 3) rfl)) at_84 (by decide) (by decide) rfl (fun T779 h779 b779 X779 g779 E779 Ex779 D779 N779 => ?_)
      have ne_b768_b779 : b768 ≠ b779 := Nat.ne_of_lt (Nat.lt_of_lt_of_eq A778.lt g779.symm)
      have ne_b773_b779 : b773 ≠ b779 := Nat.ne_of_lt (Nat.lt_of_lt_of_eq A777.lt g779.symm)
      have A780 := A778.ext E779
      have A781 := A777.ext E779
      have F782 : Fld Z h779 b779 "com/example/ruleweave/ruleweave/store/Records" "width" "I" (.int (0 : Int32)) := D779 (Or.inr (hw _ (List.mem_of_getElem? (i := 11) rfl))) (ty := .int) (by decide)
      have F783 : Fld Z h779 b779 "com/example/ruleweave/ruleweave/store/Records" "ints" "[I" .null := D779 (Or.inl (hw _ (List.mem_of_getElem? (i := 13) rfl))) (ty := (.array .int)) (by decide)
      have F784 : Fld Z h779 b779 "com/example/ruleweave/ruleweave/store/Records" "size" "I" (.int (0 : Int32)) := D779 (Or.inl (hw _ (List.mem_of_getElem? (i := 22) rfl))) (ty := .int) (by decide)
      refine Go.dup C X779 (pc' := 88) at_87 rfl rfl ?_
      refine Go.iload C X779 (pc' := 90) at_88 rfl rfl ?_
      refine Go.callI C X779 (pc' := 93) (W := 1) (argsL := [(.int (2 : Int32))]) (rest := [(.ref b779)]) (a := b779) (rm_init l Z a0 hw b779 (2 : Int32) 2048 h779 n0 X779.sz Ex779 F782 F783 F784 N779 rfl (by decide)) rfl rfl (hw _ (List.mem_of_getElem? (i := 4) rfl)) (hw _ (List.mem_of_getElem? (i := 5) rfl)) (hw _ (List.mem_of_getElem? (i := 3) rfl)) (hw _ (List.mem_of_getElem? (i := 6) rfl)) (by decide) rfl rfl (lenOf own_pd0 rfl) rfl (Nat.le_of_eq rfl) (by decide) (by decide) (by decide) (by decide) at_90 rfl (fun _ _ q => by obtain ⟨_, _, _, K, _⟩ := q; exact K.1) (fun T785 h785 v785 X785 P785 => ?_)
      obtain ⟨t785, rfl, D785_t, K785, O785_0, O785_1, O785_2, O785_3, O785_4⟩ := P785
      have ne_b768_t785 : b768 ≠ t785 := Nat.ne_of_lt (Nat.lt_of_lt_of_le A780.lt D785_t)
      have ne_b773_t785 : b773 ≠ t785 := Nat.ne_of_lt (Nat.lt_of_lt_of_le A781.lt D785_t)
      have ne_b779_t785 : b779 ≠ t785 := Nat.ne_of_lt (Nat.lt_of_lt_of_le Ex779.lt D785_t)
      have N_t785 : n0 ≤ t785 := Nat.le_trans X779.sz D785_t
      have A786 := A780.keep K785 (ninS ne_b768_b779 nin0)
      have A787 := A781.keep K785 (ninS ne_b773_b779 nin0)
      have E788 := Ex779.keep K785
      show Go p e below s n0 _ _ _ T785 (mkF m 93 #[.val (.int x0), .val (.int x1), .val (.int x2), .val (.int x3), .val (.int x4), .val (.int x5), .val (.int (2 : Int32)), .val (.int (2 : Int32)), .val (.int ((2 : Int32) * (2 : Int32))), .val (.ref b768), .val (.ref b773), .unset, .unset] [(.ref b779)])
      refine Go.astore C X785 (pc' := 95) (Ls' := #[.val (.int x0), .val (.int x1), .val (.int x2), .val (.int x3), .val (.int x4), .val (.int x5), .val (.int (2 : Int32)), .val (.int (2 : Int32)), .val (.int ((2 : Int32) * (2 : Int32))), .val (.ref b768), .val (.ref b773), .val (.ref b779), .unset]) at_93 rfl rfl rfl ?_
      refine Go.iload C X785 (pc' := 97) at_95 rfl rfl ?_
      refine Go.ifNo C X785 (pc' := 100) at_97 ((if0 _ _).trans (tlt (by decide)).2.2.2) rfl ?_
      refine Go.aload C X785 (pc' := 102) at_100 rfl rfl rfl ?_
      refine Go.iloadN C X785 (pc' := 103) at_102 rfl rfl ?_
      refine Go.callV C X785 (pc' := 106) (W := 0) (argsL := [(.int x0)]) (rest := []) (a := b779) (rm_add l Z a0 hw b779 x0 t785 2048 (fun _ => 0) (0 : Int32) 0 (2048 : Int32) (2 : Int32) h785 n0 X785.sz O785_0 O785_1 O785_2 O785_3 N779 N_t785 O785_4 (Ne.symm ne_b779_t785) rfl rfl (by decide)) O785_0 (notFace_of_selects (args := #[]) (mvT C.2.1 (hw _ (List.mem_of_getElem? (i := 35) rfl)))) (hw _ (List.mem_of_getElem? (i := 32) rfl)) (hw _ (List.mem_of_getElem? (i := 33) rfl)) (hw _ (List.mem_of_getElem? (i := 35) rfl)) (hw _ (List.mem_of_getElem? (i := 34) rfl)) (hw _ (List.mem_of_getElem? (i := 3) rfl)) (hw _ (List.mem_of_getElem? (i := 36) rfl)) (by decide) rfl rfl (lenOf own_pd0 rfl) rfl (Nat.le_of_eq rfl) (by decide) (by decide) (by decide) (by decide) at_103 rfl (fun _ _ q => by obtain ⟨_, K, _⟩ := q; exact K.1) (fun T789 h789 v789 X789 P789 => ?_)
      obtain ⟨rfl, K789, O789_0, O789_1, O789_2, O789_3, O789_4⟩ := P789
      have A790 := A786.keep K789 (ninS ne_b768_b779 (ninS ne_b768_t785 nin0))
      have A791 := A787.keep K789 (ninS ne_b773_b779 (ninS ne_b773_t785 nin0))
      have E792 := O785_0.keep K789
      show Go p e below s n0 _ _ _ T789 (mkF m 106 #[.val (.int x0), .val (.int x1), .val (.int x2), .val (.int x3), .val (.int x4), .val (.int x5), .val (.int (2 : Int32)), .val (.int (2 : Int32)), .val (.int ((2 : Int32) * (2 : Int32))), .val (.ref b768), .val (.ref b773), .val (.ref b779), .unset] [])
      refine Go.iload C X789 (pc' := 108) at_106 rfl rfl ?_
      refine Go.iconst C X789 (pc' := 109) (v := (1 : Int32)) at_108 rfl rfl ?_
      refine Go.icmpNo C X789 (pc' := 112) at_109 (tlt (by decide)).2.2.2 rfl ?_
      refine Go.aload C X789 (pc' := 114) at_112 rfl rfl rfl ?_
      refine Go.iloadN C X789 (pc' := 115) at_114 rfl rfl ?_
      refine Go.callV C X789 (pc' := 118) (W := 0) (argsL := [(.int x1)]) (rest := []) (a := b779) (rm_add l Z a0 hw b779 x1 t785 2048 (fun q => if q = 0 then x0 else (fun _ => 0) q) ((0 : Int32) + (1 : Int32)) 1 (2048 : Int32) (2 : Int32) h789 n0 X789.sz O789_0 O789_1 O789_2 O789_3 N779 N_t785 O789_4 (Ne.symm ne_b779_t785) rfl rfl (by decide)) O789_0 (notFace_of_selects (args := #[]) (mvT C.2.1 (hw _ (List.mem_of_getElem? (i := 35) rfl)))) (hw _ (List.mem_of_getElem? (i := 32) rfl)) (hw _ (List.mem_of_getElem? (i := 33) rfl)) (hw _ (List.mem_of_getElem? (i := 35) rfl)) (hw _ (List.mem_of_getElem? (i := 34) rfl)) (hw _ (List.mem_of_getElem? (i := 3) rfl)) (hw _ (List.mem_of_getElem? (i := 36) rfl)) (by decide) rfl rfl (lenOf own_pd0 rfl) rfl (Nat.le_of_eq rfl) (by decide) (by decide) (by decide) (by decide) at_115 rfl (fun _ _ q => by obtain ⟨_, K, _⟩ := q; exact K.1) (fun T793 h793 v793 X793 P793 => ?_)
      obtain ⟨rfl, K793, O793_0, O793_1, O793_2, O793_3, O793_4⟩ := P793
      have A794 := A790.keep K793 (ninS ne_b768_b779 (ninS ne_b768_t785 nin0))
      have A795 := A791.keep K793 (ninS ne_b773_b779 (ninS ne_b773_t785 nin0))
      have E796 := O789_0.keep K793
      show Go p e below s n0 _ _ _ T793 (mkF m 118 #[.val (.int x0), .val (.int x1), .val (.int x2), .val (.int x3), .val (.int x4), .val (.int x5), .val (.int (2 : Int32)), .val (.int (2 : Int32)), .val (.int ((2 : Int32) * (2 : Int32))), .val (.ref b768), .val (.ref b773), .val (.ref b779), .unset] [])
      refine Go.iload C X793 (pc' := 120) at_118 rfl rfl ?_
      refine Go.iconst C X793 (pc' := 121) (v := (2 : Int32)) at_120 rfl rfl ?_
      refine Go.icmpNo C X793 (pc' := 124) at_121 (tlt (by decide)).2.2.2 rfl ?_
      refine Go.aload C X793 (pc' := 126) at_124 rfl rfl rfl ?_
      refine Go.iloadN C X793 (pc' := 127) at_126 rfl rfl ?_
      refine Go.callV C X793 (pc' := 130) (W := 0) (argsL := [(.int x2)]) (rest := []) (a := b779) (rm_add l Z a0 hw b779 x2 t785 2048 (fun q => if q = 1 then x1 else (fun q => if q = 0 then x0 else (fun _ => 0) q) q) (((0 : Int32) + (1 : Int32)) + (1 : Int32)) 2 (2048 : Int32) (2 : Int32) h793 n0 X793.sz O793_0 O793_1 O793_2 O793_3 N779 N_t785 O793_4 (Ne.symm ne_b779_t785) rfl rfl (by decide)) O793_0 (notFace_of_selects (args := #[]) (mvT C.2.1 (hw _ (List.mem_of_getElem? (i := 35) rfl)))) (hw _ (List.mem_of_getElem? (i := 32) rfl)) (hw _ (List.mem_of_getElem? (i := 33) rfl)) (hw _ (List.mem_of_getElem? (i := 35) rfl)) (hw _ (List.mem_of_getElem? (i := 34) rfl)) (hw _ (List.mem_of_getElem? (i := 3) rfl)) (hw _ (List.mem_of_getElem? (i := 36) rfl)) (by decide) rfl rfl (lenOf own_pd0 rfl) rfl (Nat.le_of_eq rfl) (by decide) (by decide) (by decide) (by decide) at_127 rfl (fun _ _ q => by obtain ⟨_, K, _⟩ := q; exact K.1) (fun T797 h797 v797 X797 P797 => ?_)
      obtain ⟨rfl, K797, O797_0, O797_1, O797_2, O797_3, O797_4⟩ := P797
      have A798 := A794.keep K797 (ninS ne_b768_b779 (ninS ne_b768_t785 nin0))
      have A799 := A795.keep K797 (ninS ne_b773_b779 (ninS ne_b773_t785 nin0))
      have E800 := O793_0.keep K797
      show Go p e below s n0 _ _ _ T797 (mkF m 130 #[.val (.int x0), .val (.int x1), .val (.int x2), .val (.int x3), .val (.int x4), .val (.int x5), .val (.int (2 : Int32)), .val (.int (2 : Int32)), .val (.int ((2 : Int32) * (2 : Int32))), .val (.ref b768), .val (.ref b773), .val (.ref b779), .unset] [])
      refine Go.iload C X797 (pc' := 132) at_130 rfl rfl ?_
      refine Go.iconst C X797 (pc' := 133) (v := (3 : Int32)) at_132 rfl rfl ?_
      refine Go.icmpNo C X797 (pc' := 136) at_133 (tlt (by decide)).2.2.2 rfl ?_
      refine Go.aload C X797 (pc' := 138) at_136 rfl rfl rfl ?_
      refine Go.iloadN C X797 (pc' := 139) at_138 rfl rfl ?_
      refine Go.callV C X797 (pc' := 142) (W := 0) (argsL := [(.int x3)]) (rest := []) (a := b779) (rm_add l Z a0 hw b779 x3 t785 2048 (fun q => if q = 2 then x2 else (fun q => if q = 1 then x1 else (fun q => if q = 0 then x0 else (fun _ => 0) q) q) q) ((((0 : Int32) + (1 : Int32)) + (1 : Int32)) + (1 : Int32)) 3 (2048 : Int32) (2 : Int32) h797 n0 X797.sz O797_0 O797_1 O797_2 O797_3 N779 N_t785 O797_4 (Ne.symm ne_b779_t785) rfl rfl (by decide)) O797_0 (notFace_of_selects (args := #[]) (mvT C.2.1 (hw _ (List.mem_of_getElem? (i := 35) rfl)))) (hw _ (List.mem_of_getElem? (i := 32) rfl)) (hw _ (List.mem_of_getElem? (i := 33) rfl)) (hw _ (List.mem_of_getElem? (i := 35) rfl)) (hw _ (List.mem_of_getElem? (i := 34) rfl)) (hw _ (List.mem_of_getElem? (i := 3) rfl)) (hw _ (List.mem_of_getElem? (i := 36) rfl)) (by decide) rfl rfl (lenOf own_pd0 rfl) rfl (Nat.le_of_eq rfl) (by decide) (by decide) (by decide) (by decide) at_139 rfl (fun _ _ q => by obtain ⟨_, K, _⟩ := q; exact K.1) (fun T801 h801 v801 X801 P801 => ?_)
      obtain ⟨rfl, K801, O801_0, O801_1, O801_2, O801_3, O801_4⟩ := P801
      have A802 := A798.keep K801 (ninS ne_b768_b779 (ninS ne_b768_t785 nin0))
      have A803 := A799.keep K801 (ninS ne_b773_b779 (ninS ne_b773_t785 nin0))
      have E804 := O797_0.keep K801
      show Go p e below s n0 _ _ _ T801 (mkF m 142 #[.val (.int x0), .val (.int x1), .val (.int x2), .val (.int x3), .val (.int x4), .val (.int x5), .val (.int (2 : Int32)), .val (.int (2 : Int32)), .val (.int ((2 : Int32) * (2 : Int32))), .val (.ref b768), .val (.ref b773), .val (.ref b779), .unset] [])
      refine Go.aload C X801 (pc' := 144) at_142 rfl rfl rfl ?_
      refine Go.aload C X801 (pc' := 146) at_144 rfl rfl rfl ?_
      refine Go.callV C X801 (pc' := 149) (W := 0) (argsL := [(.ref b773)]) (rest := []) (a := b779) (rm_re_2_2 l Z a0 hw b779 b773 t785 2048 (fun q => if q = 3 then x3 else (fun q => if q = 2 then x2 else (fun q => if q = 1 then x1 else (fun q => if q = 0 then x0 else (fun _ => 0) q) q) q) q) (fun q => if q = 1 then (((x5).toUInt32 >>> ((1 : Int32) &&& 31).toUInt32).toInt32 &&& (1 : Int32)) else (fun q => if q = 0 then (x5 &&& (1 : Int32)) else (fun _ => 0) q) q) ((x5 &&& (1 : Int32)).toInt.toNat) ((((x5).toUInt32 >>> ((1 : Int32) &&& 31).toUInt32).toInt32 &&& (1 : Int32)).toInt.toNat) h801 n0 X801.sz O801_0 O801_1 O801_2 O801_3 O801_4 A803 (by decide) (own_p (x5)).1 (own_p (((x5).toUInt32 >>> ((1 : Int32) &&& 31).toUInt32).toInt32)).1 (own_p (x5)).2 (own_p (((x5).toUInt32 >>> ((1 : Int32) &&& 31).toUInt32).toInt32)).2) O801_0 (notFace_of_selects (args := #[]) (mvT C.2.1 (hw _ (List.mem_of_getElem? (i := 17) rfl)))) (hw _ (List.mem_of_getElem? (i := 14) rfl)) (hw _ (List.mem_of_getElem? (i := 15) rfl)) (hw _ (List.mem_of_getElem? (i := 17) rfl)) (hw _ (List.mem_of_getElem? (i := 16) rfl)) (hw _ (List.mem_of_getElem? (i := 3) rfl)) (hw _ (List.mem_of_getElem? (i := 18) rfl)) (by decide) rfl rfl (lenOf own_pd2 rfl) rfl (Nat.le_of_eq rfl) (by decide) (by decide) (by decide) (by decide) at_146 rfl (fun _ _ q => by obtain ⟨_, _, _, _, _, _, K, _⟩ := q; exact K.1) (fun T805 h805 v805 X805 P805 => ?_)
      obtain ⟨cp805, t2805, r2805, rfl, D805_cp, D805_t2, K805, O805_0, O805_1, O805_2, O805_3, O805_4, O805_5, Y805_0, Y805_1, Y805_2, Y805_3⟩ := P805
      have ne_b768_cp805 : b768 ≠ cp805 := Nat.ne_of_lt (Nat.lt_of_lt_of_le A802.lt D805_cp)
      have ne_b773_cp805 : b773 ≠ cp805 := Nat.ne_of_lt (Nat.lt_of_lt_of_le A803.lt D805_cp)
      have ne_b779_cp805 : b779 ≠ cp805 := Nat.ne_of_lt (Nat.lt_of_lt_of_le O801_0.lt D805_cp)
      have ne_t785_cp805 : t785 ≠ cp805 := Nat.ne_of_lt (Nat.lt_of_lt_of_le O801_4.lt D805_cp)
      have N_cp805 : n0 ≤ cp805 := Nat.le_trans X801.sz D805_cp
      have ne_b768_t2805 : b768 ≠ t2805 := Nat.ne_of_lt (Nat.lt_of_lt_of_le A802.lt D805_t2)
      have ne_b773_t2805 : b773 ≠ t2805 := Nat.ne_of_lt (Nat.lt_of_lt_of_le A803.lt D805_t2)
      have ne_b779_t2805 : b779 ≠ t2805 := Nat.ne_of_lt (Nat.lt_of_lt_of_le O801_0.lt D805_t2)
      have ne_t785_t2805 : t785 ≠ t2805 := Nat.ne_of_lt (Nat.lt_of_lt_of_le O801_4.lt D805_t2)
      have N_t2805 : n0 ≤ t2805 := Nat.le_trans X801.sz D805_t2
      have A806 := A802.keep K805 nin0
      have A807 := A803.keep K805 nin0
      have E808 := O801_0.keep K805
      have F809 := O801_1.keep K805 nin0
      have F810 := O801_2.keep K805 nin0
      have F811 := O801_3.keep K805 nin0
      have A812 := O801_4.keep K805 nin0
      show Go p e below s n0 _ _ _ T805 (mkF m 149 #[.val (.int x0), .val (.int x1), .val (.int x2), .val (.int x3), .val (.int x4), .val (.int x5), .val (.int (2 : Int32)), .val (.int (2 : Int32)), .val (.int ((2 : Int32) * (2 : Int32))), .val (.ref b768), .val (.ref b773), .val (.ref b779), .unset] [(.ref cp805)])
      refine Go.astore C X805 (pc' := 151) (Ls' := #[.val (.int x0), .val (.int x1), .val (.int x2), .val (.int x3), .val (.int x4), .val (.int x5), .val (.int (2 : Int32)), .val (.int (2 : Int32)), .val (.int ((2 : Int32) * (2 : Int32))), .val (.ref b768), .val (.ref b773), .val (.ref b779), .val (.ref cp805)]) at_149 rfl rfl rfl ?_
      refine Go.aload C X805 (pc' := 153) at_151 rfl rfl rfl ?_
      refine Go.callV C X805 (pc' := 156) (W := 0) (argsL := []) (rest := []) (a := cp805) (rm_cnt l Z a0 hw cp805 (4 : Int32) (2 : Int32) h805 n0 X805.sz O805_1 O805_3 (by decide)) O805_0 (notFace_of_selects (args := #[]) (mvT C.2.1 (hw _ (List.mem_of_getElem? (i := 26) rfl)))) (hw _ (List.mem_of_getElem? (i := 23) rfl)) (hw _ (List.mem_of_getElem? (i := 24) rfl)) (hw _ (List.mem_of_getElem? (i := 26) rfl)) (hw _ (List.mem_of_getElem? (i := 25) rfl)) (hw _ (List.mem_of_getElem? (i := 3) rfl)) (hw _ (List.mem_of_getElem? (i := 27) rfl)) (by decide) rfl rfl (lenOf own_pd3 rfl) rfl (Nat.le_of_eq rfl) (by decide) (by decide) (by decide) (by decide) at_153 rfl (fun _ _ q => Nat.le_of_eq (congrArg Array.size q.2)) (fun T813 h813 v813 X813 P813 => ?_)
      obtain ⟨rfl, rfl⟩ := P813
      show Go p e below s n0 _ _ _ T813 (mkF m 156 #[.val (.int x0), .val (.int x1), .val (.int x2), .val (.int x3), .val (.int x4), .val (.int x5), .val (.int (2 : Int32)), .val (.int (2 : Int32)), .val (.int ((2 : Int32) * (2 : Int32))), .val (.ref b768), .val (.ref b773), .val (.ref b779), .val (.ref cp805)] [(.int ((4 : Int32) / (2 : Int32)))])
      refine Go.iload C X813 (pc' := 158) at_156 rfl rfl ?_
      refine Go.icmpYes C X813 (pc' := 163) at_158 (teq (by decide)).1 (by decide) (by decide) ?_
      refine Go.aload C X813 (pc' := 165) at_163 rfl rfl rfl ?_
      refine Go.aload C X813 (pc' := 167) at_165 rfl rfl rfl ?_
      refine Go.aload C X813 (pc' := 169) at_167 rfl rfl rfl ?_
      refine Go.iload C X813 (pc' := 171) at_169 rfl rfl ?_
      refine Go.iload C X813 (pc' := 173) at_171 rfl rfl ?_
      refine Go.iconst C X813 (pc' := 174) (v := (0 : Int32)) at_173 rfl rfl ?_
      refine Go.iconst C X813 (pc' := 175) (v := (0 : Int32)) at_174 rfl rfl ?_
      refine Go.callS C X813 (pc' := 178) (W := 0) (argsL := [(.ref cp805), (.ref b768), (.ref b773), (.int (2 : Int32)), (.int (2 : Int32)), (.int (0 : Int32)), (.int (0 : Int32))]) (rest := []) (rm_at l Z a0 hw cp805 b768 b773 (2 : Int32) (2 : Int32) (0 : Int32) (0 : Int32) t2805 4 r2805 (fun q => if q = 3 then x3 else (fun q => if q = 2 then x2 else (fun q => if q = 1 then x1 else (fun q => if q = 0 then x0 else (fun _ => 0) q) q) q) q) 2 (fun q => if q = 1 then (((x5).toUInt32 >>> ((1 : Int32) &&& 31).toUInt32).toInt32 &&& (1 : Int32)) else (fun q => if q = 0 then (x5 &&& (1 : Int32)) else (fun _ => 0) q) q) (2 : Int32) h805 n0 X813.sz O805_0 O805_1 O805_2 O805_5 A806 A807 (fun _ _ => ⟨0, 0, 0 + (x5 &&& (1 : Int32)).toInt.toNat, rfl, by decide, rfl, by decide, own_ai (i := 0) rfl (own_p (x5)).1 (by decide) (by have := (own_p (x5)).2; omega), (by have := (own_p (x5)).2; omega), Y805_0.trans (own_v4_0 _ _ _ _ (own_p (x5)).2)⟩)) (hw _ (List.mem_of_getElem? (i := 28) rfl)) (hw _ (List.mem_of_getElem? (i := 29) rfl)) (hw _ (List.mem_of_getElem? (i := 30) rfl)) (hw _ (List.mem_of_getElem? (i := 31) rfl)) (by decide) rfl rfl (lenOf own_pd4 rfl) rfl (Nat.le_of_eq rfl) (by decide) (by decide) (by decide) (by decide) at_175 rfl (fun _ _ q => Nat.le_of_eq (congrArg Array.size q.2)) (fun T814 h814 v814 X814 P814 => ?_)
      obtain ⟨rfl, rfl⟩ := P814
      show Go p e below s n0 _ _ _ T814 (mkF m 178 #[.val (.int x0), .val (.int x1), .val (.int x2), .val (.int x3), .val (.int x4), .val (.int x5), .val (.int (2 : Int32)), .val (.int (2 : Int32)), .val (.int ((2 : Int32) * (2 : Int32))), .val (.ref b768), .val (.ref b773), .val (.ref b779), .val (.ref cp805)] [(.int (1 : Int32))])
      refine Go.ifNo C X814 (pc' := 181) at_178 ((if0 _ _).trans (feq (by decide)).1) rfl ?_
      refine Go.aload C X814 (pc' := 183) at_181 rfl rfl rfl ?_
      refine Go.aload C X814 (pc' := 185) at_183 rfl rfl rfl ?_
      refine Go.aload C X814 (pc' := 187) at_185 rfl rfl rfl ?_
      refine Go.iload C X814 (pc' := 189) at_187 rfl rfl ?_
      refine Go.iload C X814 (pc' := 191) at_189 rfl rfl ?_
      refine Go.iconst C X814 (pc' := 192) (v := (0 : Int32)) at_191 rfl rfl ?_
      refine Go.iconst C X814 (pc' := 193) (v := (1 : Int32)) at_192 rfl rfl ?_
      refine Go.callS C X814 (pc' := 196) (W := 0) (argsL := [(.ref cp805), (.ref b768), (.ref b773), (.int (2 : Int32)), (.int (2 : Int32)), (.int (0 : Int32)), (.int (1 : Int32))]) (rest := []) (rm_at l Z a0 hw cp805 b768 b773 (2 : Int32) (2 : Int32) (0 : Int32) (1 : Int32) t2805 4 r2805 (fun q => if q = 3 then x3 else (fun q => if q = 2 then x2 else (fun q => if q = 1 then x1 else (fun q => if q = 0 then x0 else (fun _ => 0) q) q) q) q) 2 (fun q => if q = 1 then (((x5).toUInt32 >>> ((1 : Int32) &&& 31).toUInt32).toInt32 &&& (1 : Int32)) else (fun q => if q = 0 then (x5 &&& (1 : Int32)) else (fun _ => 0) q) q) (2 : Int32) h805 n0 X814.sz O805_0 O805_1 O805_2 O805_5 A806 A807 (fun _ _ => ⟨1, 1, 0 + (((x5).toUInt32 >>> ((1 : Int32) &&& 31).toUInt32).toInt32 &&& (1 : Int32)).toInt.toNat, rfl, by decide, rfl, by decide, own_ai (i := 0) rfl (own_p (((x5).toUInt32 >>> ((1 : Int32) &&& 31).toUInt32).toInt32)).1 (by decide) (by have := (own_p (((x5).toUInt32 >>> ((1 : Int32) &&& 31).toUInt32).toInt32)).2; omega), (by have := (own_p (((x5).toUInt32 >>> ((1 : Int32) &&& 31).toUInt32).toInt32)).2; omega), Y805_1.trans (own_v4_0 _ _ _ _ (own_p (((x5).toUInt32 >>> ((1 : Int32) &&& 31).toUInt32).toInt32)).2)⟩)) (hw _ (List.mem_of_getElem? (i := 28) rfl)) (hw _ (List.mem_of_getElem? (i := 29) rfl)) (hw _ (List.mem_of_getElem? (i := 30) rfl)) (hw _ (List.mem_of_getElem? (i := 31) rfl)) (by decide) rfl rfl (lenOf own_pd4 rfl) rfl (Nat.le_of_eq rfl) (by decide) (by decide) (by decide) (by decide) at_193 rfl (fun _ _ q => Nat.le_of_eq (congrArg Array.size q.2)) (fun T815 h815 v815 X815 P815 => ?_)
      obtain ⟨rfl, rfl⟩ := P815
      show Go p e below s n0 _ _ _ T815 (mkF m 196 #[.val (.int x0), .val (.int x1), .val (.int x2), .val (.int x3), .val (.int x4), .val (.int x5), .val (.int (2 : Int32)), .val (.int (2 : Int32)), .val (.int ((2 : Int32) * (2 : Int32))), .val (.ref b768), .val (.ref b773), .val (.ref b779), .val (.ref cp805)] [(.int (1 : Int32))])
      refine Go.ifNo C X815 (pc' := 199) at_196 ((if0 _ _).trans (feq (by decide)).1) rfl ?_
      refine Go.aload C X815 (pc' := 201) at_199 rfl rfl rfl ?_
      refine Go.aload C X815 (pc' := 203) at_201 rfl rfl rfl ?_
      refine Go.aload C X815 (pc' := 205) at_203 rfl rfl rfl ?_
      refine Go.iload C X815 (pc' := 207) at_205 rfl rfl ?_
      refine Go.iload C X815 (pc' := 209) at_207 rfl rfl ?_
      refine Go.iconst C X815 (pc' := 210) (v := (1 : Int32)) at_209 rfl rfl ?_
      refine Go.iconst C X815 (pc' := 211) (v := (0 : Int32)) at_210 rfl rfl ?_
      refine Go.callS C X815 (pc' := 214) (W := 0) (argsL := [(.ref cp805), (.ref b768), (.ref b773), (.int (2 : Int32)), (.int (2 : Int32)), (.int (1 : Int32)), (.int (0 : Int32))]) (rest := []) (rm_at l Z a0 hw cp805 b768 b773 (2 : Int32) (2 : Int32) (1 : Int32) (0 : Int32) t2805 4 r2805 (fun q => if q = 3 then x3 else (fun q => if q = 2 then x2 else (fun q => if q = 1 then x1 else (fun q => if q = 0 then x0 else (fun _ => 0) q) q) q) q) 2 (fun q => if q = 1 then (((x5).toUInt32 >>> ((1 : Int32) &&& 31).toUInt32).toInt32 &&& (1 : Int32)) else (fun q => if q = 0 then (x5 &&& (1 : Int32)) else (fun _ => 0) q) q) (2 : Int32) h805 n0 X815.sz O805_0 O805_1 O805_2 O805_5 A806 A807 (fun _ _ => ⟨2, 0, 2 + (x5 &&& (1 : Int32)).toInt.toNat, rfl, by decide, rfl, by decide, own_ai (i := 2) rfl (own_p (x5)).1 (by decide) (by have := (own_p (x5)).2; omega), (by have := (own_p (x5)).2; omega), Y805_2.trans (own_v4_2 _ _ _ _ (own_p (x5)).2)⟩)) (hw _ (List.mem_of_getElem? (i := 28) rfl)) (hw _ (List.mem_of_getElem? (i := 29) rfl)) (hw _ (List.mem_of_getElem? (i := 30) rfl)) (hw _ (List.mem_of_getElem? (i := 31) rfl)) (by decide) rfl rfl (lenOf own_pd4 rfl) rfl (Nat.le_of_eq rfl) (by decide) (by decide) (by decide) (by decide) at_211 rfl (fun _ _ q => Nat.le_of_eq (congrArg Array.size q.2)) (fun T816 h816 v816 X816 P816 => ?_)
      obtain ⟨rfl, rfl⟩ := P816
      show Go p e below s n0 _ _ _ T816 (mkF m 214 #[.val (.int x0), .val (.int x1), .val (.int x2), .val (.int x3), .val (.int x4), .val (.int x5), .val (.int (2 : Int32)), .val (.int (2 : Int32)), .val (.int ((2 : Int32) * (2 : Int32))), .val (.ref b768), .val (.ref b773), .val (.ref b779), .val (.ref cp805)] [(.int (1 : Int32))])
      refine Go.ifNo C X816 (pc' := 217) at_214 ((if0 _ _).trans (feq (by decide)).1) rfl ?_
      refine Go.aload C X816 (pc' := 219) at_217 rfl rfl rfl ?_
      refine Go.aload C X816 (pc' := 221) at_219 rfl rfl rfl ?_
      refine Go.aload C X816 (pc' := 223) at_221 rfl rfl rfl ?_
      refine Go.iload C X816 (pc' := 225) at_223 rfl rfl ?_
      refine Go.iload C X816 (pc' := 227) at_225 rfl rfl ?_
      refine Go.iconst C X816 (pc' := 228) (v := (1 : Int32)) at_227 rfl rfl ?_
      refine Go.iconst C X816 (pc' := 229) (v := (1 : Int32)) at_228 rfl rfl ?_
      refine Go.callS C X816 (pc' := 232) (W := 0) (argsL := [(.ref cp805), (.ref b768), (.ref b773), (.int (2 : Int32)), (.int (2 : Int32)), (.int (1 : Int32)), (.int (1 : Int32))]) (rest := []) (rm_at l Z a0 hw cp805 b768 b773 (2 : Int32) (2 : Int32) (1 : Int32) (1 : Int32) t2805 4 r2805 (fun q => if q = 3 then x3 else (fun q => if q = 2 then x2 else (fun q => if q = 1 then x1 else (fun q => if q = 0 then x0 else (fun _ => 0) q) q) q) q) 2 (fun q => if q = 1 then (((x5).toUInt32 >>> ((1 : Int32) &&& 31).toUInt32).toInt32 &&& (1 : Int32)) else (fun q => if q = 0 then (x5 &&& (1 : Int32)) else (fun _ => 0) q) q) (2 : Int32) h805 n0 X816.sz O805_0 O805_1 O805_2 O805_5 A806 A807 (fun _ _ => ⟨3, 1, 2 + (((x5).toUInt32 >>> ((1 : Int32) &&& 31).toUInt32).toInt32 &&& (1 : Int32)).toInt.toNat, rfl, by decide, rfl, by decide, own_ai (i := 2) rfl (own_p (((x5).toUInt32 >>> ((1 : Int32) &&& 31).toUInt32).toInt32)).1 (by decide) (by have := (own_p (((x5).toUInt32 >>> ((1 : Int32) &&& 31).toUInt32).toInt32)).2; omega), (by have := (own_p (((x5).toUInt32 >>> ((1 : Int32) &&& 31).toUInt32).toInt32)).2; omega), Y805_3.trans (own_v4_2 _ _ _ _ (own_p (((x5).toUInt32 >>> ((1 : Int32) &&& 31).toUInt32).toInt32)).2)⟩)) (hw _ (List.mem_of_getElem? (i := 28) rfl)) (hw _ (List.mem_of_getElem? (i := 29) rfl)) (hw _ (List.mem_of_getElem? (i := 30) rfl)) (hw _ (List.mem_of_getElem? (i := 31) rfl)) (by decide) rfl rfl (lenOf own_pd4 rfl) rfl (Nat.le_of_eq rfl) (by decide) (by decide) (by decide) (by decide) at_229 rfl (fun _ _ q => Nat.le_of_eq (congrArg Array.size q.2)) (fun T817 h817 v817 X817 P817 => ?_)
      obtain ⟨rfl, rfl⟩ := P817
      show Go p e below s n0 _ _ _ T817 (mkF m 232 #[.val (.int x0), .val (.int x1), .val (.int x2), .val (.int x3), .val (.int x4), .val (.int x5), .val (.int (2 : Int32)), .val (.int (2 : Int32)), .val (.int ((2 : Int32) * (2 : Int32))), .val (.ref b768), .val (.ref b773), .val (.ref b779), .val (.ref cp805)] [(.int (1 : Int32))])
      refine Go.ifNo C X817 (pc' := 235) at_232 ((if0 _ _).trans (feq (by decide)).1) rfl ?_
      refine Go.iconst C X817 (pc' := 236) (v := (1 : Int32)) at_235 rfl rfl ?_
      refine Go.goto C X817 (pc' := 240) at_236 (by decide) (by decide) ?_
      exact Go.retZ (t := .boolean) C X817 (z' := (1 : Int32)) (by decide) at_240 rfl (by decide) (by decide)
set_option maxRecDepth 65536 in
set_option maxHeartbeats 40000000 in
theorem comes_1 {Post : Tables → Env → Array Value → State → Outcome → State → Prop} (hpost : ∀ tb e args s v u, (limb_1_1.after args s (.returned v) u = true ∧ limb_1_2.after args s (.returned v) u = true ∧ True) → FrameEnd s (.returned v) u (Jvm.fieldLocs frame_1_writes args s ++ Jvm.arrayLocs frame_1_arrays args s ++ Jvm.staticLocs frame_1_statics s) 24 8320 → Post tb e args s (.returned v) u) :
    ArmFor flags0 classFile x code maxLocals ret World_1 tables_1 room_1 Calls_1 rest_1 Pre_1 Post := by
  intro l hfl _ _ p e ha hc hk s m args below hf hA hF happ hP
  obtain ⟨hcalls, hrest, hpre⟩ := hP
  obtain ⟨-, -, -, hnamed, -, -, -, hat⟩ := (Spec.applies_iff hf).mp happ
  obtain ⟨hg, hn⟩ := and_e (Cond.before_iff.mp (show (Jvm.Cond.and given_1 narrow_1).before args s = true from hpre))
  obtain ⟨hcount, hg0⟩ := and_e hg
  obtain ⟨w0, w1, w2, w3, w4, w5, rfl⟩ : ∃ w0 w1 w2 w3 w4 w5 : Value, args = #[w0, w1, w2, w3, w4, w5] := by
    have hs : args.size = 6 := by simpa [Cond.value, given_1] using hcount
    obtain ⟨L⟩ := args
    match L, hs with
    | [w0, w1, w2, w3, w4, w5], _ => exact ⟨w0, w1, w2, w3, w4, w5, rfl⟩
  have hw := fun d (hd : d ∈ tables_1) => atoms_spec (ws := Jvm.Cond.code x code maxLocals ret :: tables_1) hat d (List.mem_cons_of_mem _ hd)
  have hfit : Fit s := fun {y c} hc i hi => by
    obtain ⟨ha, rfl⟩ := Array.getElem?_eq_some_iff.mp hc
    have q := List.all_eq_true.mp ((Array.all_eq_true_iff_forall_mem.mp hF) _ (Array.getElem_mem ha)) i (List.mem_range.mpr hi)
    simpa [Array.getElem?_eq_getElem hi] using q
  obtain ⟨ha0, hg1⟩ := and_e hg0
  obtain ⟨i0, e0⟩ := is_v ha0
  obtain rfl : w0 = (.int i0) := Option.some.inj e0
  obtain ⟨ha1, hg2⟩ := and_e hg1
  obtain ⟨i1, e1⟩ := is_v ha1
  obtain rfl : w1 = (.int i1) := Option.some.inj e1
  obtain ⟨ha2, hg3⟩ := and_e hg2
  obtain ⟨i2, e2⟩ := is_v ha2
  obtain rfl : w2 = (.int i2) := Option.some.inj e2
  obtain ⟨ha3, hg4⟩ := and_e hg3
  obtain ⟨i3, e3⟩ := is_v ha3
  obtain rfl : w3 = (.int i3) := Option.some.inj e3
  obtain ⟨ha4, hg5⟩ := and_e hg4
  obtain ⟨i4, e4⟩ := is_v ha4
  obtain rfl : w4 = (.int i4) := Option.some.inj e4
  obtain ⟨i5, e5⟩ := is_v hg5
  obtain rfl : w5 = (.int i5) := Option.some.inj e5
  obtain ⟨n, o, h1, h2, h3, _, L, rfl, ⟨rfl, N⟩, hq⟩ := rm0 l s _ hw i0 i1 i2 i3 i4 i5 s.heap s.heap.size (Nat.le_refl _)  tables_1 p e ha hc hk s m _ below hf ((Spec.applies_iff_loose hf).mp happ).1 ⟨rfl, State.Warmed39.refl s, rfl⟩ trivial
  refine ⟨n, _, h1, h2, h3, hpost _ _ _ _ _ _ ⟨Cond.after_iff.mpr rfl, Cond.after_iff.mpr (eq_i res_at (Term.int_eval (1)) rfl), trivial⟩ ⟨hq.1, hq.2.1, (hq.2.2.sift fun y hy => Or.inr (N y hy)).mono (by decide) (by decide)⟩⟩
theorem main_1_1 : Claimed_1_1 := comes_1 fun _ _ _ _ _ _ h hF => ⟨h.1, hF⟩
theorem main_1_2 : Claimed_1_2 := comes_1 fun _ _ _ _ _ _ h hF => ⟨h.2.1, hF⟩
end Jvm.Pilot.@@N@@
namespace Jvm.Pilot.@@N@@
open Jvm Jvm.ClassFile Sem Op Lib Jvm.Free Jvm.Stand Jvm.Pilot.@@N@@.Jvm.D
/-! MADE BY PROGRAM (witnessworld.py) out of the Statement's table words and the real class files: 9 classes; the members and pool entries that the words name. The judged class is class 1, her method 1. -/
namespace start1
open Jvm.ClassFile
def u (s : String) : CpInfo := .utf8 (stringToUtf16 s)
/-- a pool by its gaps: so many unusable entries, then the entry; so many at the end -/
def gap : Nat → List CpInfo → List CpInfo
  | 0, r => r
  | n + 1, r => .unusable :: gap n r
def poolList (es : List (Nat × CpInfo)) (last : Nat) : List CpInfo := es.foldr (fun e r => gap e.1 (e.2 :: r)) (gap last [])
def pool (es : List (Nat × CpInfo)) (last : Nat) : Array CpInfo := ⟨poolList es last⟩
def fileOf (pool : Array CpInfo) (this : Nat) (attrs : Array Attribute := #[]) (ms : Array MethodInfo := #[]) (fl : Nat := 33) (sup : Nat := 0) (ifs : Array Nat := #[]) (fds : Array FieldInfo := #[]) : ClassFile where
  minorVersion := 0
  majorVersion := 65
  constantPool := pool
  accessFlags := fl
  thisClass := this
  superClass := sup
  interfaces := ifs
  fields := fds
  methods := ms
  attributes := attrs
def plain (name : String) (sup : Option ClassId) : Class where
  name := name
  kind := .ordinary
  loader := none
  accessFlags := 33
  super := sup
  interfaces := #[]
  cf := none
  fields := #[]
  methods := #[]
  instanceTypes := #[]
  staticTypes := #[]
  resolved := #[]
  callSites := []
  init := .initialized
  statics := none
  mirror := none

def pool0 : Array CpInfo := pool [(5, u "<init>"), (0, u "()V"), (1, .class_ 10), (1, u "java/lang/Object")] 113

def k0c0 : Code := { maxStack := 0, maxLocals := 1, code := object_method_1_code, exceptionTable := #[], attributes := #[] }
def k0m0 : Method := { name := "<init>", desc := "()V", sig := { parameters := [], returnType := none }, accessFlags := 1, code := some k0c0 }
/-- java/lang/Object -/
def k0 : Class := { plain "java/lang/Object" none with
  accessFlags := 33
  interfaces := #[]
  cf := some (fileOf pool0 8 #[] #[{ accessFlags := 1, nameIndex := 5, descriptorIndex := 6, attributes := #[] }] 33 0 #[] #[])
  fields := #[]
  methods := #[k0m0]
  instanceTypes := #[]
  staticTypes := #[]
  resolved := Array.replicate 124 none
  statics := none }

def pool1 : Array CpInfo := pool [(2, .class_ 4), (1, u "java/lang/Object"), (0, u "<init>"), (0, u "()V"), (0, .class_ 8), (0, u "com/example/ruleweave/ruleweave/store/Records"), (0, .methodref 7 10), (0, .nameAndType 5 11), (0, u "(I)V"), (0, .methodref 7 13), (0, .nameAndType 14 11), (0, u "add"), (0, .methodref 7 16), (0, .nameAndType 17 18), (0, u "rearranged"), (0, u "([I)Lcom/example/ruleweave/ruleweave/store/Records;"), (0, .methodref 7 20), (0, .nameAndType 21 22), (0, u "count"), (0, u "()I"), (0, .methodref 24 25), (0, .class_ 26), (0, .nameAndType 27 28), (0, u "com/example/ruleweave/ruleweave/store/RecordsRearrangedPinLaw"), (0, u "at"), (0, u "(Lcom/example/ruleweave/ruleweave/store/Records;[I[IIIII)Z"), (0, .methodref 7 30), (0, .nameAndType 31 32), (0, u "get"), (0, u "(II)I"), (2, u "law"), (0, u "(IIIIII)Z")] 5

def k1m0 : Method := { name := "<init>", desc := "()V", sig := { parameters := [], returnType := none }, accessFlags := 1, code := none }
def k1c1 : Code := { maxStack := 7, maxLocals := 13, code := code, exceptionTable := #[], attributes := #[] }
def k1m1 : Method := { name := "law", desc := "(IIIIII)Z", sig := { parameters := [.int, .int, .int, .int, .int, .int], returnType := some .boolean }, accessFlags := 9, code := some k1c1 }
def k1c2 : Code := { maxStack := 5, maxLocals := 7, code := method_3_code, exceptionTable := #[], attributes := #[] }
def k1m2 : Method := { name := "at", desc := "(Lcom/example/ruleweave/ruleweave/store/Records;[I[IIIII)Z", sig := { parameters := [(.object "com/example/ruleweave/ruleweave/store/Records"), (.array .int), (.array .int), .int, .int, .int, .int], returnType := some .boolean }, accessFlags := 10, code := some k1c2 }
/-- com/example/ruleweave/ruleweave/store/RecordsRearrangedPinLaw -/
def k1 : Class := { plain "com/example/ruleweave/ruleweave/store/RecordsRearrangedPinLaw" (some 0) with
  accessFlags := 49
  interfaces := #[]
  cf := some (fileOf pool1 24 #[] #[{ accessFlags := 1, nameIndex := 5, descriptorIndex := 6, attributes := #[] }, { accessFlags := 9, nameIndex := 35, descriptorIndex := 36, attributes := #[] }, { accessFlags := 10, nameIndex := 27, descriptorIndex := 28, attributes := #[] }] 49 2 #[] #[])
  fields := #[]
  methods := #[k1m0, k1m1, k1m2]
  instanceTypes := #[]
  staticTypes := #[]
  resolved := Array.replicate 42 none
  statics := none }

def pool2 : Array CpInfo := pool [(3, .methodref 4 5), (0, .class_ 6), (0, .nameAndType 7 8), (0, u "java/lang/Object"), (0, u "<init>"), (0, u "()V"), (0, .fieldref 10 11), (0, .class_ 12), (0, .nameAndType 13 14), (0, u "com/example/ruleweave/ruleweave/store/Records"), (0, u "width"), (0, u "I"), (0, .fieldref 10 16), (0, .nameAndType 17 18), (0, u "ints"), (0, u "[I"), (0, .fieldref 10 20), (0, .nameAndType 21 14), (0, u "size"), (0, .integer 2147483639), (5, u "()I"), (7, .long 2), (15, u "count"), (20, .methodref 10 74), (0, .nameAndType 7 75), (0, u "(I)V"), (15, u "add"), (8, u "get"), (17, u "MOST_INTS"), (1, u "DIGIT_BITS"), (4, u "(II)I"), (3, u "rearranged"), (0, u "([I)Lcom/example/ruleweave/ruleweave/store/Records;")] 26

def k2c0 : Code := { maxStack := 3, maxLocals := 2, code := prog_16_method_1_code, exceptionTable := #[], attributes := #[] }
def k2m0 : Method := { name := "<init>", desc := "(I)V", sig := { parameters := [.int], returnType := none }, accessFlags := 0, code := some k2c0 }
def k2c1 : Code := { maxStack := 6, maxLocals := 2, code := prog_16_method_2_code, exceptionTable := #[], attributes := #[] }
def k2m1 : Method := { name := "add", desc := "(I)V", sig := { parameters := [.int], returnType := none }, accessFlags := 0, code := some k2c1 }
def k2c2 : Code := { maxStack := 2, maxLocals := 1, code := prog_16_method_4_code, exceptionTable := #[], attributes := #[] }
def k2m2 : Method := { name := "count", desc := "()I", sig := { parameters := [], returnType := some .int }, accessFlags := 0, code := some k2c2 }
def k2c3 : Code := { maxStack := 3, maxLocals := 3, code := prog_16_method_5_code, exceptionTable := #[], attributes := #[] }
def k2m3 : Method := { name := "get", desc := "(II)I", sig := { parameters := [.int, .int], returnType := some .int }, accessFlags := 0, code := some k2c3 }
def k2c4 : Code := { maxStack := 6, maxLocals := 5, code := prog_16_method_7_code, exceptionTable := #[], attributes := #[] }
def k2m4 : Method := { name := "rearranged", desc := "([I)Lcom/example/ruleweave/ruleweave/store/Records;", sig := { parameters := [(.array .int)], returnType := some (.object "com/example/ruleweave/ruleweave/store/Records") }, accessFlags := 0, code := some k2c4 }
/-- com/example/ruleweave/ruleweave/store/Records -/
def k2 : Class := { plain "com/example/ruleweave/ruleweave/store/Records" (some 0) with
  accessFlags := 48
  interfaces := #[]
  cf := some (fileOf pool2 10 #[] #[{ accessFlags := 0, nameIndex := 7, descriptorIndex := 75, attributes := #[] }, { accessFlags := 0, nameIndex := 91, descriptorIndex := 75, attributes := #[] }, { accessFlags := 0, nameIndex := 52, descriptorIndex := 28, attributes := #[] }, { accessFlags := 0, nameIndex := 100, descriptorIndex := 125, attributes := #[] }, { accessFlags := 0, nameIndex := 129, descriptorIndex := 130, attributes := #[] }] 48 4 #[] #[{ accessFlags := 26, nameIndex := 118, descriptorIndex := 14, attributes := #[] }, { accessFlags := 26, nameIndex := 120, descriptorIndex := 14, attributes := #[] }, { accessFlags := 18, nameIndex := 13, descriptorIndex := 14, attributes := #[] }, { accessFlags := 2, nameIndex := 17, descriptorIndex := 18, attributes := #[] }, { accessFlags := 2, nameIndex := 21, descriptorIndex := 14, attributes := #[] }])
  fields := #[{ name := "MOST_INTS", type := .int, accessFlags := 26, slot := 0, constantValue := 0 }, { name := "DIGIT_BITS", type := .int, accessFlags := 26, slot := 1, constantValue := 0 }, { name := "width", type := .int, accessFlags := 18, slot := 0, constantValue := 0 }, { name := "ints", type := (.array .int), accessFlags := 2, slot := 1, constantValue := 0 }, { name := "size", type := .int, accessFlags := 2, slot := 2, constantValue := 0 }]
  methods := #[k2m0, k2m1, k2m2, k2m3, k2m4]
  instanceTypes := #[.int, (.array .int), .int]
  staticTypes := #[.int, .int]
  resolved := Array.replicate 157 none
  statics := none }

def pool3 : Array CpInfo := pool [(1, u "java/lang/Cloneable"), (0, .class_ 1), (0, u "java/lang/Object"), (0, .class_ 3)] 3

/-- java/lang/Cloneable -/
def k3 : Class := { plain "java/lang/Cloneable" (some 0) with
  accessFlags := 1537
  interfaces := #[]
  cf := some (fileOf pool3 2 #[] #[] 1537 4 #[] #[])
  fields := #[]
  methods := #[]
  instanceTypes := #[]
  staticTypes := #[]
  resolved := Array.replicate 8 none
  statics := none }

def pool4 : Array CpInfo := pool [(1, u "java/io/Serializable"), (0, .class_ 1), (0, u "java/lang/Object"), (0, .class_ 3)] 3

/-- java/io/Serializable -/
def k4 : Class := { plain "java/io/Serializable" (some 0) with
  accessFlags := 1537
  interfaces := #[]
  cf := some (fileOf pool4 2 #[] #[] 1537 4 #[] #[])
  fields := #[]
  methods := #[]
  instanceTypes := #[]
  staticTypes := #[]
  resolved := Array.replicate 8 none
  statics := none }

/-- the primitive byte -/
def k5 : Class := { plain "byte" none with kind := .primitive 'B', accessFlags := 0x411 }
/-- [B -/
def k6 : Class := { plain "[B" (some 0) with kind := .array 5 .byte, interfaces := #[3, 4], accessFlags := 1041 }

/-- the primitive int -/
def k7 : Class := { plain "int" none with kind := .primitive 'I', accessFlags := 0x411 }
/-- [I -/
def k8 : Class := { plain "[I" (some 0) with kind := .array 7 .int, interfaces := #[3, 4], accessFlags := 1041 }

def heap : Heap := #[]
def classes : Array Class := #[k0, k1, k2, k3, k4, k5, k6, k7, k8]
def interned : List (Array UInt16 × Addr) := []
def slotsUsed : Nat := 0
def theMethod : MethodId := ⟨1, 1⟩
def args0 : Array Value := #[.int 7, .int 8, .int 9, .int 10, .int 5, .int 1]
def aboutOver (below : List Frame) : State where
  vm := { classes := classes, interned := interned.toArray }
  heap := heap
  slotsUsed := slotsUsed
  threads := #[{ frames := .invoking theMethod args0 :: below }]
def below0 : List Frame := [.native { method := ⟨0, 0⟩, args := #[] }]
def about1 : State := aboutOver below0
def p0 : Program := .bare "" "" ""
def e0 : Env := launch0.env 0 0 0
theorem w_frames : about1.frames = Frame.invoking theMethod args0 :: below0 := rfl
set_option maxRecDepth 65536 in
theorem w_args : argsFit about1.vm theMethod args0 = true := by decide +kernel
set_option maxRecDepth 65536 in
theorem w_heap : heapFits about1 = true := by decide +kernel
set_option maxRecDepth 65536 in
theorem w_runnable : about1.curStatus? = some .runnable := by decide +kernel
set_option maxRecDepth 65536 in
theorem w_alone : about1.alone = true := by decide +kernel
set_option maxRecDepth 65536 in
theorem w_named : about1.methodNamed? x = some theMethod := by decide +kernel
set_option maxRecDepth 65536 in
theorem w_hears : about1.hears theMethod below0 = true := by decide +kernel
set_option maxRecDepth 65536 in
theorem w_ripe : about1.ripe theMethod args0 below0 = true := by decide +kernel
theorem w_running : about1.status = .running := rfl
set_option maxRecDepth 65536 in
theorem w_room : about1.hasRoom e0.platform room_1 = true :=
  launch0.hasRoom_least _ room_1 (by decide +kernel) (by decide +kernel) (by decide +kernel) (by decide +kernel) (by decide +kernel) (by decide +kernel)
theorem allAtoms_all (ts : List Jvm.Cond) (a : Array Jvm.Value) (st : Jvm.State) : (allAtoms ts).before a st = ts.all (fun c => c.before a st) := by
  induction ts with
  | nil => rfl
  | cons c t ih =>
    show (Jvm.Cond.and c (allAtoms t)).before a st = _
    rw [Jvm.Cond.before_and, ih, List.all_cons]
def words1 : List Jvm.Cond := Jvm.Cond.code x code maxLocals ret :: tables_1
/-- a 'code' word, met by the world's own term for the bytes: nothing is compared byte by byte -/
theorem code_word {y : MethodName} {bytes : ByteArray} {mx : Nat} {rt : Option FieldType} {a : Array Value} {s : State} {m : MethodId} {meth : Method} {c : Code} (h1 : s.methodNamed? y = some m) (h2 : s.vm.method? m = some meth) (h3 : meth.code = some c) (h4 : c.code = bytes)
    (h5 : (c.maxLocals == mx && c.exceptionTable.isEmpty && decide (c.maxStack ≤ mostOperands) && decide (meth.sig.returnType = rt) && !meth.locks && decide (parseMethodDescriptor y.desc = some meth.sig)) = true) : (Jvm.Cond.code y bytes mx rt).before a s = true := by
  simp only [Bool.and_eq_true, beq_iff_eq, Bool.not_eq_true', decide_eq_true_eq] at h5
  obtain ⟨⟨⟨⟨⟨g1, g2⟩, g3⟩, g4⟩, g5⟩, g6⟩ := h5
  simp [Cond.before, Cond.holds, Cond.value, h1, h2, h3, h4, g1, g2, g3, g4, g5, g6]
def isCode : Jvm.Cond → Bool
  | .code _ _ _ _ => true
  | _ => false
theorem all_split {L : List Jvm.Cond} {P : Jvm.Cond → Bool} (h1 : L.all (fun c => isCode c || P c) = true) (h2 : ∀ c ∈ L.filter isCode, P c = true) : L.all P = true := by
  refine List.all_eq_true.mpr fun c hc => ?_
  have h := List.all_eq_true.mp h1 c hc
  rcases Bool.eq_false_or_eq_true (isCode c) with hi | hi
  · exact h2 c (List.mem_filter.mpr ⟨hc, hi⟩)
  · simpa [hi] using h
set_option maxRecDepth 65536 in
theorem w_c0 : (Jvm.Cond.code x code maxLocals ret).before args0 about1 = true := code_word (m := ⟨1, 1⟩) (meth := k1m1) (c := k1c1) (by decide +kernel) rfl rfl rfl (by decide +kernel)
set_option maxRecDepth 65536 in
theorem w_c1 : (Jvm.Cond.code ({ cls := "com/example/ruleweave/ruleweave/store/Records", name := "<init>", desc := "(I)V" } : Jvm.MethodName) prog_16_method_1_code (2 : Nat) (Option.none : Option Jvm.ClassFile.FieldType)).before args0 about1 = true := code_word (m := ⟨2, 0⟩) (meth := k2m0) (c := k2c0) (by decide +kernel) rfl rfl rfl (by decide +kernel)
set_option maxRecDepth 65536 in
theorem w_c2 : (Jvm.Cond.code ({ cls := "java/lang/Object", name := "<init>", desc := "()V" } : Jvm.MethodName) object_method_1_code (1 : Nat) (Option.none : Option Jvm.ClassFile.FieldType)).before args0 about1 = true := code_word (m := ⟨0, 0⟩) (meth := k0m0) (c := k0c0) (by decide +kernel) rfl rfl rfl (by decide +kernel)
set_option maxRecDepth 65536 in
theorem w_c3 : (Jvm.Cond.code ({ cls := "com/example/ruleweave/ruleweave/store/Records", name := "rearranged", desc := "([I)Lcom/example/ruleweave/ruleweave/store/Records;" } : Jvm.MethodName) prog_16_method_7_code (5 : Nat) (Option.some (Jvm.ClassFile.FieldType.object "com/example/ruleweave/ruleweave/store/Records"))).before args0 about1 = true := code_word (m := ⟨2, 4⟩) (meth := k2m4) (c := k2c4) (by decide +kernel) rfl rfl rfl (by decide +kernel)
set_option maxRecDepth 65536 in
theorem w_c4 : (Jvm.Cond.code ({ cls := "com/example/ruleweave/ruleweave/store/Records", name := "count", desc := "()I" } : Jvm.MethodName) prog_16_method_4_code (1 : Nat) (Option.some Jvm.ClassFile.FieldType.int)).before args0 about1 = true := code_word (m := ⟨2, 2⟩) (meth := k2m2) (c := k2c2) (by decide +kernel) rfl rfl rfl (by decide +kernel)
set_option maxRecDepth 65536 in
theorem w_c5 : (Jvm.Cond.code ({ cls := "com/example/ruleweave/ruleweave/store/RecordsRearrangedPinLaw", name := "at", desc := "(Lcom/example/ruleweave/ruleweave/store/Records;[I[IIIII)Z" } : Jvm.MethodName) method_3_code (7 : Nat) (Option.some Jvm.ClassFile.FieldType.boolean)).before args0 about1 = true := code_word (m := ⟨1, 2⟩) (meth := k1m2) (c := k1c2) (by decide +kernel) rfl rfl rfl (by decide +kernel)
set_option maxRecDepth 65536 in
theorem w_c6 : (Jvm.Cond.code ({ cls := "com/example/ruleweave/ruleweave/store/Records", name := "add", desc := "(I)V" } : Jvm.MethodName) prog_16_method_2_code (2 : Nat) (Option.none : Option Jvm.ClassFile.FieldType)).before args0 about1 = true := code_word (m := ⟨2, 1⟩) (meth := k2m1) (c := k2c1) (by decide +kernel) rfl rfl rfl (by decide +kernel)
set_option maxRecDepth 65536 in
theorem w_c7 : (Jvm.Cond.code ({ cls := "com/example/ruleweave/ruleweave/store/Records", name := "get", desc := "(II)I" } : Jvm.MethodName) prog_16_method_5_code (3 : Nat) (Option.some Jvm.ClassFile.FieldType.int)).before args0 about1 = true := code_word (m := ⟨2, 3⟩) (meth := k2m3) (c := k2c3) (by decide +kernel) rfl rfl rfl (by decide +kernel)
def codes1 : List Jvm.Cond := [Jvm.Cond.code x code maxLocals ret, Jvm.Cond.code ({ cls := "com/example/ruleweave/ruleweave/store/Records", name := "<init>", desc := "(I)V" } : Jvm.MethodName) prog_16_method_1_code (2 : Nat) (Option.none : Option Jvm.ClassFile.FieldType), Jvm.Cond.code ({ cls := "java/lang/Object", name := "<init>", desc := "()V" } : Jvm.MethodName) object_method_1_code (1 : Nat) (Option.none : Option Jvm.ClassFile.FieldType), Jvm.Cond.code ({ cls := "com/example/ruleweave/ruleweave/store/Records", name := "rearranged", desc := "([I)Lcom/example/ruleweave/ruleweave/store/Records;" } : Jvm.MethodName) prog_16_method_7_code (5 : Nat) (Option.some (Jvm.ClassFile.FieldType.object "com/example/ruleweave/ruleweave/store/Records")), Jvm.Cond.code ({ cls := "com/example/ruleweave/ruleweave/store/Records", name := "count", desc := "()I" } : Jvm.MethodName) prog_16_method_4_code (1 : Nat) (Option.some Jvm.ClassFile.FieldType.int), Jvm.Cond.code ({ cls := "com/example/ruleweave/ruleweave/store/RecordsRearrangedPinLaw", name := "at", desc := "(Lcom/example/ruleweave/ruleweave/store/Records;[I[IIIII)Z" } : Jvm.MethodName) method_3_code (7 : Nat) (Option.some Jvm.ClassFile.FieldType.boolean), Jvm.Cond.code ({ cls := "com/example/ruleweave/ruleweave/store/Records", name := "add", desc := "(I)V" } : Jvm.MethodName) prog_16_method_2_code (2 : Nat) (Option.none : Option Jvm.ClassFile.FieldType), Jvm.Cond.code ({ cls := "com/example/ruleweave/ruleweave/store/Records", name := "get", desc := "(II)I" } : Jvm.MethodName) prog_16_method_5_code (3 : Nat) (Option.some Jvm.ClassFile.FieldType.int)]
set_option maxRecDepth 65536 in
theorem codes_eq : words1.filter isCode = codes1 := rfl
theorem w_codes : ∀ c ∈ words1.filter isCode, c.before args0 about1 = true := by
  rw [codes_eq]
  intro c hc
  simp only [codes1, List.mem_cons, List.not_mem_nil, or_false] at hc
  rcases hc with rfl | rfl | rfl | rfl | rfl | rfl | rfl | rfl
  · exact w_c0
  · exact w_c1
  · exact w_c2
  · exact w_c3
  · exact w_c4
  · exact w_c5
  · exact w_c6
  · exact w_c7
set_option maxRecDepth 65536 in
theorem w_t1 : (words1.take 24).all (fun c => isCode c || c.before args0 about1) = true := by decide +kernel
set_option maxRecDepth 65536 in
theorem w_t2 : (words1.drop 24).all (fun c => isCode c || c.before args0 about1) = true := by decide +kernel
theorem w_tables : (allAtoms (Jvm.Cond.code x code maxLocals ret :: tables_1)).before args0 about1 = true := by
  rw [allAtoms_all]
  show words1.all (fun c => c.before args0 about1) = true
  refine all_split ?_ w_codes
  rw [← List.take_append_drop 24 words1, List.all_append, w_t1, w_t2]
  rfl
set_option maxRecDepth 65536 in
theorem w_case : (Jvm.Cond.and given_1 narrow_1).before args0 about1 = true := by decide +kernel
theorem w_applies : (headSpec (Jvm.Cond.code x code maxLocals ret :: tables_1) room_1).applies x e0.platform about1 = true :=
  (Spec.applies_iff w_frames).mpr ⟨w_running, w_runnable, w_alone, w_named, w_hears, w_ripe, w_room, w_tables⟩
theorem atStart : AtStart classFile x code maxLocals ret World_1 tables_1 room_1 Calls_1 rest_1 Pre_1 launch0 p0 e0 about1 theMethod args0 below0 :=
  ⟨lists_1, trivial, launch0.admits_env _ _ _, launch0.least_env, fairChoices_fair.cas, fairChoices_fair.clock, w_frames, w_args, w_heap, w_applies, trivial, trivial, w_case⟩
end start1
theorem witness_1 : WitnessClaimed_1 := ⟨start1.p0, start1.e0, start1.about1, start1.theMethod, start1.args0, start1.below0, start1.atStart⟩
end Jvm.Pilot.@@N@@
