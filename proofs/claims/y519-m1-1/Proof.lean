import JvmDerived
import JvmDerived.Pilot.@@N@@Statement
import JvmDerived.Pilot.@@N@@Code
set_option linter.unusedVariables false
set_option linter.unusedSimpArgs false
namespace Jvm.RoadKit
open Sem ClassFile Op Lib Jvm.Stand Jvm.Free Jvm.LawKit
section Own
variable {p : Program} {l : Launch} {e : Env} {R : Room} {s : State} {m : MethodId} {args : Array Value} {below : List Frame} {meth : Method} {c : Code} {T : State} {Z : State} {a0 : Array Value} {h : Heap} {cells slots n0 rc rs : Nat} {bytes : ByteArray} {own : String} {ret : Option FieldType} {maxL : Nat} {P : Option Value → Heap → Prop} {Ls : Array Slot} {pc pc' : Nat} {st : List Value}
def Cx (p : Program) (s : State) (m : MethodId) (meth : Method) (c : Code) (Z : State) (bytes : ByteArray) (own : String) (ret : Option FieldType) (maxL : Nat) : Prop :=
  p.tables.exec = Jvm.exec ∧ Z.Warmed39 s.vm ∧ c.code = bytes ∧ s.vm.findClass own = some m.cls ∧ c.maxLocals = maxL ∧ meth.locks = false ∧ meth.sig.returnType = ret
def On (p : Program) (l : Launch) (e : Env) (R : Room) (s : State) (m : MethodId) (args : Array Value) (below : List Frame) (meth : Method) (c : Code) (n0 : Nat) (T : State) (h : Heap) (cells slots : Nat) : Prop :=
  ∃ locs, Stand p l e R s m args below meth c T locs cells slots ∧ T.heap = h ∧ Fr n0 locs ∧ n0 ≤ h.size
def Go (p : Program) (e : Env) (below : List Frame) (s : State) (n0 rc rs : Nat) (P : Option Value → Heap → Prop) (T : State) (g : JFrame) : Prop :=
  ∃ s₂ o, Steps p.tables e below (T.setTop g) s₂ ∧ s₂.status = .running ∧ Ended s₂ below o ∧ ∃ v L, o = .returned v ∧ (P v s₂.heap ∧ Fr n0 L) ∧ FrameEnd s o s₂ L rc rs
def Con (l : Launch) (Z : State) (y : MethodName) (bytes : ByteArray) (maxL : Nat) (ret : Option FieldType) (rm : Room) (as' : Array Value) (h0 : Heap) (n0 : Nat) (P : Option Value → Heap → Prop) : Prop :=
  ∀ ws, MetFree l y (head1 (Cond.code y bytes maxL ret :: ws) rm) (fun a U => a = as' ∧ Z.Warmed39 U.vm ∧ U.heap = h0) (fun _ _ _ _ _ => True) (fun _ U o U' => ∃ v L, o = .returned v ∧ (P v U'.heap ∧ Fr n0 L) ∧ FrameEnd U o U' L rm.cells rm.slots)
theorem Go.of {T' : State} {g g' : JFrame} (st : ∀ t, Steps p.tables e below (T'.setTop g') t → Steps p.tables e below (T.setTop g) t) (k : Go p e below s n0 rc rs P T' g') : Go p e below s n0 rc rs P T g := by
  obtain ⟨s₂, o, h1, h2⟩ := k
  exact ⟨s₂, o, st _ h1, h2⟩
theorem Go.tr {T' : State} {g g' : JFrame} (st : Steps p.tables e below (T.setTop g) (T'.setTop g')) (k : Go p e below s n0 rc rs P T' g') : Go p e below s n0 rc rs P T g :=
  Go.of (fun _ q => st.trans q) k
theorem Go.imp {P' : Option Value → Heap → Prop} {g : JFrame} (k : Go p e below s n0 rc rs P' T g) (hi : ∀ v h, P' v h → P v h) : Go p e below s n0 rc rs P T g := by
  obtain ⟨s₂, o, h1, h2, h3, v, L, h4, ⟨h5, h6⟩, h7⟩ := k
  exact ⟨s₂, o, h1, h2, h3, v, L, h4, ⟨hi _ _ h5, h6⟩, h7⟩
theorem Con.enter {y : MethodName} {rm : Room} {as' : Array Value} {h0 : Heap} (hpl : plainFor y = true) (hz : n0 ≤ h0.size)
    (body : ∀ p e s m below meth c T, Cx p s m meth c Z bytes y.cls ret maxL → meth.name = y.name → On p l e rm s m as' below meth c n0 T h0 0 0 → Go p e below s n0 rm.cells rm.slots P T (entryFrame m as' maxL)) :
    Con l Z y bytes maxL ret rm as' h0 n0 P := by
  intro ws
  refine MetFree.of_bodySF hpl hisR ?_
  intro p e s m args below meth c s₁ Bd hml0 hP hK
  obtain ⟨rfl, hZ, hh⟩ := hP
  have X0 := Stand.of_body Bd
  have e0 : s₁.heap = h0 := by rw [← hh, Bd.state]; rfl
  exact body p e s m below meth c s₁ ⟨Bd.exec, hZ, Bd.bytes, findClass_of_methodNamed Bd.named, hml0, BodyLoose.notSynchronized Bd, Bd.returns⟩ (name_of_methodNamed Bd.named Bd.method).1 ⟨[], X0, e0, Fr.nil n0, hz⟩
theorem On.sz (X : On p l e R s m args below meth c n0 T h cells slots) : n0 ≤ h.size := X.elim fun _ q => q.2.2.2
theorem Go.cast {g g' : JFrame} (q : g = g') (k : Go p e below s n0 rc rs P T g') : Go p e below s n0 rc rs P T g := q ▸ k
theorem Con.back {y : MethodName} {rm : Room} {as' : Array Value} {W : Nat} {P' : Option Value → Heap → Prop} {cb : ByteArray} {cm : Nat} {cr : Option FieldType} (K : Con l Z y cb cm cr rm as' h n0 P') (hZ : Z.Warmed39 s.vm) (wc : (Cond.code y cb cm cr).before a0 Z = true) (wz : (Cond.initialized y.cls).before a0 Z = true) (hf : rm.frames + 1 ≤ R.frames) (hl : W + (cm + 11) + rm.locals ≤ R.locals) :
    Back l R p e below s args y 3 W (fun A a => a = as' ∧ A.U.heap = h ∧ A.cells + rm.cells ≤ R.cells ∧ A.slots + rm.slots ≤ R.slots)
      (fun A _ v B => ∃ L, (P' v B.U.heap ∧ Fr n0 L) ∧ B.locs = A.locs ++ L ∧ B.cells = A.cells + rm.cells ∧ B.slots = A.slots + rm.slots) :=
  backOf (Q := fun v h L => P' v h ∧ Fr n0 L) (K []) hZ wc wz hf hl
theorem Go.iadd (C : Cx p s m meth c Z bytes own ret maxL) (X : On p l e R s m args below meth c n0 T h cells slots) {x y : Int32} (hd : decode bytes pc = .ok (.iadd, 1))  (hp : pc + 1 = pc') (k : Go p e below s n0 rc rs P T (mkF m pc' Ls (.int (x + y) :: st))) : Go p e below s n0 rc rs P T (mkF m pc Ls (.int y :: .int x :: st)) := by
  obtain ⟨locs, X, eT, N, hn⟩ := X; obtain ⟨hx, hZ, hby, hown, hml, hlk, hrt⟩ := C
  subst hp; exact Go.of (fun t q => XS.iadd X.here hx rfl (hb hby hd) rfl q) k
theorem Go.isub (C : Cx p s m meth c Z bytes own ret maxL) (X : On p l e R s m args below meth c n0 T h cells slots) {x y : Int32} (hd : decode bytes pc = .ok (.isub, 1))  (hp : pc + 1 = pc') (k : Go p e below s n0 rc rs P T (mkF m pc' Ls (.int (x - y) :: st))) : Go p e below s n0 rc rs P T (mkF m pc Ls (.int y :: .int x :: st)) := by
  obtain ⟨locs, X, eT, N, hn⟩ := X; obtain ⟨hx, hZ, hby, hown, hml, hlk, hrt⟩ := C
  subst hp; exact Go.of (fun t q => XS.isub X.here hx rfl (hb hby hd) rfl q) k
theorem Go.imul (C : Cx p s m meth c Z bytes own ret maxL) (X : On p l e R s m args below meth c n0 T h cells slots) {x y : Int32} (hd : decode bytes pc = .ok (.imul, 1))  (hp : pc + 1 = pc') (k : Go p e below s n0 rc rs P T (mkF m pc' Ls (.int (x * y) :: st))) : Go p e below s n0 rc rs P T (mkF m pc Ls (.int y :: .int x :: st)) := by
  obtain ⟨locs, X, eT, N, hn⟩ := X; obtain ⟨hx, hZ, hby, hown, hml, hlk, hrt⟩ := C
  subst hp; exact Go.of (fun t q => XS.imul X.here hx rfl (hb hby hd) rfl q) k
theorem Go.iand (C : Cx p s m meth c Z bytes own ret maxL) (X : On p l e R s m args below meth c n0 T h cells slots) {x y : Int32} (hd : decode bytes pc = .ok (.iand, 1))  (hp : pc + 1 = pc') (k : Go p e below s n0 rc rs P T (mkF m pc' Ls (.int (x &&& y) :: st))) : Go p e below s n0 rc rs P T (mkF m pc Ls (.int y :: .int x :: st)) := by
  obtain ⟨locs, X, eT, N, hn⟩ := X; obtain ⟨hx, hZ, hby, hown, hml, hlk, hrt⟩ := C
  subst hp; exact Go.of (fun t q => XS.iand X.here hx rfl (hb hby hd) rfl q) k
theorem Go.ior (C : Cx p s m meth c Z bytes own ret maxL) (X : On p l e R s m args below meth c n0 T h cells slots) {x y : Int32} (hd : decode bytes pc = .ok (.ior, 1))  (hp : pc + 1 = pc') (k : Go p e below s n0 rc rs P T (mkF m pc' Ls (.int (x ||| y) :: st))) : Go p e below s n0 rc rs P T (mkF m pc Ls (.int y :: .int x :: st)) := by
  obtain ⟨locs, X, eT, N, hn⟩ := X; obtain ⟨hx, hZ, hby, hown, hml, hlk, hrt⟩ := C
  subst hp; exact Go.of (fun t q => XS.ior X.here hx rfl (hb hby hd) rfl q) k
theorem Go.ixor (C : Cx p s m meth c Z bytes own ret maxL) (X : On p l e R s m args below meth c n0 T h cells slots) {x y : Int32} (hd : decode bytes pc = .ok (.ixor, 1))  (hp : pc + 1 = pc') (k : Go p e below s n0 rc rs P T (mkF m pc' Ls (.int (x ^^^ y) :: st))) : Go p e below s n0 rc rs P T (mkF m pc Ls (.int y :: .int x :: st)) := by
  obtain ⟨locs, X, eT, N, hn⟩ := X; obtain ⟨hx, hZ, hby, hown, hml, hlk, hrt⟩ := C
  subst hp; exact Go.of (fun t q => XS.ixor X.here hx rfl (hb hby hd) rfl q) k
theorem Go.ishl (C : Cx p s m meth c Z bytes own ret maxL) (X : On p l e R s m args below meth c n0 T h cells slots) {x y : Int32} (hd : decode bytes pc = .ok (.ishl, 1))  (hp : pc + 1 = pc') (k : Go p e below s n0 rc rs P T (mkF m pc' Ls (.int (x <<< (y &&& 31)) :: st))) : Go p e below s n0 rc rs P T (mkF m pc Ls (.int y :: .int x :: st)) := by
  obtain ⟨locs, X, eT, N, hn⟩ := X; obtain ⟨hx, hZ, hby, hown, hml, hlk, hrt⟩ := C
  subst hp; exact Go.of (fun t q => XS.ishl X.here hx rfl (hb hby hd) rfl q) k
theorem Go.ishr (C : Cx p s m meth c Z bytes own ret maxL) (X : On p l e R s m args below meth c n0 T h cells slots) {x y : Int32} (hd : decode bytes pc = .ok (.ishr, 1))  (hp : pc + 1 = pc') (k : Go p e below s n0 rc rs P T (mkF m pc' Ls (.int (x >>> (y &&& 31)) :: st))) : Go p e below s n0 rc rs P T (mkF m pc Ls (.int y :: .int x :: st)) := by
  obtain ⟨locs, X, eT, N, hn⟩ := X; obtain ⟨hx, hZ, hby, hown, hml, hlk, hrt⟩ := C
  subst hp; exact Go.of (fun t q => XS.ishr X.here hx rfl (hb hby hd) rfl q) k
theorem Go.iushr (C : Cx p s m meth c Z bytes own ret maxL) (X : On p l e R s m args below meth c n0 T h cells slots) {x y : Int32} (hd : decode bytes pc = .ok (.iushr, 1))  (hp : pc + 1 = pc') (k : Go p e below s n0 rc rs P T (mkF m pc' Ls (.int ((x.toUInt32 >>> (y &&& 31).toUInt32).toInt32) :: st))) : Go p e below s n0 rc rs P T (mkF m pc Ls (.int y :: .int x :: st)) := by
  obtain ⟨locs, X, eT, N, hn⟩ := X; obtain ⟨hx, hZ, hby, hown, hml, hlk, hrt⟩ := C
  subst hp; exact Go.of (fun t q => XS.iushr X.here hx rfl (hb hby hd) rfl q) k
theorem Go.ladd (C : Cx p s m meth c Z bytes own ret maxL) (X : On p l e R s m args below meth c n0 T h cells slots) {x y : Int64} (hd : decode bytes pc = .ok (.ladd, 1))  (hp : pc + 1 = pc') (k : Go p e below s n0 rc rs P T (mkF m pc' Ls (.long (x + y) :: st))) : Go p e below s n0 rc rs P T (mkF m pc Ls (.long y :: .long x :: st)) := by
  obtain ⟨locs, X, eT, N, hn⟩ := X; obtain ⟨hx, hZ, hby, hown, hml, hlk, hrt⟩ := C
  subst hp; exact Go.of (fun t q => XS.ladd X.here hx rfl (hb hby hd) rfl q) k
theorem Go.lsub (C : Cx p s m meth c Z bytes own ret maxL) (X : On p l e R s m args below meth c n0 T h cells slots) {x y : Int64} (hd : decode bytes pc = .ok (.lsub, 1))  (hp : pc + 1 = pc') (k : Go p e below s n0 rc rs P T (mkF m pc' Ls (.long (x - y) :: st))) : Go p e below s n0 rc rs P T (mkF m pc Ls (.long y :: .long x :: st)) := by
  obtain ⟨locs, X, eT, N, hn⟩ := X; obtain ⟨hx, hZ, hby, hown, hml, hlk, hrt⟩ := C
  subst hp; exact Go.of (fun t q => XS.lsub X.here hx rfl (hb hby hd) rfl q) k
theorem Go.lmul (C : Cx p s m meth c Z bytes own ret maxL) (X : On p l e R s m args below meth c n0 T h cells slots) {x y : Int64} (hd : decode bytes pc = .ok (.lmul, 1))  (hp : pc + 1 = pc') (k : Go p e below s n0 rc rs P T (mkF m pc' Ls (.long (x * y) :: st))) : Go p e below s n0 rc rs P T (mkF m pc Ls (.long y :: .long x :: st)) := by
  obtain ⟨locs, X, eT, N, hn⟩ := X; obtain ⟨hx, hZ, hby, hown, hml, hlk, hrt⟩ := C
  subst hp; exact Go.of (fun t q => XS.lmul X.here hx rfl (hb hby hd) rfl q) k
theorem Go.land (C : Cx p s m meth c Z bytes own ret maxL) (X : On p l e R s m args below meth c n0 T h cells slots) {x y : Int64} (hd : decode bytes pc = .ok (.land, 1))  (hp : pc + 1 = pc') (k : Go p e below s n0 rc rs P T (mkF m pc' Ls (.long (x &&& y) :: st))) : Go p e below s n0 rc rs P T (mkF m pc Ls (.long y :: .long x :: st)) := by
  obtain ⟨locs, X, eT, N, hn⟩ := X; obtain ⟨hx, hZ, hby, hown, hml, hlk, hrt⟩ := C
  subst hp; exact Go.of (fun t q => XS.land X.here hx rfl (hb hby hd) rfl q) k
theorem Go.lor (C : Cx p s m meth c Z bytes own ret maxL) (X : On p l e R s m args below meth c n0 T h cells slots) {x y : Int64} (hd : decode bytes pc = .ok (.lor, 1))  (hp : pc + 1 = pc') (k : Go p e below s n0 rc rs P T (mkF m pc' Ls (.long (x ||| y) :: st))) : Go p e below s n0 rc rs P T (mkF m pc Ls (.long y :: .long x :: st)) := by
  obtain ⟨locs, X, eT, N, hn⟩ := X; obtain ⟨hx, hZ, hby, hown, hml, hlk, hrt⟩ := C
  subst hp; exact Go.of (fun t q => XS.lor X.here hx rfl (hb hby hd) rfl q) k
theorem Go.lxor (C : Cx p s m meth c Z bytes own ret maxL) (X : On p l e R s m args below meth c n0 T h cells slots) {x y : Int64} (hd : decode bytes pc = .ok (.lxor, 1))  (hp : pc + 1 = pc') (k : Go p e below s n0 rc rs P T (mkF m pc' Ls (.long (x ^^^ y) :: st))) : Go p e below s n0 rc rs P T (mkF m pc Ls (.long y :: .long x :: st)) := by
  obtain ⟨locs, X, eT, N, hn⟩ := X; obtain ⟨hx, hZ, hby, hown, hml, hlk, hrt⟩ := C
  subst hp; exact Go.of (fun t q => XS.lxor X.here hx rfl (hb hby hd) rfl q) k
theorem Go.lshl (C : Cx p s m meth c Z bytes own ret maxL) (X : On p l e R s m args below meth c n0 T h cells slots) {x : Int64} {y : Int32} (hd : decode bytes pc = .ok (.lshl, 1))  (hp : pc + 1 = pc') (k : Go p e below s n0 rc rs P T (mkF m pc' Ls (.long (x <<< (y &&& 0x3f).toInt64) :: st))) : Go p e below s n0 rc rs P T (mkF m pc Ls (.int y :: .long x :: st)) := by
  obtain ⟨locs, X, eT, N, hn⟩ := X; obtain ⟨hx, hZ, hby, hown, hml, hlk, hrt⟩ := C
  subst hp; exact Go.of (fun t q => XS.lshl X.here hx rfl (hb hby hd) rfl q) k
theorem Go.lshr (C : Cx p s m meth c Z bytes own ret maxL) (X : On p l e R s m args below meth c n0 T h cells slots) {x : Int64} {y : Int32} (hd : decode bytes pc = .ok (.lshr, 1))  (hp : pc + 1 = pc') (k : Go p e below s n0 rc rs P T (mkF m pc' Ls (.long (x >>> (y &&& 0x3f).toInt64) :: st))) : Go p e below s n0 rc rs P T (mkF m pc Ls (.int y :: .long x :: st)) := by
  obtain ⟨locs, X, eT, N, hn⟩ := X; obtain ⟨hx, hZ, hby, hown, hml, hlk, hrt⟩ := C
  subst hp; exact Go.of (fun t q => XS.lshr X.here hx rfl (hb hby hd) rfl q) k
theorem Go.lushr (C : Cx p s m meth c Z bytes own ret maxL) (X : On p l e R s m args below meth c n0 T h cells slots) {x : Int64} {y : Int32} (hd : decode bytes pc = .ok (.lushr, 1))  (hp : pc + 1 = pc') (k : Go p e below s n0 rc rs P T (mkF m pc' Ls (.long ((x.toUInt64 >>> (y &&& 0x3f).toInt64.toUInt64).toInt64) :: st))) : Go p e below s n0 rc rs P T (mkF m pc Ls (.int y :: .long x :: st)) := by
  obtain ⟨locs, X, eT, N, hn⟩ := X; obtain ⟨hx, hZ, hby, hown, hml, hlk, hrt⟩ := C
  subst hp; exact Go.of (fun t q => XS.lushr X.here hx rfl (hb hby hd) rfl q) k
theorem Go.i2l (C : Cx p s m meth c Z bytes own ret maxL) (X : On p l e R s m args below meth c n0 T h cells slots) {x : Int32} (hd : decode bytes pc = .ok (.i2l, 1))  (hp : pc + 1 = pc') (k : Go p e below s n0 rc rs P T (mkF m pc' Ls (.long (x.toInt64) :: st))) : Go p e below s n0 rc rs P T (mkF m pc Ls (.int x :: st)) := by
  obtain ⟨locs, X, eT, N, hn⟩ := X; obtain ⟨hx, hZ, hby, hown, hml, hlk, hrt⟩ := C
  subst hp; exact Go.of (fun t q => XS.i2l X.here hx rfl (hb hby hd) rfl q) k
theorem Go.l2i (C : Cx p s m meth c Z bytes own ret maxL) (X : On p l e R s m args below meth c n0 T h cells slots) {x : Int64} (hd : decode bytes pc = .ok (.l2i, 1))  (hp : pc + 1 = pc') (k : Go p e below s n0 rc rs P T (mkF m pc' Ls (.int (x.toInt32) :: st))) : Go p e below s n0 rc rs P T (mkF m pc Ls (.long x :: st)) := by
  obtain ⟨locs, X, eT, N, hn⟩ := X; obtain ⟨hx, hZ, hby, hown, hml, hlk, hrt⟩ := C
  subst hp; exact Go.of (fun t q => XS.l2i X.here hx rfl (hb hby hd) rfl q) k
theorem Go.i2b (C : Cx p s m meth c Z bytes own ret maxL) (X : On p l e R s m args below meth c n0 T h cells slots) {x : Int32} (hd : decode bytes pc = .ok (.i2b, 1))  (hp : pc + 1 = pc') (k : Go p e below s n0 rc rs P T (mkF m pc' Ls (.int (x.toInt8.toInt32) :: st))) : Go p e below s n0 rc rs P T (mkF m pc Ls (.int x :: st)) := by
  obtain ⟨locs, X, eT, N, hn⟩ := X; obtain ⟨hx, hZ, hby, hown, hml, hlk, hrt⟩ := C
  subst hp; exact Go.of (fun t q => XS.i2b X.here hx rfl (hb hby hd) rfl q) k
theorem Go.i2s (C : Cx p s m meth c Z bytes own ret maxL) (X : On p l e R s m args below meth c n0 T h cells slots) {x : Int32} (hd : decode bytes pc = .ok (.i2s, 1))  (hp : pc + 1 = pc') (k : Go p e below s n0 rc rs P T (mkF m pc' Ls (.int (x.toInt16.toInt32) :: st))) : Go p e below s n0 rc rs P T (mkF m pc Ls (.int x :: st)) := by
  obtain ⟨locs, X, eT, N, hn⟩ := X; obtain ⟨hx, hZ, hby, hown, hml, hlk, hrt⟩ := C
  subst hp; exact Go.of (fun t q => XS.i2s X.here hx rfl (hb hby hd) rfl q) k
theorem Go.i2c (C : Cx p s m meth c Z bytes own ret maxL) (X : On p l e R s m args below meth c n0 T h cells slots) {x : Int32} (hd : decode bytes pc = .ok (.i2c, 1))  (hp : pc + 1 = pc') (k : Go p e below s n0 rc rs P T (mkF m pc' Ls (.int (x.toUInt32.toUInt16.toUInt32.toInt32) :: st))) : Go p e below s n0 rc rs P T (mkF m pc Ls (.int x :: st)) := by
  obtain ⟨locs, X, eT, N, hn⟩ := X; obtain ⟨hx, hZ, hby, hown, hml, hlk, hrt⟩ := C
  subst hp; exact Go.of (fun t q => XS.i2c X.here hx rfl (hb hby hd) rfl q) k
theorem Go.lneg (C : Cx p s m meth c Z bytes own ret maxL) (X : On p l e R s m args below meth c n0 T h cells slots) {x : Int64} (hd : decode bytes pc = .ok (.lneg, 1))  (hp : pc + 1 = pc') (k : Go p e below s n0 rc rs P T (mkF m pc' Ls (.long (-x) :: st))) : Go p e below s n0 rc rs P T (mkF m pc Ls (.long x :: st)) := by
  obtain ⟨locs, X, eT, N, hn⟩ := X; obtain ⟨hx, hZ, hby, hown, hml, hlk, hrt⟩ := C
  subst hp; exact Go.of (fun t q => XS.lneg X.here hx rfl (hb hby hd) rfl q) k
theorem Go.ineg (C : Cx p s m meth c Z bytes own ret maxL) (X : On p l e R s m args below meth c n0 T h cells slots) {x : Int32} (hd : decode bytes pc = .ok (.ineg, 1))  (hp : pc + 1 = pc') (k : Go p e below s n0 rc rs P T (mkF m pc' Ls (.int (-x) :: st))) : Go p e below s n0 rc rs P T (mkF m pc Ls (.int x :: st)) := by
  obtain ⟨locs, X, eT, N, hn⟩ := X; obtain ⟨hx, hZ, hby, hown, hml, hlk, hrt⟩ := C
  subst hp; exact Go.of (fun t q => XS.ineg X.here hx rfl (hb hby hd) rfl q) k
theorem Go.idiv (C : Cx p s m meth c Z bytes own ret maxL) (X : On p l e R s m args below meth c n0 T h cells slots) {x y : Int32} (hd : decode bytes pc = .ok (.idiv, 1)) (hy : y ≠ 0) (hp : pc + 1 = pc') (k : Go p e below s n0 rc rs P T (mkF m pc' Ls (.int (x / y) :: st))) : Go p e below s n0 rc rs P T (mkF m pc Ls (.int y :: .int x :: st)) := by
  obtain ⟨locs, X, eT, N, hn⟩ := X; obtain ⟨hx, hZ, hby, hown, hml, hlk, hrt⟩ := C
  subst hp; exact Go.of (fun t q => XS.idiv X.here hx rfl (hb hby hd) rfl hy q) k
theorem Go.ldiv (C : Cx p s m meth c Z bytes own ret maxL) (X : On p l e R s m args below meth c n0 T h cells slots) {x y : Int64} (hd : decode bytes pc = .ok (.ldiv, 1)) (hy : y ≠ 0) (hp : pc + 1 = pc') (k : Go p e below s n0 rc rs P T (mkF m pc' Ls (.long (x / y) :: st))) : Go p e below s n0 rc rs P T (mkF m pc Ls (.long y :: .long x :: st)) := by
  obtain ⟨locs, X, eT, N, hn⟩ := X; obtain ⟨hx, hZ, hby, hown, hml, hlk, hrt⟩ := C
  subst hp; exact Go.of (fun t q => XS.ldiv X.here hx rfl (hb hby hd) rfl hy q) k
theorem Go.irem (C : Cx p s m meth c Z bytes own ret maxL) (X : On p l e R s m args below meth c n0 T h cells slots) {x y : Int32} (hd : decode bytes pc = .ok (.irem, 1)) (hy : y ≠ 0) (hp : pc + 1 = pc') (k : Go p e below s n0 rc rs P T (mkF m pc' Ls (.int (x % y) :: st))) : Go p e below s n0 rc rs P T (mkF m pc Ls (.int y :: .int x :: st)) := by
  obtain ⟨locs, X, eT, N, hn⟩ := X; obtain ⟨hx, hZ, hby, hown, hml, hlk, hrt⟩ := C
  subst hp; exact Go.of (fun t q => iremM X hx rfl (hb hby hd) rfl hy q) k
theorem Go.lrem (C : Cx p s m meth c Z bytes own ret maxL) (X : On p l e R s m args below meth c n0 T h cells slots) {x y : Int64} (hd : decode bytes pc = .ok (.lrem, 1)) (hy : y ≠ 0) (hp : pc + 1 = pc') (k : Go p e below s n0 rc rs P T (mkF m pc' Ls (.long (x % y) :: st))) : Go p e below s n0 rc rs P T (mkF m pc Ls (.long y :: .long x :: st)) := by
  obtain ⟨locs, X, eT, N, hn⟩ := X; obtain ⟨hx, hZ, hby, hown, hml, hlk, hrt⟩ := C
  subst hp; rw [← lrem_mod] at k; exact Go.of (fun t q => XS.lrem X.here hx rfl (hb hby hd) rfl hy q) k
theorem Go.lcmp (C : Cx p s m meth c Z bytes own ret maxL) (X : On p l e R s m args below meth c n0 T h cells slots) {x y : Int64} (hd : decode bytes pc = .ok (.lcmp, 1))  (hp : pc + 1 = pc') (k : Go p e below s n0 rc rs P T (mkF m pc' Ls (.int (lcmpW x y) :: st))) : Go p e below s n0 rc rs P T (mkF m pc Ls (.long y :: .long x :: st)) := by
  obtain ⟨locs, X, eT, N, hn⟩ := X; obtain ⟨hx, hZ, hby, hown, hml, hlk, hrt⟩ := C
  subst hp; exact Go.of (fun t q => XS.lcmp X.here hx rfl (hb hby hd) rfl q) k
theorem Go.dup (C : Cx p s m meth c Z bytes own ret maxL) (X : On p l e R s m args below meth c n0 T h cells slots) {v : Value} (hd : decode bytes pc = .ok (.dup, 1)) (hc : v.category = 1) (hp : pc + 1 = pc') (k : Go p e below s n0 rc rs P T (mkF m pc' Ls (v :: v :: st))) : Go p e below s n0 rc rs P T (mkF m pc Ls (v :: st)) := by
  obtain ⟨locs, X, eT, N, hn⟩ := X; obtain ⟨hx, hZ, hby, hown, hml, hlk, hrt⟩ := C
  subst hp; exact Go.of (fun t q => XS.dup X.here hx rfl (hb hby hd) rfl hc q) k
theorem Go.pop (C : Cx p s m meth c Z bytes own ret maxL) (X : On p l e R s m args below meth c n0 T h cells slots) {v : Value} (hd : decode bytes pc = .ok (.pop, 1)) (hc : v.category = 1) (hp : pc + 1 = pc') (k : Go p e below s n0 rc rs P T (mkF m pc' Ls st)) : Go p e below s n0 rc rs P T (mkF m pc Ls (v :: st)) := by
  obtain ⟨locs, X, eT, N, hn⟩ := X; obtain ⟨hx, hZ, hby, hown, hml, hlk, hrt⟩ := C
  subst hp; exact Go.of (fun t q => XS.pop X.here hx rfl (hb hby hd) rfl hc q) k
theorem Go.dup_x1 (C : Cx p s m meth c Z bytes own ret maxL) (X : On p l e R s m args below meth c n0 T h cells slots) {v u : Value} (hd : decode bytes pc = .ok (.dup_x1, 1)) (hc : v.category = 1) (hc2 : u.category = 1) (hp : pc + 1 = pc') (k : Go p e below s n0 rc rs P T (mkF m pc' Ls (v :: u :: v :: st))) : Go p e below s n0 rc rs P T (mkF m pc Ls (v :: u :: st)) := by
  obtain ⟨locs, X, eT, N, hn⟩ := X; obtain ⟨hx, hZ, hby, hown, hml, hlk, hrt⟩ := C
  subst hp; exact Go.of (fun t q => XS.dupX1 X.here hx rfl (hb hby hd) rfl hc hc2 q) k
theorem Go.dup2 (C : Cx p s m meth c Z bytes own ret maxL) (X : On p l e R s m args below meth c n0 T h cells slots) {v u : Value} (hd : decode bytes pc = .ok (.dup2, 1)) (hc : v.category = 1) (hc2 : u.category = 1) (hp : pc + 1 = pc') (k : Go p e below s n0 rc rs P T (mkF m pc' Ls (v :: u :: v :: u :: st))) : Go p e below s n0 rc rs P T (mkF m pc Ls (v :: u :: st)) := by
  obtain ⟨locs, X, eT, N, hn⟩ := X; obtain ⟨hx, hZ, hby, hown, hml, hlk, hrt⟩ := C
  subst hp; exact Go.of (fun t q => Jvm.Free.XT.dup2 X.here hx rfl (hb hby hd) rfl hc hc2 q) k
theorem Go.dup2L (C : Cx p s m meth c Z bytes own ret maxL) (X : On p l e R s m args below meth c n0 T h cells slots) {x : Int64} (hd : decode bytes pc = .ok (.dup2, 1))  (hp : pc + 1 = pc') (k : Go p e below s n0 rc rs P T (mkF m pc' Ls (.long x :: .long x :: st))) : Go p e below s n0 rc rs P T (mkF m pc Ls (.long x :: st)) := by
  obtain ⟨locs, X, eT, N, hn⟩ := X; obtain ⟨hx, hZ, hby, hown, hml, hlk, hrt⟩ := C
  subst hp; exact Go.of (fun t q => Jvm.Free.XT.dup2L X.here hx rfl (hb hby hd) rfl q) k
theorem Go.iconst (C : Cx p s m meth c Z bytes own ret maxL) (X : On p l e R s m args below meth c n0 T h cells slots) {i : Int} {v : Int32} (hd : decode bytes pc = .ok (.iconst i, 1)) (hv : Int32.ofInt i = v) (hp : pc + 1 = pc') (k : Go p e below s n0 rc rs P T (mkF m pc' Ls (.int v :: st))) : Go p e below s n0 rc rs P T (mkF m pc Ls st) := by
  obtain ⟨locs, X, eT, N, hn⟩ := X; obtain ⟨hx, hZ, hby, hown, hml, hlk, hrt⟩ := C
  subst hp hv; exact Go.of (fun t q => XS.iconst X.here hx rfl (hb hby hd) q) k
theorem Go.bipush (C : Cx p s m meth c Z bytes own ret maxL) (X : On p l e R s m args below meth c n0 T h cells slots) {i : Int} {v : Int32} (hd : decode bytes pc = .ok (.bipush i, 2)) (hv : (Int8.ofInt i).toInt32 = v) (hp : pc + 2 = pc') (k : Go p e below s n0 rc rs P T (mkF m pc' Ls (.int v :: st))) : Go p e below s n0 rc rs P T (mkF m pc Ls st) := by
  obtain ⟨locs, X, eT, N, hn⟩ := X; obtain ⟨hx, hZ, hby, hown, hml, hlk, hrt⟩ := C
  subst hp hv; exact Go.of (fun t q => XS.bipush X.here hx rfl (hb hby hd) q) k
theorem Go.sipush (C : Cx p s m meth c Z bytes own ret maxL) (X : On p l e R s m args below meth c n0 T h cells slots) {i : Int} {v : Int32} (hd : decode bytes pc = .ok (.sipush i, 3)) (hv : (Int16.ofInt i).toInt32 = v) (hp : pc + 3 = pc') (k : Go p e below s n0 rc rs P T (mkF m pc' Ls (.int v :: st))) : Go p e below s n0 rc rs P T (mkF m pc Ls st) := by
  obtain ⟨locs, X, eT, N, hn⟩ := X; obtain ⟨hx, hZ, hby, hown, hml, hlk, hrt⟩ := C
  subst hp hv; exact Go.of (fun t q => XS.sipush X.here hx rfl (hb hby hd) q) k
theorem Go.lconst (C : Cx p s m meth c Z bytes own ret maxL) (X : On p l e R s m args below meth c n0 T h cells slots) {i : Fin 2} {v : Int64} (hd : decode bytes pc = .ok (.lconst i, 1)) (hv : Int64.ofNat i = v) (hp : pc + 1 = pc') (k : Go p e below s n0 rc rs P T (mkF m pc' Ls (.long v :: st))) : Go p e below s n0 rc rs P T (mkF m pc Ls st) := by
  obtain ⟨locs, X, eT, N, hn⟩ := X; obtain ⟨hx, hZ, hby, hown, hml, hlk, hrt⟩ := C
  subst hp hv; exact Go.of (fun t q => XS.lconst X.here hx rfl (hb hby hd) q) k
theorem Go.aconst_null (C : Cx p s m meth c Z bytes own ret maxL) (X : On p l e R s m args below meth c n0 T h cells slots)  (hd : decode bytes pc = .ok (.aconst_null, 1))  (hp : pc + 1 = pc') (k : Go p e below s n0 rc rs P T (mkF m pc' Ls (.null :: st))) : Go p e below s n0 rc rs P T (mkF m pc Ls st) := by
  obtain ⟨locs, X, eT, N, hn⟩ := X; obtain ⟨hx, hZ, hby, hown, hml, hlk, hrt⟩ := C
  subst hp; exact Go.of (fun t q => XS.aconstNull X.here hx rfl (hb hby hd)  q) k
theorem Go.ldc (C : Cx p s m meth c Z bytes own ret maxL) (X : On p l e R s m args below meth c n0 T h cells slots) {i : Nat} {v : Int32} (hc : (Cond.constant own i v).before a0 Z = true) (hd : decode bytes pc = .ok (.ldc i, 2)) (hp : pc + 2 = pc') (k : Go p e below s n0 rc rs P T (mkF m pc' Ls (.int v :: st))) : Go p e below s n0 rc rs P T (mkF m pc Ls st) := by
  obtain ⟨locs, X, eT, N, hn⟩ := X; obtain ⟨hx, hZ, hby, hown, hml, hlk, hrt⟩ := C
  subst hp; exact Go.of (X.ldcInt hx hown (mvT hZ hc) (g := mkF m pc Ls st) rfl (hb hby hd)) k
theorem Go.ldc2 (C : Cx p s m meth c Z bytes own ret maxL) (X : On p l e R s m args below meth c n0 T h cells slots) {i : Nat} {v : Int64} (hc : (Cond.constantLong own i v).before a0 Z = true) (hd : decode bytes pc = .ok (.ldc2_w i, 3)) (hp : pc + 3 = pc') (k : Go p e below s n0 rc rs P T (mkF m pc' Ls (.long v :: st))) : Go p e below s n0 rc rs P T (mkF m pc Ls st) := by
  obtain ⟨locs, X, eT, N, hn⟩ := X; obtain ⟨hx, hZ, hby, hown, hml, hlk, hrt⟩ := C
  subst hp; exact Go.of (X.ldc2Long hx hown (mvT hZ hc) (g := mkF m pc Ls st) rfl (hb hby hd)) k
theorem Go.iload (C : Cx p s m meth c Z bytes own ret maxL) (X : On p l e R s m args below meth c n0 T h cells slots) {i : Nat} {v : Int32} (hd : decode bytes pc = .ok (.iload i, 2)) (hl : Ls[i]? = some (.val (.int v))) (hp : pc + 2 = pc') (k : Go p e below s n0 rc rs P T (mkF m pc' Ls (.int v :: st))) : Go p e below s n0 rc rs P T (mkF m pc Ls st) := by
  obtain ⟨locs, X, eT, N, hn⟩ := X; obtain ⟨hx, hZ, hby, hown, hml, hlk, hrt⟩ := C
  subst hp; exact Go.of (fun t q => XS.iload X.here hx rfl (hb hby hd) hl q) k
theorem Go.iloadN (C : Cx p s m meth c Z bytes own ret maxL) (X : On p l e R s m args below meth c n0 T h cells slots) {i : Fin 4} {v : Int32} (hd : decode bytes pc = .ok (.iload_n i, 1)) (hl : Ls[i.val]? = some (.val (.int v))) (hp : pc + 1 = pc') (k : Go p e below s n0 rc rs P T (mkF m pc' Ls (.int v :: st))) : Go p e below s n0 rc rs P T (mkF m pc Ls st) := by
  obtain ⟨locs, X, eT, N, hn⟩ := X; obtain ⟨hx, hZ, hby, hown, hml, hlk, hrt⟩ := C
  subst hp; exact Go.of (fun t q => XS.iloadN X.here hx rfl (hb hby hd) hl q) k
theorem Go.istore (C : Cx p s m meth c Z bytes own ret maxL) (X : On p l e R s m args below meth c n0 T h cells slots) {i : Nat} {v : Int32} {Ls' : Array Slot} (hd : decode bytes pc = .ok (.istore i, 2)) (hl : storeLocals Ls i (.int v) = some Ls') (hp : pc + 2 = pc') (k : Go p e below s n0 rc rs P T (mkF m pc' Ls' st)) : Go p e below s n0 rc rs P T (mkF m pc Ls (.int v :: st)) := by
  obtain ⟨locs, X, eT, N, hn⟩ := X; obtain ⟨hx, hZ, hby, hown, hml, hlk, hrt⟩ := C
  subst hp; exact Go.of (fun t q => XS.istore X.here hx rfl (hb hby hd) rfl hl q) k
theorem Go.istoreN (C : Cx p s m meth c Z bytes own ret maxL) (X : On p l e R s m args below meth c n0 T h cells slots) {i : Fin 4} {v : Int32} {Ls' : Array Slot} (hd : decode bytes pc = .ok (.istore_n i, 1)) (hl : storeLocals Ls i.val (.int v) = some Ls') (hp : pc + 1 = pc') (k : Go p e below s n0 rc rs P T (mkF m pc' Ls' st)) : Go p e below s n0 rc rs P T (mkF m pc Ls (.int v :: st)) := by
  obtain ⟨locs, X, eT, N, hn⟩ := X; obtain ⟨hx, hZ, hby, hown, hml, hlk, hrt⟩ := C
  subst hp; exact Go.of (fun t q => XS.istoreN X.here hx rfl (hb hby hd) rfl hl q) k
theorem Go.lload (C : Cx p s m meth c Z bytes own ret maxL) (X : On p l e R s m args below meth c n0 T h cells slots) {i : Nat} {v : Int64} (hd : decode bytes pc = .ok (.lload i, 2)) (hl : Ls[i]? = some (.val (.long v))) (hp : pc + 2 = pc') (k : Go p e below s n0 rc rs P T (mkF m pc' Ls (.long v :: st))) : Go p e below s n0 rc rs P T (mkF m pc Ls st) := by
  obtain ⟨locs, X, eT, N, hn⟩ := X; obtain ⟨hx, hZ, hby, hown, hml, hlk, hrt⟩ := C
  subst hp; exact Go.of (fun t q => XS.lload X.here hx rfl (hb hby hd) hl q) k
theorem Go.lloadN (C : Cx p s m meth c Z bytes own ret maxL) (X : On p l e R s m args below meth c n0 T h cells slots) {i : Fin 4} {v : Int64} (hd : decode bytes pc = .ok (.lload_n i, 1)) (hl : Ls[i.val]? = some (.val (.long v))) (hp : pc + 1 = pc') (k : Go p e below s n0 rc rs P T (mkF m pc' Ls (.long v :: st))) : Go p e below s n0 rc rs P T (mkF m pc Ls st) := by
  obtain ⟨locs, X, eT, N, hn⟩ := X; obtain ⟨hx, hZ, hby, hown, hml, hlk, hrt⟩ := C
  subst hp; exact Go.of (fun t q => XS.lloadN X.here hx rfl (hb hby hd) hl q) k
theorem Go.lstore (C : Cx p s m meth c Z bytes own ret maxL) (X : On p l e R s m args below meth c n0 T h cells slots) {i : Nat} {v : Int64} {Ls' : Array Slot} (hd : decode bytes pc = .ok (.lstore i, 2)) (hl : storeLocals Ls i (.long v) = some Ls') (hp : pc + 2 = pc') (k : Go p e below s n0 rc rs P T (mkF m pc' Ls' st)) : Go p e below s n0 rc rs P T (mkF m pc Ls (.long v :: st)) := by
  obtain ⟨locs, X, eT, N, hn⟩ := X; obtain ⟨hx, hZ, hby, hown, hml, hlk, hrt⟩ := C
  subst hp; exact Go.of (fun t q => XS.lstore X.here hx rfl (hb hby hd) rfl hl q) k
theorem Go.lstoreN (C : Cx p s m meth c Z bytes own ret maxL) (X : On p l e R s m args below meth c n0 T h cells slots) {i : Fin 4} {v : Int64} {Ls' : Array Slot} (hd : decode bytes pc = .ok (.lstore_n i, 1)) (hl : storeLocals Ls i.val (.long v) = some Ls') (hp : pc + 1 = pc') (k : Go p e below s n0 rc rs P T (mkF m pc' Ls' st)) : Go p e below s n0 rc rs P T (mkF m pc Ls (.long v :: st)) := by
  obtain ⟨locs, X, eT, N, hn⟩ := X; obtain ⟨hx, hZ, hby, hown, hml, hlk, hrt⟩ := C
  subst hp; exact Go.of (fun t q => XS.lstoreN X.here hx rfl (hb hby hd) rfl hl q) k
theorem Go.aload (C : Cx p s m meth c Z bytes own ret maxL) (X : On p l e R s m args below meth c n0 T h cells slots) {i : Nat} {v : Value} (hd : decode bytes pc = .ok (.aload i, 2)) (hl : Ls[i]? = some (.val v)) (hv : v.isRef = true) (hp : pc + 2 = pc') (k : Go p e below s n0 rc rs P T (mkF m pc' Ls (v :: st))) : Go p e below s n0 rc rs P T (mkF m pc Ls st) := by
  obtain ⟨locs, X, eT, N, hn⟩ := X; obtain ⟨hx, hZ, hby, hown, hml, hlk, hrt⟩ := C
  subst hp; exact Go.of (fun t q => XS.aload X.here hx rfl (hb hby hd) hl hv q) k
theorem Go.aloadN (C : Cx p s m meth c Z bytes own ret maxL) (X : On p l e R s m args below meth c n0 T h cells slots) {i : Fin 4} {v : Value} (hd : decode bytes pc = .ok (.aload_n i, 1)) (hl : Ls[i.val]? = some (.val v)) (hv : v.isRef = true) (hp : pc + 1 = pc') (k : Go p e below s n0 rc rs P T (mkF m pc' Ls (v :: st))) : Go p e below s n0 rc rs P T (mkF m pc Ls st) := by
  obtain ⟨locs, X, eT, N, hn⟩ := X; obtain ⟨hx, hZ, hby, hown, hml, hlk, hrt⟩ := C
  subst hp; exact Go.of (fun t q => XS.aloadN X.here hx rfl (hb hby hd) hl hv q) k
theorem Go.astore (C : Cx p s m meth c Z bytes own ret maxL) (X : On p l e R s m args below meth c n0 T h cells slots) {i : Nat} {v : Value} {Ls' : Array Slot} (hd : decode bytes pc = .ok (.astore i, 2)) (hv : v.isRef = true) (hl : storeLocals Ls i v = some Ls') (hp : pc + 2 = pc') (k : Go p e below s n0 rc rs P T (mkF m pc' Ls' st)) : Go p e below s n0 rc rs P T (mkF m pc Ls (v :: st)) := by
  obtain ⟨locs, X, eT, N, hn⟩ := X; obtain ⟨hx, hZ, hby, hown, hml, hlk, hrt⟩ := C
  subst hp; exact Go.of (fun t q => XS.astore X.here hx rfl (hb hby hd) rfl hv hl q) k
theorem Go.astoreN (C : Cx p s m meth c Z bytes own ret maxL) (X : On p l e R s m args below meth c n0 T h cells slots) {i : Fin 4} {v : Value} {Ls' : Array Slot} (hd : decode bytes pc = .ok (.astore_n i, 1)) (hv : v.isRef = true) (hl : storeLocals Ls i.val v = some Ls') (hp : pc + 1 = pc') (k : Go p e below s n0 rc rs P T (mkF m pc' Ls' st)) : Go p e below s n0 rc rs P T (mkF m pc Ls (v :: st)) := by
  obtain ⟨locs, X, eT, N, hn⟩ := X; obtain ⟨hx, hZ, hby, hown, hml, hlk, hrt⟩ := C
  subst hp; exact Go.of (fun t q => XS.astoreN X.here hx rfl (hb hby hd) rfl hv hl q) k
theorem Go.iinc (C : Cx p s m meth c Z bytes own ret maxL) (X : On p l e R s m args below meth c n0 T h cells slots) {i : Nat} {d : Int} {v v' : Int32} {Ls' : Array Slot} (hd : decode bytes pc = .ok (.iinc i d, 3)) (hl : Ls[i]? = some (.val (.int v))) (hv : v + Int32.ofInt d = v') (hl' : storeLocals Ls i (.int v') = some Ls') (hp : pc + 3 = pc') (k : Go p e below s n0 rc rs P T (mkF m pc' Ls' st)) : Go p e below s n0 rc rs P T (mkF m pc Ls st) := by
  obtain ⟨locs, X, eT, N, hn⟩ := X; obtain ⟨hx, hZ, hby, hown, hml, hlk, hrt⟩ := C
  subst hp hv; exact Go.of (fun t q => XS.iinc X.here hx rfl (hb hby hd) hl hl' q) k
theorem Go.goto (C : Cx p s m meth c Z bytes own ret maxL) (X : On p l e R s m args below meth c n0 T h cells slots) {o : Int} (hd : decode bytes pc = .ok (.goto o, 3)) (ho : 0 ≤ (pc : Int) + o) (hp : ((pc : Int) + o).toNat = pc') (k : Go p e below s n0 rc rs P T (mkF m pc' Ls st)) : Go p e below s n0 rc rs P T (mkF m pc Ls st) := by
  obtain ⟨locs, X, eT, N, hn⟩ := X; obtain ⟨hx, hZ, hby, hown, hml, hlk, hrt⟩ := C
  exact Go.of (fun t q => XS.goto X.here hx rfl (pc0 := pc) rfl (hb hby hd) ho hp q) k
theorem Go.ifYes (C : Cx p s m meth c Z bytes own ret maxL) (X : On p l e R s m args below meth c n0 T h cells slots) {o : Int} {cd : ClassFile.Cond} {x : Int32} (hd : decode bytes pc = .ok (.ifCond cd o, 3)) (hc : ifCond.holds cd x = true) (ho : 0 ≤ (pc : Int) + o) (hp : ((pc : Int) + o).toNat = pc') (k : Go p e below s n0 rc rs P T (mkF m pc' Ls st)) : Go p e below s n0 rc rs P T (mkF m pc Ls (.int x :: st)) := by
  obtain ⟨locs, X, eT, N, hn⟩ := X; obtain ⟨hx, hZ, hby, hown, hml, hlk, hrt⟩ := C
  exact Go.of (fun t q => XS.ifYes X.here hx rfl (pc0 := pc) rfl (hb hby hd) rfl hc ho hp q) k
theorem Go.ifNo (C : Cx p s m meth c Z bytes own ret maxL) (X : On p l e R s m args below meth c n0 T h cells slots) {o : Int} {cd : ClassFile.Cond} {x : Int32} (hd : decode bytes pc = .ok (.ifCond cd o, 3)) (hc : ifCond.holds cd x = false) (hp : pc + 3 = pc') (k : Go p e below s n0 rc rs P T (mkF m pc' Ls st)) : Go p e below s n0 rc rs P T (mkF m pc Ls (.int x :: st)) := by
  obtain ⟨locs, X, eT, N, hn⟩ := X; obtain ⟨hx, hZ, hby, hown, hml, hlk, hrt⟩ := C
  subst hp; exact Go.of (fun t q => XS.ifNo X.here hx rfl (hb hby hd) rfl hc q) k
theorem Go.icmpYes (C : Cx p s m meth c Z bytes own ret maxL) (X : On p l e R s m args below meth c n0 T h cells slots) {o : Int} {cd : ClassFile.Cond} {x y : Int32} (hd : decode bytes pc = .ok (.if_icmp cd o, 3)) (hc : if_icmp.holds cd x y = true) (ho : 0 ≤ (pc : Int) + o) (hp : ((pc : Int) + o).toNat = pc') (k : Go p e below s n0 rc rs P T (mkF m pc' Ls st)) : Go p e below s n0 rc rs P T (mkF m pc Ls (.int y :: .int x :: st)) := by
  obtain ⟨locs, X, eT, N, hn⟩ := X; obtain ⟨hx, hZ, hby, hown, hml, hlk, hrt⟩ := C
  exact Go.of (fun t q => XS.icmpYes X.here hx rfl (pc0 := pc) rfl (hb hby hd) rfl hc ho hp q) k
theorem Go.icmpNo (C : Cx p s m meth c Z bytes own ret maxL) (X : On p l e R s m args below meth c n0 T h cells slots) {o : Int} {cd : ClassFile.Cond} {x y : Int32} (hd : decode bytes pc = .ok (.if_icmp cd o, 3)) (hc : if_icmp.holds cd x y = false) (hp : pc + 3 = pc') (k : Go p e below s n0 rc rs P T (mkF m pc' Ls st)) : Go p e below s n0 rc rs P T (mkF m pc Ls (.int y :: .int x :: st)) := by
  obtain ⟨locs, X, eT, N, hn⟩ := X; obtain ⟨hx, hZ, hby, hown, hml, hlk, hrt⟩ := C
  subst hp; exact Go.of (fun t q => XS.icmpNo X.here hx rfl (hb hby hd) rfl hc q) k
theorem Go.acmpYes (C : Cx p s m meth c Z bytes own ret maxL) (X : On p l e R s m args below meth c n0 T h cells slots) {o : Int} {cd : ClassFile.ACond} {a b : Addr} (hd : decode bytes pc = .ok (.if_acmp cd o, 3)) (hc : if_acmp.holds cd (some a) (some b) = true) (ho : 0 ≤ (pc : Int) + o) (hp : ((pc : Int) + o).toNat = pc') (k : Go p e below s n0 rc rs P T (mkF m pc' Ls st)) : Go p e below s n0 rc rs P T (mkF m pc Ls (.ref b :: .ref a :: st)) := by
  obtain ⟨locs, X, eT, N, hn⟩ := X; obtain ⟨hx, hZ, hby, hown, hml, hlk, hrt⟩ := C
  exact Go.of (fun t q => XS.acmpYes X.here hx rfl (pc0 := pc) rfl (hb hby hd) rfl hc ho hp q) k
theorem Go.acmpNo (C : Cx p s m meth c Z bytes own ret maxL) (X : On p l e R s m args below meth c n0 T h cells slots) {o : Int} {cd : ClassFile.ACond} {a b : Addr} (hd : decode bytes pc = .ok (.if_acmp cd o, 3)) (hc : if_acmp.holds cd (some a) (some b) = false) (hp : pc + 3 = pc') (k : Go p e below s n0 rc rs P T (mkF m pc' Ls st)) : Go p e below s n0 rc rs P T (mkF m pc Ls (.ref b :: .ref a :: st)) := by
  obtain ⟨locs, X, eT, N, hn⟩ := X; obtain ⟨hx, hZ, hby, hown, hml, hlk, hrt⟩ := C
  subst hp; exact Go.of (fun t q => XS.acmpNo X.here hx rfl (hb hby hd) rfl hc q) k
theorem Go.acmpV (C : Cx p s m meth c Z bytes own ret maxL) (X : On p l e R s m args below meth c n0 T h cells slots) {o : Int} {cd : ClassFile.ACond} {u v : Value} {same : Bool} (hd : decode bytes pc = .ok (.if_acmp cd o, 3)) (h1 : u.isRef = true) (h2 : v.isRef = true) (hq : decide (u = v) = same) (ho : 0 ≤ (pc : Int) + o) (hp : pc' = if acV cd same = true then ((pc : Int) + o).toNat else pc + 3) (k : Go p e below s n0 rc rs P T (mkF m pc' Ls st)) : Go p e below s n0 rc rs P T (mkF m pc Ls (v :: u :: st)) := by
  obtain ⟨locs, X, eT, N, hn⟩ := X; obtain ⟨hx, hZ, hby, hown, hml, hlk, hrt⟩ := C
  exact Go.of (fun t q => acmp X hx rfl h1 h2 (pc0 := pc) rfl (hb hby hd) rfl hq ho hp q) k
theorem Go.ifnullYes (C : Cx p s m meth c Z bytes own ret maxL) (X : On p l e R s m args below meth c n0 T h cells slots) {o : Int} (hd : decode bytes pc = .ok (.ifnull o, 3)) (ho : 0 ≤ (pc : Int) + o) (hp : ((pc : Int) + o).toNat = pc') (k : Go p e below s n0 rc rs P T (mkF m pc' Ls st)) : Go p e below s n0 rc rs P T (mkF m pc Ls (.null :: st)) := by
  obtain ⟨locs, X, eT, N, hn⟩ := X; obtain ⟨hx, hZ, hby, hown, hml, hlk, hrt⟩ := C
  exact Go.of (fun t q => XS.ifnullYes X.here hx rfl (pc0 := pc) rfl (hb hby hd) rfl ho hp q) k
theorem Go.ifnullNo (C : Cx p s m meth c Z bytes own ret maxL) (X : On p l e R s m args below meth c n0 T h cells slots) {o : Int} {a : Addr} (hd : decode bytes pc = .ok (.ifnull o, 3)) (hp : pc + 3 = pc') (k : Go p e below s n0 rc rs P T (mkF m pc' Ls st)) : Go p e below s n0 rc rs P T (mkF m pc Ls (.ref a :: st)) := by
  obtain ⟨locs, X, eT, N, hn⟩ := X; obtain ⟨hx, hZ, hby, hown, hml, hlk, hrt⟩ := C
  subst hp; exact Go.of (fun t q => XS.ifnullNo X.here hx rfl (hb hby hd) rfl q) k
theorem Go.ifnonnullYes (C : Cx p s m meth c Z bytes own ret maxL) (X : On p l e R s m args below meth c n0 T h cells slots) {o : Int} {a : Addr} (hd : decode bytes pc = .ok (.ifnonnull o, 3)) (ho : 0 ≤ (pc : Int) + o) (hp : ((pc : Int) + o).toNat = pc') (k : Go p e below s n0 rc rs P T (mkF m pc' Ls st)) : Go p e below s n0 rc rs P T (mkF m pc Ls (.ref a :: st)) := by
  obtain ⟨locs, X, eT, N, hn⟩ := X; obtain ⟨hx, hZ, hby, hown, hml, hlk, hrt⟩ := C
  exact Go.of (fun t q => XS.ifnonnullYes X.here hx rfl (pc0 := pc) rfl (hb hby hd) rfl ho hp q) k
theorem Go.ifnonnullNo (C : Cx p s m meth c Z bytes own ret maxL) (X : On p l e R s m args below meth c n0 T h cells slots) {o : Int} (hd : decode bytes pc = .ok (.ifnonnull o, 3)) (hp : pc + 3 = pc') (k : Go p e below s n0 rc rs P T (mkF m pc' Ls st)) : Go p e below s n0 rc rs P T (mkF m pc Ls (.null :: st)) := by
  obtain ⟨locs, X, eT, N, hn⟩ := X; obtain ⟨hx, hZ, hby, hown, hml, hlk, hrt⟩ := C
  subst hp; exact Go.of (fun t q => XS.ifnonnullNo X.here hx rfl (hb hby hd) rfl q) k
theorem Go.lswHit (C : Cx p s m meth c Z bytes own ret maxL) (X : On p l e R s m args below meth c n0 T h cells slots) {dflt : Int} {pairs : Array (Int × Int)} {len : Nat} {x : Int32} {a off : Int} (hd : decode bytes pc = .ok (.lookupswitch dflt pairs, len)) (hs : (pairs.toList.zip (pairs.toList.drop 1)).all (fun (a, next) => a.1 < next.1) = true) (hf : pairs.find? (·.1 == x.toInt) = some (a, off)) (ho : 0 ≤ (pc : Int) + off) (hp : ((pc : Int) + off).toNat = pc') (k : Go p e below s n0 rc rs P T (mkF m pc' Ls st)) : Go p e below s n0 rc rs P T (mkF m pc Ls (.int x :: st)) := by
  obtain ⟨locs, X, eT, N, hn⟩ := X; obtain ⟨hx, hZ, hby, hown, hml, hlk, hrt⟩ := C
  subst hp; exact Go.of (fun t q => X.lookupswitchHit hx (g := mkF m pc Ls (.int x :: st)) rfl rfl (hb hby hd) hs hf ho t q) k
theorem Go.lswMiss (C : Cx p s m meth c Z bytes own ret maxL) (X : On p l e R s m args below meth c n0 T h cells slots) {dflt : Int} {pairs : Array (Int × Int)} {len : Nat} {x : Int32} (hd : decode bytes pc = .ok (.lookupswitch dflt pairs, len)) (hs : (pairs.toList.zip (pairs.toList.drop 1)).all (fun (a, next) => a.1 < next.1) = true) (hf : pairs.find? (·.1 == x.toInt) = none) (ho : 0 ≤ (pc : Int) + dflt) (hp : ((pc : Int) + dflt).toNat = pc') (k : Go p e below s n0 rc rs P T (mkF m pc' Ls st)) : Go p e below s n0 rc rs P T (mkF m pc Ls (.int x :: st)) := by
  obtain ⟨locs, X, eT, N, hn⟩ := X; obtain ⟨hx, hZ, hby, hown, hml, hlk, hrt⟩ := C
  subst hp; exact Go.of (fun t q => X.lookupswitchMiss hx (g := mkF m pc Ls (.int x :: st)) rfl rfl (hb hby hd) hs hf ho t q) k
theorem Go.retV  (C : Cx p s m meth c Z bytes own none maxL) (X : On p l e R s m args below meth c n0 T h cells slots) (hd : decode bytes pc = .ok (.return_, 1)) (hq : P none h) (hc : cells ≤ rc) (hs : slots ≤ rs) : Go p e below s n0 rc rs P T (mkF m pc Ls []) := by
  obtain ⟨locs, X, eT, N, hn⟩ := X; obtain ⟨hx, hZ, hby, hown, hml, hlk, hrt⟩ := C
  obtain ⟨fs, hr, hrun, hended, hW, hsame⟩ := X.leave (v := none) (fun _ => rfl) hlk
  refine ⟨_, _, ?_, hrun, hended, _, _, rfl, ⟨?_, N⟩, ⟨_, rfl⟩, hW, hsame.mono hc hs⟩
  · exact X.returnOut hx hrt (hb hby hd) hr
  · show P _ T.heap; rw [eT]; exact hq
theorem own_retS {locs : List Loc} (X : Stand p l e R s m args below meth c T locs cells slots) (hx : p.tables.exec = Jvm.exec) {z z' : Int32} {t : FieldType} {rest : List Value} (hret : meth.sig.returnType = some t) (hn : narrow t (.int z) = .int z') (hd : decode c.code pc = .ok (.ireturn, 1)) {fs : List Frame}
    (hl : ∀ (f : JFrame) (acts : List Action), f.method = m → f.locked = none → f.entered = [] → (doReturn e (T.setTop f) acts (some (.int z'))).1 = T.setFrames fs) : Steps p.tables e below (T.setTop (mkF m pc Ls (.int z :: rest))) (T.setFrames fs) := by
  have hm' : T.vm.method? m = some meth := X.method'
  show Steps p.tables e below (T.setTop { method := m, pc := pc, locals := Ls, stack := _ :: rest, locked := none }) _
  jvm_step X.here [X.here.top, hx, hd, hm', hret, hn]
  first | (intro acts; rw [hl _ acts rfl rfl rfl]) | rw [hl _ _ rfl rfl rfl]
  exact Steps.refl _
theorem Go.retZ {t : FieldType} (C : Cx p s m meth c Z bytes own (some t) maxL) (X : On p l e R s m args below meth c n0 T h cells slots) {z z' : Int32} (hz : narrow t (.int z) = .int z') (hd : decode bytes pc = .ok (.ireturn, 1)) (hq : P (some (.int z')) h) (hc : cells ≤ rc) (hs : slots ≤ rs) : Go p e below s n0 rc rs P T (mkF m pc Ls (.int z :: st)) := by
  obtain ⟨locs, X, eT, N, hn⟩ := X; obtain ⟨hx, hZ, hby, hown, hml, hlk, hrt⟩ := C
  obtain ⟨fs, hr, hrun, hended, hW, hsame⟩ := X.leave (v := (some (.int z'))) (fun h => by rw [hrt] at h; cases h) hlk
  refine ⟨_, _, ?_, hrun, hended, _, _, rfl, ⟨?_, N⟩, ⟨_, rfl⟩, hW, hsame.mono hc hs⟩
  · exact own_retS X hx hrt hz (hb hby hd) hr
  · show P _ T.heap; rw [eT]; exact hq
theorem Go.retI  (C : Cx p s m meth c Z bytes own (some .int) maxL) (X : On p l e R s m args below meth c n0 T h cells slots) {z : Int32} (hd : decode bytes pc = .ok (.ireturn, 1)) (hq : P (some (.int z)) h) (hc : cells ≤ rc) (hs : slots ≤ rs) : Go p e below s n0 rc rs P T (mkF m pc Ls (.int z :: st)) := by
  obtain ⟨locs, X, eT, N, hn⟩ := X; obtain ⟨hx, hZ, hby, hown, hml, hlk, hrt⟩ := C
  obtain ⟨fs, hr, hrun, hended, hW, hsame⟩ := X.leave (v := (some (.int z))) (fun h => by rw [hrt] at h; cases h) hlk
  refine ⟨_, _, ?_, hrun, hended, _, _, rfl, ⟨?_, N⟩, ⟨_, rfl⟩, hW, hsame.mono hc hs⟩
  · exact own_retS X hx hrt rfl (hb hby hd) hr
  · show P _ T.heap; rw [eT]; exact hq
theorem Go.retL  (C : Cx p s m meth c Z bytes own (some .long) maxL) (X : On p l e R s m args below meth c n0 T h cells slots) {z : Int64} (hd : decode bytes pc = .ok (.lreturn, 1)) (hq : P (some (.long z)) h) (hc : cells ≤ rc) (hs : slots ≤ rs) : Go p e below s n0 rc rs P T (mkF m pc Ls (.long z :: st)) := by
  obtain ⟨locs, X, eT, N, hn⟩ := X; obtain ⟨hx, hZ, hby, hown, hml, hlk, hrt⟩ := C
  obtain ⟨fs, hr, hrun, hended, hW, hsame⟩ := X.leave (v := (some (.long z))) (fun h => by rw [hrt] at h; cases h) hlk
  refine ⟨_, _, ?_, hrun, hended, _, _, rfl, ⟨?_, N⟩, ⟨_, rfl⟩, hW, hsame.mono hc hs⟩
  · jvm_step X.here [X.here.top, hx, (hb hby hd), X.method', hrt, narrow]
    first | (intro acts; rw [hr _ acts rfl rfl rfl]) | rw [hr _ _ rfl rfl rfl]
    exact Steps.refl _
  · show P _ T.heap; rw [eT]; exact hq
theorem Go.retA {cn : String} (C : Cx p s m meth c Z bytes own (some (.object cn)) maxL) (X : On p l e R s m args below meth c n0 T h cells slots) {z : Value} (hz : z.isRef = true) (hd : decode bytes pc = .ok (.areturn, 1)) (hq : P (some z) h) (hc : cells ≤ rc) (hs : slots ≤ rs) : Go p e below s n0 rc rs P T (mkF m pc Ls (z :: st)) := by
  obtain ⟨locs, X, eT, N, hn⟩ := X; obtain ⟨hx, hZ, hby, hown, hml, hlk, hrt⟩ := C
  obtain ⟨fs, hr, hrun, hended, hW, hsame⟩ := X.leave (v := (some z)) (fun h => by rw [hrt] at h; cases h) hlk
  refine ⟨_, _, ?_, hrun, hended, _, _, rfl, ⟨?_, N⟩, ⟨_, rfl⟩, hW, hsame.mono hc hs⟩
  · rcases ref_cases hz with rfl | ⟨a, rfl⟩ <;>
    · jvm_step X.here [X.here.top, hx, (hb hby hd), X.method', hrt, Value.isRef, FieldType.isReference]
      first | (intro acts; rw [hr _ acts rfl rfl rfl]) | rw [hr _ _ rfl rfl rfl]
      exact Steps.refl _
  · show P _ T.heap; rw [eT]; exact hq
theorem Go.retAA {ct : FieldType} (C : Cx p s m meth c Z bytes own (some (.array ct)) maxL) (X : On p l e R s m args below meth c n0 T h cells slots) {z : Value} (hz : z.isRef = true) (hd : decode bytes pc = .ok (.areturn, 1)) (hq : P (some z) h) (hc : cells ≤ rc) (hs : slots ≤ rs) : Go p e below s n0 rc rs P T (mkF m pc Ls (z :: st)) := by
  obtain ⟨locs, X, eT, N, hn⟩ := X; obtain ⟨hx, hZ, hby, hown, hml, hlk, hrt⟩ := C
  obtain ⟨fs, hr, hrun, hended, hW, hsame⟩ := X.leave (v := (some z)) (fun h => by rw [hrt] at h; cases h) hlk
  refine ⟨_, _, ?_, hrun, hended, _, _, rfl, ⟨?_, N⟩, ⟨_, rfl⟩, hW, hsame.mono hc hs⟩
  · rcases ref_cases hz with rfl | ⟨a, rfl⟩ <;>
    · jvm_step X.here [X.here.top, hx, (hb hby hd), X.method', hrt, Value.isRef, FieldType.isReference]
      first | (intro acts; rw [hr _ acts rfl rfl rfl]) | rw [hr _ _ rfl rfl rfl]
      exact Steps.refl _
  · show P _ T.heap; rw [eT]; exact hq
theorem Go.getF (C : Cx p s m meth c Z bytes own ret maxL) (X : On p l e R s m args below meth c n0 T h cells slots) {R0 O n d host : String} {i : Nat} {a : Addr} {v : Value} (w : (Cond.fieldLink own i R0 n d).before a0 Z = true ∨ (Cond.fieldLinkNest own i R0 n d host).before a0 Z = true) (via : Via Z R0 O n d) (F : Fld Z h a O n d v) (hd : decode bytes pc = .ok (.getfield i, 3)) (hp : pc + 3 = pc')
    (k : ∀ T', On p l e R s m args below meth c n0 T' h cells slots → Go p e below s n0 rc rs P T' (mkF m pc' Ls (v :: st))) : Go p e below s n0 rc rs P T (mkF m pc Ls (.ref a :: st)) := by
  obtain ⟨locs, X, eT, N, hn⟩ := X; obtain ⟨hx, hZ, hby, hown, hml, hlk, hrt⟩ := C; subst hp
  obtain ⟨T', X', e', st'⟩ := RoadKit.getF X hx hZ hown w via eT F (g := mkF m pc Ls (.ref a :: st)) rfl rfl (hb hby hd)
  exact Go.of st' (k T' ⟨locs, X', e', N, hn⟩)
theorem Go.getS (C : Cx p s m meth c Z bytes own ret maxL) (X : On p l e R s m args below meth c n0 T h cells slots) {R0 O n d : String} {i : Nat} {v : Value} (w : (Cond.fieldLink own i R0 n d).before a0 Z = true) (via : Via Z R0 O n d) (F : Sta Z h O n d v) (hd : decode bytes pc = .ok (.getstatic i, 3)) (hp : pc + 3 = pc')
    (k : ∀ T', On p l e R s m args below meth c n0 T' h cells slots → Go p e below s n0 rc rs P T' (mkF m pc' Ls (v :: st))) : Go p e below s n0 rc rs P T (mkF m pc Ls st) := by
  obtain ⟨locs, X, eT, N, hn⟩ := X; obtain ⟨hx, hZ, hby, hown, hml, hlk, hrt⟩ := C; subst hp
  obtain ⟨T', X', e', st'⟩ := RoadKit.getS X hx hZ (host := "") hown w via eT F (g := mkF m pc Ls st) rfl (hb hby hd)
  exact Go.of st' (k T' ⟨locs, X', e', N, hn⟩)
theorem Go.putF (C : Cx p s m meth c Z bytes own ret maxL) (X : On p l e R s m args below meth c n0 T h cells slots) {R0 O n d host K : String} {i kk : Nat} {ty : FieldType} {a : Addr} {v old : Value} (w : (Cond.fieldLink own i R0 n d).before a0 Z = true ∨ (Cond.fieldLinkNest own i R0 n d host).before a0 Z = true) (via : Via Z R0 O n d) (F : Fld Z h a O n d old) (E : Exa Z h a K) (L : (Cond.lays K O n d).before a0 Z = true ∨ ((Cond.laysFinal K O n d).before a0 Z = true ∧ own = O ∧ meth.name = "<init>")) (wi : (Cond.instantiable K kk).before a0 Z = true) (ha : n0 ≤ a) (hty : parseFieldDescriptor d = some ty) (hn : narrow ty v = v) (hf : fits ty v = true) (hd : decode bytes pc = .ok (.putfield i, 3)) (hp : pc + 3 = pc')
    (k : ∀ T' h', On p l e R s m args below meth c n0 T' h' cells slots → Wr h h' a (slotOf Z O n d) v → Go p e below s n0 rc rs P T' (mkF m pc' Ls st)) : Go p e below s n0 rc rs P T (mkF m pc Ls (v :: .ref a :: st)) := by
  obtain ⟨locs, X, eT, N, hz⟩ := X; obtain ⟨hx, hZ, hby, hown, hml, hlk, hrt⟩ := C; subst hp
  obtain ⟨T', h', X', e', W, st'⟩ := RoadKit.putF X hx hZ hown w via eT F E L wi hty hn hf (g := mkF m pc Ls (v :: .ref a :: st)) rfl rfl (hb hby hd)
  exact Go.of st' (k T' h' ⟨_, X', e', Fr.snoc X' N ha, by rw [W.size]; exact hz⟩ W)
theorem Go.putFN (C : Cx p s m meth c Z bytes own ret maxL) (X : On p l e R s m args below meth c n0 T h cells slots) {R0 O n d K : String} {i kk : Nat} {ty : FieldType} {a : Addr} {v v' old : Value} (w : (Cond.fieldLink own i R0 n d).before a0 Z = true) (via : Via Z R0 O n d) (F : Fld Z h a O n d old) (E : Exa Z h a K) (L : (Cond.lays K O n d).before a0 Z = true ∨ ((Cond.laysFinal K O n d).before a0 Z = true ∧ own = O ∧ meth.name = "<init>")) (wi : (Cond.instantiable K kk).before a0 Z = true) (ha : n0 ≤ a) (hty : parseFieldDescriptor d = some ty) (hn : narrow ty v = v') (hf : fits ty v' = true) (hd : decode bytes pc = .ok (.putfield i, 3)) (hp : pc + 3 = pc')
    (k : ∀ T' h', On p l e R s m args below meth c n0 T' h' cells slots → Wr h h' a (slotOf Z O n d) v' → Go p e below s n0 rc rs P T' (mkF m pc' Ls st)) : Go p e below s n0 rc rs P T (mkF m pc Ls (v :: .ref a :: st)) := by
  obtain ⟨locs, X, eT, N, hz⟩ := X; obtain ⟨hx, hZ, hby, hown, hml, hlk, hrt⟩ := C; subst hp
  obtain ⟨T', h', X', e', W, st'⟩ := RoadKit.putFN X hx hZ hown w via eT F E L wi hty hn hf (g := mkF m pc Ls (v :: .ref a :: st)) rfl rfl (hb hby hd)
  exact Go.of st' (k T' h' ⟨_, X', e', Fr.snoc X' N ha, by rw [W.size]; exact hz⟩ W)
theorem Go.newO (C : Cx p s m meth c Z bytes own ret maxL) (X : On p l e R s m args below meth c n0 T h cells slots) {K : String} {i kk : Nat} (w : (Cond.classLink own i K).before a0 Z = true) (wi : (Cond.instantiable K kk).before a0 Z = true) (wz : (Cond.initialized K).before a0 Z = true) (hd : decode bytes pc = .ok (.new i, 3)) (hc : cells + 1 ≤ R.cells) (hl : slots + kk ≤ R.slots) (hp : pc + 3 = pc')
    (k : ∀ T' h' a, On p l e R s m args below meth c n0 T' h' (cells + 1) (slots + kk) → a = h.size → Ext h h' → Exa Z h' a K → (∀ {O nm d : String} {ty : FieldType}, Laid Z a0 K O nm d → parseFieldDescriptor d = some ty → Fld Z h' a O nm d (defaultValue ty)) → n0 ≤ a → Go p e below s n0 rc rs P T' (mkF m pc' Ls (.ref a :: st))) : Go p e below s n0 rc rs P T (mkF m pc Ls st) := by
  obtain ⟨locs, X, eT, N, hz⟩ := X; obtain ⟨hx, hZ, hby, hown, hml, hlk, hrt⟩ := C; subst hp
  obtain ⟨T', h', X', e', E, A, D, -, st'⟩ := RoadKit.newO X hx hZ hown w wi wz eT (g := mkF m pc Ls st) rfl (hb hby hd) hc hl
  exact Go.of st' (k T' h' h.size ⟨_, X', e', N, Nat.le_trans hz E.1⟩ rfl E A D hz)
theorem Go.initO (C : Cx p s m meth c Z bytes own ret maxL) (X : On p l e R s m args below meth c n0 T h cells slots) {a : Addr} (hI : ∀ locs, Stand p l e R s m args below meth c T locs cells slots → T.heap = h → ∃ T', Stand p l e R s m args below meth c T' locs cells slots ∧ T'.heap = h ∧ ∀ target, Steps p.tables e below (T'.setTop (mkF m (pc + 3) Ls st)) target → Steps p.tables e below (T.setTop (mkF m pc Ls (.ref a :: st))) target) (hp : pc + 3 = pc')
    (k : ∀ T', On p l e R s m args below meth c n0 T' h cells slots → Go p e below s n0 rc rs P T' (mkF m pc' Ls st)) : Go p e below s n0 rc rs P T (mkF m pc Ls (.ref a :: st)) := by
  obtain ⟨locs, X, eT, N, hz⟩ := X; subst hp
  obtain ⟨T', X', e', st'⟩ := hI locs X eT
  exact Go.of st' (k T' ⟨_, X', e', N, hz⟩)
theorem Go.castY (C : Cx p s m meth c Z bytes own ret maxL) (X : On p l e R s m args below meth c n0 T h cells slots) {K : String} {i : Nat} {a : Addr} (w : (Cond.classLink own i K).before a0 Z = true) (F : Ins Z h a K true) (hd : decode bytes pc = .ok (.checkcast i, 3)) (hp : pc + 3 = pc')
    (k : ∀ T', On p l e R s m args below meth c n0 T' h cells slots → Go p e below s n0 rc rs P T' (mkF m pc' Ls (.ref a :: st))) : Go p e below s n0 rc rs P T (mkF m pc Ls (.ref a :: st)) := by
  obtain ⟨locs, X, eT, N, hn⟩ := X; obtain ⟨hx, hZ, hby, hown, hml, hlk, hrt⟩ := C; subst hp
  obtain ⟨T', X', e', st'⟩ := RoadKit.castY X hx hZ hown w eT F (g := mkF m pc Ls (.ref a :: st)) rfl rfl (hb hby hd)
  exact Go.of st' (k T' ⟨locs, X', e', N, hn⟩)
theorem Go.instY (C : Cx p s m meth c Z bytes own ret maxL) (X : On p l e R s m args below meth c n0 T h cells slots) {K : String} {i : Nat} {a : Addr} (w : (Cond.classLink own i K).before a0 Z = true) (F : Ins Z h a K true) (hd : decode bytes pc = .ok (.instanceof i, 3)) (hp : pc + 3 = pc')
    (k : ∀ T', On p l e R s m args below meth c n0 T' h cells slots → Go p e below s n0 rc rs P T' (mkF m pc' Ls (.int 1 :: st))) : Go p e below s n0 rc rs P T (mkF m pc Ls (.ref a :: st)) := by
  obtain ⟨locs, X, eT, N, hn⟩ := X; obtain ⟨hx, hZ, hby, hown, hml, hlk, hrt⟩ := C; subst hp
  obtain ⟨T', X', e', st'⟩ := RoadKit.instY X hx hZ hown w eT F (g := mkF m pc Ls (.ref a :: st)) rfl rfl (hb hby hd)
  exact Go.of st' (k T' ⟨locs, X', e', N, hn⟩)
def AI (Z : State) (h : Heap) (a : Addr) (ty : FieldType) (n : Nat) (f : Nat → Int32) : Prop := ∃ cl : Cell, Arr Z h a cl ty ∧ cl.slots.size = n ∧ n < 2 ^ 31 ∧ ∀ i, i < n → cl.slots[i]? = some (.int (f i))
def AJ (Z : State) (h : Heap) (a : Addr) (n : Nat) (f : Nat → Int64) : Prop := ∃ cl : Cell, Arr Z h a cl .long ∧ cl.slots.size = n ∧ n < 2 ^ 31 ∧ ∀ i, i < n → cl.slots[i]? = some (.long (f i))
theorem clamp_of {j : Int32} {i : Nat} (hj : j.toInt = (i : Int)) : j.toNatClampNeg = i := by
  show j.toInt.toNat = i
  omega
theorem in_of {j : Int32} {i n : Nat} (hj : j.toInt = (i : Int)) (hi : i < n) {sz : Nat} (hs : sz = n) : ¬ (j < 0 ∨ sz ≤ j.toNatClampNeg) := by
  rw [clamp_of hj]
  intro q
  rcases q with q | q
  · rw [Int32.lt_iff_toInt_lt] at q
    have : (0 : Int32).toInt = 0 := rfl
    omega
  · omega
theorem len32 {z : Int32} {n : Nat} (hz : z.toInt = (n : Int)) : n.toInt32 = z := by
  apply Int32.toInt_inj.mp
  rw [hz]
  have h2 : z.toInt < 2147483648 := z.toInt_lt
  rw [hz] at h2
  exact Int32.toInt_ofNat_of_lt (by omega)
section AFacts
variable {h' : Heap} {a b : Addr} {ty : FieldType} {n sl : Nat} {f : Nat → Int32} {g : Nat → Int64} {v : Value} {ws : List Addr}
theorem AI.lt (F : AI Z h a ty n f) : a < h.size := by obtain ⟨c, A, -⟩ := F; exact A.lt
theorem AI.ext (F : AI Z h a ty n f) (E : Ext h h') : AI Z h' a ty n f := by obtain ⟨c, A, r⟩ := F; exact ⟨c, A.ext E, r⟩
theorem AI.other (F : AI Z h b ty n f) (W : Wr h h' a sl v) (q : b ≠ a) : AI Z h' b ty n f := by obtain ⟨c, A, r⟩ := F; exact ⟨c, A.other W q, r⟩
theorem AI.keep (F : AI Z h a ty n f) (K : Keep h h' ws) (q : a ∉ ws) : AI Z h' a ty n f := by obtain ⟨c, A, r⟩ := F; exact ⟨c, ⟨K.2.1 a c A.1 q, A.2⟩, r⟩
theorem AI.congr {f' : Nat → Int32} (F : AI Z h a ty n f) (q : ∀ i, i < n → f i = f' i) : AI Z h a ty n f' := by
  obtain ⟨c, A, r1, r2, r3⟩ := F; exact ⟨c, A, r1, r2, fun i hi => by rw [r3 i hi, q i hi]⟩
theorem AI.bound (F : AI Z h a ty n f) : n < 2 ^ 31 := by obtain ⟨c, A, r1, r2, r3⟩ := F; exact r2
theorem AI.set {i : Nat} {x : Int32} (F : AI Z h a ty n f) (W : Wr h h' a i (.int x)) : AI Z h' a ty n (fun k => if k = i then x else f k) := by
  obtain ⟨c, A, r1, r2, r3⟩ := F
  refine ⟨_, A.same W, by rw [sz_set]; exact r1, r2, fun k hk => ?_⟩
  by_cases q : k = i
  · subst q; simp [Cell.setSlot, r1, hk]
  · simp only [Cell.setSlot, if_neg q]
    rw [Array.getElem?_setIfInBounds_ne (fun e => q e.symm)]
    exact r3 k hk
theorem AI.new {k : ClassId} {z : Int32} {n : Nat} (hz : z.toInt = (n : Int)) (ht : defaultValue ty = .int 0) (A : Arr Z h a (newA k ty z) ty) : AI Z h a ty n (fun _ => 0) := by
  have h2 : z.toInt < 2147483648 := z.toInt_lt
  refine ⟨_, A, by rw [sz_new, clamp_of hz], by omega, fun i hi => ?_⟩
  simp [newA, clamp_of hz, hi, ht]
theorem AJ.lt (F : AJ Z h a n g) : a < h.size := by obtain ⟨c, A, -⟩ := F; exact A.lt
theorem AJ.ext (F : AJ Z h a n g) (E : Ext h h') : AJ Z h' a n g := by obtain ⟨c, A, r⟩ := F; exact ⟨c, A.ext E, r⟩
theorem AJ.other (F : AJ Z h b n g) (W : Wr h h' a sl v) (q : b ≠ a) : AJ Z h' b n g := by obtain ⟨c, A, r⟩ := F; exact ⟨c, A.other W q, r⟩
theorem AJ.keep (F : AJ Z h a n g) (K : Keep h h' ws) (q : a ∉ ws) : AJ Z h' a n g := by obtain ⟨c, A, r⟩ := F; exact ⟨c, ⟨K.2.1 a c A.1 q, A.2⟩, r⟩
theorem AJ.congr {g' : Nat → Int64} (F : AJ Z h a n g) (q : ∀ i, i < n → g i = g' i) : AJ Z h a n g' := by
  obtain ⟨c, A, r1, r2, r3⟩ := F; exact ⟨c, A, r1, r2, fun i hi => by rw [r3 i hi, q i hi]⟩
theorem AJ.set {i : Nat} {x : Int64} (F : AJ Z h a n g) (W : Wr h h' a i (.long x)) : AJ Z h' a n (fun k => if k = i then x else g k) := by
  obtain ⟨c, A, r1, r2, r3⟩ := F
  refine ⟨_, A.same W, by rw [sz_set]; exact r1, r2, fun k hk => ?_⟩
  by_cases q : k = i
  · subst q; simp [Cell.setSlot, r1, hk]
  · simp only [Cell.setSlot, if_neg q]
    rw [Array.getElem?_setIfInBounds_ne (fun e => q e.symm)]
    exact r3 k hk
theorem AJ.new {k : ClassId} {z : Int32} {n : Nat} (hz : z.toInt = (n : Int)) (A : Arr Z h a (newA k .long z) .long) : AJ Z h a n (fun _ => 0) := by
  have h2 : z.toInt < 2147483648 := z.toInt_lt
  refine ⟨_, A, by rw [sz_new, clamp_of hz], by omega, fun i hi => ?_⟩
  simp [newA, clamp_of hz, hi, defaultValue]
end AFacts
theorem Go.newP (C : Cx p s m meth c Z bytes own ret maxL) (X : On p l e R s m args below meth c n0 T h cells slots) {aty : ArrayType} {z : Int32} {nn cap : Nat} (w : (Cond.arrayClass (newarray.typeOf aty)).before a0 Z = true) (hd : decode bytes pc = .ok (.newarray aty, 2)) (hz : z.toInt = (nn : Int)) (hcap : nn ≤ cap) (hbig : cap * 8 ≤ 536870912) (hc : cells + 1 ≤ R.cells) (hl : slots + cap ≤ R.slots) (hp : pc + 2 = pc')
    (k : ∀ T' h' a cA, On p l e R s m args below meth c n0 T' h' (cells + 1) (slots + cap) → a = h.size → Ext h h' → Arr Z h' a (newA cA (newarray.typeOf aty) z) (newarray.typeOf aty) → n0 ≤ a → Go p e below s n0 rc rs P T' (mkF m pc' Ls (.ref a :: st))) : Go p e below s n0 rc rs P T (mkF m pc Ls (.int z :: st)) := by
  obtain ⟨locs, X, eT, N, hn⟩ := X; obtain ⟨hx, hZ, hby, hown, hml, hlk, hrt⟩ := C; subst hp
  obtain ⟨T', h', cA, X', e', E, A, st'⟩ := RoadKit.newP X hx hZ w eT (g := mkF m pc Ls (.int z :: st)) rfl (hb hby hd) rfl (by rw [Int32.lt_iff_toInt_lt]; have : (0 : Int32).toInt = 0 := rfl; omega) (cap := cap) (by rw [clamp_of hz]; exact hcap) hbig hc hl
  exact Go.of st' (k T' h' h.size cA ⟨_, X', e', N, Nat.le_trans hn E.1⟩ rfl E A hn)
theorem Go.alenI (C : Cx p s m meth c Z bytes own ret maxL) (X : On p l e R s m args below meth c n0 T h cells slots) {a : Addr} {ty : FieldType} {n : Nat} {f : Nat → Int32} {z : Int32} (A : AI Z h a ty n f) (hz : z.toInt = (n : Int)) (hd : decode bytes pc = .ok (.arraylength, 1)) (hp : pc + 1 = pc') (k : Go p e below s n0 rc rs P T (mkF m pc' Ls (.int z :: st))) : Go p e below s n0 rc rs P T (mkF m pc Ls (.ref a :: st)) := by
  obtain ⟨locs, X, eT, N, hn⟩ := X; obtain ⟨hx, hZ, hby, hown, hml, hlk, hrt⟩ := C; subst hp
  obtain ⟨cl, A, r1, r2, r3⟩ := A
  refine Go.of (fun t q => X.arraylength hx (by rw [eT]; exact A.1) (State.isArrayOf_alike hZ.alike A.2.1) (g := mkF m pc Ls (.ref a :: st)) rfl rfl (hb hby hd) t ?_) k
  rw [r1, len32 hz]; exact q
theorem Go.alenJ (C : Cx p s m meth c Z bytes own ret maxL) (X : On p l e R s m args below meth c n0 T h cells slots) {a : Addr} {n : Nat} {f : Nat → Int64} {z : Int32} (A : AJ Z h a n f) (hz : z.toInt = (n : Int)) (hd : decode bytes pc = .ok (.arraylength, 1)) (hp : pc + 1 = pc') (k : Go p e below s n0 rc rs P T (mkF m pc' Ls (.int z :: st))) : Go p e below s n0 rc rs P T (mkF m pc Ls (.ref a :: st)) := by
  obtain ⟨locs, X, eT, N, hn⟩ := X; obtain ⟨hx, hZ, hby, hown, hml, hlk, hrt⟩ := C; subst hp
  obtain ⟨cl, A, r1, r2, r3⟩ := A
  refine Go.of (fun t q => X.arraylength hx (by rw [eT]; exact A.1) (State.isArrayOf_alike hZ.alike A.2.1) (g := mkF m pc Ls (.ref a :: st)) rfl rfl (hb hby hd) t ?_) k
  rw [r1, len32 hz]; exact q
theorem Go.iaload (C : Cx p s m meth c Z bytes own ret maxL) (X : On p l e R s m args below meth c n0 T h cells slots) {a : Addr} {n : Nat} {f : Nat → Int32} {j : Int32} {i : Nat} {w : Int32} (A : AI Z h a .int n f) (hj : j.toInt = (i : Int)) (hi : i < n) (hw : f i = w) (hd : decode bytes pc = .ok (.iaload, 1)) (hp : pc + 1 = pc') (k : Go p e below s n0 rc rs P T (mkF m pc' Ls (.int w :: st))) : Go p e below s n0 rc rs P T (mkF m pc Ls (.int j :: .ref a :: st)) := by
  obtain ⟨locs, X, eT, N, hn⟩ := X; obtain ⟨hx, hZ, hby, hown, hml, hlk, hrt⟩ := C; subst hp hw
  obtain ⟨cl, A, r1, r2, r3⟩ := A
  exact Go.of (fun t q => X.iaload hx (j := j) (v := .int (f i)) (by rw [eT]; exact A.1) (State.isArrayOf_alike hZ.alike A.2.1) A.2.2 (in_of hj hi r1) (by rw [clamp_of hj]; exact r3 i hi) (g := mkF m pc Ls (.int j :: .ref a :: st)) rfl rfl (hb hby hd) t q) k
theorem Go.baload (C : Cx p s m meth c Z bytes own ret maxL) (X : On p l e R s m args below meth c n0 T h cells slots) {a : Addr} {n : Nat} {f : Nat → Int32} {j : Int32} {i : Nat} {w : Int32} (A : AI Z h a .byte n f) (hj : j.toInt = (i : Int)) (hi : i < n) (hw : f i = w) (hd : decode bytes pc = .ok (.baload, 1)) (hp : pc + 1 = pc') (k : Go p e below s n0 rc rs P T (mkF m pc' Ls (.int w :: st))) : Go p e below s n0 rc rs P T (mkF m pc Ls (.int j :: .ref a :: st)) := by
  obtain ⟨locs, X, eT, N, hn⟩ := X; obtain ⟨hx, hZ, hby, hown, hml, hlk, hrt⟩ := C; subst hp hw
  obtain ⟨cl, A, r1, r2, r3⟩ := A
  exact Go.of (fun t q => X.baloadBytes hx (j := j) (v := .int (f i)) (by rw [eT]; exact A.1) (State.isArrayOf_alike hZ.alike A.2.1) A.2.2 (in_of hj hi r1) (by rw [clamp_of hj]; exact r3 i hi) (g := mkF m pc Ls (.int j :: .ref a :: st)) rfl rfl (hb hby hd) t q) k
theorem Go.zaload (C : Cx p s m meth c Z bytes own ret maxL) (X : On p l e R s m args below meth c n0 T h cells slots) {a : Addr} {n : Nat} {f : Nat → Int32} {j : Int32} {i : Nat} {w : Int32} (A : AI Z h a .boolean n f) (hj : j.toInt = (i : Int)) (hi : i < n) (hw : f i = w) (hd : decode bytes pc = .ok (.baload, 1)) (hp : pc + 1 = pc') (k : Go p e below s n0 rc rs P T (mkF m pc' Ls (.int w :: st))) : Go p e below s n0 rc rs P T (mkF m pc Ls (.int j :: .ref a :: st)) := by
  obtain ⟨locs, X, eT, N, hn⟩ := X; obtain ⟨hx, hZ, hby, hown, hml, hlk, hrt⟩ := C; subst hp hw
  obtain ⟨cl, A, r1, r2, r3⟩ := A
  exact Go.of (fun t q => X.baloadBooleans hx (j := j) (v := .int (f i)) (by rw [eT]; exact A.1) (State.isArrayOf_alike hZ.alike A.2.1) A.2.2 (in_of hj hi r1) (by rw [clamp_of hj]; exact r3 i hi) (g := mkF m pc Ls (.int j :: .ref a :: st)) rfl rfl (hb hby hd) t q) k
theorem Go.caload (C : Cx p s m meth c Z bytes own ret maxL) (X : On p l e R s m args below meth c n0 T h cells slots) {a : Addr} {n : Nat} {f : Nat → Int32} {j : Int32} {i : Nat} {w : Int32} (A : AI Z h a .char n f) (hj : j.toInt = (i : Int)) (hi : i < n) (hw : f i = w) (hd : decode bytes pc = .ok (.caload, 1)) (hp : pc + 1 = pc') (k : Go p e below s n0 rc rs P T (mkF m pc' Ls (.int w :: st))) : Go p e below s n0 rc rs P T (mkF m pc Ls (.int j :: .ref a :: st)) := by
  obtain ⟨locs, X, eT, N, hn⟩ := X; obtain ⟨hx, hZ, hby, hown, hml, hlk, hrt⟩ := C; subst hp hw
  obtain ⟨cl, A, r1, r2, r3⟩ := A
  exact Go.of (fun t q => X.caload hx (j := j) (v := .int (f i)) (by rw [eT]; exact A.1) (State.isArrayOf_alike hZ.alike A.2.1) A.2.2 (in_of hj hi r1) (by rw [clamp_of hj]; exact r3 i hi) (g := mkF m pc Ls (.int j :: .ref a :: st)) rfl rfl (hb hby hd) t q) k
theorem Go.laload (C : Cx p s m meth c Z bytes own ret maxL) (X : On p l e R s m args below meth c n0 T h cells slots) {a : Addr} {n : Nat} {f : Nat → Int64} {j : Int32} {i : Nat} {w : Int64} (A : AJ Z h a n f) (hj : j.toInt = (i : Int)) (hi : i < n) (hw : f i = w) (hd : decode bytes pc = .ok (.laload, 1)) (hp : pc + 1 = pc') (k : Go p e below s n0 rc rs P T (mkF m pc' Ls (.long w :: st))) : Go p e below s n0 rc rs P T (mkF m pc Ls (.int j :: .ref a :: st)) := by
  obtain ⟨locs, X, eT, N, hn⟩ := X; obtain ⟨hx, hZ, hby, hown, hml, hlk, hrt⟩ := C; subst hp hw
  obtain ⟨cl, A, r1, r2, r3⟩ := A
  exact Go.of (fun t q => X.laload hx (j := j) (v := .long (f i)) (by rw [eT]; exact A.1) (State.isArrayOf_alike hZ.alike A.2.1) A.2.2 (in_of hj hi r1) (by rw [clamp_of hj]; exact r3 i hi) (g := mkF m pc Ls (.int j :: .ref a :: st)) rfl rfl (hb hby hd) t q) k
theorem Go.iastore (C : Cx p s m meth c Z bytes own ret maxL) (X : On p l e R s m args below meth c n0 T h cells slots) {a : Addr} {n : Nat} {f : Nat → Int32} {j x x' : Int32} {i : Nat} (A : AI Z h a .int n f) (hj : j.toInt = (i : Int)) (hi : i < n) (hv : x = x') (ha : n0 ≤ a) (hd : decode bytes pc = .ok (.iastore, 1)) (hp : pc + 1 = pc')
    (k : ∀ T' h', On p l e R s m args below meth c n0 T' h' cells slots → Wr h h' a i (.int x') → AI Z h' a .int n (fun q => if q = i then x' else f q) → Go p e below s n0 rc rs P T' (mkF m pc' Ls st)) : Go p e below s n0 rc rs P T (mkF m pc Ls (.int x :: .int j :: .ref a :: st)) := by
  obtain ⟨locs, X, eT, N, hn⟩ := X; obtain ⟨hx, hZ, hby, hown, hml, hlk, hrt⟩ := C; subst hp hv
  obtain ⟨cl, A', r1, r2, r3⟩ := id A
  obtain ⟨T', h', X', e', W, st'⟩ := RoadKit.stI X hx hZ eT A' (in_of hj hi r1) (g := mkF m pc Ls (.int x :: .int j :: .ref a :: st)) rfl rfl (hb hby hd)
  have N' := Fr.snoc X' N ha
  rw [clamp_of hj] at W
  exact Go.of st' (k T' h' ⟨_, X', e', N', by rw [W.size]; exact hn⟩ W (A.set W))
theorem Go.bastore (C : Cx p s m meth c Z bytes own ret maxL) (X : On p l e R s m args below meth c n0 T h cells slots) {a : Addr} {n : Nat} {f : Nat → Int32} {j x x' : Int32} {i : Nat} (A : AI Z h a .byte n f) (hj : j.toInt = (i : Int)) (hi : i < n) (hv : nar .byte x = x') (ha : n0 ≤ a) (hd : decode bytes pc = .ok (.bastore, 1)) (hp : pc + 1 = pc')
    (k : ∀ T' h', On p l e R s m args below meth c n0 T' h' cells slots → Wr h h' a i (.int x') → AI Z h' a .byte n (fun q => if q = i then x' else f q) → Go p e below s n0 rc rs P T' (mkF m pc' Ls st)) : Go p e below s n0 rc rs P T (mkF m pc Ls (.int x :: .int j :: .ref a :: st)) := by
  obtain ⟨locs, X, eT, N, hn⟩ := X; obtain ⟨hx, hZ, hby, hown, hml, hlk, hrt⟩ := C; subst hp hv
  obtain ⟨cl, A', r1, r2, r3⟩ := id A
  obtain ⟨T', h', X', e', W, st'⟩ := RoadKit.stB X hx hZ eT A' (in_of hj hi r1) (g := mkF m pc Ls (.int x :: .int j :: .ref a :: st)) rfl rfl (hb hby hd)
  have N' := Fr.snoc X' N ha
  rw [clamp_of hj] at W
  exact Go.of st' (k T' h' ⟨_, X', e', N', by rw [W.size]; exact hn⟩ W (A.set W))
theorem Go.castore (C : Cx p s m meth c Z bytes own ret maxL) (X : On p l e R s m args below meth c n0 T h cells slots) {a : Addr} {n : Nat} {f : Nat → Int32} {j x x' : Int32} {i : Nat} (A : AI Z h a .char n f) (hj : j.toInt = (i : Int)) (hi : i < n) (hv : nar .char x = x') (ha : n0 ≤ a) (hd : decode bytes pc = .ok (.castore, 1)) (hp : pc + 1 = pc')
    (k : ∀ T' h', On p l e R s m args below meth c n0 T' h' cells slots → Wr h h' a i (.int x') → AI Z h' a .char n (fun q => if q = i then x' else f q) → Go p e below s n0 rc rs P T' (mkF m pc' Ls st)) : Go p e below s n0 rc rs P T (mkF m pc Ls (.int x :: .int j :: .ref a :: st)) := by
  obtain ⟨locs, X, eT, N, hn⟩ := X; obtain ⟨hx, hZ, hby, hown, hml, hlk, hrt⟩ := C; subst hp hv
  obtain ⟨cl, A', r1, r2, r3⟩ := id A
  obtain ⟨T', h', X', e', W, st'⟩ := RoadKit.stC X hx hZ eT A' (in_of hj hi r1) (g := mkF m pc Ls (.int x :: .int j :: .ref a :: st)) rfl rfl (hb hby hd)
  have N' := Fr.snoc X' N ha
  rw [clamp_of hj] at W
  exact Go.of st' (k T' h' ⟨_, X', e', N', by rw [W.size]; exact hn⟩ W (A.set W))
theorem Go.zastore (C : Cx p s m meth c Z bytes own ret maxL) (X : On p l e R s m args below meth c n0 T h cells slots) {a : Addr} {n : Nat} {f : Nat → Int32} {j x x' : Int32} {i : Nat} (A : AI Z h a .boolean n f) (hj : j.toInt = (i : Int)) (hi : i < n) (hv : nar .boolean x = x') (ha : n0 ≤ a) (hd : decode bytes pc = .ok (.bastore, 1)) (hp : pc + 1 = pc')
    (k : ∀ T' h', On p l e R s m args below meth c n0 T' h' cells slots → Wr h h' a i (.int x') → AI Z h' a .boolean n (fun q => if q = i then x' else f q) → Go p e below s n0 rc rs P T' (mkF m pc' Ls st)) : Go p e below s n0 rc rs P T (mkF m pc Ls (.int x :: .int j :: .ref a :: st)) := by
  obtain ⟨locs, X, eT, N, hn⟩ := X; obtain ⟨hx, hZ, hby, hown, hml, hlk, hrt⟩ := C; subst hp hv
  obtain ⟨cl, A', r1, r2, r3⟩ := id A
  obtain ⟨T', h', X', e', W, st'⟩ := RoadKit.stZ X hx hZ eT A' (in_of hj hi r1) (g := mkF m pc Ls (.int x :: .int j :: .ref a :: st)) rfl rfl (hb hby hd)
  have N' := Fr.snoc X' N ha
  rw [clamp_of hj] at W
  exact Go.of st' (k T' h' ⟨_, X', e', N', by rw [W.size]; exact hn⟩ W (A.set W))
theorem Go.lastore (C : Cx p s m meth c Z bytes own ret maxL) (X : On p l e R s m args below meth c n0 T h cells slots) {a : Addr} {n : Nat} {f : Nat → Int64} {j : Int32} {x : Int64} {i : Nat} (A : AJ Z h a n f) (hj : j.toInt = (i : Int)) (hi : i < n) (ha : n0 ≤ a) (hd : decode bytes pc = .ok (.lastore, 1)) (hp : pc + 1 = pc')
    (k : ∀ T' h', On p l e R s m args below meth c n0 T' h' cells slots → Wr h h' a i (.long x) → AJ Z h' a n (fun q => if q = i then x else f q) → Go p e below s n0 rc rs P T' (mkF m pc' Ls st)) : Go p e below s n0 rc rs P T (mkF m pc Ls (.long x :: .int j :: .ref a :: st)) := by
  obtain ⟨locs, X, eT, N, hn⟩ := X; obtain ⟨hx, hZ, hby, hown, hml, hlk, hrt⟩ := C; subst hp
  obtain ⟨cl, A', r1, r2, r3⟩ := id A
  obtain ⟨T', h', X', e', W, st'⟩ := RoadKit.stJ X hx hZ eT A' (in_of hj hi r1) (g := mkF m pc Ls (.long x :: .int j :: .ref a :: st)) rfl rfl (hb hby hd)
  have N' := Fr.snoc X' N ha
  rw [clamp_of hj] at W
  exact Go.of st' (k T' h' ⟨_, X', e', N', by rw [W.size]; exact hn⟩ W (A.set W))
def AR (Z : State) (h : Heap) (a : Addr) (ty : FieldType) (n : Nat) (f : Nat → Value) : Prop := ∃ cl : Cell, Arr Z h a cl ty ∧ cl.slots.size = n ∧ n < 2 ^ 31 ∧ (∀ i, i < n → cl.slots[i]? = some (f i)) ∧ FitC Z cl
theorem AR.lt {a : Addr} {ty : FieldType} {n : Nat} {f : Nat → Value} (F : AR Z h a ty n f) : a < h.size := by obtain ⟨c, A, -⟩ := F; exact A.lt
theorem AR.ext {h' : Heap} {a : Addr} {ty : FieldType} {n : Nat} {f : Nat → Value} (F : AR Z h a ty n f) (E : Ext h h') : AR Z h' a ty n f := by obtain ⟨c, A, r⟩ := F; exact ⟨c, A.ext E, r⟩
theorem AR.other {h' : Heap} {a b : Addr} {sl : Nat} {v : Value} {ty : FieldType} {n : Nat} {f : Nat → Value} (F : AR Z h b ty n f) (W : Wr h h' a sl v) (q : b ≠ a) : AR Z h' b ty n f := by obtain ⟨c, A, r⟩ := F; exact ⟨c, A.other W q, r⟩
theorem AR.keep {h' : Heap} {a : Addr} {ws : List Addr} {ty : FieldType} {n : Nat} {f : Nat → Value} (F : AR Z h a ty n f) (K : Keep h h' ws) (q : a ∉ ws) : AR Z h' a ty n f := by obtain ⟨c, A, r⟩ := F; exact ⟨c, ⟨K.2.1 a c A.1 q, A.2⟩, r⟩
theorem Go.alenR (C : Cx p s m meth c Z bytes own ret maxL) (X : On p l e R s m args below meth c n0 T h cells slots) {a : Addr} {ty : FieldType} {n : Nat} {f : Nat → Value} {z : Int32} (A : AR Z h a ty n f) (hz : z.toInt = (n : Int)) (hd : decode bytes pc = .ok (.arraylength, 1)) (hp : pc + 1 = pc') (k : Go p e below s n0 rc rs P T (mkF m pc' Ls (.int z :: st))) : Go p e below s n0 rc rs P T (mkF m pc Ls (.ref a :: st)) := by
  obtain ⟨locs, X, eT, N, hn⟩ := X; obtain ⟨hx, hZ, hby, hown, hml, hlk, hrt⟩ := C; subst hp
  obtain ⟨cl, A, r1, r2, r3⟩ := A
  refine Go.of (fun t q => X.arraylength hx (by rw [eT]; exact A.1) (State.isArrayOf_alike hZ.alike A.2.1) (g := mkF m pc Ls (.ref a :: st)) rfl rfl (hb hby hd) t ?_) k
  rw [r1, len32 hz]; exact q
theorem Go.aaload (C : Cx p s m meth c Z bytes own ret maxL) (X : On p l e R s m args below meth c n0 T h cells slots) {a : Addr} {ty : FieldType} {n : Nat} {f : Nat → Value} {j : Int32} {i : Nat} {w : Value} (A : AR Z h a ty n f) (hty : ty.isReference = true) (hj : j.toInt = (i : Int)) (hi : i < n) (hw : f i = w) (hd : decode bytes pc = .ok (.aaload, 1)) (hp : pc + 1 = pc') (k : Go p e below s n0 rc rs P T (mkF m pc' Ls (w :: st))) : Go p e below s n0 rc rs P T (mkF m pc Ls (.int j :: .ref a :: st)) := by
  obtain ⟨locs, X, eT, N, hn⟩ := X; obtain ⟨hx, hZ, hby, hown, hml, hlk, hrt⟩ := C; subst hp hw
  obtain ⟨cl, A, r1, r2, r3, r4⟩ := A
  exact Go.of (fun t q => X.aaload hx (j := j) (v := f i) (by rw [eT]; exact A.1) (State.isArrayOf_alike hZ.alike A.2.1) hty A.2.2 (in_of hj hi r1) (by rw [clamp_of hj]; exact r3 i hi) (g := mkF m pc Ls (.int j :: .ref a :: st)) rfl rfl (hb hby hd) t q) k
theorem Go.cloneA (C : Cx p s m meth c Z bytes own ret maxL) (X : On p l e R s m args below meth c n0 T h cells slots) {ad : String} {i : Nat} {a : Addr} {ty : FieldType} {n W cap : Nat} {f : Nat → Value}
    (w1 : (Cond.methodLink own i ⟨ad, "clone", "()Ljava/lang/Object;"⟩).before a0 Z = true) (w2 : (Cond.sameMethod ad "java/lang/Object" "clone" "()Ljava/lang/Object;").before a0 Z = true) (w3 : (Cond.native ⟨"java/lang/Object", "clone", "()Ljava/lang/Object;"⟩).before a0 Z = true)
    (w4 : (Cond.instanceMethod ⟨"java/lang/Object", "clone", "()Ljava/lang/Object;"⟩).before a0 Z = true) (w5 : (Cond.selects ad ⟨ad, "clone", "()Ljava/lang/Object;"⟩ ⟨"java/lang/Object", "clone", "()Ljava/lang/Object;"⟩).before a0 Z = true) (w6 : (Cond.castable ad "java/lang/Cloneable").before a0 Z = true)
    (A : AR Z h a ty n f) (E : Exa Z h a ad) (hsz : Ls.size = maxL) (hd : decode bytes pc = .ok (.invokevirtual i, 3)) (hf : 1 ≤ R.frames) (hW : (st.map fun v => v.category).sum ≤ W) (hl : W + 14 ≤ R.locals) (hcap : n ≤ cap) (hc : cells + 1 ≤ R.cells) (hsl : slots + cap ≤ R.slots) (hp : pc + 3 = pc')
    (k : ∀ T' h' b, On p l e R s m args below meth c n0 T' h' (cells + 1) (slots + cap) → b = h.size → Ext h h' → AR Z h' b ty n f → Exa Z h' b ad → n0 ≤ b → Go p e below s n0 rc rs P T' (mkF m pc' Ls (.ref b :: st))) : Go p e below s n0 rc rs P T (mkF m pc Ls (.ref a :: st)) := by
  obtain ⟨locs, X, eT, N, hn⟩ := X; obtain ⟨hx, hZ, hby, hown, hml, hlk, hrt⟩ := C; subst hp
  obtain ⟨cl, A, r1, r2, r3, r4⟩ := A
  obtain ⟨T', h', X', e', ex, A', E', st'⟩ := RoadKit.cloneA X hx hZ hown w1 w2 w3 w4 w5 w6 eT A E r4 (g := mkF m pc Ls (.ref a :: st)) rfl (by rw [hml]; exact hsz) rfl (hb hby hd) hf (W := W) (cap := cap) (by simpa using hW) hl (by rw [r1]; exact hcap) hc hsl
  exact Go.of st' (k T' h' h.size ⟨_, X', e', N, Nat.le_trans hn ex.1⟩ rfl ex ⟨cloneOf cl, A', r1, r2, r3, r4⟩ E' hn)
theorem Go.callS (C : Cx p s m meth c Z bytes own ret maxL) (X : On p l e R s m args below meth c n0 T h cells slots) {y : MethodName} {cb : ByteArray} {cm : Nat} {cr : Option FieldType} {rm : Room} {as' : Array Value} {P' : Option Value → Heap → Prop} {i W : Nat} {argsL rest : List Value} (K : Con l Z y cb cm cr rm as' h n0 P') (w1 : (Cond.methodLink own i y).before a0 Z = true) (w2 : (Cond.static y).before a0 Z = true) (w3 : (Cond.initialized y.cls).before a0 Z = true) (w4 : (Cond.code y cb cm cr).before a0 Z = true) (hy : y.cls ≠ "java/lang/invoke/MethodHandle" ∧ y.cls ≠ "java/lang/invoke/VarHandle")
    (has : argsL.toArray = as') (hst : st = argsL.reverse ++ rest) (hlen : ∀ sig, parseMethodDescriptor y.desc = some sig → argsL.length = sig.parameters.length) (hsz : Ls.size = maxL) (hW : (rest.map fun v => v.category).sum ≤ W) (hf : rm.frames + 1 ≤ R.frames) (hlo : W + (cm + 11) + rm.locals ≤ R.locals) (hce : cells + rm.cells ≤ R.cells) (hsl : slots + rm.slots ≤ R.slots) (hd : decode bytes pc = .ok (.invokestatic i, 3)) (hp : pc + 3 = pc')
    (hgrow : ∀ v h', P' v h' → h.size ≤ h'.size)
    (k : ∀ T' h' v, On p l e R s m args below meth c n0 T' h' (cells + rm.cells) (slots + rm.slots) → P' v h' → Go p e below s n0 rc rs P T' (mkF m pc' Ls (v.toList ++ rest))) : Go p e below s n0 rc rs P T (mkF m pc Ls st) := by
  obtain ⟨locs, X, eT, N, hn⟩ := X; obtain ⟨hx, hZ, hby, hown, hml, hlk, hrt⟩ := C; subst hp has hst
  obtain ⟨v, _, ⟨T', L', k', n'⟩, -, X', ⟨Lc, hQ, l', y', z'⟩, st'⟩ := Jvm.LawKit.callS X hx (y := y) hown (mvT hZ w1) (mvT hZ w2) (mvT hZ w3) (mvT hZ w4) hy (K.back (W := W) hZ w4 w3 hf hlo) (g := mkF m pc Ls (argsL.reverse ++ rest)) rfl (by rw [hml]; exact hsz) (argsL := argsL) (rest := rest) hlen rfl (by simpa using hW) (hb hby hd) (fun _ _ => ⟨rfl, eT, hce, hsl⟩)
  dsimp only [Pt.U, Pt.locs, Pt.cells, Pt.slots] at X' l' y' z' st' hQ
  subst l' y' z'
  exact Go.of st' (k T' _ v ⟨_, X', rfl, Fr.app N hQ.2, Nat.le_trans hn (hgrow _ _ hQ.1)⟩ hQ.1)
theorem Go.callI (C : Cx p s m meth c Z bytes own ret maxL) (X : On p l e R s m args below meth c n0 T h cells slots) {y : MethodName} {cb : ByteArray} {cm : Nat} {cr : Option FieldType} {rm : Room} {as' : Array Value} {P' : Option Value → Heap → Prop} {i W : Nat} {argsL rest : List Value} (K : Con l Z y cb cm cr rm as' h n0 P') {a : Addr} (hy1 : y.name = "<init>") (hcr : cr = none) (w1 : (Cond.methodLink own i y).before a0 Z = true) (w2 : (Cond.instanceMethod y).before a0 Z = true) (w3 : (Cond.initialized y.cls).before a0 Z = true) (w4 : (Cond.code y cb cm cr).before a0 Z = true) (hy : y.cls ≠ "java/lang/invoke/MethodHandle" ∧ y.cls ≠ "java/lang/invoke/VarHandle")
    (has : (.ref a :: argsL).toArray = as') (hst : st = argsL.reverse ++ .ref a :: rest) (hlen : ∀ sig, parseMethodDescriptor y.desc = some sig → argsL.length = sig.parameters.length) (hsz : Ls.size = maxL) (hW : (rest.map fun v => v.category).sum ≤ W) (hf : rm.frames + 1 ≤ R.frames) (hlo : W + (cm + 11) + rm.locals ≤ R.locals) (hce : cells + rm.cells ≤ R.cells) (hsl : slots + rm.slots ≤ R.slots) (hd : decode bytes pc = .ok (.invokespecial i, 3)) (hp : pc + 3 = pc')
    (hgrow : ∀ v h', P' v h' → h.size ≤ h'.size)
    (k : ∀ T' h' v, On p l e R s m args below meth c n0 T' h' (cells + rm.cells) (slots + rm.slots) → P' v h' → Go p e below s n0 rc rs P T' (mkF m pc' Ls (v.toList ++ rest))) : Go p e below s n0 rc rs P T (mkF m pc Ls st) := by
  obtain ⟨locs, X, eT, N, hn⟩ := X; obtain ⟨hx, hZ, hby, hown, hml, hlk, hrt⟩ := C; subst hp has hst hcr
  obtain ⟨v, _, ⟨T', L', k', n'⟩, -, X', ⟨Lc, hQ, l', y', z'⟩, st'⟩ := X.specialBack hx (y := y) hy1 hown (mvT hZ w1) (mvT hZ w2) (mvT hZ w4) hy (K.back (W := W) hZ w4 w3 hf hlo) (g := mkF m pc Ls (argsL.reverse ++ .ref a :: rest)) rfl (by rw [hml]; exact hsz) (Steps.refl _) (a := a) (argsL := argsL) (rest := rest) hlen rfl (by simpa using hW) (hb hby hd) (fun _ _ => ⟨rfl, eT, hce, hsl⟩)
  dsimp only [Pt.U, Pt.locs, Pt.cells, Pt.slots] at X' l' y' z' st' hQ
  subst l' y' z'
  exact Go.tr st' (k T' _ v ⟨_, X', rfl, Fr.app N hQ.2, Nat.le_trans hn (hgrow _ _ hQ.1)⟩ hQ.1)
theorem Go.callV (C : Cx p s m meth c Z bytes own ret maxL) (X : On p l e R s m args below meth c n0 T h cells slots) {y : MethodName} {cb : ByteArray} {cm : Nat} {cr : Option FieldType} {rm : Room} {as' : Array Value} {P' : Option Value → Heap → Prop} {i W : Nat} {argsL rest : List Value} (K : Con l Z y cb cm cr rm as' h n0 P') {y0 : MethodName} {a : Addr} {Ck : String} (E : Exa Z h a Ck) (nf : NotFace s y0) (w1 : (Cond.methodLink own i y0).before a0 Z = true) (w2 : (Cond.declares y0).before a0 Z = true) (w5 : (Cond.selects Ck y0 y).before a0 Z = true) (w6 : (Cond.instanceMethod y).before a0 Z = true) (w3 : (Cond.initialized y.cls).before a0 Z = true) (w4 : (Cond.code y cb cm cr).before a0 Z = true) (hy : y0.cls ≠ "java/lang/invoke/MethodHandle" ∧ y0.cls ≠ "java/lang/invoke/VarHandle")
    (has : (.ref a :: argsL).toArray = as') (hst : st = argsL.reverse ++ .ref a :: rest) (hlen : ∀ sig, parseMethodDescriptor y0.desc = some sig → argsL.length = sig.parameters.length) (hsz : Ls.size = maxL) (hW : (rest.map fun v => v.category).sum ≤ W) (hf : rm.frames + 1 ≤ R.frames) (hlo : W + (cm + 11) + rm.locals ≤ R.locals) (hce : cells + rm.cells ≤ R.cells) (hsl : slots + rm.slots ≤ R.slots) (hd : decode bytes pc = .ok (.invokevirtual i, 3)) (hp : pc + 3 = pc')
    (hgrow : ∀ v h', P' v h' → h.size ≤ h'.size)
    (k : ∀ T' h' v, On p l e R s m args below meth c n0 T' h' (cells + rm.cells) (slots + rm.slots) → P' v h' → Go p e below s n0 rc rs P T' (mkF m pc' Ls (v.toList ++ rest))) : Go p e below s n0 rc rs P T (mkF m pc Ls st) := by
  obtain ⟨locs, X, eT, N, hn⟩ := X; obtain ⟨hx, hZ, hby, hown, hml, hlk, hrt⟩ := C; subst hp has hst
  obtain ⟨cq, kq, qa, qb, qc⟩ := isOf hZ eT E
  obtain ⟨v, _, ⟨T', L', k', n'⟩, -, X', ⟨Lc, hQ, l', y', z'⟩, st'⟩ := X.virtualBack hx (y := y0) (z := y) hown (mvT hZ w1) (mvT hZ w2) nf (mvT hZ w5) (mvT hZ w6) hy (K.back (W := W) hZ w4 w3 hf hlo) qa qc (g := mkF m pc Ls (argsL.reverse ++ .ref a :: rest)) rfl (by rw [hml]; exact hsz) (Steps.refl _) (argsL := argsL) (rest := rest) hlen rfl (by simpa using hW) (hb hby hd) (fun _ _ => ⟨rfl, eT, hce, hsl⟩)
  dsimp only [Pt.U, Pt.locs, Pt.cells, Pt.slots] at X' l' y' z' st' hQ
  subst l' y' z'
  exact Go.tr st' (k T' _ v ⟨_, X', rfl, Fr.app N hQ.2, Nat.le_trans hn (hgrow _ _ hQ.1)⟩ hQ.1)
theorem own_selp {y : MethodName} {kk : Nat} (hZ : Z.Warmed39 s.vm) (wi : (Cond.instantiable y.cls kk).before a0 Z = true) (w2 : (Cond.instanceMethod y).before a0 Z = true) (w6 : (Cond.privateMethod y).before a0 Z = true) (hy : y.cls ≠ "java/lang/invoke/MethodHandle" ∧ y.cls ≠ "java/lang/invoke/VarHandle") : (Cond.selects y.cls y y).before args s = true := by
  have wi' : (Cond.instantiable y.cls kk).before args s = true := mvT hZ wi
  obtain ⟨c2, k2, i1, i2, i3, i4, -⟩ := Cond.instantiable_spec wi'
  exact Jvm.Stand.selects_self_of_private i1 i2 (by simp only [Bool.or_eq_false_iff] at i4; exact i4.1) (Cond.privateMethod_at (mvP hZ w6 (args := #[]))) (mvT hZ w2) hy
theorem Go.callP (C : Cx p s m meth c Z bytes own ret maxL) (X : On p l e R s m args below meth c n0 T h cells slots) {y : MethodName} {cb : ByteArray} {cm : Nat} {cr : Option FieldType} {rm : Room} {as' : Array Value} {P' : Option Value → Heap → Prop} {i W : Nat} {argsL rest : List Value} (K : Con l Z y cb cm cr rm as' h n0 P') {a : Addr} {Ck : String} (E : Exa Z h a Ck) (w1 : (Cond.methodLink own i y).before a0 Z = true) (w2 : (Cond.instanceMethod y).before a0 Z = true) {kk : Nat} (w5 : (Cond.instantiable y.cls kk).before a0 Z = true) (w6 : (Cond.privateMethod y).before a0 Z = true) (w3 : (Cond.initialized y.cls).before a0 Z = true) (w4 : (Cond.code y cb cm cr).before a0 Z = true) (hy : y.cls ≠ "java/lang/invoke/MethodHandle" ∧ y.cls ≠ "java/lang/invoke/VarHandle")
    (has : (.ref a :: argsL).toArray = as') (hst : st = argsL.reverse ++ .ref a :: rest) (hlen : ∀ sig, parseMethodDescriptor y.desc = some sig → argsL.length = sig.parameters.length) (hsz : Ls.size = maxL) (hW : (rest.map fun v => v.category).sum ≤ W) (hf : rm.frames + 1 ≤ R.frames) (hlo : W + (cm + 11) + rm.locals ≤ R.locals) (hce : cells + rm.cells ≤ R.cells) (hsl : slots + rm.slots ≤ R.slots) (hd : decode bytes pc = .ok (.invokevirtual i, 3)) (hp : pc + 3 = pc')
    (hgrow : ∀ v h', P' v h' → h.size ≤ h'.size)
    (k : ∀ T' h' v, On p l e R s m args below meth c n0 T' h' (cells + rm.cells) (slots + rm.slots) → P' v h' → Go p e below s n0 rc rs P T' (mkF m pc' Ls (v.toList ++ rest))) : Go p e below s n0 rc rs P T (mkF m pc Ls st) := by
  obtain ⟨locs, X, eT, N, hn⟩ := X; obtain ⟨hx, hZ, hby, hown, hml, hlk, hrt⟩ := C; subst hp has hst
  obtain ⟨cq, qa, qb⟩ := E.cell
  obtain ⟨v, _, ⟨T', L', k', n'⟩, -, X', ⟨Lc, hQ, l', y', z'⟩, st'⟩ := X.privateBack hx (y := y) hown (mvT hZ w1) (mvT hZ w2) (own_selp hZ w5 w2 w6 hy) (Cond.privateMethod_at (mvP hZ w6 (args := #[]))) (mvT hZ w4) hy (K.back (W := W) hZ w4 w3 hf hlo) (g := mkF m pc Ls (argsL.reverse ++ .ref a :: rest)) rfl (by rw [hml]; exact hsz) (Steps.refl _) (a := a) (by rw [eT]; exact qa) qb (argsL := argsL) (rest := rest) hlen rfl (by simpa using hW) (hb hby hd) (fun _ _ => ⟨rfl, eT, hce, hsl⟩)
  dsimp only [Pt.U, Pt.locs, Pt.cells, Pt.slots] at X' l' y' z' st' hQ
  subst l' y' z'
  exact Go.tr st' (k T' _ v ⟨_, X', rfl, Fr.app N hQ.2, Nat.le_trans hn (hgrow _ _ hQ.1)⟩ hQ.1)
end Own
end Jvm.RoadKit
namespace Jvm.RoadKit
theorem own_iadd {x y : Int32} (h1 : -2147483648 ≤ x.toInt + y.toInt) (h2 : x.toInt + y.toInt < 2147483648) : (x + y).toInt = x.toInt + y.toInt := by
  have h3 := c_iadd x y; have h4 := rng32 (x + y); omega
theorem own_isub {x y : Int32} (h1 : -2147483648 ≤ x.toInt - y.toInt) (h2 : x.toInt - y.toInt < 2147483648) : (x - y).toInt = x.toInt - y.toInt := by
  have h3 := c_isub x y; have h4 := rng32 (x - y); omega
theorem own_imul {x y : Int32} (h1 : -2147483648 ≤ x.toInt * y.toInt) (h2 : x.toInt * y.toInt < 2147483648) : (x * y).toInt = x.toInt * y.toInt := by
  have h3 := c_imul x y; have h4 := rng32 (x * y); omega
theorem own_ladd {x y : Int64} (h1 : -9223372036854775808 ≤ x.toInt + y.toInt) (h2 : x.toInt + y.toInt < 9223372036854775808) : (x + y).toInt = x.toInt + y.toInt := by
  have h3 := c_ladd x y; have h4 := rng64 (x + y); omega
theorem own_lsub {x y : Int64} (h1 : -9223372036854775808 ≤ x.toInt - y.toInt) (h2 : x.toInt - y.toInt < 9223372036854775808) : (x - y).toInt = x.toInt - y.toInt := by
  have h3 := c_lsub x y; have h4 := rng64 (x - y); omega
theorem own_lmul {x y : Int64} (h1 : -9223372036854775808 ≤ x.toInt * y.toInt) (h2 : x.toInt * y.toInt < 9223372036854775808) : (x * y).toInt = x.toInt * y.toInt := by
  have h3 := c_lmul x y; have h4 := rng64 (x * y); omega
theorem own_ilt {x y : Int32} : x < y ↔ x.toInt < y.toInt := Int32.lt_iff_toInt_lt
theorem own_jlt {x y : Int64} : x < y ↔ x.toInt < y.toInt := Int64.lt_iff_toInt_lt
theorem own_ieq {x y : Int32} : x = y ↔ x.toInt = y.toInt := Int32.toInt_inj.symm
theorem own_jeq {x y : Int64} : x = y ↔ x.toInt = y.toInt := Int64.toInt_inj.symm
theorem own_nilt {x y : Int32} (h : ¬ x < y) : ¬ x.toInt < y.toInt := fun q => h (own_ilt.mpr q)
theorem own_njlt {x y : Int64} (h : ¬ x < y) : ¬ x.toInt < y.toInt := fun q => h (own_jlt.mpr q)
theorem own_nieq {x y : Int32} (h : ¬ x = y) : ¬ x.toInt = y.toInt := fun q => h (own_ieq.mpr q)
theorem own_njeq {x y : Int64} (h : ¬ x = y) : ¬ x.toInt = y.toInt := fun q => h (own_jeq.mpr q)
theorem own_inc {x y : Int32} (h : x < y) : (x + (1 : Int32)).toInt = x.toInt + 1 := by
  rw [own_ilt] at h
  have h1 := rng32 x; have h2 := rng32 y
  have e : (1 : Int32).toInt = 1 := rfl
  rw [own_iadd (by omega) (by omega), e]
theorem own_dec {x y : Int32} (h : y < x) : (x + (-1 : Int32)).toInt = x.toInt - 1 := by
  rw [own_ilt] at h
  have h1 := rng32 x; have h2 := rng32 y
  have e : (-1 : Int32).toInt = -1 := rfl
  rw [own_iadd (by omega) (by omega), e]; omega
theorem own_nat32 {x : Int32} {n : Nat} (h : x.toInt = (n : Int)) : x = Int32.ofNat n := by
  apply Int32.toInt_inj.mp
  have := rng32 x
  rw [Int32.toInt_ofNat_of_lt (by omega), h]
theorem own_pos31 (x : Int32) : 0 ≤ (x &&& (2147483647 : Int32)).toInt := by
  have h := c_mask x 2147483647 31 (by decide) (by decide)
  rw [h]; exact Int.emod_nonneg _ (by decide)
theorem own_mod (x : Int32) (k : Int32) (d : Int) (hk : k.toInt = d) (hd : 0 < d) : ((x &&& (2147483647 : Int32)) % k).toInt = (x &&& (2147483647 : Int32)).toInt % d ∧ 0 ≤ ((x &&& (2147483647 : Int32)) % k).toInt ∧ ((x &&& (2147483647 : Int32)) % k).toInt < d := by
  have h := (c_irem (x &&& (2147483647 : Int32)) k d hk).1 (own_pos31 x)
  exact ⟨h, by rw [h]; exact Int.emod_nonneg _ (by omega), by rw [h]; exact Int.emod_lt_of_pos _ hd⟩
theorem own_upd {R : Int32 → Prop} {f : Nat → Int32} {x : Int32} {i : Nat} (h : ∀ q, R (f q)) (hx : R x) : ∀ q, R ((fun q => if q = i then x else f q) q) := fun q => by
  by_cases e : q = i
  · simp only [if_pos e]; exact hx
  · simp only [if_neg e]; exact h q
theorem own_i2b (x : Int32) : -128 ≤ (x.toInt8.toInt32).toInt ∧ (x.toInt8.toInt32).toInt ≤ 127 := by have := c_i2b x; omega
theorem own_b2 (x : Int32) : x.toInt8.toInt32.toInt8.toInt32 = x.toInt8.toInt32 := by rw [Int8.toInt8_toInt32]
theorem own_and3 (x : Int32) : x &&& (3 : Int32) = 0 ∨ x &&& (3 : Int32) = 1 ∨ x &&& (3 : Int32) = 2 ∨ x &&& (3 : Int32) = 3 := by
  have h := c_mask x 3 2 (by decide) (by decide)
  have z0 : (0 : Int32).toInt = 0 := rfl
  have z1 : (1 : Int32).toInt = 1 := rfl
  have z2 : (2 : Int32).toInt = 2 := rfl
  have z3 : (3 : Int32).toInt = 3 := rfl
  have h1 : ((2 ^ 2 : Nat) : Int) = 4 := rfl
  rw [h1] at h
  rw [own_ieq, own_ieq, own_ieq, own_ieq, z0, z1, z2, z3]
  omega
theorem own_and1 (x : Int32) : x &&& (1 : Int32) = 0 ∨ x &&& (1 : Int32) = 1 := by
  have h := c_mask x 1 1 (by decide) (by decide)
  have z0 : (0 : Int32).toInt = 0 := rfl
  have z1 : (1 : Int32).toInt = 1 := rfl
  have h1 : ((2 ^ 1 : Nat) : Int) = 2 := rfl
  rw [h1] at h
  rw [own_ieq, own_ieq, z0, z1]
  omega
end Jvm.RoadKit
namespace Jvm.Pilot.@@N@@
open Jvm Jvm.ClassFile Sem Op Lib Jvm.Free Jvm.Stand Jvm.LawKit Jvm.RoadKit Bundle Jvm.Pilot.@@N@@.Jvm.D
abbrev own_B (u : Nat → Int32) (s k : Nat) : Prop := k ≤ s ∧ ∀ j, j < k → u (s - k + j) = u j
theorem own_B_refl (u : Nat → Int32) (s : Nat) : own_B u s s := ⟨Nat.le_refl _, fun j _ => by rw [Nat.sub_self, Nat.zero_add]⟩
theorem own_B_zero (u : Nat → Int32) (s : Nat) : own_B u s 0 := ⟨Nat.zero_le _, fun j h => absurd h (Nat.not_lt_zero _)⟩
theorem own_B_trans {u : Nat → Int32} {s b k : Nat} (h1 : own_B u s b) (h2 : own_B u b k) : own_B u s k := by
  refine ⟨Nat.le_trans h2.1 h1.1, fun j hj => ?_⟩
  have a := h1.1; have c := h2.1
  rw [show s - k + j = s - b + (b - k + j) by omega, h1.2 _ (by omega)]
  exact h2.2 j hj
theorem own_B_sub {u : Nat → Int32} {s b k : Nat} (h1 : own_B u s b) (h2 : own_B u s k) (h : k ≤ b) : own_B u b k := by
  refine ⟨h, fun j hj => ?_⟩
  have a := h1.1; have c := h2.1
  rw [← h1.2 _ (by omega : b - k + j < b), show s - b + (b - k + j) = s - k + j by omega]
  exact h2.2 j hj
def own_P (u : Nat → Int32) (s b : Nat) : Prop := own_B u s b ∧ b < s ∧ ∀ k, k < s → own_B u s k → k ≤ b
def own_F (u : Nat → Int32) (s : Nat) (x : Int32) (c : Nat) : Prop := own_B u s c ∧ (c = 0 ∨ u c = x) ∧ ∀ k, c < k → own_B u s k → ¬ u k = x
def own_fb (u : Nat → Int32) (b : Nat → Nat) (x : Int32) (s : Nat) : Nat := if h : 0 < s ∧ ¬ u s = x ∧ b s < s then own_fb u b x (b s) else s
termination_by s
decreasing_by exact h.2.2
theorem own_fb_step {u : Nat → Int32} {b : Nat → Nat} {x : Int32} {s : Nat} (h : 0 < s ∧ ¬ u s = x ∧ b s < s) : own_fb u b x s = own_fb u b x (b s) := by rw [own_fb, dif_pos h]
theorem own_fb_stop {u : Nat → Int32} {b : Nat → Nat} {x : Int32} {s : Nat} (h : ¬ (0 < s ∧ ¬ u s = x ∧ b s < s)) : own_fb u b x s = s := by rw [own_fb, dif_neg h]
theorem own_fb_le (u : Nat → Int32) (b : Nat → Nat) (x : Int32) (s : Nat) : own_fb u b x s ≤ s := by
  induction s using Nat.strongRecOn with
  | _ s ih =>
    by_cases h : 0 < s ∧ ¬ u s = x ∧ b s < s
    · rw [own_fb_step h]; exact Nat.le_trans (ih _ h.2.2) (Nat.le_of_lt h.2.2)
    · rw [own_fb_stop h]; exact Nat.le_refl _
theorem own_fb_F {u : Nat → Int32} {b : Nat → Nat} {x : Int32} {s : Nat} (c : Nat) (hb : ∀ k, 1 ≤ k → k ≤ c → own_P u k (b k)) (h1 : own_B u s c) (h2 : ∀ k, c < k → own_B u s k → ¬ u k = x) : own_F u s x (own_fb u b x c) := by
  induction c using Nat.strongRecOn with
  | _ c ih =>
    by_cases h : 0 < c ∧ ¬ u c = x ∧ b c < c
    · rw [own_fb_step h]
      have hP := hb c h.1 (Nat.le_refl _)
      refine ih (b c) h.2.2 (fun k a d => hb k a (by omega)) (own_B_trans h1 hP.1) (fun k a d => ?_)
      rcases Nat.lt_trichotomy k c with q | q | q
      · have := hP.2.2 k q (own_B_sub h1 d (by omega)); omega
      · rw [q]; exact h.2.1
      · exact h2 k q d
    · rw [own_fb_stop h]
      refine ⟨h1, ?_, h2⟩
      by_cases c0 : c = 0
      · exact Or.inl c0
      · refine Or.inr (Classical.byContradiction fun q => h ⟨by omega, q, (hb c (by omega) (Nat.le_refl _)).2.1⟩)
theorem own_fb_spec {u : Nat → Int32} {b : Nat → Nat} {x : Int32} {s : Nat} (hb : ∀ k, 1 ≤ k → k ≤ s → own_P u k (b k)) : own_F u s x (own_fb u b x s) :=
  own_fb_F s hb (own_B_refl u s) (fun k h d => absurd d.1 (by omega))
theorem own_P1 (u : Nat → Int32) : own_P u 1 0 := ⟨own_B_zero u 1, by decide, fun k h _ => by omega⟩
theorem own_back1 {u : Nat → Int32} {e k : Nat} (h : own_B u (e + 1) (k + 1)) : own_B u e k ∧ u e = u k := by
  have a := h.1
  refine ⟨⟨by omega, fun j hj => ?_⟩, ?_⟩
  · rw [← h.2 j (by omega)]; congr 1; omega
  · rw [← h.2 k (by omega)]; congr 1; omega
theorem own_nextY {u : Nat → Int32} {e bb c : Nat} (hP : own_P u e bb) (hF : own_F u bb (u e) c) (h : u c = u e) : own_P u (e + 1) (c + 1) := by
  have hB := own_B_trans hP.1 hF.1
  have a := hB.1; have a2 := hF.1.1; have a3 := hP.2.1
  refine ⟨⟨by omega, fun j hj => ?_⟩, by omega, fun k hk d => ?_⟩
  · by_cases q : j = c
    · subst q; rw [show e + 1 - (j + 1) + j = e by omega]; exact h.symm
    · rw [show e + 1 - (c + 1) + j = e - c + j by omega]; exact hB.2 j (by omega)
  · cases k with
    | zero => omega
    | succ k =>
      obtain ⟨d1, d2⟩ := own_back1 d
      have q := hP.2.2 k (by omega) d1
      have d3 := own_B_sub hP.1 d1 q
      refine Nat.succ_le_succ (Nat.le_of_not_lt fun z => hF.2.2 k z d3 d2.symm)
theorem own_nextN {u : Nat → Int32} {e bb c : Nat} (hP : own_P u e bb) (hF : own_F u bb (u e) c) (h : ¬ u c = u e) : own_P u (e + 1) c := by
  have c0 : c = 0 := hF.2.1.resolve_right h
  subst c0
  refine ⟨own_B_zero _ _, by omega, fun k hk d => ?_⟩
  cases k with
  | zero => omega
  | succ k =>
    obtain ⟨d1, d2⟩ := own_back1 d
    have q := hP.2.2 k (by omega) d1
    have d3 := own_B_sub hP.1 d1 q
    by_cases z : k = 0
    · subst z; exact absurd d2.symm h
    · exact absurd d2.symm (hF.2.2 k (by omega) d3)
def own_ofn (b : Nat → Nat) : Nat → Int32 := fun i => Int32.ofNat (b i)
def own_upn (b : Nat → Nat) (k x : Nat) : Nat → Nat := fun i => if i = k then x else b i
theorem own_upP {u : Nat → Int32} {b : Nat → Nat} {e x : Nat} (hb : ∀ k, 1 ≤ k → k ≤ e → own_P u k (b k)) (h : own_P u (e + 1) x) : ∀ k, 1 ≤ k → k ≤ e + 1 → own_P u k (own_upn b (e + 1) x k) := fun k a d => by
  unfold own_upn
  by_cases q : k = e + 1
  · subst q; rw [if_pos rfl]; exact h
  · rw [if_neg q]; exact hb k a (by omega)
theorem own_upP0 (u : Nat → Int32) : ∀ k, 1 ≤ k → k ≤ 1 → own_P u k 0 := fun k a d => by
  obtain rfl : k = 1 := (by omega)
  exact own_P1 u
theorem own_upo {b : Nat → Nat} {k x n : Nat} {v : Int32} (hv : v = Int32.ofNat x) : ∀ i, i < n → (if i = k then v else own_ofn b i) = own_ofn (own_upn b k x) i := fun i _ => by
  unfold own_ofn own_upn
  by_cases e : i = k
  · rw [if_pos e, if_pos e, hv]
  · rw [if_neg e, if_neg e]
theorem own_n32 {n : Nat} (h : n < 1000) : (Int32.ofNat n).toInt = (n : Int) := by
  rw [Int32.toInt_ofNat_of_lt (by omega)]
theorem own_o1 : (1 : Int32).toInt = 1 := rfl
theorem own_o0 : (0 : Int32).toInt = 0 := rfl
theorem own_add1 {n : Nat} (h : n < 900) : Int32.ofNat n + (1 : Int32) = Int32.ofNat (n + 1) := by
  apply Int32.toInt_inj.mp
  rw [own_iadd (by rw [own_n32 (by omega), own_o1]; omega) (by rw [own_n32 (by omega), own_o1]; omega), own_n32 (by omega), own_n32 (by omega), own_o1]; omega
theorem own_pn0 : plainName "com/example/needlewright/needlewright/Automaton" = true := by first | (simp [plainName, overriddenIn]; done) | decide +kernel
theorem own_ef_rm_len (m : MethodId) (x0 : Addr) : entryFrame m #[(.ref x0)] 1 = mkF m 0 #[.val (.ref x0)] [] := by first | (simp [entryFrame, mkF, argsToLocals, Value.category]; done) | rfl
theorem d6_0 : decode prog_3_method_2_code 0 = .ok (.aload_n 0, 1) := by decide +kernel
theorem d6_1 : decode prog_3_method_2_code 1 = .ok (.getfield 19, 3) := by decide +kernel
theorem d6_4 : decode prog_3_method_2_code 4 = .ok (.arraylength, 1) := by decide +kernel
theorem d6_5 : decode prog_3_method_2_code 5 = .ok (.iconst 1, 1) := by decide +kernel
theorem d6_6 : decode prog_3_method_2_code 6 = .ok (.isub, 1) := by decide +kernel
theorem d6_7 : decode prog_3_method_2_code 7 = .ok (.ireturn, 1) := by decide +kernel
set_option maxRecDepth 65536 in
set_option maxHeartbeats 40000000 in
theorem rm_len (l : Launch) (Z : State) (a0 : Array Value) (hw : ∀ d ∈ tables_1, d.before a0 Z = true) (a : Addr) (t : Addr) (m1 : Nat) (u : Nat → Int32) (z : Int32) (h0 : Heap) (n0 : Nat) (Z0 : n0 ≤ h0.size) (f0 : Fld Z h0 a "com/example/needlewright/needlewright/Automaton" "units" "[I" (.ref t)) (f1 : AI Z h0 t .int m1 u) (hz : z.toInt = (m1 : Int)) :
    Con l Z (⟨"com/example/needlewright/needlewright/Automaton", "length", "()I"⟩ : MethodName) prog_3_method_2_code 1 (some .int) ({ frames := 0, cells := 0, slots := 0, locals := 0 } : Room) #[(.ref a)] h0 n0 (fun rv hv => rv = some (.int (z - (1 : Int32))) ∧ h0 = hv) := by
  refine Con.enter (plainFor_of_name own_pn0) Z0 ?_
  intro p e s m below meth c T0 C hnm X0
  refine Go.cast (own_ef_rm_len m a) ?_
  refine Go.aloadN C X0 (pc' := 1) d6_0 rfl rfl rfl ?_
  refine Go.getF C X0 (pc' := 4) (host := "") (Or.inl (hw _ (List.mem_of_getElem? (i := 19) rfl))) Via.refl f0 d6_1 rfl (fun T1 X1 => ?_)
  refine Go.alenI C X1 (pc' := 5) (z := z) f1 hz d6_4 rfl ?_
  refine Go.iconst C X1 (pc' := 6) (v := (1 : Int32)) d6_5 rfl rfl ?_
  refine Go.isub C X1 (pc' := 7) d6_6 rfl ?_
  exact Go.retI C X1 d6_7 ⟨rfl, rfl⟩ (by decide) (by decide)
theorem own_ef_rm_fb (m : MethodId) (x0 : Addr) (x1 : Int32) (x2 : Int32) : entryFrame m #[(.ref x0), (.int x1), (.int x2)] 3 = mkF m 0 #[.val (.ref x0), .val (.int x1), .val (.int x2)] [] := by first | (simp [entryFrame, mkF, argsToLocals, Value.category]; done) | rfl
theorem d7_0 : decode prog_3_method_3_code 0 = .ok (.iload_n 1, 1) := by decide +kernel
theorem d7_1 : decode prog_3_method_3_code 1 = .ok (.ifCond .le 23, 3) := by decide +kernel
theorem d7_4 : decode prog_3_method_3_code 4 = .ok (.aload_n 0, 1) := by decide +kernel
theorem d7_5 : decode prog_3_method_3_code 5 = .ok (.getfield 19, 3) := by decide +kernel
theorem d7_8 : decode prog_3_method_3_code 8 = .ok (.iload_n 1, 1) := by decide +kernel
theorem d7_9 : decode prog_3_method_3_code 9 = .ok (.iaload, 1) := by decide +kernel
theorem d7_10 : decode prog_3_method_3_code 10 = .ok (.iload_n 2, 1) := by decide +kernel
theorem d7_11 : decode prog_3_method_3_code 11 = .ok (.if_icmp .eq 13, 3) := by decide +kernel
theorem d7_24 : decode prog_3_method_3_code 24 = .ok (.iload_n 1, 1) := by decide +kernel
theorem d7_25 : decode prog_3_method_3_code 25 = .ok (.ireturn, 1) := by decide +kernel
theorem d7_14 : decode prog_3_method_3_code 14 = .ok (.aload_n 0, 1) := by decide +kernel
theorem d7_15 : decode prog_3_method_3_code 15 = .ok (.getfield 23, 3) := by decide +kernel
theorem d7_18 : decode prog_3_method_3_code 18 = .ok (.iload_n 1, 1) := by decide +kernel
theorem d7_19 : decode prog_3_method_3_code 19 = .ok (.iaload, 1) := by decide +kernel
theorem d7_20 : decode prog_3_method_3_code 20 = .ok (.istore_n 1, 1) := by decide +kernel
theorem d7_21 : decode prog_3_method_3_code 21 = .ok (.goto (-21), 3) := by decide +kernel
set_option maxRecDepth 65536 in
set_option maxHeartbeats 40000000 in
theorem rm_fb (l : Launch) (Z : State) (a0 : Array Value) (hw : ∀ d ∈ tables_1, d.before a0 Z = true) (a : Addr) (s0 : Int32) (x : Int32) (t : Addr) (t2 : Addr) (m1 : Nat) (u : Nat → Int32) (b : Nat → Nat) (ss : Nat) (h0 : Heap) (n0 : Nat) (Z0 : n0 ≤ h0.size) (f0 : Fld Z h0 a "com/example/needlewright/needlewright/Automaton" "units" "[I" (.ref t)) (f1 : Fld Z h0 a "com/example/needlewright/needlewright/Automaton" "borders" "[I" (.ref t2)) (f2 : AI Z h0 t .int m1 u) (f3 : AI Z h0 t2 .int m1 (own_ofn b)) (hm1 : m1 ≤ 100) (hs : s0.toInt = (ss : Int)) (hss : ss < m1) (hb0 : ∀ k, 1 ≤ k → k ≤ ss → own_P u k (b k)) :
    Con l Z (⟨"com/example/needlewright/needlewright/Automaton", "fallBack", "(II)I"⟩ : MethodName) prog_3_method_3_code 3 (some .int) ({ frames := 0, cells := 0, slots := 0, locals := 0 } : Room) #[(.ref a), (.int s0), (.int x)] h0 n0 (fun rv hv => rv = some (.int (Int32.ofNat (own_fb u b x ss))) ∧ h0 = hv) := by
  refine Con.enter (plainFor_of_name own_pn0) Z0 ?_
  intro p e s m below meth c T0 C hnm X0
  refine Go.cast (own_ef_rm_fb m a s0 x) ?_
  have Cut0 : ∀ (fuel : Nat) (T_0 : State) (mm : Nat) (u1 : Int32), mm < fuel → (u1.toInt = (mm : Int)) → (mm < m1) → (mm ≤ ss) → (own_fb u b x mm = own_fb u b x ss) → On p l e ({ frames := 0, cells := 0, slots := 0, locals := 0 } : Room) s m #[(.ref a), (.int s0), (.int x)] below meth c n0 T_0 h0 0 0 → Go p e below s n0 (({ frames := 0, cells := 0, slots := 0, locals := 0 } : Room)).cells (({ frames := 0, cells := 0, slots := 0, locals := 0 } : Room)).slots (fun rv hv => rv = some (.int (Int32.ofNat (own_fb u b x ss))) ∧ h0 = hv) T_0 (mkF m 0 #[.val (.ref a), .val (.int u1), .val (.int x)] []) := by
    intro fuel
    induction fuel with
    | zero => intro T_0 mm u1 hM_0 h1 hm hms hf X_0; exact absurd hM_0 (Nat.not_lt_zero _)
    | succ fuel ih_0 =>
      intro T_0 mm u1 hM_0 h1 hm hms hf X_0
      refine Go.iloadN C X_0 (pc' := 1) d7_0 rfl rfl ?_
      by_cases c2 : (0 : Int32) < u1
      · refine Go.ifNo C X_0 (pc' := 4) d7_1 ((if0 _ _).trans (tlt c2).2.2.2) rfl ?_
        refine Go.aloadN C X_0 (pc' := 5) d7_4 rfl rfl rfl ?_
        refine Go.getF C X_0 (pc' := 8) (host := "") (Or.inl (hw _ (List.mem_of_getElem? (i := 19) rfl))) Via.refl f0 d7_5 rfl (fun T3 X3 => ?_)
        refine Go.iloadN C X3 (pc' := 9) d7_8 rfl rfl ?_
        refine Go.iaload C X3 (pc' := 10) (i := mm) (w := (u mm)) f2 h1 hm rfl d7_9 rfl ?_
        refine Go.iloadN C X3 (pc' := 11) d7_10 rfl rfl ?_
        by_cases c4 : (u mm) = x
        · refine Go.icmpYes C X3 (pc' := 24) d7_11 (teq c4).1 (by decide) (by decide) ?_
          refine Go.iloadN C X3 (pc' := 25) d7_24 rfl rfl ?_
          exact Go.retI C X3 d7_25 ⟨(by rw [own_nat32 h1, ← hf, own_fb_stop (fun q => q.2.1 c4)]), rfl⟩ (by decide) (by decide)
        · refine Go.icmpNo C X3 (pc' := 14) d7_11 (feq c4).1 rfl ?_
          refine Go.aloadN C X3 (pc' := 15) d7_14 rfl rfl rfl ?_
          refine Go.getF C X3 (pc' := 18) (host := "") (Or.inl (hw _ (List.mem_of_getElem? (i := 21) rfl))) Via.refl f1 d7_15 rfl (fun T5 X5 => ?_)
          refine Go.iloadN C X5 (pc' := 19) d7_18 rfl rfl ?_
          refine Go.iaload C X5 (pc' := 20) (i := mm) (w := (own_ofn b mm)) f3 h1 hm rfl d7_19 rfl ?_
          refine Go.istoreN C X5 (pc' := 21) (Ls' := #[.val (.ref a), .val (.int (own_ofn b mm)), .val (.int x)]) d7_20 rfl rfl ?_
          refine Go.goto C X5 (pc' := 0) d7_21 (by decide) (by decide) ?_
          exact ih_0 T5 (b mm) (own_ofn b mm) (by have := (hb0 mm (by have := own_ilt.mp c2; rw [h1, own_o0] at this; omega) hms).2.1; omega) (own_n32 (by have := (hb0 mm (by have := own_ilt.mp c2; rw [h1, own_o0] at this; omega) hms).2.1; omega)) (by have := (hb0 mm (by have := own_ilt.mp c2; rw [h1, own_o0] at this; omega) hms).2.1; omega) (by have := (hb0 mm (by have := own_ilt.mp c2; rw [h1, own_o0] at this; omega) hms).2.1; omega) (by rw [← hf]; exact (own_fb_step ⟨(by have := own_ilt.mp c2; rw [h1, own_o0] at this; omega), c4, (hb0 mm (by have := own_ilt.mp c2; rw [h1, own_o0] at this; omega) hms).2.1⟩).symm) X5
      · refine Go.ifYes C X_0 (pc' := 24) d7_1 ((if0 _ _).trans (flt c2).2.2.2) (by decide) (by decide) ?_
        refine Go.iloadN C X_0 (pc' := 25) d7_24 rfl rfl ?_
        exact Go.retI C X_0 d7_25 ⟨(by rw [own_nat32 h1, ← hf, own_fb_stop (fun q => c2 (own_ilt.mpr (by rw [h1, own_o0]; omega)))]), rfl⟩ (by decide) (by decide)
  exact Cut0 (_) T0 ss s0 (Nat.lt_succ_self _) hs hss (Nat.le_refl _) rfl X0
theorem own_ef_rm_fl (m : MethodId) (x0 : Addr) : entryFrame m #[(.ref x0)] 3 = mkF m 0 #[.val (.ref x0), .unset, .unset] [] := by first | (simp [entryFrame, mkF, argsToLocals, Value.category]; done) | rfl
theorem d5_0 : decode prog_3_method_4_code 0 = .ok (.iconst 0, 1) := by decide +kernel
theorem d5_1 : decode prog_3_method_4_code 1 = .ok (.istore_n 1, 1) := by decide +kernel
theorem d5_2 : decode prog_3_method_4_code 2 = .ok (.iconst 1, 1) := by decide +kernel
theorem d5_3 : decode prog_3_method_4_code 3 = .ok (.istore_n 2, 1) := by decide +kernel
theorem d5_4 : decode prog_3_method_4_code 4 = .ok (.iload_n 2, 1) := by decide +kernel
theorem d5_5 : decode prog_3_method_4_code 5 = .ok (.aload_n 0, 1) := by decide +kernel
theorem d5_6 : decode prog_3_method_4_code 6 = .ok (.invokevirtual 29, 3) := by decide +kernel
theorem own_pd0 : parseMethodDescriptor "()I" = some ⟨[], some .int⟩ := by decide +kernel
theorem d5_9 : decode prog_3_method_4_code 9 = .ok (.if_icmp .ge 48, 3) := by decide +kernel
theorem d5_12 : decode prog_3_method_4_code 12 = .ok (.aload_n 0, 1) := by decide +kernel
theorem d5_13 : decode prog_3_method_4_code 13 = .ok (.iload_n 1, 1) := by decide +kernel
theorem d5_14 : decode prog_3_method_4_code 14 = .ok (.aload_n 0, 1) := by decide +kernel
theorem d5_15 : decode prog_3_method_4_code 15 = .ok (.getfield 19, 3) := by decide +kernel
theorem d5_18 : decode prog_3_method_4_code 18 = .ok (.iload_n 2, 1) := by decide +kernel
theorem d5_19 : decode prog_3_method_4_code 19 = .ok (.iaload, 1) := by decide +kernel
theorem d5_20 : decode prog_3_method_4_code 20 = .ok (.invokevirtual 33, 3) := by decide +kernel
theorem own_pd1 : parseMethodDescriptor "(II)I" = some ⟨[.int, .int], some .int⟩ := by decide +kernel
theorem d5_23 : decode prog_3_method_4_code 23 = .ok (.istore_n 1, 1) := by decide +kernel
theorem d5_24 : decode prog_3_method_4_code 24 = .ok (.aload_n 0, 1) := by decide +kernel
theorem d5_25 : decode prog_3_method_4_code 25 = .ok (.getfield 19, 3) := by decide +kernel
theorem d5_28 : decode prog_3_method_4_code 28 = .ok (.iload_n 1, 1) := by decide +kernel
theorem d5_29 : decode prog_3_method_4_code 29 = .ok (.iaload, 1) := by decide +kernel
theorem d5_30 : decode prog_3_method_4_code 30 = .ok (.aload_n 0, 1) := by decide +kernel
theorem d5_31 : decode prog_3_method_4_code 31 = .ok (.getfield 19, 3) := by decide +kernel
theorem d5_34 : decode prog_3_method_4_code 34 = .ok (.iload_n 2, 1) := by decide +kernel
theorem d5_35 : decode prog_3_method_4_code 35 = .ok (.iaload, 1) := by decide +kernel
theorem d5_36 : decode prog_3_method_4_code 36 = .ok (.if_icmp .ne 6, 3) := by decide +kernel
theorem d5_39 : decode prog_3_method_4_code 39 = .ok (.iinc 1 1, 3) := by decide +kernel
theorem d5_42 : decode prog_3_method_4_code 42 = .ok (.aload_n 0, 1) := by decide +kernel
theorem d5_43 : decode prog_3_method_4_code 43 = .ok (.getfield 23, 3) := by decide +kernel
theorem d5_46 : decode prog_3_method_4_code 46 = .ok (.iload_n 2, 1) := by decide +kernel
theorem d5_47 : decode prog_3_method_4_code 47 = .ok (.iconst 1, 1) := by decide +kernel
theorem d5_48 : decode prog_3_method_4_code 48 = .ok (.iadd, 1) := by decide +kernel
theorem d5_49 : decode prog_3_method_4_code 49 = .ok (.iload_n 1, 1) := by decide +kernel
theorem d5_50 : decode prog_3_method_4_code 50 = .ok (.iastore, 1) := by decide +kernel
theorem d5_51 : decode prog_3_method_4_code 51 = .ok (.iinc 2 1, 3) := by decide +kernel
theorem d5_54 : decode prog_3_method_4_code 54 = .ok (.goto (-50), 3) := by decide +kernel
theorem d5_57 : decode prog_3_method_4_code 57 = .ok (.return_, 1) := by decide +kernel
set_option maxRecDepth 65536 in
set_option maxHeartbeats 40000000 in
theorem rm_fl (l : Launch) (Z : State) (a0 : Array Value) (hw : ∀ d ∈ tables_1, d.before a0 Z = true) (a : Addr) (t : Addr) (t2 : Addr) (m1 : Nat) (u : Nat → Int32) (z : Int32) (h0 : Heap) (n0 : Nat) (Z0 : n0 ≤ h0.size) (f0 : Exa Z h0 a "com/example/needlewright/needlewright/Automaton") (f1 : Fld Z h0 a "com/example/needlewright/needlewright/Automaton" "units" "[I" (.ref t)) (f2 : Fld Z h0 a "com/example/needlewright/needlewright/Automaton" "borders" "[I" (.ref t2)) (f3 : AI Z h0 t .int m1 u) (f4 : AI Z h0 t2 .int m1 (own_ofn (fun _ => 0))) (f5 : n0 ≤ t2) (f6 : a ≠ t2) (f7 : t ≠ t2) (hz : z.toInt = (m1 : Int)) (hm2 : 2 ≤ m1) (hm1 : m1 ≤ 100) :
    Con l Z (⟨"com/example/needlewright/needlewright/Automaton", "fillBorders", "()V"⟩ : MethodName) prog_3_method_4_code 3 none ({ frames := 1, cells := 0, slots := 0, locals := 14 } : Room) #[(.ref a)] h0 n0 (fun rv hv => ∃ b1 : Nat → Nat, rv = none ∧ Keep h0 hv [t2] ∧ AI Z hv t2 .int m1 (own_ofn b1) ∧ (∀ k, 1 ≤ k → k < m1 → own_P u k (b1 k))) := by
  refine Con.enter (plainFor_of_name own_pn0) Z0 ?_
  intro p e s m below meth c T0 C hnm X0
  refine Go.cast (own_ef_rm_fl m a) ?_
  refine Go.iconst C X0 (pc' := 1) (v := (0 : Int32)) d5_0 rfl rfl ?_
  refine Go.istoreN C X0 (pc' := 2) (Ls' := #[.val (.ref a), .val (.int (0 : Int32)), .unset]) d5_1 rfl rfl ?_
  refine Go.iconst C X0 (pc' := 3) (v := (1 : Int32)) d5_2 rfl rfl ?_
  refine Go.istoreN C X0 (pc' := 4) (Ls' := #[.val (.ref a), .val (.int (0 : Int32)), .val (.int (1 : Int32))]) d5_3 rfl rfl ?_
  have Cut4 : ∀ (fuel : Nat) (T_4 : State) (h_4 : Heap) (bb : Nat) (ee : Nat) (b : Nat → Nat) (u1 : Int32) (u2 : Int32), (m1 - ee) < fuel → (u1.toInt = (bb : Int)) → (u2.toInt = (ee : Int)) → (1 ≤ ee) → (ee < m1) → (own_P u ee bb) → (∀ k, 1 ≤ k → k ≤ ee → own_P u k (b k)) → On p l e ({ frames := 1, cells := 0, slots := 0, locals := 14 } : Room) s m #[(.ref a)] below meth c n0 T_4 h_4 0 0 → Keep h0 h_4 [t2] → Exa Z h_4 a "com/example/needlewright/needlewright/Automaton" → Fld Z h_4 a "com/example/needlewright/needlewright/Automaton" "units" "[I" (.ref t) → Fld Z h_4 a "com/example/needlewright/needlewright/Automaton" "borders" "[I" (.ref t2) → AI Z h_4 t .int m1 u → AI Z h_4 t2 .int m1 (own_ofn b) → Go p e below s n0 (({ frames := 1, cells := 0, slots := 0, locals := 14 } : Room)).cells (({ frames := 1, cells := 0, slots := 0, locals := 14 } : Room)).slots (fun rv hv => ∃ b1 : Nat → Nat, rv = none ∧ Keep h0 hv [t2] ∧ AI Z hv t2 .int m1 (own_ofn b1) ∧ (∀ k, 1 ≤ k → k < m1 → own_P u k (b1 k))) T_4 (mkF m 4 #[.val (.ref a), .val (.int u1), .val (.int u2)] []) := by
    intro fuel
    induction fuel with
    | zero => intro T_4 h_4 bb ee b u1 u2 hM_4 h1 h2 he1 he2 hP hb X_4 K_4 G4_0 G4_1 G4_2 G4_3 G4_4; exact absurd hM_4 (Nat.not_lt_zero _)
    | succ fuel ih_4 =>
      intro T_4 h_4 bb ee b u1 u2 hM_4 h1 h2 he1 he2 hP hb X_4 K_4 G4_0 G4_1 G4_2 G4_3 G4_4
      refine Go.iloadN C X_4 (pc' := 5) d5_4 rfl rfl ?_
      refine Go.aloadN C X_4 (pc' := 6) d5_5 rfl rfl rfl ?_
      refine Go.callV C X_4 (pc' := 9) (W := 1) (argsL := []) (rest := [(.int u2)]) (a := a) (rm_len l Z a0 hw a t m1 u z h_4 n0 X_4.sz G4_1 G4_3 hz) G4_0 (notFace_of_selects (args := #[]) (mvT C.2.1 (hw _ (List.mem_of_getElem? (i := 30) rfl)))) (hw _ (List.mem_of_getElem? (i := 27) rfl)) (hw _ (List.mem_of_getElem? (i := 28) rfl)) (hw _ (List.mem_of_getElem? (i := 30) rfl)) (hw _ (List.mem_of_getElem? (i := 29) rfl)) (hw _ (List.mem_of_getElem? (i := 11) rfl)) (hw _ (List.mem_of_getElem? (i := 31) rfl)) (by decide) rfl rfl (lenOf own_pd0 rfl) rfl (Nat.le_of_eq rfl) (by decide) (by decide) (by decide) (by decide) d5_6 rfl (fun _ _ q => Nat.le_of_eq (congrArg Array.size q.2)) (fun T6 h6 v6 X6 P6 => ?_)
      obtain ⟨rfl, rfl⟩ := P6
      show Go p e below s n0 _ _ _ T6 (mkF m 9 #[.val (.ref a), .val (.int u1), .val (.int u2)] [(.int (z - (1 : Int32))), (.int u2)])
      by_cases c7 : u2 < (z - (1 : Int32))
      · refine Go.icmpNo C X6 (pc' := 12) d5_9 (tlt c7).2.1 rfl ?_
        refine Go.aloadN C X6 (pc' := 13) d5_12 rfl rfl rfl ?_
        refine Go.iloadN C X6 (pc' := 14) d5_13 rfl rfl ?_
        refine Go.aloadN C X6 (pc' := 15) d5_14 rfl rfl rfl ?_
        refine Go.getF C X6 (pc' := 18) (host := "") (Or.inl (hw _ (List.mem_of_getElem? (i := 19) rfl))) Via.refl G4_1 d5_15 rfl (fun T8 X8 => ?_)
        refine Go.iloadN C X8 (pc' := 19) d5_18 rfl rfl ?_
        refine Go.iaload C X8 (pc' := 20) (i := ee) (w := (u ee)) G4_3 h2 he2 rfl d5_19 rfl ?_
        refine Go.callV C X8 (pc' := 23) (W := 0) (argsL := [(.int u1), (.int (u ee))]) (rest := []) (a := a) (rm_fb l Z a0 hw a u1 (u ee) t t2 m1 u b bb h_4 n0 X8.sz G4_1 G4_2 G4_3 G4_4 hm1 h1 (by have := hP.2.1; omega) (fun k a d => hb k a (by have := hP.2.1; omega))) G4_0 (notFace_of_selects (args := #[]) (mvT C.2.1 (hw _ (List.mem_of_getElem? (i := 36) rfl)))) (hw _ (List.mem_of_getElem? (i := 44) rfl)) (hw _ (List.mem_of_getElem? (i := 34) rfl)) (hw _ (List.mem_of_getElem? (i := 36) rfl)) (hw _ (List.mem_of_getElem? (i := 35) rfl)) (hw _ (List.mem_of_getElem? (i := 11) rfl)) (hw _ (List.mem_of_getElem? (i := 37) rfl)) (by decide) rfl rfl (lenOf own_pd1 rfl) rfl (Nat.le_of_eq rfl) (by decide) (by decide) (by decide) (by decide) d5_20 rfl (fun _ _ q => Nat.le_of_eq (congrArg Array.size q.2)) (fun T9 h9 v9 X9 P9 => ?_)
        obtain ⟨rfl, rfl⟩ := P9
        show Go p e below s n0 _ _ _ T9 (mkF m 23 #[.val (.ref a), .val (.int u1), .val (.int u2)] [(.int (Int32.ofNat (own_fb u b (u ee) bb)))])
        refine Go.istoreN C X9 (pc' := 24) (Ls' := #[.val (.ref a), .val (.int (Int32.ofNat (own_fb u b (u ee) bb))), .val (.int u2)]) d5_23 rfl rfl ?_
        refine Go.aloadN C X9 (pc' := 25) d5_24 rfl rfl rfl ?_
        refine Go.getF C X9 (pc' := 28) (host := "") (Or.inl (hw _ (List.mem_of_getElem? (i := 19) rfl))) Via.refl G4_1 d5_25 rfl (fun T10 X10 => ?_)
        refine Go.iloadN C X10 (pc' := 29) d5_28 rfl rfl ?_
        refine Go.iaload C X10 (pc' := 30) (i := (own_fb u b (u ee) bb)) (w := (u (own_fb u b (u ee) bb))) G4_3 (own_n32 (by have := own_fb_le u b (u ee) bb; have := hP.2.1; omega)) (by have := own_fb_le u b (u ee) bb; have := hP.2.1; omega) rfl d5_29 rfl ?_
        refine Go.aloadN C X10 (pc' := 31) d5_30 rfl rfl rfl ?_
        refine Go.getF C X10 (pc' := 34) (host := "") (Or.inl (hw _ (List.mem_of_getElem? (i := 19) rfl))) Via.refl G4_1 d5_31 rfl (fun T11 X11 => ?_)
        refine Go.iloadN C X11 (pc' := 35) d5_34 rfl rfl ?_
        refine Go.iaload C X11 (pc' := 36) (i := ee) (w := (u ee)) G4_3 h2 he2 rfl d5_35 rfl ?_
        by_cases c12 : (u (own_fb u b (u ee) bb)) = (u ee)
        · refine Go.icmpNo C X11 (pc' := 39) d5_36 (teq c12).2 rfl ?_
          refine Go.iinc C X11 (pc' := 42) (Ls' := #[.val (.ref a), .val (.int ((Int32.ofNat (own_fb u b (u ee) bb)) + (1 : Int32))), .val (.int u2)]) (v' := ((Int32.ofNat (own_fb u b (u ee) bb)) + (1 : Int32))) d5_39 rfl rfl rfl rfl ?_
          refine Go.aloadN C X11 (pc' := 43) d5_42 rfl rfl rfl ?_
          refine Go.getF C X11 (pc' := 46) (host := "") (Or.inl (hw _ (List.mem_of_getElem? (i := 21) rfl))) Via.refl G4_2 d5_43 rfl (fun T13 X13 => ?_)
          refine Go.iloadN C X13 (pc' := 47) d5_46 rfl rfl ?_
          refine Go.iconst C X13 (pc' := 48) (v := (1 : Int32)) d5_47 rfl rfl ?_
          refine Go.iadd C X13 (pc' := 49) d5_48 rfl ?_
          refine Go.iloadN C X13 (pc' := 50) d5_49 rfl rfl ?_
          refine Go.iastore C X13 (pc' := 51) (i := (ee + 1)) (x' := ((Int32.ofNat (own_fb u b (u ee) bb)) + (1 : Int32))) G4_4 (by rw [own_iadd (by rw [h2, own_o1]; omega) (by rw [h2, own_o1]; omega), h2, own_o1]; omega) (by have := own_ilt.mp c7; rw [own_isub (by rw [hz, own_o1]; omega) (by rw [hz, own_o1]; omega), hz, own_o1, h2] at this; omega) rfl f5 d5_50 rfl (fun T14 h14 X14 W14 A14 => ?_)
          have K15 : Keep h0 h14 [t2] := K_4.wr W14 (Or.inl (List.mem_of_getElem? (i := 0) rfl))
          have E16 := G4_0.wr W14
          have F17 := G4_1.other W14 (Or.inl f6)
          have F18 := G4_2.other W14 (Or.inl f6)
          have A19 := G4_3.other W14 f7
          refine Go.iinc C X14 (pc' := 54) (Ls' := #[.val (.ref a), .val (.int ((Int32.ofNat (own_fb u b (u ee) bb)) + (1 : Int32))), .val (.int (u2 + (1 : Int32)))]) (v' := (u2 + (1 : Int32))) d5_51 rfl rfl rfl rfl ?_
          refine Go.goto C X14 (pc' := 4) d5_54 (by decide) (by decide) ?_
          exact ih_4 T14 h14 ((own_fb u b (u ee) bb) + 1) (ee + 1) (own_upn b (ee + 1) ((own_fb u b (u ee) bb) + 1)) ((Int32.ofNat (own_fb u b (u ee) bb)) + (1 : Int32)) (u2 + (1 : Int32)) (by omega) (by rw [own_add1 (by have := own_fb_le u b (u ee) bb; have := hP.2.1; omega)]; exact own_n32 (by have := own_fb_le u b (u ee) bb; have := hP.2.1; omega)) (by rw [own_iadd (by rw [h2, own_o1]; omega) (by rw [h2, own_o1]; omega), h2, own_o1]; omega) (by omega) (by have := own_ilt.mp c7; rw [own_isub (by rw [hz, own_o1]; omega) (by rw [hz, own_o1]; omega), hz, own_o1, h2] at this; omega) (own_nextY hP (own_fb_spec (fun k a d => hb k a (by have := hP.2.1; omega))) c12) (own_upP hb (own_nextY hP (own_fb_spec (fun k a d => hb k a (by have := hP.2.1; omega))) c12)) X14 K15 E16 F17 F18 A19 (AI.congr A14 (own_upo (own_add1 (by have := own_fb_le u b (u ee) bb; have := hP.2.1; omega))))
        · refine Go.icmpYes C X11 (pc' := 42) d5_36 (feq c12).2 (by decide) (by decide) ?_
          refine Go.aloadN C X11 (pc' := 43) d5_42 rfl rfl rfl ?_
          refine Go.getF C X11 (pc' := 46) (host := "") (Or.inl (hw _ (List.mem_of_getElem? (i := 21) rfl))) Via.refl G4_2 d5_43 rfl (fun T20 X20 => ?_)
          refine Go.iloadN C X20 (pc' := 47) d5_46 rfl rfl ?_
          refine Go.iconst C X20 (pc' := 48) (v := (1 : Int32)) d5_47 rfl rfl ?_
          refine Go.iadd C X20 (pc' := 49) d5_48 rfl ?_
          refine Go.iloadN C X20 (pc' := 50) d5_49 rfl rfl ?_
          refine Go.iastore C X20 (pc' := 51) (i := (ee + 1)) (x' := (Int32.ofNat (own_fb u b (u ee) bb))) G4_4 (by rw [own_iadd (by rw [h2, own_o1]; omega) (by rw [h2, own_o1]; omega), h2, own_o1]; omega) (by have := own_ilt.mp c7; rw [own_isub (by rw [hz, own_o1]; omega) (by rw [hz, own_o1]; omega), hz, own_o1, h2] at this; omega) rfl f5 d5_50 rfl (fun T21 h21 X21 W21 A21 => ?_)
          have K22 : Keep h0 h21 [t2] := K_4.wr W21 (Or.inl (List.mem_of_getElem? (i := 0) rfl))
          have E23 := G4_0.wr W21
          have F24 := G4_1.other W21 (Or.inl f6)
          have F25 := G4_2.other W21 (Or.inl f6)
          have A26 := G4_3.other W21 f7
          refine Go.iinc C X21 (pc' := 54) (Ls' := #[.val (.ref a), .val (.int (Int32.ofNat (own_fb u b (u ee) bb))), .val (.int (u2 + (1 : Int32)))]) (v' := (u2 + (1 : Int32))) d5_51 rfl rfl rfl rfl ?_
          refine Go.goto C X21 (pc' := 4) d5_54 (by decide) (by decide) ?_
          exact ih_4 T21 h21 (own_fb u b (u ee) bb) (ee + 1) (own_upn b (ee + 1) (own_fb u b (u ee) bb)) (Int32.ofNat (own_fb u b (u ee) bb)) (u2 + (1 : Int32)) (by omega) (own_n32 (by have := own_fb_le u b (u ee) bb; have := hP.2.1; omega)) (by rw [own_iadd (by rw [h2, own_o1]; omega) (by rw [h2, own_o1]; omega), h2, own_o1]; omega) (by omega) (by have := own_ilt.mp c7; rw [own_isub (by rw [hz, own_o1]; omega) (by rw [hz, own_o1]; omega), hz, own_o1, h2] at this; omega) (own_nextN hP (own_fb_spec (fun k a d => hb k a (by have := hP.2.1; omega))) c12) (own_upP hb (own_nextN hP (own_fb_spec (fun k a d => hb k a (by have := hP.2.1; omega))) c12)) X21 K22 E23 F24 F25 A26 (AI.congr A21 (own_upo rfl))
      · refine Go.icmpYes C X6 (pc' := 57) d5_9 (flt c7).2.1 (by decide) (by decide) ?_
        exact Go.retV C X6 d5_57 ⟨b, rfl, K_4, G4_4, (fun k a d => hb k a (by have := own_nilt c7; rw [own_isub (by rw [hz, own_o1]; omega) (by rw [hz, own_o1]; omega), hz, own_o1, h2] at this; omega))⟩ (by decide) (by decide)
  exact Cut4 (_) T0 h0 0 1 (fun _ => 0) (0 : Int32) (1 : Int32) (Nat.lt_succ_self _) rfl rfl (by decide) (by omega) (own_P1 u) (own_upP0 u) X0 (Keep.refl h0 [t2]) f0 f1 f2 f3 f4
theorem own_ef_rm_au (m : MethodId) (x0 : Addr) (x1 : Addr) : entryFrame m #[(.ref x0), (.ref x1)] 2 = mkF m 0 #[.val (.ref x0), .val (.ref x1)] [] := by first | (simp [entryFrame, mkF, argsToLocals, Value.category]; done) | rfl
theorem d3_0 : decode prog_3_method_1_code 0 = .ok (.aload_n 0, 1) := by decide +kernel
theorem d3_1 : decode prog_3_method_1_code 1 = .ok (.invokespecial 3, 3) := by decide +kernel
theorem d3_4 : decode prog_3_method_1_code 4 = .ok (.aload_n 1, 1) := by decide +kernel
theorem d3_5 : decode prog_3_method_1_code 5 = .ok (.arraylength, 1) := by decide +kernel
theorem d3_6 : decode prog_3_method_1_code 6 = .ok (.iconst 1, 1) := by decide +kernel
theorem d3_7 : decode prog_3_method_1_code 7 = .ok (.if_icmp .gt 13, 3) := by decide +kernel
theorem d3_20 : decode prog_3_method_1_code 20 = .ok (.aload_n 1, 1) := by decide +kernel
theorem d3_21 : decode prog_3_method_1_code 21 = .ok (.aload_n 1, 1) := by decide +kernel
theorem d3_22 : decode prog_3_method_1_code 22 = .ok (.arraylength, 1) := by decide +kernel
theorem d3_23 : decode prog_3_method_1_code 23 = .ok (.iconst 1, 1) := by decide +kernel
theorem d3_24 : decode prog_3_method_1_code 24 = .ok (.isub, 1) := by decide +kernel
theorem d3_25 : decode prog_3_method_1_code 25 = .ok (.ldc 18, 2) := by decide +kernel
theorem d3_27 : decode prog_3_method_1_code 27 = .ok (.iastore, 1) := by decide +kernel
theorem d3_28 : decode prog_3_method_1_code 28 = .ok (.aload_n 0, 1) := by decide +kernel
theorem d3_29 : decode prog_3_method_1_code 29 = .ok (.aload_n 1, 1) := by decide +kernel
theorem d3_30 : decode prog_3_method_1_code 30 = .ok (.putfield 19, 3) := by decide +kernel
theorem d3_33 : decode prog_3_method_1_code 33 = .ok (.aload_n 0, 1) := by decide +kernel
theorem d3_34 : decode prog_3_method_1_code 34 = .ok (.aload_n 1, 1) := by decide +kernel
theorem d3_35 : decode prog_3_method_1_code 35 = .ok (.arraylength, 1) := by decide +kernel
theorem d3_36 : decode prog_3_method_1_code 36 = .ok (.newarray .int, 2) := by decide +kernel
theorem d3_38 : decode prog_3_method_1_code 38 = .ok (.putfield 23, 3) := by decide +kernel
theorem d3_41 : decode prog_3_method_1_code 41 = .ok (.aload_n 0, 1) := by decide +kernel
theorem d3_42 : decode prog_3_method_1_code 42 = .ok (.invokevirtual 26, 3) := by decide +kernel
theorem own_pd2 : parseMethodDescriptor "()V" = some ⟨[], none⟩ := by decide +kernel
theorem d3_45 : decode prog_3_method_1_code 45 = .ok (.return_, 1) := by decide +kernel
set_option maxRecDepth 65536 in
set_option maxHeartbeats 40000000 in
theorem rm_au (l : Launch) (Z : State) (a0 : Array Value) (hw : ∀ d ∈ tables_1, d.before a0 Z = true) (a : Addr) (t : Addr) (m1 : Nat) (f : Nat → Int32) (z : Int32) (h0 : Heap) (n0 : Nat) (Z0 : n0 ≤ h0.size) (f0 : Exa Z h0 a "com/example/needlewright/needlewright/Automaton") (f1 : Fld Z h0 a "com/example/needlewright/needlewright/Automaton" "units" "[I" .null) (f2 : Fld Z h0 a "com/example/needlewright/needlewright/Automaton" "borders" "[I" .null) (f3 : n0 ≤ a) (f4 : n0 ≤ t) (f5 : AI Z h0 t .int m1 f) (f6 : a ≠ t) (hz : z.toInt = (m1 : Int)) (hm2 : 2 ≤ m1) (hm1 : m1 ≤ 5) :
    Con l Z (⟨"com/example/needlewright/needlewright/Automaton", "<init>", "([I)V"⟩ : MethodName) prog_3_method_1_code 2 none ({ frames := 2, cells := 1, slots := 5, locals := 28 } : Room) #[(.ref a), (.ref t)] h0 n0 (fun rv hv => ∃ t2 : Addr, ∃ b1 : Nat → Nat, rv = none ∧ h0.size ≤ t2 ∧ Keep h0 hv [a, t] ∧ Exa Z hv a "com/example/needlewright/needlewright/Automaton" ∧ Fld Z hv a "com/example/needlewright/needlewright/Automaton" "units" "[I" (.ref t) ∧ Fld Z hv a "com/example/needlewright/needlewright/Automaton" "borders" "[I" (.ref t2) ∧ AI Z hv t .int m1 (fun q => if q = (m1 - 1) then (-2147483648 : Int32) else f q) ∧ AI Z hv t2 .int m1 (own_ofn b1) ∧ t ≠ t2 ∧ a ≠ t2 ∧ (∀ k, 1 ≤ k → k < m1 → own_P (fun q => if q = (m1 - 1) then (-2147483648 : Int32) else f q) k (b1 k))) := by
  refine Con.enter (plainFor_of_name own_pn0) Z0 ?_
  intro p e s m below meth c T0 C hnm X0
  refine Go.cast (own_ef_rm_au m a t) ?_
  refine Go.aloadN C X0 (pc' := 1) d3_0 rfl rfl rfl ?_
  refine Go.initO C X0 (pc' := 4) (fun locs X eT => RoadKit.initO X C.1 C.2.1 C.2.2.2.1 (hw _ (List.mem_of_getElem? (i := 15) rfl)) (hw _ (List.mem_of_getElem? (i := 16) rfl)) (hw _ (List.mem_of_getElem? (i := 17) rfl)) eT (g := (mkF m 1 #[.val (.ref a), .val (.ref t)] [(.ref a)])) rfl (by rw [C.2.2.2.2.1]; rfl) rfl (hb C.2.2.1 d3_1) (by decide) (W := 0) (by show 2 * 0 + _ ≤ _; exact Nat.le_of_eq rfl) (by decide)) rfl (fun T27 X27 => ?_)
  refine Go.aloadN C X27 (pc' := 5) d3_4 rfl rfl rfl ?_
  refine Go.alenI C X27 (pc' := 6) (z := z) f5 hz d3_5 rfl ?_
  refine Go.iconst C X27 (pc' := 7) (v := (1 : Int32)) d3_6 rfl rfl ?_
  refine Go.icmpYes C X27 (pc' := 20) d3_7 (tlt (own_ilt.mpr (by rw [hz, own_o1]; omega))).2.2.1 (by decide) (by decide) ?_
  refine Go.aloadN C X27 (pc' := 21) d3_20 rfl rfl rfl ?_
  refine Go.aloadN C X27 (pc' := 22) d3_21 rfl rfl rfl ?_
  refine Go.alenI C X27 (pc' := 23) (z := z) f5 hz d3_22 rfl ?_
  refine Go.iconst C X27 (pc' := 24) (v := (1 : Int32)) d3_23 rfl rfl ?_
  refine Go.isub C X27 (pc' := 25) d3_24 rfl ?_
  refine Go.ldc C X27 (pc' := 27) (hw _ (List.mem_of_getElem? (i := 18) rfl)) d3_25 rfl ?_
  refine Go.iastore C X27 (pc' := 28) (i := (m1 - 1)) (x' := (-2147483648 : Int32)) f5 (by rw [own_isub (by rw [hz, own_o1]; omega) (by rw [hz, own_o1]; omega), hz, own_o1]; omega) (by omega) rfl f4 d3_27 rfl (fun T28 h28 X28 W28 A28 => ?_)
  have K29 : Keep h0 h28 [a, t] := (Keep.refl h0 [a, t]).wr W28 (Or.inl (List.mem_of_getElem? (i := 1) rfl))
  have E30 := f0.wr W28
  have F31 := f1.other W28 (Or.inl f6)
  have F32 := f2.other W28 (Or.inl f6)
  refine Go.aloadN C X28 (pc' := 29) d3_28 rfl rfl rfl ?_
  refine Go.aloadN C X28 (pc' := 30) d3_29 rfl rfl rfl ?_
  refine Go.putF C X28 (pc' := 33) (host := "") (Or.inl (hw _ (List.mem_of_getElem? (i := 19) rfl))) Via.refl F31 E30 (Or.inr ⟨(hw _ (List.mem_of_getElem? (i := 20) rfl)), rfl, hnm⟩) (hw _ (List.mem_of_getElem? (i := 10) rfl)) f3 (ty := (.array .int)) (by decide) rfl rfl d3_30 rfl (fun T33 h33 X33 W33 => ?_)
  have Fw33 := F31.same W33
  have K34 : Keep h0 h33 [a, t] := K29.wr W33 (Or.inl (List.mem_of_getElem? (i := 0) rfl))
  have E35 := E30.wr W33
  have F36 := F32.other W33 (Or.inr (slot_ne (Or.inr (hw _ (List.mem_of_getElem? (i := 22) rfl))) (Or.inr (hw _ (List.mem_of_getElem? (i := 20) rfl))) (by decide) (t := (.array .int)) (t' := (.array .int)) (by decide) (by decide)))
  have A37 := A28.other W33 (Ne.symm f6)
  refine Go.aloadN C X33 (pc' := 34) d3_33 rfl rfl rfl ?_
  refine Go.aloadN C X33 (pc' := 35) d3_34 rfl rfl rfl ?_
  refine Go.alenI C X33 (pc' := 36) (z := z) A37 hz d3_35 rfl ?_
  refine Go.newP C X33 (pc' := 38) (nn := m1) (cap := 5) (hw _ (List.mem_of_getElem? (i := 7) rfl)) d3_36 hz hm1 (by decide) (by decide) (by decide) rfl (fun T38 h38 b38 k38 X38 g38 E38 Ar38 N38 => ?_)
  have ne_a_b38 : a ≠ b38 := Nat.ne_of_lt (Nat.lt_of_lt_of_eq E35.lt g38.symm)
  have ne_t_b38 : t ≠ b38 := Nat.ne_of_lt (Nat.lt_of_lt_of_eq A37.lt g38.symm)
  have Q38 : h0.size ≤ b38 := Nat.le_trans K34.1 (Nat.le_of_eq g38.symm)
  have K39 : Keep h0 h38 [a, t] := K34.ext E38
  have E40 := E35.ext E38
  have F41 := F36.ext E38
  have A42 := A37.ext E38
  have F43 := Fw33.ext E38
  have A38 : AI Z h38 b38 .int m1 (fun _ => 0) := AI.new hz rfl Ar38
  refine Go.putF C X38 (pc' := 41) (host := "") (Or.inl (hw _ (List.mem_of_getElem? (i := 21) rfl))) Via.refl F41 E40 (Or.inr ⟨(hw _ (List.mem_of_getElem? (i := 22) rfl)), rfl, hnm⟩) (hw _ (List.mem_of_getElem? (i := 10) rfl)) f3 (ty := (.array .int)) (by decide) rfl rfl d3_38 rfl (fun T44 h44 X44 W44 => ?_)
  have Fw44 := F41.same W44
  have K45 : Keep h0 h44 [a, t] := K39.wr W44 (Or.inl (List.mem_of_getElem? (i := 0) rfl))
  have E46 := E40.wr W44
  have A47 := A42.other W44 (Ne.symm f6)
  have F48 := F43.other W44 (Or.inr (slot_ne (Or.inr (hw _ (List.mem_of_getElem? (i := 20) rfl))) (Or.inr (hw _ (List.mem_of_getElem? (i := 22) rfl))) (by decide) (t := (.array .int)) (t' := (.array .int)) (by decide) (by decide)))
  have A49 := A38.other W44 (Ne.symm ne_a_b38)
  have A50 : AI Z h44 b38 .int m1 (own_ofn (fun _ => 0)) := AI.congr A49 (fun i _ => rfl)
  refine Go.aloadN C X44 (pc' := 42) d3_41 rfl rfl rfl ?_
  refine Go.callP C X44 (pc' := 45) (W := 0) (argsL := []) (rest := []) (a := a) (rm_fl l Z a0 hw a t b38 m1 (fun q => if q = (m1 - 1) then (-2147483648 : Int32) else f q) z h44 n0 X44.sz E46 F48 Fw44 A47 A50 N38 ne_a_b38 ne_t_b38 hz hm2 (by omega)) E46 (hw _ (List.mem_of_getElem? (i := 23) rfl)) (hw _ (List.mem_of_getElem? (i := 24) rfl)) (hw _ (List.mem_of_getElem? (i := 10) rfl)) (hw _ (List.mem_of_getElem? (i := 25) rfl)) (hw _ (List.mem_of_getElem? (i := 11) rfl)) (hw _ (List.mem_of_getElem? (i := 26) rfl)) (by decide) rfl rfl (lenOf own_pd2 rfl) rfl (Nat.le_of_eq rfl) (by decide) (by decide) (by decide) (by decide) d3_42 rfl (fun _ _ q => by obtain ⟨_, _, K, _⟩ := q; exact K.1) (fun T51 h51 v51 X51 P51 => ?_)
  obtain ⟨b151, rfl, K51, O51_0, Y51_0⟩ := P51
  have K52 : Keep h0 h51 [a, t] := K45.trans K51 (allS (Or.inr Q38) all0)
  have E53 := E46.keep K51
  have A54 := A47.keep K51 (ninS ne_t_b38 nin0)
  have F55 := F48.keep K51 (ninS ne_a_b38 nin0)
  have F56 := Fw44.keep K51 (ninS ne_a_b38 nin0)
  show Go p e below s n0 _ _ _ T51 (mkF m 45 #[.val (.ref a), .val (.ref t)] [])
  exact Go.retV C X51 d3_45 ⟨b38, b151, rfl, Q38, K52, E53, F55, F56, A54, O51_0, ne_t_b38, ne_a_b38, Y51_0⟩ (by decide) (by decide)
theorem d1_0 : decode method_3_code 0 = .ok (.iload_n 1, 1) := by decide +kernel
theorem d1_1 : decode method_3_code 1 = .ok (.ifCond .ne 5, 3) := by decide +kernel
theorem d1_4 : decode method_3_code 4 = .ok (.iconst 0, 1) := by decide +kernel
theorem d1_5 : decode method_3_code 5 = .ok (.ireturn, 1) := by decide +kernel
theorem d1_6 : decode method_3_code 6 = .ok (.iload_n 1, 1) := by decide +kernel
theorem d1_7 : decode method_3_code 7 = .ok (.iconst 1, 1) := by decide +kernel
theorem d1_8 : decode method_3_code 8 = .ok (.if_icmp .ne 7, 3) := by decide +kernel
theorem d1_11 : decode method_3_code 11 = .ok (.iload_n 0, 1) := by decide +kernel
theorem d1_12 : decode method_3_code 12 = .ok (.iconst 1, 1) := by decide +kernel
theorem d1_13 : decode method_3_code 13 = .ok (.iand, 1) := by decide +kernel
theorem d1_14 : decode method_3_code 14 = .ok (.ireturn, 1) := by decide +kernel
theorem d1_15 : decode method_3_code 15 = .ok (.iload_n 1, 1) := by decide +kernel
theorem d1_16 : decode method_3_code 16 = .ok (.iconst 2, 1) := by decide +kernel
theorem d1_17 : decode method_3_code 17 = .ok (.if_icmp .ne 7, 3) := by decide +kernel
theorem d1_20 : decode method_3_code 20 = .ok (.iload_n 0, 1) := by decide +kernel
theorem d1_21 : decode method_3_code 21 = .ok (.iconst 3, 1) := by decide +kernel
theorem d1_22 : decode method_3_code 22 = .ok (.iand, 1) := by decide +kernel
theorem d1_23 : decode method_3_code 23 = .ok (.ireturn, 1) := by decide +kernel
theorem d1_24 : decode method_3_code 24 = .ok (.iload_n 0, 1) := by decide +kernel
theorem d1_25 : decode method_3_code 25 = .ok (.i2b, 1) := by decide +kernel
theorem d1_26 : decode method_3_code 26 = .ok (.ireturn, 1) := by decide +kernel
def own_f_rm_un (y0 : Int32) (y1 : Int32) : Int32 := (if y1 = (0 : Int32) then (0 : Int32) else (if y1 = (1 : Int32) then (y0 &&& (1 : Int32)) else (if y1 = (2 : Int32) then (y0 &&& (3 : Int32)) else (y0).toInt8.toInt32)))
theorem own_pn1 : plainName "com/example/needlewright/needlewright/AutomatonFallBackPinLaw" = true := by first | (simp [plainName, overriddenIn]; done) | decide +kernel
theorem own_ef_rm_un (m : MethodId) (x0 : Int32) (x1 : Int32) : entryFrame m #[(.int x0), (.int x1)] 2 = mkF m 0 #[.val (.int x0), .val (.int x1)] [] := by first | (simp [entryFrame, mkF, argsToLocals, Value.category]; done) | rfl
set_option maxRecDepth 65536 in
set_option maxHeartbeats 40000000 in
theorem rm_un (l : Launch) (Z : State) (a0 : Array Value) (hw : ∀ d ∈ tables_1, d.before a0 Z = true) (y0 : Int32) (y1 : Int32) (h0 : Heap) (n0 : Nat) (Z0 : n0 ≤ h0.size)  :
    Con l Z (⟨"com/example/needlewright/needlewright/AutomatonFallBackPinLaw", "unitOf", "(II)I"⟩ : MethodName) method_3_code 2 (some .int) ({ frames := 0, cells := 0, slots := 0, locals := 0 } : Room) #[(.int y0), (.int y1)] h0 n0 (fun rv hv => rv = some (.int (own_f_rm_un y0 y1)) ∧ h0 = hv) := by
  refine Con.enter (plainFor_of_name own_pn1) Z0 ?_
  intro p e s m below meth c T0 C hnm X0
  refine Go.cast (own_ef_rm_un m y0 y1) ?_
  refine Go.iloadN C X0 (pc' := 1) d1_0 rfl rfl ?_
  by_cases c60 : y1 = (0 : Int32)
  · refine Go.ifNo C X0 (pc' := 4) d1_1 ((if0 _ _).trans (teq c60).2) rfl ?_
    refine Go.iconst C X0 (pc' := 5) (v := (0 : Int32)) d1_4 rfl rfl ?_
    exact Go.retI C X0 d1_5 ⟨by show some (Value.int (0 : Int32)) = some (Value.int (own_f_rm_un y0 y1)); unfold own_f_rm_un; rw [if_pos c60], rfl⟩ (by decide) (by decide)
  · refine Go.ifYes C X0 (pc' := 6) d1_1 ((if0 _ _).trans (feq c60).2) (by decide) (by decide) ?_
    refine Go.iloadN C X0 (pc' := 7) d1_6 rfl rfl ?_
    refine Go.iconst C X0 (pc' := 8) (v := (1 : Int32)) d1_7 rfl rfl ?_
    by_cases c61 : y1 = (1 : Int32)
    · refine Go.icmpNo C X0 (pc' := 11) d1_8 (teq c61).2 rfl ?_
      refine Go.iloadN C X0 (pc' := 12) d1_11 rfl rfl ?_
      refine Go.iconst C X0 (pc' := 13) (v := (1 : Int32)) d1_12 rfl rfl ?_
      refine Go.iand C X0 (pc' := 14) d1_13 rfl ?_
      exact Go.retI C X0 d1_14 ⟨by show some (Value.int (y0 &&& (1 : Int32))) = some (Value.int (own_f_rm_un y0 y1)); unfold own_f_rm_un; rw [if_neg c60, if_pos c61], rfl⟩ (by decide) (by decide)
    · refine Go.icmpYes C X0 (pc' := 15) d1_8 (feq c61).2 (by decide) (by decide) ?_
      refine Go.iloadN C X0 (pc' := 16) d1_15 rfl rfl ?_
      refine Go.iconst C X0 (pc' := 17) (v := (2 : Int32)) d1_16 rfl rfl ?_
      by_cases c62 : y1 = (2 : Int32)
      · refine Go.icmpNo C X0 (pc' := 20) d1_17 (teq c62).2 rfl ?_
        refine Go.iloadN C X0 (pc' := 21) d1_20 rfl rfl ?_
        refine Go.iconst C X0 (pc' := 22) (v := (3 : Int32)) d1_21 rfl rfl ?_
        refine Go.iand C X0 (pc' := 23) d1_22 rfl ?_
        exact Go.retI C X0 d1_23 ⟨by show some (Value.int (y0 &&& (3 : Int32))) = some (Value.int (own_f_rm_un y0 y1)); unfold own_f_rm_un; rw [if_neg c60, if_neg c61, if_pos c62], rfl⟩ (by decide) (by decide)
      · refine Go.icmpYes C X0 (pc' := 24) d1_17 (feq c62).2 (by decide) (by decide) ?_
        refine Go.iloadN C X0 (pc' := 25) d1_24 rfl rfl ?_
        refine Go.i2b C X0 (pc' := 26) d1_25 rfl ?_
        exact Go.retI C X0 d1_26 ⟨by show some (Value.int (y0).toInt8.toInt32) = some (Value.int (own_f_rm_un y0 y1)); unfold own_f_rm_un; rw [if_neg c60, if_neg c61, if_neg c62], rfl⟩ (by decide) (by decide)
theorem own_o2 : (2 : Int32).toInt = 2 := rfl
theorem own_o3 : (3 : Int32).toInt = 3 := rfl
theorem own_mk {k : Int32} {m1 : Nat} (hk : k.toInt + 1 = (m1 : Int)) (h2 : 2 ≤ m1) (h5 : m1 ≤ 5) : (k = 1 → m1 = 2) ∧ (k = 2 → m1 = 3) ∧ (k = 3 → m1 = 4) ∧ (¬ k = 1 → ¬ k = 2 → ¬ k = 3 → m1 = 5) := by
  refine ⟨fun q => ?_, fun q => ?_, fun q => ?_, fun q1 q2 q3 => ?_⟩
  · rw [q, own_o1] at hk; omega
  · rw [q, own_o2] at hk; omega
  · rw [q, own_o3] at hk; omega
  · have a : k.toInt ≠ 1 := fun q => q1 (own_ieq.mpr (by rw [q, own_o1]))
    have b : k.toInt ≠ 2 := fun q => q2 (own_ieq.mpr (by rw [q, own_o2]))
    have d : k.toInt ≠ 3 := fun q => q3 (own_ieq.mpr (by rw [q, own_o3]))
    omega
theorem own_ef_rm_mk (m : MethodId) (x0 : Int32) : entryFrame m #[(.int x0)] 1 = mkF m 0 #[.val (.int x0)] [] := by first | (simp [entryFrame, mkF, argsToLocals, Value.category]; done) | rfl
theorem d2_0 : decode method_4_code 0 = .ok (.iload_n 0, 1) := by decide +kernel
theorem d2_1 : decode method_4_code 1 = .ok (.iconst 1, 1) := by decide +kernel
theorem d2_2 : decode method_4_code 2 = .ok (.if_icmp .ne 7, 3) := by decide +kernel
theorem d2_5 : decode method_4_code 5 = .ok (.iconst 2, 1) := by decide +kernel
theorem d2_6 : decode method_4_code 6 = .ok (.newarray .int, 2) := by decide +kernel
theorem d2_8 : decode method_4_code 8 = .ok (.areturn, 1) := by decide +kernel
theorem d2_9 : decode method_4_code 9 = .ok (.iload_n 0, 1) := by decide +kernel
theorem d2_10 : decode method_4_code 10 = .ok (.iconst 2, 1) := by decide +kernel
theorem d2_11 : decode method_4_code 11 = .ok (.if_icmp .ne 7, 3) := by decide +kernel
theorem d2_14 : decode method_4_code 14 = .ok (.iconst 3, 1) := by decide +kernel
theorem d2_15 : decode method_4_code 15 = .ok (.newarray .int, 2) := by decide +kernel
theorem d2_17 : decode method_4_code 17 = .ok (.areturn, 1) := by decide +kernel
theorem d2_18 : decode method_4_code 18 = .ok (.iload_n 0, 1) := by decide +kernel
theorem d2_19 : decode method_4_code 19 = .ok (.iconst 3, 1) := by decide +kernel
theorem d2_20 : decode method_4_code 20 = .ok (.if_icmp .ne 7, 3) := by decide +kernel
theorem d2_23 : decode method_4_code 23 = .ok (.iconst 4, 1) := by decide +kernel
theorem d2_24 : decode method_4_code 24 = .ok (.newarray .int, 2) := by decide +kernel
theorem d2_26 : decode method_4_code 26 = .ok (.areturn, 1) := by decide +kernel
theorem d2_27 : decode method_4_code 27 = .ok (.iconst 5, 1) := by decide +kernel
theorem d2_28 : decode method_4_code 28 = .ok (.newarray .int, 2) := by decide +kernel
theorem d2_30 : decode method_4_code 30 = .ok (.areturn, 1) := by decide +kernel
set_option maxRecDepth 65536 in
set_option maxHeartbeats 40000000 in
theorem rm_mk (l : Launch) (Z : State) (a0 : Array Value) (hw : ∀ d ∈ tables_1, d.before a0 Z = true) (k : Int32) (m1 : Nat) (h0 : Heap) (n0 : Nat) (Z0 : n0 ≤ h0.size) (hk : k.toInt + 1 = (m1 : Int)) (h2 : 2 ≤ m1) (h5 : m1 ≤ 5) :
    Con l Z (⟨"com/example/needlewright/needlewright/AutomatonFallBackPinLaw", "make", "(I)[I"⟩ : MethodName) method_4_code 1 (some (.array .int)) ({ frames := 0, cells := 1, slots := 5, locals := 0 } : Room) #[(.int k)] h0 n0 (fun rv hv => ∃ t : Addr, rv = some (.ref t) ∧ h0.size ≤ t ∧ Keep h0 hv [] ∧ AI Z hv t .int m1 (fun _ => 0)) := by
  refine Con.enter (plainFor_of_name own_pn1) Z0 ?_
  intro p e s m below meth c T0 C hnm X0
  refine Go.cast (own_ef_rm_mk m k) ?_
  refine Go.iloadN C X0 (pc' := 1) d2_0 rfl rfl ?_
  refine Go.iconst C X0 (pc' := 2) (v := (1 : Int32)) d2_1 rfl rfl ?_
  by_cases c63 : k = (1 : Int32)
  · refine Go.icmpNo C X0 (pc' := 5) d2_2 (teq c63).2 rfl ?_
    refine Go.iconst C X0 (pc' := 6) (v := (2 : Int32)) d2_5 rfl rfl ?_
    refine Go.newP C X0 (pc' := 8) (nn := 2) (cap := 2) (hw _ (List.mem_of_getElem? (i := 7) rfl)) d2_6 rfl (by decide) (by decide) (by decide) (by decide) rfl (fun T64 h64 b64 k64 X64 g64 E64 Ar64 N64 => ?_)
    have Q64 : h0.size ≤ b64 := Nat.le_trans (Keep.refl h0 []).1 (Nat.le_of_eq g64.symm)
    have K65 : Keep h0 h64 [] := (Keep.refl h0 []).ext E64
    have A64 : AI Z h64 b64 .int 2 (fun _ => 0) := AI.new rfl rfl Ar64
    exact Go.retAA C X64 rfl d2_8 ⟨b64, rfl, Q64, K65, (by obtain rfl := (own_mk hk h2 h5).1 c63; exact A64)⟩ (by decide) (by decide)
  · refine Go.icmpYes C X0 (pc' := 9) d2_2 (feq c63).2 (by decide) (by decide) ?_
    refine Go.iloadN C X0 (pc' := 10) d2_9 rfl rfl ?_
    refine Go.iconst C X0 (pc' := 11) (v := (2 : Int32)) d2_10 rfl rfl ?_
    by_cases c66 : k = (2 : Int32)
    · refine Go.icmpNo C X0 (pc' := 14) d2_11 (teq c66).2 rfl ?_
      refine Go.iconst C X0 (pc' := 15) (v := (3 : Int32)) d2_14 rfl rfl ?_
      refine Go.newP C X0 (pc' := 17) (nn := 3) (cap := 3) (hw _ (List.mem_of_getElem? (i := 7) rfl)) d2_15 rfl (by decide) (by decide) (by decide) (by decide) rfl (fun T67 h67 b67 k67 X67 g67 E67 Ar67 N67 => ?_)
      have Q67 : h0.size ≤ b67 := Nat.le_trans (Keep.refl h0 []).1 (Nat.le_of_eq g67.symm)
      have K68 : Keep h0 h67 [] := (Keep.refl h0 []).ext E67
      have A67 : AI Z h67 b67 .int 3 (fun _ => 0) := AI.new rfl rfl Ar67
      exact Go.retAA C X67 rfl d2_17 ⟨b67, rfl, Q67, K68, (by obtain rfl := (own_mk hk h2 h5).2.1 c66; exact A67)⟩ (by decide) (by decide)
    · refine Go.icmpYes C X0 (pc' := 18) d2_11 (feq c66).2 (by decide) (by decide) ?_
      refine Go.iloadN C X0 (pc' := 19) d2_18 rfl rfl ?_
      refine Go.iconst C X0 (pc' := 20) (v := (3 : Int32)) d2_19 rfl rfl ?_
      by_cases c69 : k = (3 : Int32)
      · refine Go.icmpNo C X0 (pc' := 23) d2_20 (teq c69).2 rfl ?_
        refine Go.iconst C X0 (pc' := 24) (v := (4 : Int32)) d2_23 rfl rfl ?_
        refine Go.newP C X0 (pc' := 26) (nn := 4) (cap := 4) (hw _ (List.mem_of_getElem? (i := 7) rfl)) d2_24 rfl (by decide) (by decide) (by decide) (by decide) rfl (fun T70 h70 b70 k70 X70 g70 E70 Ar70 N70 => ?_)
        have Q70 : h0.size ≤ b70 := Nat.le_trans (Keep.refl h0 []).1 (Nat.le_of_eq g70.symm)
        have K71 : Keep h0 h70 [] := (Keep.refl h0 []).ext E70
        have A70 : AI Z h70 b70 .int 4 (fun _ => 0) := AI.new rfl rfl Ar70
        exact Go.retAA C X70 rfl d2_26 ⟨b70, rfl, Q70, K71, (by obtain rfl := (own_mk hk h2 h5).2.2.1 c69; exact A70)⟩ (by decide) (by decide)
      · refine Go.icmpYes C X0 (pc' := 27) d2_20 (feq c69).2 (by decide) (by decide) ?_
        refine Go.iconst C X0 (pc' := 28) (v := (5 : Int32)) d2_27 rfl rfl ?_
        refine Go.newP C X0 (pc' := 30) (nn := 5) (cap := 5) (hw _ (List.mem_of_getElem? (i := 7) rfl)) d2_28 rfl (by decide) (by decide) (by decide) (by decide) rfl (fun T72 h72 b72 k72 X72 g72 E72 Ar72 N72 => ?_)
        have Q72 : h0.size ≤ b72 := Nat.le_trans (Keep.refl h0 []).1 (Nat.le_of_eq g72.symm)
        have K73 : Keep h0 h72 [] := (Keep.refl h0 []).ext E72
        have A72 : AI Z h72 b72 .int 5 (fun _ => 0) := AI.new rfl rfl Ar72
        exact Go.retAA C X72 rfl d2_30 ⟨b72, rfl, Q72, K73, (by obtain rfl := (own_mk hk h2 h5).2.2.2 c63 c66 c69; exact A72)⟩ (by decide) (by decide)
theorem own_d1 {s0 : Int32} {ss : Nat} (hs : s0.toInt = (ss : Int)) (h4 : ss ≤ 4) (hl : 1 ≤ ss) (d : Int32) (j : Nat) (hd : d.toInt = (j : Int)) (hj : j < 1) : ((s0 - (1 : Int32)) + d).toInt = ((ss - 1 + j : Nat) : Int) ∧ (s0 - (1 : Int32)).toInt = ((ss - 1 + 0 : Nat) : Int) := by
  have e : (1 : Int32).toInt = 1 := rfl
  have h1 : (s0 - (1 : Int32)).toInt = (ss : Int) - 1 := by rw [own_isub (by omega) (by omega), hs, e]
  exact ⟨by rw [own_iadd (by omega) (by omega), h1, hd]; omega, by rw [h1]; omega⟩
theorem own_mkB1 {u : Nat → Int32} {ss : Nat} (hl : 1 ≤ ss) (c0 : u (ss - 1 + 0) = u 0) : own_B u ss 1 := ⟨hl, fun j hj => by
  rcases (by omega : j = 0) with q
  · subst q; exact c0⟩
theorem own_ef_rm_bd1 (m : MethodId) (x0 : Addr) (x1 : Int32) (x2 : Int32) : entryFrame m #[(.ref x0), (.int x1), (.int x2)] 3 = mkF m 0 #[.val (.ref x0), .val (.int x1), .val (.int x2)] [] := by first | (simp [entryFrame, mkF, argsToLocals, Value.category]; done) | rfl
theorem d10_0 : decode method_5_code 0 = .ok (.iload_n 2, 1) := by decide +kernel
theorem d10_1 : decode method_5_code 1 = .ok (.iconst 1, 1) := by decide +kernel
theorem d10_2 : decode method_5_code 2 = .ok (.if_icmp .lt 14, 3) := by decide +kernel
theorem d10_5 : decode method_5_code 5 = .ok (.aload_n 0, 1) := by decide +kernel
theorem d10_6 : decode method_5_code 6 = .ok (.iload_n 1, 1) := by decide +kernel
theorem d10_7 : decode method_5_code 7 = .ok (.iload_n 2, 1) := by decide +kernel
theorem d10_8 : decode method_5_code 8 = .ok (.isub, 1) := by decide +kernel
theorem d10_9 : decode method_5_code 9 = .ok (.iaload, 1) := by decide +kernel
theorem d10_10 : decode method_5_code 10 = .ok (.aload_n 0, 1) := by decide +kernel
theorem d10_11 : decode method_5_code 11 = .ok (.iconst 0, 1) := by decide +kernel
theorem d10_12 : decode method_5_code 12 = .ok (.iaload, 1) := by decide +kernel
theorem d10_13 : decode method_5_code 13 = .ok (.if_icmp .ne 61, 3) := by decide +kernel
theorem d10_16 : decode method_5_code 16 = .ok (.iload_n 2, 1) := by decide +kernel
theorem d10_17 : decode method_5_code 17 = .ok (.iconst 2, 1) := by decide +kernel
theorem d10_18 : decode method_5_code 18 = .ok (.if_icmp .lt 16, 3) := by decide +kernel
theorem d10_34 : decode method_5_code 34 = .ok (.iload_n 2, 1) := by decide +kernel
theorem d10_35 : decode method_5_code 35 = .ok (.iconst 3, 1) := by decide +kernel
theorem d10_36 : decode method_5_code 36 = .ok (.if_icmp .lt 16, 3) := by decide +kernel
theorem d10_52 : decode method_5_code 52 = .ok (.iload_n 2, 1) := by decide +kernel
theorem d10_53 : decode method_5_code 53 = .ok (.iconst 4, 1) := by decide +kernel
theorem d10_54 : decode method_5_code 54 = .ok (.if_icmp .lt 16, 3) := by decide +kernel
theorem d10_70 : decode method_5_code 70 = .ok (.iconst 1, 1) := by decide +kernel
theorem d10_71 : decode method_5_code 71 = .ok (.goto 4, 3) := by decide +kernel
theorem d10_75 : decode method_5_code 75 = .ok (.ireturn, 1) := by decide +kernel
theorem d10_74 : decode method_5_code 74 = .ok (.iconst 0, 1) := by decide +kernel
set_option maxRecDepth 65536 in
set_option maxHeartbeats 40000000 in
theorem rm_bd1 (l : Launch) (Z : State) (a0 : Array Value) (hw : ∀ d ∈ tables_1, d.before a0 Z = true) (r : Addr) (s0 : Int32) (kp : Int32) (rf : Nat → Int32) (ss : Nat) (h0 : Heap) (n0 : Nat) (Z0 : n0 ≤ h0.size) (f0 : AI Z h0 r .int 5 rf) (hkk : kp = (1 : Int32)) (hs : s0.toInt = (ss : Int)) (h4 : ss ≤ 4) (hl : 1 ≤ ss) :
    Con l Z (⟨"com/example/needlewright/needlewright/AutomatonFallBackPinLaw", "border", "([III)Z"⟩ : MethodName) method_5_code 3 (some .boolean) ({ frames := 0, cells := 0, slots := 0, locals := 0 } : Room) #[(.ref r), (.int s0), (.int kp)] h0 n0 (fun rv hv => rv = some (.int (if own_B rf ss 1 then (1 : Int32) else (0 : Int32))) ∧ h0 = hv) := by
  refine Con.enter (plainFor_of_name own_pn1) Z0 ?_
  intro p e s m below meth c T0 C hnm X0
  refine Go.cast (own_ef_rm_bd1 m r s0 kp) ?_
  subst hkk
  refine Go.iloadN C X0 (pc' := 1) d10_0 rfl rfl ?_
  refine Go.iconst C X0 (pc' := 2) (v := (1 : Int32)) d10_1 rfl rfl ?_
  refine Go.icmpNo C X0 (pc' := 5) d10_2 (flt (by decide)).1 rfl ?_
  refine Go.aloadN C X0 (pc' := 6) d10_5 rfl rfl rfl ?_
  refine Go.iloadN C X0 (pc' := 7) d10_6 rfl rfl ?_
  refine Go.iloadN C X0 (pc' := 8) d10_7 rfl rfl ?_
  refine Go.isub C X0 (pc' := 9) d10_8 rfl ?_
  refine Go.iaload C X0 (pc' := 10) (i := (ss - 1 + 0)) (w := (rf (ss - 1 + 0))) f0 (own_d1 hs h4 hl 0 0 rfl (by decide)).2 (by omega) rfl d10_9 rfl ?_
  refine Go.aloadN C X0 (pc' := 11) d10_10 rfl rfl rfl ?_
  refine Go.iconst C X0 (pc' := 12) (v := (0 : Int32)) d10_11 rfl rfl ?_
  refine Go.iaload C X0 (pc' := 13) (i := 0) (w := (rf 0)) f0 rfl (by decide) rfl d10_12 rfl ?_
  by_cases c74 : (rf (ss - 1 + 0)) = (rf 0)
  · refine Go.icmpNo C X0 (pc' := 16) d10_13 (teq c74).2 rfl ?_
    refine Go.iloadN C X0 (pc' := 17) d10_16 rfl rfl ?_
    refine Go.iconst C X0 (pc' := 18) (v := (2 : Int32)) d10_17 rfl rfl ?_
    refine Go.icmpYes C X0 (pc' := 34) d10_18 (tlt (by decide)).1 (by decide) (by decide) ?_
    refine Go.iloadN C X0 (pc' := 35) d10_34 rfl rfl ?_
    refine Go.iconst C X0 (pc' := 36) (v := (3 : Int32)) d10_35 rfl rfl ?_
    refine Go.icmpYes C X0 (pc' := 52) d10_36 (tlt (by decide)).1 (by decide) (by decide) ?_
    refine Go.iloadN C X0 (pc' := 53) d10_52 rfl rfl ?_
    refine Go.iconst C X0 (pc' := 54) (v := (4 : Int32)) d10_53 rfl rfl ?_
    refine Go.icmpYes C X0 (pc' := 70) d10_54 (tlt (by decide)).1 (by decide) (by decide) ?_
    refine Go.iconst C X0 (pc' := 71) (v := (1 : Int32)) d10_70 rfl rfl ?_
    refine Go.goto C X0 (pc' := 75) d10_71 (by decide) (by decide) ?_
    exact Go.retZ (t := .boolean) C X0 (z' := (1 : Int32)) (by decide) d10_75 ⟨(by rw [if_pos (own_mkB1 hl c74)]), rfl⟩ (by decide) (by decide)
  · refine Go.icmpYes C X0 (pc' := 74) d10_13 (feq c74).2 (by decide) (by decide) ?_
    refine Go.iconst C X0 (pc' := 75) (v := (0 : Int32)) d10_74 rfl rfl ?_
    exact Go.retZ (t := .boolean) C X0 (z' := (0 : Int32)) (by decide) d10_75 ⟨(by rw [if_neg (fun q => c74 (q.2 0 (by decide)))]), rfl⟩ (by decide) (by decide)
theorem own_ef_rm_ok1 (m : MethodId) (x0 : Addr) (x1 : Int32) (x2 : Int32) (x3 : Int32) : entryFrame m #[(.ref x0), (.int x1), (.int x2), (.int x3)] 4 = mkF m 0 #[.val (.ref x0), .val (.int x1), .val (.int x2), .val (.int x3)] [] := by first | (simp [entryFrame, mkF, argsToLocals, Value.category]; done) | rfl
theorem d9_0 : decode method_6_code 0 = .ok (.iload_n 3, 1) := by decide +kernel
theorem d9_1 : decode method_6_code 1 = .ok (.iload_n 1, 1) := by decide +kernel
theorem d9_2 : decode method_6_code 2 = .ok (.if_icmp .gt 23, 3) := by decide +kernel
theorem d9_25 : decode method_6_code 25 = .ok (.iconst 0, 1) := by decide +kernel
theorem d9_26 : decode method_6_code 26 = .ok (.ireturn, 1) := by decide +kernel
theorem d9_5 : decode method_6_code 5 = .ok (.aload_n 0, 1) := by decide +kernel
theorem d9_6 : decode method_6_code 6 = .ok (.iload_n 1, 1) := by decide +kernel
theorem d9_7 : decode method_6_code 7 = .ok (.iload_n 3, 1) := by decide +kernel
theorem d9_8 : decode method_6_code 8 = .ok (.invokestatic 33, 3) := by decide +kernel
theorem own_pd3 : parseMethodDescriptor "([III)Z" = some ⟨[(.array .int), .int, .int], some .boolean⟩ := by decide +kernel
theorem d9_11 : decode method_6_code 11 = .ok (.ifCond .eq 14, 3) := by decide +kernel
theorem d9_14 : decode method_6_code 14 = .ok (.aload_n 0, 1) := by decide +kernel
theorem d9_15 : decode method_6_code 15 = .ok (.iload_n 3, 1) := by decide +kernel
theorem d9_16 : decode method_6_code 16 = .ok (.iaload, 1) := by decide +kernel
theorem d9_17 : decode method_6_code 17 = .ok (.iload_n 2, 1) := by decide +kernel
theorem d9_18 : decode method_6_code 18 = .ok (.if_icmp .ne 7, 3) := by decide +kernel
theorem d9_21 : decode method_6_code 21 = .ok (.iconst 1, 1) := by decide +kernel
theorem d9_22 : decode method_6_code 22 = .ok (.goto 4, 3) := by decide +kernel
set_option maxRecDepth 65536 in
set_option maxHeartbeats 40000000 in
theorem rm_ok1 (l : Launch) (Z : State) (a0 : Array Value) (hw : ∀ d ∈ tables_1, d.before a0 Z = true) (r : Addr) (s0 : Int32) (x : Int32) (kp : Int32) (rf : Nat → Int32) (ss : Nat) (h0 : Heap) (n0 : Nat) (Z0 : n0 ≤ h0.size) (f0 : AI Z h0 r .int 5 rf) (hkk : kp = (1 : Int32)) (hs : s0.toInt = (ss : Int)) (h4 : ss ≤ 4) :
    Con l Z (⟨"com/example/needlewright/needlewright/AutomatonFallBackPinLaw", "ok", "([IIII)Z"⟩ : MethodName) method_6_code 4 (some .boolean) ({ frames := 1, cells := 0, slots := 0, locals := 14 } : Room) #[(.ref r), (.int s0), (.int x), (.int kp)] h0 n0 (fun rv hv => rv = some (.int (if 1 ≤ ss ∧ own_B rf ss 1 ∧ rf 1 = x then (1 : Int32) else (0 : Int32))) ∧ h0 = hv) := by
  refine Con.enter (plainFor_of_name own_pn1) Z0 ?_
  intro p e s m below meth c T0 C hnm X0
  refine Go.cast (own_ef_rm_ok1 m r s0 x kp) ?_
  subst hkk
  refine Go.iloadN C X0 (pc' := 1) d9_0 rfl rfl ?_
  refine Go.iloadN C X0 (pc' := 2) d9_1 rfl rfl ?_
  by_cases c75 : s0 < (1 : Int32)
  · refine Go.icmpYes C X0 (pc' := 25) d9_2 (tlt c75).2.2.1 (by decide) (by decide) ?_
    refine Go.iconst C X0 (pc' := 26) (v := (0 : Int32)) d9_25 rfl rfl ?_
    exact Go.retZ (t := .boolean) C X0 (z' := (0 : Int32)) (by decide) d9_26 ⟨(by rw [if_neg (fun q => by have := own_ilt.mp c75; have e : (1 : Int32).toInt = 1 := rfl; rw [hs, e] at this; omega)]), rfl⟩ (by decide) (by decide)
  · refine Go.icmpNo C X0 (pc' := 5) d9_2 (flt c75).2.2.1 rfl ?_
    refine Go.aloadN C X0 (pc' := 6) d9_5 rfl rfl rfl ?_
    refine Go.iloadN C X0 (pc' := 7) d9_6 rfl rfl ?_
    refine Go.iloadN C X0 (pc' := 8) d9_7 rfl rfl ?_
    refine Go.callS C X0 (pc' := 11) (W := 0) (argsL := [(.ref r), (.int s0), (.int (1 : Int32))]) (rest := []) (rm_bd1 l Z a0 hw r s0 (1 : Int32) rf ss h0 n0 X0.sz f0 rfl hs h4 (by have := own_nilt c75; have e : (1 : Int32).toInt = 1 := rfl; rw [hs, e] at this; omega)) (hw _ (List.mem_of_getElem? (i := 45) rfl)) (hw _ (List.mem_of_getElem? (i := 46) rfl)) (hw _ (List.mem_of_getElem? (i := 2) rfl)) (hw _ (List.mem_of_getElem? (i := 47) rfl)) (by decide) rfl rfl (lenOf own_pd3 rfl) rfl (Nat.le_of_eq rfl) (by decide) (by decide) (by decide) (by decide) d9_8 rfl (fun _ _ q => Nat.le_of_eq (congrArg Array.size q.2)) (fun T76 h76 v76 X76 P76 => ?_)
    obtain ⟨rfl, rfl⟩ := P76
    show Go p e below s n0 _ _ _ T76 (mkF m 11 #[.val (.ref r), .val (.int s0), .val (.int x), .val (.int (1 : Int32))] [(.int (if own_B rf ss 1 then (1 : Int32) else (0 : Int32)))])
    by_cases c77 : (if own_B rf ss 1 then (1 : Int32) else (0 : Int32)) = (0 : Int32)
    · refine Go.ifYes C X76 (pc' := 25) d9_11 ((if0 _ _).trans (teq c77).1) (by decide) (by decide) ?_
      refine Go.iconst C X76 (pc' := 26) (v := (0 : Int32)) d9_25 rfl rfl ?_
      exact Go.retZ (t := .boolean) C X76 (z' := (0 : Int32)) (by decide) d9_26 ⟨(by rw [if_neg (fun q => absurd c77 (by rw [if_pos q.2.1]; decide))]), rfl⟩ (by decide) (by decide)
    · refine Go.ifNo C X76 (pc' := 14) d9_11 ((if0 _ _).trans (feq c77).1) rfl ?_
      refine Go.aloadN C X76 (pc' := 15) d9_14 rfl rfl rfl ?_
      refine Go.iloadN C X76 (pc' := 16) d9_15 rfl rfl ?_
      refine Go.iaload C X76 (pc' := 17) (i := 1) (w := (rf 1)) f0 rfl (by decide) rfl d9_16 rfl ?_
      refine Go.iloadN C X76 (pc' := 18) d9_17 rfl rfl ?_
      by_cases c78 : (rf 1) = x
      · refine Go.icmpNo C X76 (pc' := 21) d9_18 (teq c78).2 rfl ?_
        refine Go.iconst C X76 (pc' := 22) (v := (1 : Int32)) d9_21 rfl rfl ?_
        refine Go.goto C X76 (pc' := 26) d9_22 (by decide) (by decide) ?_
        exact Go.retZ (t := .boolean) C X76 (z' := (1 : Int32)) (by decide) d9_26 ⟨(by rw [if_pos ⟨(by have := own_nilt c75; have e : (1 : Int32).toInt = 1 := rfl; rw [hs, e] at this; omega), (Classical.byContradiction fun q => c77 (if_neg q)), c78⟩]), rfl⟩ (by decide) (by decide)
      · refine Go.icmpYes C X76 (pc' := 25) d9_18 (feq c78).2 (by decide) (by decide) ?_
        refine Go.iconst C X76 (pc' := 26) (v := (0 : Int32)) d9_25 rfl rfl ?_
        exact Go.retZ (t := .boolean) C X76 (z' := (0 : Int32)) (by decide) d9_26 ⟨(by rw [if_neg (fun q => c78 q.2.2)]), rfl⟩ (by decide) (by decide)
theorem own_d2 {s0 : Int32} {ss : Nat} (hs : s0.toInt = (ss : Int)) (h4 : ss ≤ 4) (hl : 2 ≤ ss) (d : Int32) (j : Nat) (hd : d.toInt = (j : Int)) (hj : j < 2) : ((s0 - (2 : Int32)) + d).toInt = ((ss - 2 + j : Nat) : Int) ∧ (s0 - (2 : Int32)).toInt = ((ss - 2 + 0 : Nat) : Int) := by
  have e : (2 : Int32).toInt = 2 := rfl
  have h1 : (s0 - (2 : Int32)).toInt = (ss : Int) - 2 := by rw [own_isub (by omega) (by omega), hs, e]
  exact ⟨by rw [own_iadd (by omega) (by omega), h1, hd]; omega, by rw [h1]; omega⟩
theorem own_mkB2 {u : Nat → Int32} {ss : Nat} (hl : 2 ≤ ss) (c0 : u (ss - 2 + 0) = u 0) (c1 : u (ss - 2 + 1) = u 1) : own_B u ss 2 := ⟨hl, fun j hj => by
  rcases (by omega : j = 0 ∨ j = 1) with q | q
  · subst q; exact c0
  · subst q; exact c1⟩
theorem own_ef_rm_bd2 (m : MethodId) (x0 : Addr) (x1 : Int32) (x2 : Int32) : entryFrame m #[(.ref x0), (.int x1), (.int x2)] 3 = mkF m 0 #[.val (.ref x0), .val (.int x1), .val (.int x2)] [] := by first | (simp [entryFrame, mkF, argsToLocals, Value.category]; done) | rfl
theorem d10_21 : decode method_5_code 21 = .ok (.aload_n 0, 1) := by decide +kernel
theorem d10_22 : decode method_5_code 22 = .ok (.iload_n 1, 1) := by decide +kernel
theorem d10_23 : decode method_5_code 23 = .ok (.iload_n 2, 1) := by decide +kernel
theorem d10_24 : decode method_5_code 24 = .ok (.isub, 1) := by decide +kernel
theorem d10_25 : decode method_5_code 25 = .ok (.iconst 1, 1) := by decide +kernel
theorem d10_26 : decode method_5_code 26 = .ok (.iadd, 1) := by decide +kernel
theorem d10_27 : decode method_5_code 27 = .ok (.iaload, 1) := by decide +kernel
theorem d10_28 : decode method_5_code 28 = .ok (.aload_n 0, 1) := by decide +kernel
theorem d10_29 : decode method_5_code 29 = .ok (.iconst 1, 1) := by decide +kernel
theorem d10_30 : decode method_5_code 30 = .ok (.iaload, 1) := by decide +kernel
theorem d10_31 : decode method_5_code 31 = .ok (.if_icmp .ne 43, 3) := by decide +kernel
set_option maxRecDepth 65536 in
set_option maxHeartbeats 40000000 in
theorem rm_bd2 (l : Launch) (Z : State) (a0 : Array Value) (hw : ∀ d ∈ tables_1, d.before a0 Z = true) (r : Addr) (s0 : Int32) (kp : Int32) (rf : Nat → Int32) (ss : Nat) (h0 : Heap) (n0 : Nat) (Z0 : n0 ≤ h0.size) (f0 : AI Z h0 r .int 5 rf) (hkk : kp = (2 : Int32)) (hs : s0.toInt = (ss : Int)) (h4 : ss ≤ 4) (hl : 2 ≤ ss) :
    Con l Z (⟨"com/example/needlewright/needlewright/AutomatonFallBackPinLaw", "border", "([III)Z"⟩ : MethodName) method_5_code 3 (some .boolean) ({ frames := 0, cells := 0, slots := 0, locals := 0 } : Room) #[(.ref r), (.int s0), (.int kp)] h0 n0 (fun rv hv => rv = some (.int (if own_B rf ss 2 then (1 : Int32) else (0 : Int32))) ∧ h0 = hv) := by
  refine Con.enter (plainFor_of_name own_pn1) Z0 ?_
  intro p e s m below meth c T0 C hnm X0
  refine Go.cast (own_ef_rm_bd2 m r s0 kp) ?_
  subst hkk
  refine Go.iloadN C X0 (pc' := 1) d10_0 rfl rfl ?_
  refine Go.iconst C X0 (pc' := 2) (v := (1 : Int32)) d10_1 rfl rfl ?_
  refine Go.icmpNo C X0 (pc' := 5) d10_2 (flt (by decide)).1 rfl ?_
  refine Go.aloadN C X0 (pc' := 6) d10_5 rfl rfl rfl ?_
  refine Go.iloadN C X0 (pc' := 7) d10_6 rfl rfl ?_
  refine Go.iloadN C X0 (pc' := 8) d10_7 rfl rfl ?_
  refine Go.isub C X0 (pc' := 9) d10_8 rfl ?_
  refine Go.iaload C X0 (pc' := 10) (i := (ss - 2 + 0)) (w := (rf (ss - 2 + 0))) f0 (own_d2 hs h4 hl 0 0 rfl (by decide)).2 (by omega) rfl d10_9 rfl ?_
  refine Go.aloadN C X0 (pc' := 11) d10_10 rfl rfl rfl ?_
  refine Go.iconst C X0 (pc' := 12) (v := (0 : Int32)) d10_11 rfl rfl ?_
  refine Go.iaload C X0 (pc' := 13) (i := 0) (w := (rf 0)) f0 rfl (by decide) rfl d10_12 rfl ?_
  by_cases c79 : (rf (ss - 2 + 0)) = (rf 0)
  · refine Go.icmpNo C X0 (pc' := 16) d10_13 (teq c79).2 rfl ?_
    refine Go.iloadN C X0 (pc' := 17) d10_16 rfl rfl ?_
    refine Go.iconst C X0 (pc' := 18) (v := (2 : Int32)) d10_17 rfl rfl ?_
    refine Go.icmpNo C X0 (pc' := 21) d10_18 (flt (by decide)).1 rfl ?_
    refine Go.aloadN C X0 (pc' := 22) d10_21 rfl rfl rfl ?_
    refine Go.iloadN C X0 (pc' := 23) d10_22 rfl rfl ?_
    refine Go.iloadN C X0 (pc' := 24) d10_23 rfl rfl ?_
    refine Go.isub C X0 (pc' := 25) d10_24 rfl ?_
    refine Go.iconst C X0 (pc' := 26) (v := (1 : Int32)) d10_25 rfl rfl ?_
    refine Go.iadd C X0 (pc' := 27) d10_26 rfl ?_
    refine Go.iaload C X0 (pc' := 28) (i := (ss - 2 + 1)) (w := (rf (ss - 2 + 1))) f0 (own_d2 hs h4 hl 1 1 rfl (by decide)).1 (by omega) rfl d10_27 rfl ?_
    refine Go.aloadN C X0 (pc' := 29) d10_28 rfl rfl rfl ?_
    refine Go.iconst C X0 (pc' := 30) (v := (1 : Int32)) d10_29 rfl rfl ?_
    refine Go.iaload C X0 (pc' := 31) (i := 1) (w := (rf 1)) f0 rfl (by decide) rfl d10_30 rfl ?_
    by_cases c80 : (rf (ss - 2 + 1)) = (rf 1)
    · refine Go.icmpNo C X0 (pc' := 34) d10_31 (teq c80).2 rfl ?_
      refine Go.iloadN C X0 (pc' := 35) d10_34 rfl rfl ?_
      refine Go.iconst C X0 (pc' := 36) (v := (3 : Int32)) d10_35 rfl rfl ?_
      refine Go.icmpYes C X0 (pc' := 52) d10_36 (tlt (by decide)).1 (by decide) (by decide) ?_
      refine Go.iloadN C X0 (pc' := 53) d10_52 rfl rfl ?_
      refine Go.iconst C X0 (pc' := 54) (v := (4 : Int32)) d10_53 rfl rfl ?_
      refine Go.icmpYes C X0 (pc' := 70) d10_54 (tlt (by decide)).1 (by decide) (by decide) ?_
      refine Go.iconst C X0 (pc' := 71) (v := (1 : Int32)) d10_70 rfl rfl ?_
      refine Go.goto C X0 (pc' := 75) d10_71 (by decide) (by decide) ?_
      exact Go.retZ (t := .boolean) C X0 (z' := (1 : Int32)) (by decide) d10_75 ⟨(by rw [if_pos (own_mkB2 hl c79 c80)]), rfl⟩ (by decide) (by decide)
    · refine Go.icmpYes C X0 (pc' := 74) d10_31 (feq c80).2 (by decide) (by decide) ?_
      refine Go.iconst C X0 (pc' := 75) (v := (0 : Int32)) d10_74 rfl rfl ?_
      exact Go.retZ (t := .boolean) C X0 (z' := (0 : Int32)) (by decide) d10_75 ⟨(by rw [if_neg (fun q => c80 (q.2 1 (by decide)))]), rfl⟩ (by decide) (by decide)
  · refine Go.icmpYes C X0 (pc' := 74) d10_13 (feq c79).2 (by decide) (by decide) ?_
    refine Go.iconst C X0 (pc' := 75) (v := (0 : Int32)) d10_74 rfl rfl ?_
    exact Go.retZ (t := .boolean) C X0 (z' := (0 : Int32)) (by decide) d10_75 ⟨(by rw [if_neg (fun q => c79 (q.2 0 (by decide)))]), rfl⟩ (by decide) (by decide)
theorem own_ef_rm_ok2 (m : MethodId) (x0 : Addr) (x1 : Int32) (x2 : Int32) (x3 : Int32) : entryFrame m #[(.ref x0), (.int x1), (.int x2), (.int x3)] 4 = mkF m 0 #[.val (.ref x0), .val (.int x1), .val (.int x2), .val (.int x3)] [] := by first | (simp [entryFrame, mkF, argsToLocals, Value.category]; done) | rfl
set_option maxRecDepth 65536 in
set_option maxHeartbeats 40000000 in
theorem rm_ok2 (l : Launch) (Z : State) (a0 : Array Value) (hw : ∀ d ∈ tables_1, d.before a0 Z = true) (r : Addr) (s0 : Int32) (x : Int32) (kp : Int32) (rf : Nat → Int32) (ss : Nat) (h0 : Heap) (n0 : Nat) (Z0 : n0 ≤ h0.size) (f0 : AI Z h0 r .int 5 rf) (hkk : kp = (2 : Int32)) (hs : s0.toInt = (ss : Int)) (h4 : ss ≤ 4) :
    Con l Z (⟨"com/example/needlewright/needlewright/AutomatonFallBackPinLaw", "ok", "([IIII)Z"⟩ : MethodName) method_6_code 4 (some .boolean) ({ frames := 1, cells := 0, slots := 0, locals := 14 } : Room) #[(.ref r), (.int s0), (.int x), (.int kp)] h0 n0 (fun rv hv => rv = some (.int (if 2 ≤ ss ∧ own_B rf ss 2 ∧ rf 2 = x then (1 : Int32) else (0 : Int32))) ∧ h0 = hv) := by
  refine Con.enter (plainFor_of_name own_pn1) Z0 ?_
  intro p e s m below meth c T0 C hnm X0
  refine Go.cast (own_ef_rm_ok2 m r s0 x kp) ?_
  subst hkk
  refine Go.iloadN C X0 (pc' := 1) d9_0 rfl rfl ?_
  refine Go.iloadN C X0 (pc' := 2) d9_1 rfl rfl ?_
  by_cases c81 : s0 < (2 : Int32)
  · refine Go.icmpYes C X0 (pc' := 25) d9_2 (tlt c81).2.2.1 (by decide) (by decide) ?_
    refine Go.iconst C X0 (pc' := 26) (v := (0 : Int32)) d9_25 rfl rfl ?_
    exact Go.retZ (t := .boolean) C X0 (z' := (0 : Int32)) (by decide) d9_26 ⟨(by rw [if_neg (fun q => by have := own_ilt.mp c81; have e : (2 : Int32).toInt = 2 := rfl; rw [hs, e] at this; omega)]), rfl⟩ (by decide) (by decide)
  · refine Go.icmpNo C X0 (pc' := 5) d9_2 (flt c81).2.2.1 rfl ?_
    refine Go.aloadN C X0 (pc' := 6) d9_5 rfl rfl rfl ?_
    refine Go.iloadN C X0 (pc' := 7) d9_6 rfl rfl ?_
    refine Go.iloadN C X0 (pc' := 8) d9_7 rfl rfl ?_
    refine Go.callS C X0 (pc' := 11) (W := 0) (argsL := [(.ref r), (.int s0), (.int (2 : Int32))]) (rest := []) (rm_bd2 l Z a0 hw r s0 (2 : Int32) rf ss h0 n0 X0.sz f0 rfl hs h4 (by have := own_nilt c81; have e : (2 : Int32).toInt = 2 := rfl; rw [hs, e] at this; omega)) (hw _ (List.mem_of_getElem? (i := 45) rfl)) (hw _ (List.mem_of_getElem? (i := 46) rfl)) (hw _ (List.mem_of_getElem? (i := 2) rfl)) (hw _ (List.mem_of_getElem? (i := 47) rfl)) (by decide) rfl rfl (lenOf own_pd3 rfl) rfl (Nat.le_of_eq rfl) (by decide) (by decide) (by decide) (by decide) d9_8 rfl (fun _ _ q => Nat.le_of_eq (congrArg Array.size q.2)) (fun T82 h82 v82 X82 P82 => ?_)
    obtain ⟨rfl, rfl⟩ := P82
    show Go p e below s n0 _ _ _ T82 (mkF m 11 #[.val (.ref r), .val (.int s0), .val (.int x), .val (.int (2 : Int32))] [(.int (if own_B rf ss 2 then (1 : Int32) else (0 : Int32)))])
    by_cases c83 : (if own_B rf ss 2 then (1 : Int32) else (0 : Int32)) = (0 : Int32)
    · refine Go.ifYes C X82 (pc' := 25) d9_11 ((if0 _ _).trans (teq c83).1) (by decide) (by decide) ?_
      refine Go.iconst C X82 (pc' := 26) (v := (0 : Int32)) d9_25 rfl rfl ?_
      exact Go.retZ (t := .boolean) C X82 (z' := (0 : Int32)) (by decide) d9_26 ⟨(by rw [if_neg (fun q => absurd c83 (by rw [if_pos q.2.1]; decide))]), rfl⟩ (by decide) (by decide)
    · refine Go.ifNo C X82 (pc' := 14) d9_11 ((if0 _ _).trans (feq c83).1) rfl ?_
      refine Go.aloadN C X82 (pc' := 15) d9_14 rfl rfl rfl ?_
      refine Go.iloadN C X82 (pc' := 16) d9_15 rfl rfl ?_
      refine Go.iaload C X82 (pc' := 17) (i := 2) (w := (rf 2)) f0 rfl (by decide) rfl d9_16 rfl ?_
      refine Go.iloadN C X82 (pc' := 18) d9_17 rfl rfl ?_
      by_cases c84 : (rf 2) = x
      · refine Go.icmpNo C X82 (pc' := 21) d9_18 (teq c84).2 rfl ?_
        refine Go.iconst C X82 (pc' := 22) (v := (1 : Int32)) d9_21 rfl rfl ?_
        refine Go.goto C X82 (pc' := 26) d9_22 (by decide) (by decide) ?_
        exact Go.retZ (t := .boolean) C X82 (z' := (1 : Int32)) (by decide) d9_26 ⟨(by rw [if_pos ⟨(by have := own_nilt c81; have e : (2 : Int32).toInt = 2 := rfl; rw [hs, e] at this; omega), (Classical.byContradiction fun q => c83 (if_neg q)), c84⟩]), rfl⟩ (by decide) (by decide)
      · refine Go.icmpYes C X82 (pc' := 25) d9_18 (feq c84).2 (by decide) (by decide) ?_
        refine Go.iconst C X82 (pc' := 26) (v := (0 : Int32)) d9_25 rfl rfl ?_
        exact Go.retZ (t := .boolean) C X82 (z' := (0 : Int32)) (by decide) d9_26 ⟨(by rw [if_neg (fun q => c84 q.2.2)]), rfl⟩ (by decide) (by decide)
theorem own_d3 {s0 : Int32} {ss : Nat} (hs : s0.toInt = (ss : Int)) (h4 : ss ≤ 4) (hl : 3 ≤ ss) (d : Int32) (j : Nat) (hd : d.toInt = (j : Int)) (hj : j < 3) : ((s0 - (3 : Int32)) + d).toInt = ((ss - 3 + j : Nat) : Int) ∧ (s0 - (3 : Int32)).toInt = ((ss - 3 + 0 : Nat) : Int) := by
  have e : (3 : Int32).toInt = 3 := rfl
  have h1 : (s0 - (3 : Int32)).toInt = (ss : Int) - 3 := by rw [own_isub (by omega) (by omega), hs, e]
  exact ⟨by rw [own_iadd (by omega) (by omega), h1, hd]; omega, by rw [h1]; omega⟩
theorem own_mkB3 {u : Nat → Int32} {ss : Nat} (hl : 3 ≤ ss) (c0 : u (ss - 3 + 0) = u 0) (c1 : u (ss - 3 + 1) = u 1) (c2 : u (ss - 3 + 2) = u 2) : own_B u ss 3 := ⟨hl, fun j hj => by
  rcases (by omega : j = 0 ∨ j = 1 ∨ j = 2) with q | q | q
  · subst q; exact c0
  · subst q; exact c1
  · subst q; exact c2⟩
theorem own_ef_rm_bd3 (m : MethodId) (x0 : Addr) (x1 : Int32) (x2 : Int32) : entryFrame m #[(.ref x0), (.int x1), (.int x2)] 3 = mkF m 0 #[.val (.ref x0), .val (.int x1), .val (.int x2)] [] := by first | (simp [entryFrame, mkF, argsToLocals, Value.category]; done) | rfl
theorem d10_39 : decode method_5_code 39 = .ok (.aload_n 0, 1) := by decide +kernel
theorem d10_40 : decode method_5_code 40 = .ok (.iload_n 1, 1) := by decide +kernel
theorem d10_41 : decode method_5_code 41 = .ok (.iload_n 2, 1) := by decide +kernel
theorem d10_42 : decode method_5_code 42 = .ok (.isub, 1) := by decide +kernel
theorem d10_43 : decode method_5_code 43 = .ok (.iconst 2, 1) := by decide +kernel
theorem d10_44 : decode method_5_code 44 = .ok (.iadd, 1) := by decide +kernel
theorem d10_45 : decode method_5_code 45 = .ok (.iaload, 1) := by decide +kernel
theorem d10_46 : decode method_5_code 46 = .ok (.aload_n 0, 1) := by decide +kernel
theorem d10_47 : decode method_5_code 47 = .ok (.iconst 2, 1) := by decide +kernel
theorem d10_48 : decode method_5_code 48 = .ok (.iaload, 1) := by decide +kernel
theorem d10_49 : decode method_5_code 49 = .ok (.if_icmp .ne 25, 3) := by decide +kernel
set_option maxRecDepth 65536 in
set_option maxHeartbeats 40000000 in
theorem rm_bd3 (l : Launch) (Z : State) (a0 : Array Value) (hw : ∀ d ∈ tables_1, d.before a0 Z = true) (r : Addr) (s0 : Int32) (kp : Int32) (rf : Nat → Int32) (ss : Nat) (h0 : Heap) (n0 : Nat) (Z0 : n0 ≤ h0.size) (f0 : AI Z h0 r .int 5 rf) (hkk : kp = (3 : Int32)) (hs : s0.toInt = (ss : Int)) (h4 : ss ≤ 4) (hl : 3 ≤ ss) :
    Con l Z (⟨"com/example/needlewright/needlewright/AutomatonFallBackPinLaw", "border", "([III)Z"⟩ : MethodName) method_5_code 3 (some .boolean) ({ frames := 0, cells := 0, slots := 0, locals := 0 } : Room) #[(.ref r), (.int s0), (.int kp)] h0 n0 (fun rv hv => rv = some (.int (if own_B rf ss 3 then (1 : Int32) else (0 : Int32))) ∧ h0 = hv) := by
  refine Con.enter (plainFor_of_name own_pn1) Z0 ?_
  intro p e s m below meth c T0 C hnm X0
  refine Go.cast (own_ef_rm_bd3 m r s0 kp) ?_
  subst hkk
  refine Go.iloadN C X0 (pc' := 1) d10_0 rfl rfl ?_
  refine Go.iconst C X0 (pc' := 2) (v := (1 : Int32)) d10_1 rfl rfl ?_
  refine Go.icmpNo C X0 (pc' := 5) d10_2 (flt (by decide)).1 rfl ?_
  refine Go.aloadN C X0 (pc' := 6) d10_5 rfl rfl rfl ?_
  refine Go.iloadN C X0 (pc' := 7) d10_6 rfl rfl ?_
  refine Go.iloadN C X0 (pc' := 8) d10_7 rfl rfl ?_
  refine Go.isub C X0 (pc' := 9) d10_8 rfl ?_
  refine Go.iaload C X0 (pc' := 10) (i := (ss - 3 + 0)) (w := (rf (ss - 3 + 0))) f0 (own_d3 hs h4 hl 0 0 rfl (by decide)).2 (by omega) rfl d10_9 rfl ?_
  refine Go.aloadN C X0 (pc' := 11) d10_10 rfl rfl rfl ?_
  refine Go.iconst C X0 (pc' := 12) (v := (0 : Int32)) d10_11 rfl rfl ?_
  refine Go.iaload C X0 (pc' := 13) (i := 0) (w := (rf 0)) f0 rfl (by decide) rfl d10_12 rfl ?_
  by_cases c85 : (rf (ss - 3 + 0)) = (rf 0)
  · refine Go.icmpNo C X0 (pc' := 16) d10_13 (teq c85).2 rfl ?_
    refine Go.iloadN C X0 (pc' := 17) d10_16 rfl rfl ?_
    refine Go.iconst C X0 (pc' := 18) (v := (2 : Int32)) d10_17 rfl rfl ?_
    refine Go.icmpNo C X0 (pc' := 21) d10_18 (flt (by decide)).1 rfl ?_
    refine Go.aloadN C X0 (pc' := 22) d10_21 rfl rfl rfl ?_
    refine Go.iloadN C X0 (pc' := 23) d10_22 rfl rfl ?_
    refine Go.iloadN C X0 (pc' := 24) d10_23 rfl rfl ?_
    refine Go.isub C X0 (pc' := 25) d10_24 rfl ?_
    refine Go.iconst C X0 (pc' := 26) (v := (1 : Int32)) d10_25 rfl rfl ?_
    refine Go.iadd C X0 (pc' := 27) d10_26 rfl ?_
    refine Go.iaload C X0 (pc' := 28) (i := (ss - 3 + 1)) (w := (rf (ss - 3 + 1))) f0 (own_d3 hs h4 hl 1 1 rfl (by decide)).1 (by omega) rfl d10_27 rfl ?_
    refine Go.aloadN C X0 (pc' := 29) d10_28 rfl rfl rfl ?_
    refine Go.iconst C X0 (pc' := 30) (v := (1 : Int32)) d10_29 rfl rfl ?_
    refine Go.iaload C X0 (pc' := 31) (i := 1) (w := (rf 1)) f0 rfl (by decide) rfl d10_30 rfl ?_
    by_cases c86 : (rf (ss - 3 + 1)) = (rf 1)
    · refine Go.icmpNo C X0 (pc' := 34) d10_31 (teq c86).2 rfl ?_
      refine Go.iloadN C X0 (pc' := 35) d10_34 rfl rfl ?_
      refine Go.iconst C X0 (pc' := 36) (v := (3 : Int32)) d10_35 rfl rfl ?_
      refine Go.icmpNo C X0 (pc' := 39) d10_36 (flt (by decide)).1 rfl ?_
      refine Go.aloadN C X0 (pc' := 40) d10_39 rfl rfl rfl ?_
      refine Go.iloadN C X0 (pc' := 41) d10_40 rfl rfl ?_
      refine Go.iloadN C X0 (pc' := 42) d10_41 rfl rfl ?_
      refine Go.isub C X0 (pc' := 43) d10_42 rfl ?_
      refine Go.iconst C X0 (pc' := 44) (v := (2 : Int32)) d10_43 rfl rfl ?_
      refine Go.iadd C X0 (pc' := 45) d10_44 rfl ?_
      refine Go.iaload C X0 (pc' := 46) (i := (ss - 3 + 2)) (w := (rf (ss - 3 + 2))) f0 (own_d3 hs h4 hl 2 2 rfl (by decide)).1 (by omega) rfl d10_45 rfl ?_
      refine Go.aloadN C X0 (pc' := 47) d10_46 rfl rfl rfl ?_
      refine Go.iconst C X0 (pc' := 48) (v := (2 : Int32)) d10_47 rfl rfl ?_
      refine Go.iaload C X0 (pc' := 49) (i := 2) (w := (rf 2)) f0 rfl (by decide) rfl d10_48 rfl ?_
      by_cases c87 : (rf (ss - 3 + 2)) = (rf 2)
      · refine Go.icmpNo C X0 (pc' := 52) d10_49 (teq c87).2 rfl ?_
        refine Go.iloadN C X0 (pc' := 53) d10_52 rfl rfl ?_
        refine Go.iconst C X0 (pc' := 54) (v := (4 : Int32)) d10_53 rfl rfl ?_
        refine Go.icmpYes C X0 (pc' := 70) d10_54 (tlt (by decide)).1 (by decide) (by decide) ?_
        refine Go.iconst C X0 (pc' := 71) (v := (1 : Int32)) d10_70 rfl rfl ?_
        refine Go.goto C X0 (pc' := 75) d10_71 (by decide) (by decide) ?_
        exact Go.retZ (t := .boolean) C X0 (z' := (1 : Int32)) (by decide) d10_75 ⟨(by rw [if_pos (own_mkB3 hl c85 c86 c87)]), rfl⟩ (by decide) (by decide)
      · refine Go.icmpYes C X0 (pc' := 74) d10_49 (feq c87).2 (by decide) (by decide) ?_
        refine Go.iconst C X0 (pc' := 75) (v := (0 : Int32)) d10_74 rfl rfl ?_
        exact Go.retZ (t := .boolean) C X0 (z' := (0 : Int32)) (by decide) d10_75 ⟨(by rw [if_neg (fun q => c87 (q.2 2 (by decide)))]), rfl⟩ (by decide) (by decide)
    · refine Go.icmpYes C X0 (pc' := 74) d10_31 (feq c86).2 (by decide) (by decide) ?_
      refine Go.iconst C X0 (pc' := 75) (v := (0 : Int32)) d10_74 rfl rfl ?_
      exact Go.retZ (t := .boolean) C X0 (z' := (0 : Int32)) (by decide) d10_75 ⟨(by rw [if_neg (fun q => c86 (q.2 1 (by decide)))]), rfl⟩ (by decide) (by decide)
  · refine Go.icmpYes C X0 (pc' := 74) d10_13 (feq c85).2 (by decide) (by decide) ?_
    refine Go.iconst C X0 (pc' := 75) (v := (0 : Int32)) d10_74 rfl rfl ?_
    exact Go.retZ (t := .boolean) C X0 (z' := (0 : Int32)) (by decide) d10_75 ⟨(by rw [if_neg (fun q => c85 (q.2 0 (by decide)))]), rfl⟩ (by decide) (by decide)
theorem own_ef_rm_ok3 (m : MethodId) (x0 : Addr) (x1 : Int32) (x2 : Int32) (x3 : Int32) : entryFrame m #[(.ref x0), (.int x1), (.int x2), (.int x3)] 4 = mkF m 0 #[.val (.ref x0), .val (.int x1), .val (.int x2), .val (.int x3)] [] := by first | (simp [entryFrame, mkF, argsToLocals, Value.category]; done) | rfl
set_option maxRecDepth 65536 in
set_option maxHeartbeats 40000000 in
theorem rm_ok3 (l : Launch) (Z : State) (a0 : Array Value) (hw : ∀ d ∈ tables_1, d.before a0 Z = true) (r : Addr) (s0 : Int32) (x : Int32) (kp : Int32) (rf : Nat → Int32) (ss : Nat) (h0 : Heap) (n0 : Nat) (Z0 : n0 ≤ h0.size) (f0 : AI Z h0 r .int 5 rf) (hkk : kp = (3 : Int32)) (hs : s0.toInt = (ss : Int)) (h4 : ss ≤ 4) :
    Con l Z (⟨"com/example/needlewright/needlewright/AutomatonFallBackPinLaw", "ok", "([IIII)Z"⟩ : MethodName) method_6_code 4 (some .boolean) ({ frames := 1, cells := 0, slots := 0, locals := 14 } : Room) #[(.ref r), (.int s0), (.int x), (.int kp)] h0 n0 (fun rv hv => rv = some (.int (if 3 ≤ ss ∧ own_B rf ss 3 ∧ rf 3 = x then (1 : Int32) else (0 : Int32))) ∧ h0 = hv) := by
  refine Con.enter (plainFor_of_name own_pn1) Z0 ?_
  intro p e s m below meth c T0 C hnm X0
  refine Go.cast (own_ef_rm_ok3 m r s0 x kp) ?_
  subst hkk
  refine Go.iloadN C X0 (pc' := 1) d9_0 rfl rfl ?_
  refine Go.iloadN C X0 (pc' := 2) d9_1 rfl rfl ?_
  by_cases c88 : s0 < (3 : Int32)
  · refine Go.icmpYes C X0 (pc' := 25) d9_2 (tlt c88).2.2.1 (by decide) (by decide) ?_
    refine Go.iconst C X0 (pc' := 26) (v := (0 : Int32)) d9_25 rfl rfl ?_
    exact Go.retZ (t := .boolean) C X0 (z' := (0 : Int32)) (by decide) d9_26 ⟨(by rw [if_neg (fun q => by have := own_ilt.mp c88; have e : (3 : Int32).toInt = 3 := rfl; rw [hs, e] at this; omega)]), rfl⟩ (by decide) (by decide)
  · refine Go.icmpNo C X0 (pc' := 5) d9_2 (flt c88).2.2.1 rfl ?_
    refine Go.aloadN C X0 (pc' := 6) d9_5 rfl rfl rfl ?_
    refine Go.iloadN C X0 (pc' := 7) d9_6 rfl rfl ?_
    refine Go.iloadN C X0 (pc' := 8) d9_7 rfl rfl ?_
    refine Go.callS C X0 (pc' := 11) (W := 0) (argsL := [(.ref r), (.int s0), (.int (3 : Int32))]) (rest := []) (rm_bd3 l Z a0 hw r s0 (3 : Int32) rf ss h0 n0 X0.sz f0 rfl hs h4 (by have := own_nilt c88; have e : (3 : Int32).toInt = 3 := rfl; rw [hs, e] at this; omega)) (hw _ (List.mem_of_getElem? (i := 45) rfl)) (hw _ (List.mem_of_getElem? (i := 46) rfl)) (hw _ (List.mem_of_getElem? (i := 2) rfl)) (hw _ (List.mem_of_getElem? (i := 47) rfl)) (by decide) rfl rfl (lenOf own_pd3 rfl) rfl (Nat.le_of_eq rfl) (by decide) (by decide) (by decide) (by decide) d9_8 rfl (fun _ _ q => Nat.le_of_eq (congrArg Array.size q.2)) (fun T89 h89 v89 X89 P89 => ?_)
    obtain ⟨rfl, rfl⟩ := P89
    show Go p e below s n0 _ _ _ T89 (mkF m 11 #[.val (.ref r), .val (.int s0), .val (.int x), .val (.int (3 : Int32))] [(.int (if own_B rf ss 3 then (1 : Int32) else (0 : Int32)))])
    by_cases c90 : (if own_B rf ss 3 then (1 : Int32) else (0 : Int32)) = (0 : Int32)
    · refine Go.ifYes C X89 (pc' := 25) d9_11 ((if0 _ _).trans (teq c90).1) (by decide) (by decide) ?_
      refine Go.iconst C X89 (pc' := 26) (v := (0 : Int32)) d9_25 rfl rfl ?_
      exact Go.retZ (t := .boolean) C X89 (z' := (0 : Int32)) (by decide) d9_26 ⟨(by rw [if_neg (fun q => absurd c90 (by rw [if_pos q.2.1]; decide))]), rfl⟩ (by decide) (by decide)
    · refine Go.ifNo C X89 (pc' := 14) d9_11 ((if0 _ _).trans (feq c90).1) rfl ?_
      refine Go.aloadN C X89 (pc' := 15) d9_14 rfl rfl rfl ?_
      refine Go.iloadN C X89 (pc' := 16) d9_15 rfl rfl ?_
      refine Go.iaload C X89 (pc' := 17) (i := 3) (w := (rf 3)) f0 rfl (by decide) rfl d9_16 rfl ?_
      refine Go.iloadN C X89 (pc' := 18) d9_17 rfl rfl ?_
      by_cases c91 : (rf 3) = x
      · refine Go.icmpNo C X89 (pc' := 21) d9_18 (teq c91).2 rfl ?_
        refine Go.iconst C X89 (pc' := 22) (v := (1 : Int32)) d9_21 rfl rfl ?_
        refine Go.goto C X89 (pc' := 26) d9_22 (by decide) (by decide) ?_
        exact Go.retZ (t := .boolean) C X89 (z' := (1 : Int32)) (by decide) d9_26 ⟨(by rw [if_pos ⟨(by have := own_nilt c88; have e : (3 : Int32).toInt = 3 := rfl; rw [hs, e] at this; omega), (Classical.byContradiction fun q => c90 (if_neg q)), c91⟩]), rfl⟩ (by decide) (by decide)
      · refine Go.icmpYes C X89 (pc' := 25) d9_18 (feq c91).2 (by decide) (by decide) ?_
        refine Go.iconst C X89 (pc' := 26) (v := (0 : Int32)) d9_25 rfl rfl ?_
        exact Go.retZ (t := .boolean) C X89 (z' := (0 : Int32)) (by decide) d9_26 ⟨(by rw [if_neg (fun q => c91 q.2.2)]), rfl⟩ (by decide) (by decide)
theorem own_d4 {s0 : Int32} {ss : Nat} (hs : s0.toInt = (ss : Int)) (h4 : ss ≤ 4) (hl : 4 ≤ ss) (d : Int32) (j : Nat) (hd : d.toInt = (j : Int)) (hj : j < 4) : ((s0 - (4 : Int32)) + d).toInt = ((ss - 4 + j : Nat) : Int) ∧ (s0 - (4 : Int32)).toInt = ((ss - 4 + 0 : Nat) : Int) := by
  have e : (4 : Int32).toInt = 4 := rfl
  have h1 : (s0 - (4 : Int32)).toInt = (ss : Int) - 4 := by rw [own_isub (by omega) (by omega), hs, e]
  exact ⟨by rw [own_iadd (by omega) (by omega), h1, hd]; omega, by rw [h1]; omega⟩
theorem own_mkB4 {u : Nat → Int32} {ss : Nat} (hl : 4 ≤ ss) (c0 : u (ss - 4 + 0) = u 0) (c1 : u (ss - 4 + 1) = u 1) (c2 : u (ss - 4 + 2) = u 2) (c3 : u (ss - 4 + 3) = u 3) : own_B u ss 4 := ⟨hl, fun j hj => by
  rcases (by omega : j = 0 ∨ j = 1 ∨ j = 2 ∨ j = 3) with q | q | q | q
  · subst q; exact c0
  · subst q; exact c1
  · subst q; exact c2
  · subst q; exact c3⟩
theorem own_ef_rm_bd4 (m : MethodId) (x0 : Addr) (x1 : Int32) (x2 : Int32) : entryFrame m #[(.ref x0), (.int x1), (.int x2)] 3 = mkF m 0 #[.val (.ref x0), .val (.int x1), .val (.int x2)] [] := by first | (simp [entryFrame, mkF, argsToLocals, Value.category]; done) | rfl
theorem d10_57 : decode method_5_code 57 = .ok (.aload_n 0, 1) := by decide +kernel
theorem d10_58 : decode method_5_code 58 = .ok (.iload_n 1, 1) := by decide +kernel
theorem d10_59 : decode method_5_code 59 = .ok (.iload_n 2, 1) := by decide +kernel
theorem d10_60 : decode method_5_code 60 = .ok (.isub, 1) := by decide +kernel
theorem d10_61 : decode method_5_code 61 = .ok (.iconst 3, 1) := by decide +kernel
theorem d10_62 : decode method_5_code 62 = .ok (.iadd, 1) := by decide +kernel
theorem d10_63 : decode method_5_code 63 = .ok (.iaload, 1) := by decide +kernel
theorem d10_64 : decode method_5_code 64 = .ok (.aload_n 0, 1) := by decide +kernel
theorem d10_65 : decode method_5_code 65 = .ok (.iconst 3, 1) := by decide +kernel
theorem d10_66 : decode method_5_code 66 = .ok (.iaload, 1) := by decide +kernel
theorem d10_67 : decode method_5_code 67 = .ok (.if_icmp .ne 7, 3) := by decide +kernel
set_option maxRecDepth 65536 in
set_option maxHeartbeats 40000000 in
theorem rm_bd4 (l : Launch) (Z : State) (a0 : Array Value) (hw : ∀ d ∈ tables_1, d.before a0 Z = true) (r : Addr) (s0 : Int32) (kp : Int32) (rf : Nat → Int32) (ss : Nat) (h0 : Heap) (n0 : Nat) (Z0 : n0 ≤ h0.size) (f0 : AI Z h0 r .int 5 rf) (hkk : kp = (4 : Int32)) (hs : s0.toInt = (ss : Int)) (h4 : ss ≤ 4) (hl : 4 ≤ ss) :
    Con l Z (⟨"com/example/needlewright/needlewright/AutomatonFallBackPinLaw", "border", "([III)Z"⟩ : MethodName) method_5_code 3 (some .boolean) ({ frames := 0, cells := 0, slots := 0, locals := 0 } : Room) #[(.ref r), (.int s0), (.int kp)] h0 n0 (fun rv hv => rv = some (.int (if own_B rf ss 4 then (1 : Int32) else (0 : Int32))) ∧ h0 = hv) := by
  refine Con.enter (plainFor_of_name own_pn1) Z0 ?_
  intro p e s m below meth c T0 C hnm X0
  refine Go.cast (own_ef_rm_bd4 m r s0 kp) ?_
  subst hkk
  refine Go.iloadN C X0 (pc' := 1) d10_0 rfl rfl ?_
  refine Go.iconst C X0 (pc' := 2) (v := (1 : Int32)) d10_1 rfl rfl ?_
  refine Go.icmpNo C X0 (pc' := 5) d10_2 (flt (by decide)).1 rfl ?_
  refine Go.aloadN C X0 (pc' := 6) d10_5 rfl rfl rfl ?_
  refine Go.iloadN C X0 (pc' := 7) d10_6 rfl rfl ?_
  refine Go.iloadN C X0 (pc' := 8) d10_7 rfl rfl ?_
  refine Go.isub C X0 (pc' := 9) d10_8 rfl ?_
  refine Go.iaload C X0 (pc' := 10) (i := (ss - 4 + 0)) (w := (rf (ss - 4 + 0))) f0 (own_d4 hs h4 hl 0 0 rfl (by decide)).2 (by omega) rfl d10_9 rfl ?_
  refine Go.aloadN C X0 (pc' := 11) d10_10 rfl rfl rfl ?_
  refine Go.iconst C X0 (pc' := 12) (v := (0 : Int32)) d10_11 rfl rfl ?_
  refine Go.iaload C X0 (pc' := 13) (i := 0) (w := (rf 0)) f0 rfl (by decide) rfl d10_12 rfl ?_
  by_cases c92 : (rf (ss - 4 + 0)) = (rf 0)
  · refine Go.icmpNo C X0 (pc' := 16) d10_13 (teq c92).2 rfl ?_
    refine Go.iloadN C X0 (pc' := 17) d10_16 rfl rfl ?_
    refine Go.iconst C X0 (pc' := 18) (v := (2 : Int32)) d10_17 rfl rfl ?_
    refine Go.icmpNo C X0 (pc' := 21) d10_18 (flt (by decide)).1 rfl ?_
    refine Go.aloadN C X0 (pc' := 22) d10_21 rfl rfl rfl ?_
    refine Go.iloadN C X0 (pc' := 23) d10_22 rfl rfl ?_
    refine Go.iloadN C X0 (pc' := 24) d10_23 rfl rfl ?_
    refine Go.isub C X0 (pc' := 25) d10_24 rfl ?_
    refine Go.iconst C X0 (pc' := 26) (v := (1 : Int32)) d10_25 rfl rfl ?_
    refine Go.iadd C X0 (pc' := 27) d10_26 rfl ?_
    refine Go.iaload C X0 (pc' := 28) (i := (ss - 4 + 1)) (w := (rf (ss - 4 + 1))) f0 (own_d4 hs h4 hl 1 1 rfl (by decide)).1 (by omega) rfl d10_27 rfl ?_
    refine Go.aloadN C X0 (pc' := 29) d10_28 rfl rfl rfl ?_
    refine Go.iconst C X0 (pc' := 30) (v := (1 : Int32)) d10_29 rfl rfl ?_
    refine Go.iaload C X0 (pc' := 31) (i := 1) (w := (rf 1)) f0 rfl (by decide) rfl d10_30 rfl ?_
    by_cases c93 : (rf (ss - 4 + 1)) = (rf 1)
    · refine Go.icmpNo C X0 (pc' := 34) d10_31 (teq c93).2 rfl ?_
      refine Go.iloadN C X0 (pc' := 35) d10_34 rfl rfl ?_
      refine Go.iconst C X0 (pc' := 36) (v := (3 : Int32)) d10_35 rfl rfl ?_
      refine Go.icmpNo C X0 (pc' := 39) d10_36 (flt (by decide)).1 rfl ?_
      refine Go.aloadN C X0 (pc' := 40) d10_39 rfl rfl rfl ?_
      refine Go.iloadN C X0 (pc' := 41) d10_40 rfl rfl ?_
      refine Go.iloadN C X0 (pc' := 42) d10_41 rfl rfl ?_
      refine Go.isub C X0 (pc' := 43) d10_42 rfl ?_
      refine Go.iconst C X0 (pc' := 44) (v := (2 : Int32)) d10_43 rfl rfl ?_
      refine Go.iadd C X0 (pc' := 45) d10_44 rfl ?_
      refine Go.iaload C X0 (pc' := 46) (i := (ss - 4 + 2)) (w := (rf (ss - 4 + 2))) f0 (own_d4 hs h4 hl 2 2 rfl (by decide)).1 (by omega) rfl d10_45 rfl ?_
      refine Go.aloadN C X0 (pc' := 47) d10_46 rfl rfl rfl ?_
      refine Go.iconst C X0 (pc' := 48) (v := (2 : Int32)) d10_47 rfl rfl ?_
      refine Go.iaload C X0 (pc' := 49) (i := 2) (w := (rf 2)) f0 rfl (by decide) rfl d10_48 rfl ?_
      by_cases c94 : (rf (ss - 4 + 2)) = (rf 2)
      · refine Go.icmpNo C X0 (pc' := 52) d10_49 (teq c94).2 rfl ?_
        refine Go.iloadN C X0 (pc' := 53) d10_52 rfl rfl ?_
        refine Go.iconst C X0 (pc' := 54) (v := (4 : Int32)) d10_53 rfl rfl ?_
        refine Go.icmpNo C X0 (pc' := 57) d10_54 (flt (by decide)).1 rfl ?_
        refine Go.aloadN C X0 (pc' := 58) d10_57 rfl rfl rfl ?_
        refine Go.iloadN C X0 (pc' := 59) d10_58 rfl rfl ?_
        refine Go.iloadN C X0 (pc' := 60) d10_59 rfl rfl ?_
        refine Go.isub C X0 (pc' := 61) d10_60 rfl ?_
        refine Go.iconst C X0 (pc' := 62) (v := (3 : Int32)) d10_61 rfl rfl ?_
        refine Go.iadd C X0 (pc' := 63) d10_62 rfl ?_
        refine Go.iaload C X0 (pc' := 64) (i := (ss - 4 + 3)) (w := (rf (ss - 4 + 3))) f0 (own_d4 hs h4 hl 3 3 rfl (by decide)).1 (by omega) rfl d10_63 rfl ?_
        refine Go.aloadN C X0 (pc' := 65) d10_64 rfl rfl rfl ?_
        refine Go.iconst C X0 (pc' := 66) (v := (3 : Int32)) d10_65 rfl rfl ?_
        refine Go.iaload C X0 (pc' := 67) (i := 3) (w := (rf 3)) f0 rfl (by decide) rfl d10_66 rfl ?_
        by_cases c95 : (rf (ss - 4 + 3)) = (rf 3)
        · refine Go.icmpNo C X0 (pc' := 70) d10_67 (teq c95).2 rfl ?_
          refine Go.iconst C X0 (pc' := 71) (v := (1 : Int32)) d10_70 rfl rfl ?_
          refine Go.goto C X0 (pc' := 75) d10_71 (by decide) (by decide) ?_
          exact Go.retZ (t := .boolean) C X0 (z' := (1 : Int32)) (by decide) d10_75 ⟨(by rw [if_pos (own_mkB4 hl c92 c93 c94 c95)]), rfl⟩ (by decide) (by decide)
        · refine Go.icmpYes C X0 (pc' := 74) d10_67 (feq c95).2 (by decide) (by decide) ?_
          refine Go.iconst C X0 (pc' := 75) (v := (0 : Int32)) d10_74 rfl rfl ?_
          exact Go.retZ (t := .boolean) C X0 (z' := (0 : Int32)) (by decide) d10_75 ⟨(by rw [if_neg (fun q => c95 (q.2 3 (by decide)))]), rfl⟩ (by decide) (by decide)
      · refine Go.icmpYes C X0 (pc' := 74) d10_49 (feq c94).2 (by decide) (by decide) ?_
        refine Go.iconst C X0 (pc' := 75) (v := (0 : Int32)) d10_74 rfl rfl ?_
        exact Go.retZ (t := .boolean) C X0 (z' := (0 : Int32)) (by decide) d10_75 ⟨(by rw [if_neg (fun q => c94 (q.2 2 (by decide)))]), rfl⟩ (by decide) (by decide)
    · refine Go.icmpYes C X0 (pc' := 74) d10_31 (feq c93).2 (by decide) (by decide) ?_
      refine Go.iconst C X0 (pc' := 75) (v := (0 : Int32)) d10_74 rfl rfl ?_
      exact Go.retZ (t := .boolean) C X0 (z' := (0 : Int32)) (by decide) d10_75 ⟨(by rw [if_neg (fun q => c93 (q.2 1 (by decide)))]), rfl⟩ (by decide) (by decide)
  · refine Go.icmpYes C X0 (pc' := 74) d10_13 (feq c92).2 (by decide) (by decide) ?_
    refine Go.iconst C X0 (pc' := 75) (v := (0 : Int32)) d10_74 rfl rfl ?_
    exact Go.retZ (t := .boolean) C X0 (z' := (0 : Int32)) (by decide) d10_75 ⟨(by rw [if_neg (fun q => c92 (q.2 0 (by decide)))]), rfl⟩ (by decide) (by decide)
theorem own_ef_rm_ok4 (m : MethodId) (x0 : Addr) (x1 : Int32) (x2 : Int32) (x3 : Int32) : entryFrame m #[(.ref x0), (.int x1), (.int x2), (.int x3)] 4 = mkF m 0 #[.val (.ref x0), .val (.int x1), .val (.int x2), .val (.int x3)] [] := by first | (simp [entryFrame, mkF, argsToLocals, Value.category]; done) | rfl
set_option maxRecDepth 65536 in
set_option maxHeartbeats 40000000 in
theorem rm_ok4 (l : Launch) (Z : State) (a0 : Array Value) (hw : ∀ d ∈ tables_1, d.before a0 Z = true) (r : Addr) (s0 : Int32) (x : Int32) (kp : Int32) (rf : Nat → Int32) (ss : Nat) (h0 : Heap) (n0 : Nat) (Z0 : n0 ≤ h0.size) (f0 : AI Z h0 r .int 5 rf) (hkk : kp = (4 : Int32)) (hs : s0.toInt = (ss : Int)) (h4 : ss ≤ 4) :
    Con l Z (⟨"com/example/needlewright/needlewright/AutomatonFallBackPinLaw", "ok", "([IIII)Z"⟩ : MethodName) method_6_code 4 (some .boolean) ({ frames := 1, cells := 0, slots := 0, locals := 14 } : Room) #[(.ref r), (.int s0), (.int x), (.int kp)] h0 n0 (fun rv hv => rv = some (.int (if 4 ≤ ss ∧ own_B rf ss 4 ∧ rf 4 = x then (1 : Int32) else (0 : Int32))) ∧ h0 = hv) := by
  refine Con.enter (plainFor_of_name own_pn1) Z0 ?_
  intro p e s m below meth c T0 C hnm X0
  refine Go.cast (own_ef_rm_ok4 m r s0 x kp) ?_
  subst hkk
  refine Go.iloadN C X0 (pc' := 1) d9_0 rfl rfl ?_
  refine Go.iloadN C X0 (pc' := 2) d9_1 rfl rfl ?_
  by_cases c96 : s0 < (4 : Int32)
  · refine Go.icmpYes C X0 (pc' := 25) d9_2 (tlt c96).2.2.1 (by decide) (by decide) ?_
    refine Go.iconst C X0 (pc' := 26) (v := (0 : Int32)) d9_25 rfl rfl ?_
    exact Go.retZ (t := .boolean) C X0 (z' := (0 : Int32)) (by decide) d9_26 ⟨(by rw [if_neg (fun q => by have := own_ilt.mp c96; have e : (4 : Int32).toInt = 4 := rfl; rw [hs, e] at this; omega)]), rfl⟩ (by decide) (by decide)
  · refine Go.icmpNo C X0 (pc' := 5) d9_2 (flt c96).2.2.1 rfl ?_
    refine Go.aloadN C X0 (pc' := 6) d9_5 rfl rfl rfl ?_
    refine Go.iloadN C X0 (pc' := 7) d9_6 rfl rfl ?_
    refine Go.iloadN C X0 (pc' := 8) d9_7 rfl rfl ?_
    refine Go.callS C X0 (pc' := 11) (W := 0) (argsL := [(.ref r), (.int s0), (.int (4 : Int32))]) (rest := []) (rm_bd4 l Z a0 hw r s0 (4 : Int32) rf ss h0 n0 X0.sz f0 rfl hs h4 (by have := own_nilt c96; have e : (4 : Int32).toInt = 4 := rfl; rw [hs, e] at this; omega)) (hw _ (List.mem_of_getElem? (i := 45) rfl)) (hw _ (List.mem_of_getElem? (i := 46) rfl)) (hw _ (List.mem_of_getElem? (i := 2) rfl)) (hw _ (List.mem_of_getElem? (i := 47) rfl)) (by decide) rfl rfl (lenOf own_pd3 rfl) rfl (Nat.le_of_eq rfl) (by decide) (by decide) (by decide) (by decide) d9_8 rfl (fun _ _ q => Nat.le_of_eq (congrArg Array.size q.2)) (fun T97 h97 v97 X97 P97 => ?_)
    obtain ⟨rfl, rfl⟩ := P97
    show Go p e below s n0 _ _ _ T97 (mkF m 11 #[.val (.ref r), .val (.int s0), .val (.int x), .val (.int (4 : Int32))] [(.int (if own_B rf ss 4 then (1 : Int32) else (0 : Int32)))])
    by_cases c98 : (if own_B rf ss 4 then (1 : Int32) else (0 : Int32)) = (0 : Int32)
    · refine Go.ifYes C X97 (pc' := 25) d9_11 ((if0 _ _).trans (teq c98).1) (by decide) (by decide) ?_
      refine Go.iconst C X97 (pc' := 26) (v := (0 : Int32)) d9_25 rfl rfl ?_
      exact Go.retZ (t := .boolean) C X97 (z' := (0 : Int32)) (by decide) d9_26 ⟨(by rw [if_neg (fun q => absurd c98 (by rw [if_pos q.2.1]; decide))]), rfl⟩ (by decide) (by decide)
    · refine Go.ifNo C X97 (pc' := 14) d9_11 ((if0 _ _).trans (feq c98).1) rfl ?_
      refine Go.aloadN C X97 (pc' := 15) d9_14 rfl rfl rfl ?_
      refine Go.iloadN C X97 (pc' := 16) d9_15 rfl rfl ?_
      refine Go.iaload C X97 (pc' := 17) (i := 4) (w := (rf 4)) f0 rfl (by decide) rfl d9_16 rfl ?_
      refine Go.iloadN C X97 (pc' := 18) d9_17 rfl rfl ?_
      by_cases c99 : (rf 4) = x
      · refine Go.icmpNo C X97 (pc' := 21) d9_18 (teq c99).2 rfl ?_
        refine Go.iconst C X97 (pc' := 22) (v := (1 : Int32)) d9_21 rfl rfl ?_
        refine Go.goto C X97 (pc' := 26) d9_22 (by decide) (by decide) ?_
        exact Go.retZ (t := .boolean) C X97 (z' := (1 : Int32)) (by decide) d9_26 ⟨(by rw [if_pos ⟨(by have := own_nilt c96; have e : (4 : Int32).toInt = 4 := rfl; rw [hs, e] at this; omega), (Classical.byContradiction fun q => c98 (if_neg q)), c99⟩]), rfl⟩ (by decide) (by decide)
      · refine Go.icmpYes C X97 (pc' := 25) d9_18 (feq c99).2 (by decide) (by decide) ?_
        refine Go.iconst C X97 (pc' := 26) (v := (0 : Int32)) d9_25 rfl rfl ?_
        exact Go.retZ (t := .boolean) C X97 (z' := (0 : Int32)) (by decide) d9_26 ⟨(by rw [if_neg (fun q => c99 q.2.2)]), rfl⟩ (by decide) (by decide)
def own_ex (rf : Nat → Int32) (ss : Nat) (x : Int32) : Int32 := if 4 ≤ ss ∧ own_B rf ss 4 ∧ rf 4 = x then 4 else if 3 ≤ ss ∧ own_B rf ss 3 ∧ rf 3 = x then 3 else if 2 ≤ ss ∧ own_B rf ss 2 ∧ rf 2 = x then 2 else if 1 ≤ ss ∧ own_B rf ss 1 ∧ rf 1 = x then 1 else 0
theorem own_y {P : Prop} [Decidable P] (h : ¬ (if P then (1 : Int32) else (0 : Int32)) = (0 : Int32)) : P := Classical.byContradiction fun q => h (if_neg q)
theorem own_n {P : Prop} [Decidable P] (h : (if P then (1 : Int32) else (0 : Int32)) = (0 : Int32)) : ¬ P := fun q => by rw [if_pos q] at h; exact absurd h (by decide)
theorem own_ef_rm_ex (m : MethodId) (x0 : Addr) (x1 : Int32) (x2 : Int32) : entryFrame m #[(.ref x0), (.int x1), (.int x2)] 3 = mkF m 0 #[.val (.ref x0), .val (.int x1), .val (.int x2)] [] := by first | (simp [entryFrame, mkF, argsToLocals, Value.category]; done) | rfl
theorem d8_0 : decode method_7_code 0 = .ok (.aload_n 0, 1) := by decide +kernel
theorem d8_1 : decode method_7_code 1 = .ok (.iload_n 1, 1) := by decide +kernel
theorem d8_2 : decode method_7_code 2 = .ok (.iload_n 2, 1) := by decide +kernel
theorem d8_3 : decode method_7_code 3 = .ok (.iconst 4, 1) := by decide +kernel
theorem d8_4 : decode method_7_code 4 = .ok (.invokestatic 37, 3) := by decide +kernel
theorem own_pd4 : parseMethodDescriptor "([IIII)Z" = some ⟨[(.array .int), .int, .int, .int], some .boolean⟩ := by decide +kernel
theorem d8_7 : decode method_7_code 7 = .ok (.ifCond .eq 5, 3) := by decide +kernel
theorem d8_12 : decode method_7_code 12 = .ok (.aload_n 0, 1) := by decide +kernel
theorem d8_13 : decode method_7_code 13 = .ok (.iload_n 1, 1) := by decide +kernel
theorem d8_14 : decode method_7_code 14 = .ok (.iload_n 2, 1) := by decide +kernel
theorem d8_15 : decode method_7_code 15 = .ok (.iconst 3, 1) := by decide +kernel
theorem d8_16 : decode method_7_code 16 = .ok (.invokestatic 37, 3) := by decide +kernel
theorem d8_19 : decode method_7_code 19 = .ok (.ifCond .eq 5, 3) := by decide +kernel
theorem d8_24 : decode method_7_code 24 = .ok (.aload_n 0, 1) := by decide +kernel
theorem d8_25 : decode method_7_code 25 = .ok (.iload_n 1, 1) := by decide +kernel
theorem d8_26 : decode method_7_code 26 = .ok (.iload_n 2, 1) := by decide +kernel
theorem d8_27 : decode method_7_code 27 = .ok (.iconst 2, 1) := by decide +kernel
theorem d8_28 : decode method_7_code 28 = .ok (.invokestatic 37, 3) := by decide +kernel
theorem d8_31 : decode method_7_code 31 = .ok (.ifCond .eq 5, 3) := by decide +kernel
theorem d8_36 : decode method_7_code 36 = .ok (.aload_n 0, 1) := by decide +kernel
theorem d8_37 : decode method_7_code 37 = .ok (.iload_n 1, 1) := by decide +kernel
theorem d8_38 : decode method_7_code 38 = .ok (.iload_n 2, 1) := by decide +kernel
theorem d8_39 : decode method_7_code 39 = .ok (.iconst 1, 1) := by decide +kernel
theorem d8_40 : decode method_7_code 40 = .ok (.invokestatic 37, 3) := by decide +kernel
theorem d8_43 : decode method_7_code 43 = .ok (.ifCond .eq 5, 3) := by decide +kernel
theorem d8_48 : decode method_7_code 48 = .ok (.iconst 0, 1) := by decide +kernel
theorem d8_49 : decode method_7_code 49 = .ok (.ireturn, 1) := by decide +kernel
theorem d8_46 : decode method_7_code 46 = .ok (.iconst 1, 1) := by decide +kernel
theorem d8_47 : decode method_7_code 47 = .ok (.ireturn, 1) := by decide +kernel
theorem d8_34 : decode method_7_code 34 = .ok (.iconst 2, 1) := by decide +kernel
theorem d8_35 : decode method_7_code 35 = .ok (.ireturn, 1) := by decide +kernel
theorem d8_22 : decode method_7_code 22 = .ok (.iconst 3, 1) := by decide +kernel
theorem d8_23 : decode method_7_code 23 = .ok (.ireturn, 1) := by decide +kernel
theorem d8_10 : decode method_7_code 10 = .ok (.iconst 4, 1) := by decide +kernel
theorem d8_11 : decode method_7_code 11 = .ok (.ireturn, 1) := by decide +kernel
set_option maxRecDepth 65536 in
set_option maxHeartbeats 40000000 in
theorem rm_ex (l : Launch) (Z : State) (a0 : Array Value) (hw : ∀ d ∈ tables_1, d.before a0 Z = true) (r : Addr) (s0 : Int32) (x : Int32) (rf : Nat → Int32) (ss : Nat) (h0 : Heap) (n0 : Nat) (Z0 : n0 ≤ h0.size) (f0 : AI Z h0 r .int 5 rf) (hs : s0.toInt = (ss : Int)) (h4 : ss ≤ 4) :
    Con l Z (⟨"com/example/needlewright/needlewright/AutomatonFallBackPinLaw", "expected", "([III)I"⟩ : MethodName) method_7_code 3 (some .int) ({ frames := 2, cells := 0, slots := 0, locals := 29 } : Room) #[(.ref r), (.int s0), (.int x)] h0 n0 (fun rv hv => rv = some (.int (own_ex rf ss x)) ∧ h0 = hv) := by
  refine Con.enter (plainFor_of_name own_pn1) Z0 ?_
  intro p e s m below meth c T0 C hnm X0
  refine Go.cast (own_ef_rm_ex m r s0 x) ?_
  refine Go.aloadN C X0 (pc' := 1) d8_0 rfl rfl rfl ?_
  refine Go.iloadN C X0 (pc' := 2) d8_1 rfl rfl ?_
  refine Go.iloadN C X0 (pc' := 3) d8_2 rfl rfl ?_
  refine Go.iconst C X0 (pc' := 4) (v := (4 : Int32)) d8_3 rfl rfl ?_
  refine Go.callS C X0 (pc' := 7) (W := 0) (argsL := [(.ref r), (.int s0), (.int x), (.int (4 : Int32))]) (rest := []) (rm_ok4 l Z a0 hw r s0 x (4 : Int32) rf ss h0 n0 X0.sz f0 rfl hs h4) (hw _ (List.mem_of_getElem? (i := 41) rfl)) (hw _ (List.mem_of_getElem? (i := 42) rfl)) (hw _ (List.mem_of_getElem? (i := 2) rfl)) (hw _ (List.mem_of_getElem? (i := 43) rfl)) (by decide) rfl rfl (lenOf own_pd4 rfl) rfl (Nat.le_of_eq rfl) (by decide) (by decide) (by decide) (by decide) d8_4 rfl (fun _ _ q => Nat.le_of_eq (congrArg Array.size q.2)) (fun T100 h100 v100 X100 P100 => ?_)
  obtain ⟨rfl, rfl⟩ := P100
  show Go p e below s n0 _ _ _ T100 (mkF m 7 #[.val (.ref r), .val (.int s0), .val (.int x)] [(.int (if 4 ≤ ss ∧ own_B rf ss 4 ∧ rf 4 = x then (1 : Int32) else (0 : Int32)))])
  by_cases c101 : (if 4 ≤ ss ∧ own_B rf ss 4 ∧ rf 4 = x then (1 : Int32) else (0 : Int32)) = (0 : Int32)
  · refine Go.ifYes C X100 (pc' := 12) d8_7 ((if0 _ _).trans (teq c101).1) (by decide) (by decide) ?_
    refine Go.aloadN C X100 (pc' := 13) d8_12 rfl rfl rfl ?_
    refine Go.iloadN C X100 (pc' := 14) d8_13 rfl rfl ?_
    refine Go.iloadN C X100 (pc' := 15) d8_14 rfl rfl ?_
    refine Go.iconst C X100 (pc' := 16) (v := (3 : Int32)) d8_15 rfl rfl ?_
    refine Go.callS C X100 (pc' := 19) (W := 0) (argsL := [(.ref r), (.int s0), (.int x), (.int (3 : Int32))]) (rest := []) (rm_ok3 l Z a0 hw r s0 x (3 : Int32) rf ss h0 n0 X100.sz f0 rfl hs h4) (hw _ (List.mem_of_getElem? (i := 41) rfl)) (hw _ (List.mem_of_getElem? (i := 42) rfl)) (hw _ (List.mem_of_getElem? (i := 2) rfl)) (hw _ (List.mem_of_getElem? (i := 43) rfl)) (by decide) rfl rfl (lenOf own_pd4 rfl) rfl (Nat.le_of_eq rfl) (by decide) (by decide) (by decide) (by decide) d8_16 rfl (fun _ _ q => Nat.le_of_eq (congrArg Array.size q.2)) (fun T102 h102 v102 X102 P102 => ?_)
    obtain ⟨rfl, rfl⟩ := P102
    show Go p e below s n0 _ _ _ T102 (mkF m 19 #[.val (.ref r), .val (.int s0), .val (.int x)] [(.int (if 3 ≤ ss ∧ own_B rf ss 3 ∧ rf 3 = x then (1 : Int32) else (0 : Int32)))])
    by_cases c103 : (if 3 ≤ ss ∧ own_B rf ss 3 ∧ rf 3 = x then (1 : Int32) else (0 : Int32)) = (0 : Int32)
    · refine Go.ifYes C X102 (pc' := 24) d8_19 ((if0 _ _).trans (teq c103).1) (by decide) (by decide) ?_
      refine Go.aloadN C X102 (pc' := 25) d8_24 rfl rfl rfl ?_
      refine Go.iloadN C X102 (pc' := 26) d8_25 rfl rfl ?_
      refine Go.iloadN C X102 (pc' := 27) d8_26 rfl rfl ?_
      refine Go.iconst C X102 (pc' := 28) (v := (2 : Int32)) d8_27 rfl rfl ?_
      refine Go.callS C X102 (pc' := 31) (W := 0) (argsL := [(.ref r), (.int s0), (.int x), (.int (2 : Int32))]) (rest := []) (rm_ok2 l Z a0 hw r s0 x (2 : Int32) rf ss h0 n0 X102.sz f0 rfl hs h4) (hw _ (List.mem_of_getElem? (i := 41) rfl)) (hw _ (List.mem_of_getElem? (i := 42) rfl)) (hw _ (List.mem_of_getElem? (i := 2) rfl)) (hw _ (List.mem_of_getElem? (i := 43) rfl)) (by decide) rfl rfl (lenOf own_pd4 rfl) rfl (Nat.le_of_eq rfl) (by decide) (by decide) (by decide) (by decide) d8_28 rfl (fun _ _ q => Nat.le_of_eq (congrArg Array.size q.2)) (fun T104 h104 v104 X104 P104 => ?_)
      obtain ⟨rfl, rfl⟩ := P104
      show Go p e below s n0 _ _ _ T104 (mkF m 31 #[.val (.ref r), .val (.int s0), .val (.int x)] [(.int (if 2 ≤ ss ∧ own_B rf ss 2 ∧ rf 2 = x then (1 : Int32) else (0 : Int32)))])
      by_cases c105 : (if 2 ≤ ss ∧ own_B rf ss 2 ∧ rf 2 = x then (1 : Int32) else (0 : Int32)) = (0 : Int32)
      · refine Go.ifYes C X104 (pc' := 36) d8_31 ((if0 _ _).trans (teq c105).1) (by decide) (by decide) ?_
        refine Go.aloadN C X104 (pc' := 37) d8_36 rfl rfl rfl ?_
        refine Go.iloadN C X104 (pc' := 38) d8_37 rfl rfl ?_
        refine Go.iloadN C X104 (pc' := 39) d8_38 rfl rfl ?_
        refine Go.iconst C X104 (pc' := 40) (v := (1 : Int32)) d8_39 rfl rfl ?_
        refine Go.callS C X104 (pc' := 43) (W := 0) (argsL := [(.ref r), (.int s0), (.int x), (.int (1 : Int32))]) (rest := []) (rm_ok1 l Z a0 hw r s0 x (1 : Int32) rf ss h0 n0 X104.sz f0 rfl hs h4) (hw _ (List.mem_of_getElem? (i := 41) rfl)) (hw _ (List.mem_of_getElem? (i := 42) rfl)) (hw _ (List.mem_of_getElem? (i := 2) rfl)) (hw _ (List.mem_of_getElem? (i := 43) rfl)) (by decide) rfl rfl (lenOf own_pd4 rfl) rfl (Nat.le_of_eq rfl) (by decide) (by decide) (by decide) (by decide) d8_40 rfl (fun _ _ q => Nat.le_of_eq (congrArg Array.size q.2)) (fun T106 h106 v106 X106 P106 => ?_)
        obtain ⟨rfl, rfl⟩ := P106
        show Go p e below s n0 _ _ _ T106 (mkF m 43 #[.val (.ref r), .val (.int s0), .val (.int x)] [(.int (if 1 ≤ ss ∧ own_B rf ss 1 ∧ rf 1 = x then (1 : Int32) else (0 : Int32)))])
        by_cases c107 : (if 1 ≤ ss ∧ own_B rf ss 1 ∧ rf 1 = x then (1 : Int32) else (0 : Int32)) = (0 : Int32)
        · refine Go.ifYes C X106 (pc' := 48) d8_43 ((if0 _ _).trans (teq c107).1) (by decide) (by decide) ?_
          refine Go.iconst C X106 (pc' := 49) (v := (0 : Int32)) d8_48 rfl rfl ?_
          exact Go.retI C X106 d8_49 ⟨(by unfold own_ex; rw [if_neg (own_n c101), if_neg (own_n c103), if_neg (own_n c105), if_neg (own_n c107)]), rfl⟩ (by decide) (by decide)
        · refine Go.ifNo C X106 (pc' := 46) d8_43 ((if0 _ _).trans (feq c107).1) rfl ?_
          refine Go.iconst C X106 (pc' := 47) (v := (1 : Int32)) d8_46 rfl rfl ?_
          exact Go.retI C X106 d8_47 ⟨(by unfold own_ex; rw [if_neg (own_n c101), if_neg (own_n c103), if_neg (own_n c105), if_pos (own_y c107)]), rfl⟩ (by decide) (by decide)
      · refine Go.ifNo C X104 (pc' := 34) d8_31 ((if0 _ _).trans (feq c105).1) rfl ?_
        refine Go.iconst C X104 (pc' := 35) (v := (2 : Int32)) d8_34 rfl rfl ?_
        exact Go.retI C X104 d8_35 ⟨(by unfold own_ex; rw [if_neg (own_n c101), if_neg (own_n c103), if_pos (own_y c105)]), rfl⟩ (by decide) (by decide)
    · refine Go.ifNo C X102 (pc' := 22) d8_19 ((if0 _ _).trans (feq c103).1) rfl ?_
      refine Go.iconst C X102 (pc' := 23) (v := (3 : Int32)) d8_22 rfl rfl ?_
      exact Go.retI C X102 d8_23 ⟨(by unfold own_ex; rw [if_neg (own_n c101), if_pos (own_y c103)]), rfl⟩ (by decide) (by decide)
  · refine Go.ifNo C X100 (pc' := 10) d8_7 ((if0 _ _).trans (feq c101).1) rfl ?_
    refine Go.iconst C X100 (pc' := 11) (v := (4 : Int32)) d8_10 rfl rfl ?_
    exact Go.retI C X100 d8_11 ⟨(by unfold own_ex; rw [if_pos (own_y c101)]), rfl⟩ (by decide) (by decide)
theorem own_Bc {u r : Nat → Int32} {s n : Nat} (hs : s ≤ n) (h : ∀ q, q ≤ n → r q = u q) {k : Nat} : own_B r s k ↔ own_B u s k := by
  constructor
  · intro d; refine ⟨d.1, fun j hj => ?_⟩
    have := d.1
    rw [← h _ (by omega), ← h _ (by omega)]; exact d.2 j hj
  · intro d; refine ⟨d.1, fun j hj => ?_⟩
    have := d.1
    rw [h _ (by omega), h _ (by omega)]; exact d.2 j hj
theorem own_key {u r : Nat → Int32} {ss n c : Nat} {x : Int32} (hn : n ≤ 4) (hs : ss ≤ n) (h : ∀ q, q ≤ n → r q = u q) (hF : own_F u ss x c) : Int32.ofNat c = own_ex r ss x := by
  have hc := hF.1.1
  have yes : c ≠ 0 → c ≤ ss ∧ own_B r ss c ∧ r c = x := fun z => ⟨hc, (own_Bc hs h).mpr hF.1, by rw [h c (by omega)]; exact hF.2.1.resolve_left z⟩
  have no : ∀ k, c < k → ¬ (k ≤ ss ∧ own_B r ss k ∧ r k = x) := fun k hk q => hF.2.2 k hk ((own_Bc hs h).mp q.2.1) (by rw [← h k (by omega)]; exact q.2.2)
  unfold own_ex
  rcases (by omega : c = 0 ∨ c = 1 ∨ c = 2 ∨ c = 3 ∨ c = 4) with q | q | q | q | q <;> subst q
  · rw [if_neg (no 4 (by omega)), if_neg (no 3 (by omega)), if_neg (no 2 (by omega)), if_neg (no 1 (by omega))]; rfl
  · rw [if_neg (no 4 (by omega)), if_neg (no 3 (by omega)), if_neg (no 2 (by omega)), if_pos (yes (by omega))]; rfl
  · rw [if_neg (no 4 (by omega)), if_neg (no 3 (by omega)), if_pos (yes (by omega))]; rfl
  · rw [if_neg (no 4 (by omega)), if_pos (yes (by omega))]; rfl
  · rw [if_pos (yes (by omega))]; rfl
theorem own_c5 (x : Int32) : ((1 : Int32) + (x &&& (3 : Int32))) = 1 ∨ ((1 : Int32) + (x &&& (3 : Int32))) = 2 ∨ ((1 : Int32) + (x &&& (3 : Int32))) = 3 ∨ ((1 : Int32) + (x &&& (3 : Int32))) = 4 := by
  rcases own_and3 x with q | q | q | q <;> rw [q] <;> decide
theorem own_ag1 (y0 y1 y2 y3 : Int32) : ∀ q, q ≤ 1 → (fun q => if q = 1 then (-2147483648 : Int32) else (fun q => if q = 3 then y3 else (fun q => if q = 2 then y2 else (fun q => if q = 1 then y1 else (fun q => if q = 0 then y0 else (fun _ => 0) q) q) q) q) q) q = (fun q => if q = (2 - 1) then (-2147483648 : Int32) else (fun q => if q = 0 then y0 else (fun _ => 0) q) q) q := fun q hq => by
  rcases (by omega : q = 0 ∨ q = 1) with h | h <;> subst h <;> rfl
theorem own_st1 (x : Int32) : ((x &&& (2147483647 : Int32)) % ((1 : Int32) + (1 : Int32))).toInt = ((((x &&& (2147483647 : Int32)) % ((1 : Int32) + (1 : Int32))).toInt.toNat : Nat) : Int) ∧ ((x &&& (2147483647 : Int32)) % ((1 : Int32) + (1 : Int32))).toInt.toNat ≤ 1 := by
  have h := Jvm.RoadKit.own_mod x ((1 : Int32) + (1 : Int32)) 2 rfl (by decide)
  omega
theorem own_ag2 (y0 y1 y2 y3 : Int32) : ∀ q, q ≤ 2 → (fun q => if q = 2 then (-2147483648 : Int32) else (fun q => if q = 3 then y3 else (fun q => if q = 2 then y2 else (fun q => if q = 1 then y1 else (fun q => if q = 0 then y0 else (fun _ => 0) q) q) q) q) q) q = (fun q => if q = (3 - 1) then (-2147483648 : Int32) else (fun q => if q = 1 then y1 else (fun q => if q = 0 then y0 else (fun _ => 0) q) q) q) q := fun q hq => by
  rcases (by omega : q = 0 ∨ q = 1 ∨ q = 2) with h | h | h <;> subst h <;> rfl
theorem own_st2 (x : Int32) : ((x &&& (2147483647 : Int32)) % ((2 : Int32) + (1 : Int32))).toInt = ((((x &&& (2147483647 : Int32)) % ((2 : Int32) + (1 : Int32))).toInt.toNat : Nat) : Int) ∧ ((x &&& (2147483647 : Int32)) % ((2 : Int32) + (1 : Int32))).toInt.toNat ≤ 2 := by
  have h := Jvm.RoadKit.own_mod x ((2 : Int32) + (1 : Int32)) 3 rfl (by decide)
  omega
theorem own_ag3 (y0 y1 y2 y3 : Int32) : ∀ q, q ≤ 3 → (fun q => if q = 3 then (-2147483648 : Int32) else (fun q => if q = 3 then y3 else (fun q => if q = 2 then y2 else (fun q => if q = 1 then y1 else (fun q => if q = 0 then y0 else (fun _ => 0) q) q) q) q) q) q = (fun q => if q = (4 - 1) then (-2147483648 : Int32) else (fun q => if q = 2 then y2 else (fun q => if q = 1 then y1 else (fun q => if q = 0 then y0 else (fun _ => 0) q) q) q) q) q := fun q hq => by
  rcases (by omega : q = 0 ∨ q = 1 ∨ q = 2 ∨ q = 3) with h | h | h | h <;> subst h <;> rfl
theorem own_st3 (x : Int32) : ((x &&& (2147483647 : Int32)) % ((3 : Int32) + (1 : Int32))).toInt = ((((x &&& (2147483647 : Int32)) % ((3 : Int32) + (1 : Int32))).toInt.toNat : Nat) : Int) ∧ ((x &&& (2147483647 : Int32)) % ((3 : Int32) + (1 : Int32))).toInt.toNat ≤ 3 := by
  have h := Jvm.RoadKit.own_mod x ((3 : Int32) + (1 : Int32)) 4 rfl (by decide)
  omega
theorem own_ag4 (y0 y1 y2 y3 : Int32) : ∀ q, q ≤ 4 → (fun q => if q = 4 then (-2147483648 : Int32) else (fun q => if q = 3 then y3 else (fun q => if q = 2 then y2 else (fun q => if q = 1 then y1 else (fun q => if q = 0 then y0 else (fun _ => 0) q) q) q) q) q) q = (fun q => if q = (5 - 1) then (-2147483648 : Int32) else (fun q => if q = 3 then y3 else (fun q => if q = 2 then y2 else (fun q => if q = 1 then y1 else (fun q => if q = 0 then y0 else (fun _ => 0) q) q) q) q) q) q := fun q hq => by
  rcases (by omega : q = 0 ∨ q = 1 ∨ q = 2 ∨ q = 3 ∨ q = 4) with h | h | h | h | h <;> subst h <;> rfl
theorem own_st4 (x : Int32) : ((x &&& (2147483647 : Int32)) % ((4 : Int32) + (1 : Int32))).toInt = ((((x &&& (2147483647 : Int32)) % ((4 : Int32) + (1 : Int32))).toInt.toNat : Nat) : Int) ∧ ((x &&& (2147483647 : Int32)) % ((4 : Int32) + (1 : Int32))).toInt.toNat ≤ 4 := by
  have h := Jvm.RoadKit.own_mod x ((4 : Int32) + (1 : Int32)) 5 rfl (by decide)
  omega
theorem own_ef_rm0 (m : MethodId) (x0 : Int32) (x1 : Int32) (x2 : Int32) (x3 : Int32) (x4 : Int32) : entryFrame m #[(.int x0), (.int x1), (.int x2), (.int x3), (.int x4)] maxLocals = mkF m 0 #[.val (.int x0), .val (.int x1), .val (.int x2), .val (.int x3), .val (.int x4), .unset, .unset, .unset, .unset, .unset, .unset, .unset, .unset, .unset, .unset, .unset, .unset] [] := by first | (simp [entryFrame, mkF, argsToLocals, Value.category, maxLocals]; done) | rfl
theorem own_pd5 : parseMethodDescriptor "(I)[I" = some ⟨[.int], some (.array .int)⟩ := by decide +kernel
theorem own_pd6 : parseMethodDescriptor "([I)V" = some ⟨[(.array .int)], none⟩ := by decide +kernel
theorem own_pd7 : parseMethodDescriptor "([III)I" = some ⟨[(.array .int), .int, .int], some .int⟩ := by decide +kernel
set_option maxRecDepth 65536 in
set_option maxHeartbeats 40000000 in
theorem rm0 (l : Launch) (Z : State) (a0 : Array Value) (hw : ∀ d ∈ tables_1, d.before a0 Z = true) (x0 x1 x2 x3 x4 : Int32) (h0 : Heap) (n0 : Nat) (Z0 : n0 ≤ h0.size)  :
    Con l Z x code maxLocals ret room_1 #[(.int x0), (.int x1), (.int x2), (.int x3), (.int x4)] h0 n0 (fun rv hv => rv = some (.int 1)) := by
  refine Con.enter (plainFor_of_name own_pn1) Z0 ?_
  intro p e s m below meth c T0 C hnm X0
  refine Go.cast (own_ef_rm0 m x0 x1 x2 x3 x4) ?_
  refine Go.iconst C X0 (pc' := 1) (v := (1 : Int32)) at_0 rfl rfl ?_
  refine Go.iloadN C X0 (pc' := 2) at_1 rfl rfl ?_
  refine Go.iconst C X0 (pc' := 3) (v := (3 : Int32)) at_2 rfl rfl ?_
  refine Go.iand C X0 (pc' := 4) at_3 rfl ?_
  refine Go.iadd C X0 (pc' := 5) at_4 rfl ?_
  refine Go.istore C X0 (pc' := 7) (Ls' := #[.val (.int x0), .val (.int x1), .val (.int x2), .val (.int x3), .val (.int x4), .val (.int ((1 : Int32) + (x0 &&& (3 : Int32)))), .unset, .unset, .unset, .unset, .unset, .unset, .unset, .unset, .unset, .unset, .unset]) at_5 rfl rfl ?_
  rcases own_c5 x0 with q108 | q108 | q108 | q108
  · rw [q108]
    refine Go.iload C X0 (pc' := 9) at_7 rfl rfl ?_
    refine Go.iconst C X0 (pc' := 10) (v := (3 : Int32)) at_9 rfl rfl ?_
    refine Go.iand C X0 (pc' := 11) at_10 rfl ?_
    refine Go.istore C X0 (pc' := 13) (Ls' := #[.val (.int x0), .val (.int x1), .val (.int x2), .val (.int x3), .val (.int x4), .val (.int (1 : Int32)), .val (.int (x4 &&& (3 : Int32))), .unset, .unset, .unset, .unset, .unset, .unset, .unset, .unset, .unset, .unset]) at_11 rfl rfl ?_
    refine Go.iloadN C X0 (pc' := 14) at_13 rfl rfl ?_
    refine Go.iload C X0 (pc' := 16) at_14 rfl rfl ?_
    refine Go.callS C X0 (pc' := 19) (W := 0) (argsL := [(.int x1), (.int (x4 &&& (3 : Int32)))]) (rest := []) (rm_un l Z a0 hw x1 (x4 &&& (3 : Int32)) h0 n0 X0.sz ) (hw _ (List.mem_of_getElem? (i := 0) rfl)) (hw _ (List.mem_of_getElem? (i := 1) rfl)) (hw _ (List.mem_of_getElem? (i := 2) rfl)) (hw _ (List.mem_of_getElem? (i := 3) rfl)) (by decide) rfl rfl (lenOf own_pd1 rfl) rfl (Nat.le_of_eq rfl) (by decide) (by decide) (by decide) (by decide) at_16 rfl (fun _ _ q => Nat.le_of_eq (congrArg Array.size q.2)) (fun T109 h109 v109 X109 P109 => ?_)
    obtain ⟨rfl, rfl⟩ := P109
    show Go p e below s n0 _ _ _ T109 (mkF m 19 #[.val (.int x0), .val (.int x1), .val (.int x2), .val (.int x3), .val (.int x4), .val (.int (1 : Int32)), .val (.int (x4 &&& (3 : Int32))), .unset, .unset, .unset, .unset, .unset, .unset, .unset, .unset, .unset, .unset] [(.int (own_f_rm_un x1 (x4 &&& (3 : Int32))))])
    refine Go.istore C X109 (pc' := 21) (Ls' := #[.val (.int x0), .val (.int x1), .val (.int x2), .val (.int x3), .val (.int x4), .val (.int (1 : Int32)), .val (.int (x4 &&& (3 : Int32))), .val (.int (own_f_rm_un x1 (x4 &&& (3 : Int32)))), .unset, .unset, .unset, .unset, .unset, .unset, .unset, .unset, .unset]) at_19 rfl rfl ?_
    refine Go.iloadN C X109 (pc' := 22) at_21 rfl rfl ?_
    refine Go.bipush C X109 (pc' := 24) (v := (8 : Int32)) at_22 rfl rfl ?_
    refine Go.ishr C X109 (pc' := 25) at_24 rfl ?_
    refine Go.iload C X109 (pc' := 27) at_25 rfl rfl ?_
    refine Go.callS C X109 (pc' := 30) (W := 0) (argsL := [(.int (x1 >>> ((8 : Int32) &&& 31))), (.int (x4 &&& (3 : Int32)))]) (rest := []) (rm_un l Z a0 hw (x1 >>> ((8 : Int32) &&& 31)) (x4 &&& (3 : Int32)) h0 n0 X109.sz ) (hw _ (List.mem_of_getElem? (i := 0) rfl)) (hw _ (List.mem_of_getElem? (i := 1) rfl)) (hw _ (List.mem_of_getElem? (i := 2) rfl)) (hw _ (List.mem_of_getElem? (i := 3) rfl)) (by decide) rfl rfl (lenOf own_pd1 rfl) rfl (Nat.le_of_eq rfl) (by decide) (by decide) (by decide) (by decide) at_27 rfl (fun _ _ q => Nat.le_of_eq (congrArg Array.size q.2)) (fun T110 h110 v110 X110 P110 => ?_)
    obtain ⟨rfl, rfl⟩ := P110
    show Go p e below s n0 _ _ _ T110 (mkF m 30 #[.val (.int x0), .val (.int x1), .val (.int x2), .val (.int x3), .val (.int x4), .val (.int (1 : Int32)), .val (.int (x4 &&& (3 : Int32))), .val (.int (own_f_rm_un x1 (x4 &&& (3 : Int32)))), .unset, .unset, .unset, .unset, .unset, .unset, .unset, .unset, .unset] [(.int (own_f_rm_un (x1 >>> ((8 : Int32) &&& 31)) (x4 &&& (3 : Int32))))])
    refine Go.istore C X110 (pc' := 32) (Ls' := #[.val (.int x0), .val (.int x1), .val (.int x2), .val (.int x3), .val (.int x4), .val (.int (1 : Int32)), .val (.int (x4 &&& (3 : Int32))), .val (.int (own_f_rm_un x1 (x4 &&& (3 : Int32)))), .val (.int (own_f_rm_un (x1 >>> ((8 : Int32) &&& 31)) (x4 &&& (3 : Int32)))), .unset, .unset, .unset, .unset, .unset, .unset, .unset, .unset]) at_30 rfl rfl ?_
    refine Go.iloadN C X110 (pc' := 33) at_32 rfl rfl ?_
    refine Go.bipush C X110 (pc' := 35) (v := (16 : Int32)) at_33 rfl rfl ?_
    refine Go.ishr C X110 (pc' := 36) at_35 rfl ?_
    refine Go.iload C X110 (pc' := 38) at_36 rfl rfl ?_
    refine Go.callS C X110 (pc' := 41) (W := 0) (argsL := [(.int (x1 >>> ((16 : Int32) &&& 31))), (.int (x4 &&& (3 : Int32)))]) (rest := []) (rm_un l Z a0 hw (x1 >>> ((16 : Int32) &&& 31)) (x4 &&& (3 : Int32)) h0 n0 X110.sz ) (hw _ (List.mem_of_getElem? (i := 0) rfl)) (hw _ (List.mem_of_getElem? (i := 1) rfl)) (hw _ (List.mem_of_getElem? (i := 2) rfl)) (hw _ (List.mem_of_getElem? (i := 3) rfl)) (by decide) rfl rfl (lenOf own_pd1 rfl) rfl (Nat.le_of_eq rfl) (by decide) (by decide) (by decide) (by decide) at_38 rfl (fun _ _ q => Nat.le_of_eq (congrArg Array.size q.2)) (fun T111 h111 v111 X111 P111 => ?_)
    obtain ⟨rfl, rfl⟩ := P111
    show Go p e below s n0 _ _ _ T111 (mkF m 41 #[.val (.int x0), .val (.int x1), .val (.int x2), .val (.int x3), .val (.int x4), .val (.int (1 : Int32)), .val (.int (x4 &&& (3 : Int32))), .val (.int (own_f_rm_un x1 (x4 &&& (3 : Int32)))), .val (.int (own_f_rm_un (x1 >>> ((8 : Int32) &&& 31)) (x4 &&& (3 : Int32)))), .unset, .unset, .unset, .unset, .unset, .unset, .unset, .unset] [(.int (own_f_rm_un (x1 >>> ((16 : Int32) &&& 31)) (x4 &&& (3 : Int32))))])
    refine Go.istore C X111 (pc' := 43) (Ls' := #[.val (.int x0), .val (.int x1), .val (.int x2), .val (.int x3), .val (.int x4), .val (.int (1 : Int32)), .val (.int (x4 &&& (3 : Int32))), .val (.int (own_f_rm_un x1 (x4 &&& (3 : Int32)))), .val (.int (own_f_rm_un (x1 >>> ((8 : Int32) &&& 31)) (x4 &&& (3 : Int32)))), .val (.int (own_f_rm_un (x1 >>> ((16 : Int32) &&& 31)) (x4 &&& (3 : Int32)))), .unset, .unset, .unset, .unset, .unset, .unset, .unset]) at_41 rfl rfl ?_
    refine Go.iloadN C X111 (pc' := 44) at_43 rfl rfl ?_
    refine Go.bipush C X111 (pc' := 46) (v := (24 : Int32)) at_44 rfl rfl ?_
    refine Go.ishr C X111 (pc' := 47) at_46 rfl ?_
    refine Go.iload C X111 (pc' := 49) at_47 rfl rfl ?_
    refine Go.callS C X111 (pc' := 52) (W := 0) (argsL := [(.int (x1 >>> ((24 : Int32) &&& 31))), (.int (x4 &&& (3 : Int32)))]) (rest := []) (rm_un l Z a0 hw (x1 >>> ((24 : Int32) &&& 31)) (x4 &&& (3 : Int32)) h0 n0 X111.sz ) (hw _ (List.mem_of_getElem? (i := 0) rfl)) (hw _ (List.mem_of_getElem? (i := 1) rfl)) (hw _ (List.mem_of_getElem? (i := 2) rfl)) (hw _ (List.mem_of_getElem? (i := 3) rfl)) (by decide) rfl rfl (lenOf own_pd1 rfl) rfl (Nat.le_of_eq rfl) (by decide) (by decide) (by decide) (by decide) at_49 rfl (fun _ _ q => Nat.le_of_eq (congrArg Array.size q.2)) (fun T112 h112 v112 X112 P112 => ?_)
    obtain ⟨rfl, rfl⟩ := P112
    show Go p e below s n0 _ _ _ T112 (mkF m 52 #[.val (.int x0), .val (.int x1), .val (.int x2), .val (.int x3), .val (.int x4), .val (.int (1 : Int32)), .val (.int (x4 &&& (3 : Int32))), .val (.int (own_f_rm_un x1 (x4 &&& (3 : Int32)))), .val (.int (own_f_rm_un (x1 >>> ((8 : Int32) &&& 31)) (x4 &&& (3 : Int32)))), .val (.int (own_f_rm_un (x1 >>> ((16 : Int32) &&& 31)) (x4 &&& (3 : Int32)))), .unset, .unset, .unset, .unset, .unset, .unset, .unset] [(.int (own_f_rm_un (x1 >>> ((24 : Int32) &&& 31)) (x4 &&& (3 : Int32))))])
    refine Go.istore C X112 (pc' := 54) (Ls' := #[.val (.int x0), .val (.int x1), .val (.int x2), .val (.int x3), .val (.int x4), .val (.int (1 : Int32)), .val (.int (x4 &&& (3 : Int32))), .val (.int (own_f_rm_un x1 (x4 &&& (3 : Int32)))), .val (.int (own_f_rm_un (x1 >>> ((8 : Int32) &&& 31)) (x4 &&& (3 : Int32)))), .val (.int (own_f_rm_un (x1 >>> ((16 : Int32) &&& 31)) (x4 &&& (3 : Int32)))), .val (.int (own_f_rm_un (x1 >>> ((24 : Int32) &&& 31)) (x4 &&& (3 : Int32)))), .unset, .unset, .unset, .unset, .unset, .unset]) at_52 rfl rfl ?_
    have Cut85 : ∀ (T_85 : State) (u11 : Int32), On p l e room_1 s m #[(.int x0), (.int x1), (.int x2), (.int x3), (.int x4)] below meth c n0 T_85 h0 0 0 → Go p e below s n0 (room_1).cells (room_1).slots (fun rv hv => rv = some (.int 1)) T_85 (mkF m 85 #[.val (.int x0), .val (.int x1), .val (.int x2), .val (.int x3), .val (.int x4), .val (.int (1 : Int32)), .val (.int (x4 &&& (3 : Int32))), .val (.int (own_f_rm_un x1 (x4 &&& (3 : Int32)))), .val (.int (own_f_rm_un (x1 >>> ((8 : Int32) &&& 31)) (x4 &&& (3 : Int32)))), .val (.int (own_f_rm_un (x1 >>> ((16 : Int32) &&& 31)) (x4 &&& (3 : Int32)))), .val (.int (own_f_rm_un (x1 >>> ((24 : Int32) &&& 31)) (x4 &&& (3 : Int32)))), .val (.int u11), .unset, .unset, .unset, .unset, .unset] []) := by
      intro T_85 u11 X_85
      refine Go.iload C X_85 (pc' := 87) at_85 rfl rfl ?_
      refine Go.callS C X_85 (pc' := 90) (W := 0) (argsL := [(.int (1 : Int32))]) (rest := []) (rm_mk l Z a0 hw (1 : Int32) 2 h0 n0 X_85.sz rfl (by decide) (by decide)) (hw _ (List.mem_of_getElem? (i := 4) rfl)) (hw _ (List.mem_of_getElem? (i := 5) rfl)) (hw _ (List.mem_of_getElem? (i := 2) rfl)) (hw _ (List.mem_of_getElem? (i := 6) rfl)) (by decide) rfl rfl (lenOf own_pd5 rfl) rfl (Nat.le_of_eq rfl) (by decide) (by decide) (by decide) (by decide) at_87 rfl (fun _ _ q => by obtain ⟨_, _, _, K, _⟩ := q; exact K.1) (fun T113 h113 v113 X113 P113 => ?_)
      obtain ⟨t113, rfl, D113_t, K113, O113_0⟩ := P113
      have N_t113 : n0 ≤ t113 := Nat.le_trans X_85.sz D113_t
      show Go p e below s n0 _ _ _ T113 (mkF m 90 #[.val (.int x0), .val (.int x1), .val (.int x2), .val (.int x3), .val (.int x4), .val (.int (1 : Int32)), .val (.int (x4 &&& (3 : Int32))), .val (.int (own_f_rm_un x1 (x4 &&& (3 : Int32)))), .val (.int (own_f_rm_un (x1 >>> ((8 : Int32) &&& 31)) (x4 &&& (3 : Int32)))), .val (.int (own_f_rm_un (x1 >>> ((16 : Int32) &&& 31)) (x4 &&& (3 : Int32)))), .val (.int (own_f_rm_un (x1 >>> ((24 : Int32) &&& 31)) (x4 &&& (3 : Int32)))), .val (.int u11), .unset, .unset, .unset, .unset, .unset] [(.ref t113)])
      refine Go.astore C X113 (pc' := 92) (Ls' := #[.val (.int x0), .val (.int x1), .val (.int x2), .val (.int x3), .val (.int x4), .val (.int (1 : Int32)), .val (.int (x4 &&& (3 : Int32))), .val (.int (own_f_rm_un x1 (x4 &&& (3 : Int32)))), .val (.int (own_f_rm_un (x1 >>> ((8 : Int32) &&& 31)) (x4 &&& (3 : Int32)))), .val (.int (own_f_rm_un (x1 >>> ((16 : Int32) &&& 31)) (x4 &&& (3 : Int32)))), .val (.int (own_f_rm_un (x1 >>> ((24 : Int32) &&& 31)) (x4 &&& (3 : Int32)))), .val (.int u11), .val (.ref t113), .unset, .unset, .unset, .unset]) at_90 rfl rfl rfl ?_
      refine Go.aload C X113 (pc' := 94) at_92 rfl rfl rfl ?_
      refine Go.iconst C X113 (pc' := 95) (v := (0 : Int32)) at_94 rfl rfl ?_
      refine Go.iload C X113 (pc' := 97) at_95 rfl rfl ?_
      refine Go.iastore C X113 (pc' := 98) (i := 0) (x' := (own_f_rm_un x1 (x4 &&& (3 : Int32)))) O113_0 rfl (by decide) rfl N_t113 at_97 rfl (fun T114 h114 X114 W114 A114 => ?_)
      refine Go.iload C X114 (pc' := 100) at_98 rfl rfl ?_
      refine Go.iconst C X114 (pc' := 101) (v := (1 : Int32)) at_100 rfl rfl ?_
      refine Go.icmpYes C X114 (pc' := 110) at_101 (flt (by decide)).2.2.2 (by decide) (by decide) ?_
      refine Go.iload C X114 (pc' := 112) at_110 rfl rfl ?_
      refine Go.iconst C X114 (pc' := 113) (v := (2 : Int32)) at_112 rfl rfl ?_
      refine Go.icmpYes C X114 (pc' := 122) at_113 (flt (by decide)).2.2.2 (by decide) (by decide) ?_
      refine Go.iload C X114 (pc' := 124) at_122 rfl rfl ?_
      refine Go.iconst C X114 (pc' := 125) (v := (3 : Int32)) at_124 rfl rfl ?_
      refine Go.icmpYes C X114 (pc' := 134) at_125 (flt (by decide)).2.2.2 (by decide) (by decide) ?_
      refine Go.iconst C X114 (pc' := 135) (v := (5 : Int32)) at_134 rfl rfl ?_
      refine Go.newP C X114 (pc' := 137) (nn := 5) (cap := 5) (hw _ (List.mem_of_getElem? (i := 7) rfl)) at_135 rfl (by decide) (by decide) (by decide) (by decide) rfl (fun T115 h115 b115 k115 X115 g115 E115 Ar115 N115 => ?_)
      have ne_t113_b115 : t113 ≠ b115 := Nat.ne_of_lt (Nat.lt_of_lt_of_eq A114.lt g115.symm)
      have A116 := A114.ext E115
      have A115 : AI Z h115 b115 .int 5 (fun _ => 0) := AI.new rfl rfl Ar115
      refine Go.astore C X115 (pc' := 139) (Ls' := #[.val (.int x0), .val (.int x1), .val (.int x2), .val (.int x3), .val (.int x4), .val (.int (1 : Int32)), .val (.int (x4 &&& (3 : Int32))), .val (.int (own_f_rm_un x1 (x4 &&& (3 : Int32)))), .val (.int (own_f_rm_un (x1 >>> ((8 : Int32) &&& 31)) (x4 &&& (3 : Int32)))), .val (.int (own_f_rm_un (x1 >>> ((16 : Int32) &&& 31)) (x4 &&& (3 : Int32)))), .val (.int (own_f_rm_un (x1 >>> ((24 : Int32) &&& 31)) (x4 &&& (3 : Int32)))), .val (.int u11), .val (.ref t113), .val (.ref b115), .unset, .unset, .unset]) at_137 rfl rfl rfl ?_
      refine Go.aload C X115 (pc' := 141) at_139 rfl rfl rfl ?_
      refine Go.iconst C X115 (pc' := 142) (v := (0 : Int32)) at_141 rfl rfl ?_
      refine Go.iload C X115 (pc' := 144) at_142 rfl rfl ?_
      refine Go.iastore C X115 (pc' := 145) (i := 0) (x' := (own_f_rm_un x1 (x4 &&& (3 : Int32)))) A115 rfl (by decide) rfl N115 at_144 rfl (fun T117 h117 X117 W117 A117 => ?_)
      have A118 := A116.other W117 ne_t113_b115
      refine Go.aload C X117 (pc' := 147) at_145 rfl rfl rfl ?_
      refine Go.iconst C X117 (pc' := 148) (v := (1 : Int32)) at_147 rfl rfl ?_
      refine Go.iload C X117 (pc' := 150) at_148 rfl rfl ?_
      refine Go.iastore C X117 (pc' := 151) (i := 1) (x' := (own_f_rm_un (x1 >>> ((8 : Int32) &&& 31)) (x4 &&& (3 : Int32)))) A117 rfl (by decide) rfl N115 at_150 rfl (fun T119 h119 X119 W119 A119 => ?_)
      have A120 := A118.other W119 ne_t113_b115
      refine Go.aload C X119 (pc' := 153) at_151 rfl rfl rfl ?_
      refine Go.iconst C X119 (pc' := 154) (v := (2 : Int32)) at_153 rfl rfl ?_
      refine Go.iload C X119 (pc' := 156) at_154 rfl rfl ?_
      refine Go.iastore C X119 (pc' := 157) (i := 2) (x' := (own_f_rm_un (x1 >>> ((16 : Int32) &&& 31)) (x4 &&& (3 : Int32)))) A119 rfl (by decide) rfl N115 at_156 rfl (fun T121 h121 X121 W121 A121 => ?_)
      have A122 := A120.other W121 ne_t113_b115
      refine Go.aload C X121 (pc' := 159) at_157 rfl rfl rfl ?_
      refine Go.iconst C X121 (pc' := 160) (v := (3 : Int32)) at_159 rfl rfl ?_
      refine Go.iload C X121 (pc' := 162) at_160 rfl rfl ?_
      refine Go.iastore C X121 (pc' := 163) (i := 3) (x' := (own_f_rm_un (x1 >>> ((24 : Int32) &&& 31)) (x4 &&& (3 : Int32)))) A121 rfl (by decide) rfl N115 at_162 rfl (fun T123 h123 X123 W123 A123 => ?_)
      have A124 := A122.other W123 ne_t113_b115
      refine Go.aload C X123 (pc' := 165) at_163 rfl rfl rfl ?_
      refine Go.iload C X123 (pc' := 167) at_165 rfl rfl ?_
      refine Go.ldc C X123 (pc' := 169) (hw _ (List.mem_of_getElem? (i := 8) rfl)) at_167 rfl ?_
      refine Go.iastore C X123 (pc' := 170) (i := 1) (x' := (-2147483648 : Int32)) A123 rfl (by decide) rfl N115 at_169 rfl (fun T125 h125 X125 W125 A125 => ?_)
      have A126 := A124.other W125 ne_t113_b115
      refine Go.newO C X125 (pc' := 173) (hw _ (List.mem_of_getElem? (i := 9) rfl)) (hw _ (List.mem_of_getElem? (i := 10) rfl)) (hw _ (List.mem_of_getElem? (i := 11) rfl)) at_170 (by decide) (by decide) rfl (fun T127 h127 b127 X127 g127 E127 Ex127 D127 N127 => ?_)
      have ne_t113_b127 : t113 ≠ b127 := Nat.ne_of_lt (Nat.lt_of_lt_of_eq A126.lt g127.symm)
      have ne_b115_b127 : b115 ≠ b127 := Nat.ne_of_lt (Nat.lt_of_lt_of_eq A125.lt g127.symm)
      have A128 := A126.ext E127
      have A129 := A125.ext E127
      have F130 : Fld Z h127 b127 "com/example/needlewright/needlewright/Automaton" "units" "[I" .null := D127 (Or.inr (hw _ (List.mem_of_getElem? (i := 20) rfl))) (ty := (.array .int)) (by decide)
      have F131 : Fld Z h127 b127 "com/example/needlewright/needlewright/Automaton" "borders" "[I" .null := D127 (Or.inr (hw _ (List.mem_of_getElem? (i := 22) rfl))) (ty := (.array .int)) (by decide)
      refine Go.dup C X127 (pc' := 174) at_173 rfl rfl ?_
      refine Go.aload C X127 (pc' := 176) at_174 rfl rfl rfl ?_
      refine Go.callI C X127 (pc' := 179) (W := 1) (argsL := [(.ref t113)]) (rest := [(.ref b127)]) (a := b127) (rm_au l Z a0 hw b127 t113 2 (fun q => if q = 0 then (own_f_rm_un x1 (x4 &&& (3 : Int32))) else (fun _ => 0) q) (2 : Int32) h127 n0 X127.sz Ex127 F130 F131 N127 N_t113 A128 (Ne.symm ne_t113_b127) rfl (by decide) (by decide)) rfl rfl (hw _ (List.mem_of_getElem? (i := 12) rfl)) (hw _ (List.mem_of_getElem? (i := 13) rfl)) (hw _ (List.mem_of_getElem? (i := 11) rfl)) (hw _ (List.mem_of_getElem? (i := 14) rfl)) (by decide) rfl rfl (lenOf own_pd6 rfl) rfl (Nat.le_of_eq rfl) (by decide) (by decide) (by decide) (by decide) at_176 rfl (fun _ _ q => by obtain ⟨_, _, _, _, K, _⟩ := q; exact K.1) (fun T132 h132 v132 X132 P132 => ?_)
      obtain ⟨t2132, b1132, rfl, D132_t2, K132, O132_0, O132_1, O132_2, O132_3, O132_4, O132_5, O132_6, Y132_0⟩ := P132
      have ne_t113_t2132 : t113 ≠ t2132 := Nat.ne_of_lt (Nat.lt_of_lt_of_le A128.lt D132_t2)
      have ne_b115_t2132 : b115 ≠ t2132 := Nat.ne_of_lt (Nat.lt_of_lt_of_le A129.lt D132_t2)
      have ne_b127_t2132 : b127 ≠ t2132 := Nat.ne_of_lt (Nat.lt_of_lt_of_le Ex127.lt D132_t2)
      have N_t2132 : n0 ≤ t2132 := Nat.le_trans X127.sz D132_t2
      have A133 := A129.keep K132 (ninS ne_b115_b127 (ninS (Ne.symm ne_t113_b115) nin0))
      have E134 := Ex127.keep K132
      show Go p e below s n0 _ _ _ T132 (mkF m 179 #[.val (.int x0), .val (.int x1), .val (.int x2), .val (.int x3), .val (.int x4), .val (.int (1 : Int32)), .val (.int (x4 &&& (3 : Int32))), .val (.int (own_f_rm_un x1 (x4 &&& (3 : Int32)))), .val (.int (own_f_rm_un (x1 >>> ((8 : Int32) &&& 31)) (x4 &&& (3 : Int32)))), .val (.int (own_f_rm_un (x1 >>> ((16 : Int32) &&& 31)) (x4 &&& (3 : Int32)))), .val (.int (own_f_rm_un (x1 >>> ((24 : Int32) &&& 31)) (x4 &&& (3 : Int32)))), .val (.int u11), .val (.ref t113), .val (.ref b115), .unset, .unset, .unset] [(.ref b127)])
      refine Go.astore C X132 (pc' := 181) (Ls' := #[.val (.int x0), .val (.int x1), .val (.int x2), .val (.int x3), .val (.int x4), .val (.int (1 : Int32)), .val (.int (x4 &&& (3 : Int32))), .val (.int (own_f_rm_un x1 (x4 &&& (3 : Int32)))), .val (.int (own_f_rm_un (x1 >>> ((8 : Int32) &&& 31)) (x4 &&& (3 : Int32)))), .val (.int (own_f_rm_un (x1 >>> ((16 : Int32) &&& 31)) (x4 &&& (3 : Int32)))), .val (.int (own_f_rm_un (x1 >>> ((24 : Int32) &&& 31)) (x4 &&& (3 : Int32)))), .val (.int u11), .val (.ref t113), .val (.ref b115), .val (.ref b127), .unset, .unset]) at_179 rfl rfl rfl ?_
      refine Go.iloadN C X132 (pc' := 182) at_181 rfl rfl ?_
      refine Go.ldc C X132 (pc' := 184) (hw _ (List.mem_of_getElem? (i := 32) rfl)) at_182 rfl ?_
      refine Go.iand C X132 (pc' := 185) at_184 rfl ?_
      refine Go.iload C X132 (pc' := 187) at_185 rfl rfl ?_
      refine Go.iconst C X132 (pc' := 188) (v := (1 : Int32)) at_187 rfl rfl ?_
      refine Go.iadd C X132 (pc' := 189) at_188 rfl ?_
      refine Go.irem C X132 (pc' := 190) at_189 (by decide) rfl ?_
      refine Go.istore C X132 (pc' := 192) (Ls' := #[.val (.int x0), .val (.int x1), .val (.int x2), .val (.int x3), .val (.int x4), .val (.int (1 : Int32)), .val (.int (x4 &&& (3 : Int32))), .val (.int (own_f_rm_un x1 (x4 &&& (3 : Int32)))), .val (.int (own_f_rm_un (x1 >>> ((8 : Int32) &&& 31)) (x4 &&& (3 : Int32)))), .val (.int (own_f_rm_un (x1 >>> ((16 : Int32) &&& 31)) (x4 &&& (3 : Int32)))), .val (.int (own_f_rm_un (x1 >>> ((24 : Int32) &&& 31)) (x4 &&& (3 : Int32)))), .val (.int u11), .val (.ref t113), .val (.ref b115), .val (.ref b127), .val (.int ((x2 &&& (2147483647 : Int32)) % ((1 : Int32) + (1 : Int32)))), .unset]) at_190 rfl rfl ?_
      refine Go.aload C X132 (pc' := 194) at_192 rfl rfl rfl ?_
      refine Go.iload C X132 (pc' := 196) at_194 rfl rfl ?_
      refine Go.iload C X132 (pc' := 198) at_196 rfl rfl ?_
      refine Go.callV C X132 (pc' := 201) (W := 0) (argsL := [(.int ((x2 &&& (2147483647 : Int32)) % ((1 : Int32) + (1 : Int32)))), (.int u11)]) (rest := []) (a := b127) (rm_fb l Z a0 hw b127 ((x2 &&& (2147483647 : Int32)) % ((1 : Int32) + (1 : Int32))) u11 t113 t2132 2 (fun q => if q = (2 - 1) then (-2147483648 : Int32) else (fun q => if q = 0 then (own_f_rm_un x1 (x4 &&& (3 : Int32))) else (fun _ => 0) q) q) b1132 (((x2 &&& (2147483647 : Int32)) % ((1 : Int32) + (1 : Int32))).toInt.toNat) h132 n0 X132.sz O132_1 O132_2 O132_3 O132_4 (by decide) (own_st1 x2).1 (by have := (own_st1 x2).2; omega) (fun k a d => Y132_0 k a (by have := (own_st1 x2).2; omega))) O132_0 (notFace_of_selects (args := #[]) (mvT C.2.1 (hw _ (List.mem_of_getElem? (i := 36) rfl)))) (hw _ (List.mem_of_getElem? (i := 33) rfl)) (hw _ (List.mem_of_getElem? (i := 34) rfl)) (hw _ (List.mem_of_getElem? (i := 36) rfl)) (hw _ (List.mem_of_getElem? (i := 35) rfl)) (hw _ (List.mem_of_getElem? (i := 11) rfl)) (hw _ (List.mem_of_getElem? (i := 37) rfl)) (by decide) rfl rfl (lenOf own_pd1 rfl) rfl (Nat.le_of_eq rfl) (by decide) (by decide) (by decide) (by decide) at_198 rfl (fun _ _ q => Nat.le_of_eq (congrArg Array.size q.2)) (fun T135 h135 v135 X135 P135 => ?_)
      obtain ⟨rfl, rfl⟩ := P135
      show Go p e below s n0 _ _ _ T135 (mkF m 201 #[.val (.int x0), .val (.int x1), .val (.int x2), .val (.int x3), .val (.int x4), .val (.int (1 : Int32)), .val (.int (x4 &&& (3 : Int32))), .val (.int (own_f_rm_un x1 (x4 &&& (3 : Int32)))), .val (.int (own_f_rm_un (x1 >>> ((8 : Int32) &&& 31)) (x4 &&& (3 : Int32)))), .val (.int (own_f_rm_un (x1 >>> ((16 : Int32) &&& 31)) (x4 &&& (3 : Int32)))), .val (.int (own_f_rm_un (x1 >>> ((24 : Int32) &&& 31)) (x4 &&& (3 : Int32)))), .val (.int u11), .val (.ref t113), .val (.ref b115), .val (.ref b127), .val (.int ((x2 &&& (2147483647 : Int32)) % ((1 : Int32) + (1 : Int32)))), .unset] [(.int (Int32.ofNat (own_fb (fun q => if q = (2 - 1) then (-2147483648 : Int32) else (fun q => if q = 0 then (own_f_rm_un x1 (x4 &&& (3 : Int32))) else (fun _ => 0) q) q) b1132 u11 ((x2 &&& (2147483647 : Int32)) % ((1 : Int32) + (1 : Int32))).toInt.toNat)))])
      refine Go.istore C X135 (pc' := 203) (Ls' := #[.val (.int x0), .val (.int x1), .val (.int x2), .val (.int x3), .val (.int x4), .val (.int (1 : Int32)), .val (.int (x4 &&& (3 : Int32))), .val (.int (own_f_rm_un x1 (x4 &&& (3 : Int32)))), .val (.int (own_f_rm_un (x1 >>> ((8 : Int32) &&& 31)) (x4 &&& (3 : Int32)))), .val (.int (own_f_rm_un (x1 >>> ((16 : Int32) &&& 31)) (x4 &&& (3 : Int32)))), .val (.int (own_f_rm_un (x1 >>> ((24 : Int32) &&& 31)) (x4 &&& (3 : Int32)))), .val (.int u11), .val (.ref t113), .val (.ref b115), .val (.ref b127), .val (.int ((x2 &&& (2147483647 : Int32)) % ((1 : Int32) + (1 : Int32)))), .val (.int (Int32.ofNat (own_fb (fun q => if q = (2 - 1) then (-2147483648 : Int32) else (fun q => if q = 0 then (own_f_rm_un x1 (x4 &&& (3 : Int32))) else (fun _ => 0) q) q) b1132 u11 ((x2 &&& (2147483647 : Int32)) % ((1 : Int32) + (1 : Int32))).toInt.toNat)))]) at_201 rfl rfl ?_
      refine Go.iload C X135 (pc' := 205) at_203 rfl rfl ?_
      refine Go.aload C X135 (pc' := 207) at_205 rfl rfl rfl ?_
      refine Go.iload C X135 (pc' := 209) at_207 rfl rfl ?_
      refine Go.iload C X135 (pc' := 211) at_209 rfl rfl ?_
      refine Go.callS C X135 (pc' := 214) (W := 1) (argsL := [(.ref b115), (.int ((x2 &&& (2147483647 : Int32)) % ((1 : Int32) + (1 : Int32)))), (.int u11)]) (rest := [(.int (Int32.ofNat (own_fb (fun q => if q = (2 - 1) then (-2147483648 : Int32) else (fun q => if q = 0 then (own_f_rm_un x1 (x4 &&& (3 : Int32))) else (fun _ => 0) q) q) b1132 u11 ((x2 &&& (2147483647 : Int32)) % ((1 : Int32) + (1 : Int32))).toInt.toNat)))]) (rm_ex l Z a0 hw b115 ((x2 &&& (2147483647 : Int32)) % ((1 : Int32) + (1 : Int32))) u11 (fun q => if q = 1 then (-2147483648 : Int32) else (fun q => if q = 3 then (own_f_rm_un (x1 >>> ((24 : Int32) &&& 31)) (x4 &&& (3 : Int32))) else (fun q => if q = 2 then (own_f_rm_un (x1 >>> ((16 : Int32) &&& 31)) (x4 &&& (3 : Int32))) else (fun q => if q = 1 then (own_f_rm_un (x1 >>> ((8 : Int32) &&& 31)) (x4 &&& (3 : Int32))) else (fun q => if q = 0 then (own_f_rm_un x1 (x4 &&& (3 : Int32))) else (fun _ => 0) q) q) q) q) q) (((x2 &&& (2147483647 : Int32)) % ((1 : Int32) + (1 : Int32))).toInt.toNat) h132 n0 X135.sz A133 (own_st1 x2).1 (by have := (own_st1 x2).2; omega)) (hw _ (List.mem_of_getElem? (i := 38) rfl)) (hw _ (List.mem_of_getElem? (i := 39) rfl)) (hw _ (List.mem_of_getElem? (i := 2) rfl)) (hw _ (List.mem_of_getElem? (i := 40) rfl)) (by decide) rfl rfl (lenOf own_pd7 rfl) rfl (Nat.le_of_eq rfl) (by decide) (by decide) (by decide) (by decide) at_211 rfl (fun _ _ q => Nat.le_of_eq (congrArg Array.size q.2)) (fun T136 h136 v136 X136 P136 => ?_)
      obtain ⟨rfl, rfl⟩ := P136
      show Go p e below s n0 _ _ _ T136 (mkF m 214 #[.val (.int x0), .val (.int x1), .val (.int x2), .val (.int x3), .val (.int x4), .val (.int (1 : Int32)), .val (.int (x4 &&& (3 : Int32))), .val (.int (own_f_rm_un x1 (x4 &&& (3 : Int32)))), .val (.int (own_f_rm_un (x1 >>> ((8 : Int32) &&& 31)) (x4 &&& (3 : Int32)))), .val (.int (own_f_rm_un (x1 >>> ((16 : Int32) &&& 31)) (x4 &&& (3 : Int32)))), .val (.int (own_f_rm_un (x1 >>> ((24 : Int32) &&& 31)) (x4 &&& (3 : Int32)))), .val (.int u11), .val (.ref t113), .val (.ref b115), .val (.ref b127), .val (.int ((x2 &&& (2147483647 : Int32)) % ((1 : Int32) + (1 : Int32)))), .val (.int (Int32.ofNat (own_fb (fun q => if q = (2 - 1) then (-2147483648 : Int32) else (fun q => if q = 0 then (own_f_rm_un x1 (x4 &&& (3 : Int32))) else (fun _ => 0) q) q) b1132 u11 ((x2 &&& (2147483647 : Int32)) % ((1 : Int32) + (1 : Int32))).toInt.toNat)))] [(.int (own_ex (fun q => if q = 1 then (-2147483648 : Int32) else (fun q => if q = 3 then (own_f_rm_un (x1 >>> ((24 : Int32) &&& 31)) (x4 &&& (3 : Int32))) else (fun q => if q = 2 then (own_f_rm_un (x1 >>> ((16 : Int32) &&& 31)) (x4 &&& (3 : Int32))) else (fun q => if q = 1 then (own_f_rm_un (x1 >>> ((8 : Int32) &&& 31)) (x4 &&& (3 : Int32))) else (fun q => if q = 0 then (own_f_rm_un x1 (x4 &&& (3 : Int32))) else (fun _ => 0) q) q) q) q) q) ((x2 &&& (2147483647 : Int32)) % ((1 : Int32) + (1 : Int32))).toInt.toNat u11)), (.int (Int32.ofNat (own_fb (fun q => if q = (2 - 1) then (-2147483648 : Int32) else (fun q => if q = 0 then (own_f_rm_un x1 (x4 &&& (3 : Int32))) else (fun _ => 0) q) q) b1132 u11 ((x2 &&& (2147483647 : Int32)) % ((1 : Int32) + (1 : Int32))).toInt.toNat)))])
      refine Go.icmpNo C X136 (pc' := 217) at_214 (teq (own_key (n := 1) (by decide) (own_st1 x2).2 (own_ag1 _ _ _ _) (own_fb_spec (fun k a d => Y132_0 k a (by have := (own_st1 x2).2; omega))))).2 rfl ?_
      refine Go.iconst C X136 (pc' := 218) (v := (1 : Int32)) at_217 rfl rfl ?_
      refine Go.goto C X136 (pc' := 222) at_218 (by decide) (by decide) ?_
      exact Go.retZ (t := .boolean) C X136 (z' := (1 : Int32)) (by decide) at_222 rfl (by decide) (by decide)
    refine Go.iload C X112 (pc' := 56) at_54 rfl rfl ?_
    refine Go.iconst C X112 (pc' := 57) (v := (4 : Int32)) at_56 rfl rfl ?_
    refine Go.iand C X112 (pc' := 58) at_57 rfl ?_
    by_cases c137 : (x4 &&& (4 : Int32)) = (0 : Int32)
    · refine Go.ifYes C X112 (pc' := 77) at_58 ((if0 _ _).trans (teq c137).1) (by decide) (by decide) ?_
      refine Go.iloadN C X112 (pc' := 78) at_77 rfl rfl ?_
      refine Go.iload C X112 (pc' := 80) at_78 rfl rfl ?_
      refine Go.callS C X112 (pc' := 83) (W := 0) (argsL := [(.int x3), (.int (x4 &&& (3 : Int32)))]) (rest := []) (rm_un l Z a0 hw x3 (x4 &&& (3 : Int32)) h0 n0 X112.sz ) (hw _ (List.mem_of_getElem? (i := 0) rfl)) (hw _ (List.mem_of_getElem? (i := 1) rfl)) (hw _ (List.mem_of_getElem? (i := 2) rfl)) (hw _ (List.mem_of_getElem? (i := 3) rfl)) (by decide) rfl rfl (lenOf own_pd1 rfl) rfl (Nat.le_of_eq rfl) (by decide) (by decide) (by decide) (by decide) at_80 rfl (fun _ _ q => Nat.le_of_eq (congrArg Array.size q.2)) (fun T138 h138 v138 X138 P138 => ?_)
      obtain ⟨rfl, rfl⟩ := P138
      show Go p e below s n0 _ _ _ T138 (mkF m 83 #[.val (.int x0), .val (.int x1), .val (.int x2), .val (.int x3), .val (.int x4), .val (.int (1 : Int32)), .val (.int (x4 &&& (3 : Int32))), .val (.int (own_f_rm_un x1 (x4 &&& (3 : Int32)))), .val (.int (own_f_rm_un (x1 >>> ((8 : Int32) &&& 31)) (x4 &&& (3 : Int32)))), .val (.int (own_f_rm_un (x1 >>> ((16 : Int32) &&& 31)) (x4 &&& (3 : Int32)))), .val (.int (own_f_rm_un (x1 >>> ((24 : Int32) &&& 31)) (x4 &&& (3 : Int32)))), .unset, .unset, .unset, .unset, .unset, .unset] [(.int (own_f_rm_un x3 (x4 &&& (3 : Int32))))])
      refine Go.istore C X138 (pc' := 85) (Ls' := #[.val (.int x0), .val (.int x1), .val (.int x2), .val (.int x3), .val (.int x4), .val (.int (1 : Int32)), .val (.int (x4 &&& (3 : Int32))), .val (.int (own_f_rm_un x1 (x4 &&& (3 : Int32)))), .val (.int (own_f_rm_un (x1 >>> ((8 : Int32) &&& 31)) (x4 &&& (3 : Int32)))), .val (.int (own_f_rm_un (x1 >>> ((16 : Int32) &&& 31)) (x4 &&& (3 : Int32)))), .val (.int (own_f_rm_un (x1 >>> ((24 : Int32) &&& 31)) (x4 &&& (3 : Int32)))), .val (.int (own_f_rm_un x3 (x4 &&& (3 : Int32)))), .unset, .unset, .unset, .unset, .unset]) at_83 rfl rfl ?_
      exact Cut85 T138 (own_f_rm_un x3 (x4 &&& (3 : Int32))) X138
    · refine Go.ifNo C X112 (pc' := 61) at_58 ((if0 _ _).trans (feq c137).1) rfl ?_
      refine Go.iloadN C X112 (pc' := 62) at_61 rfl rfl ?_
      refine Go.ldc C X112 (pc' := 64) (hw _ (List.mem_of_getElem? (i := 8) rfl)) at_62 rfl ?_
      by_cases c139 : x3 = (-2147483648 : Int32)
      · refine Go.icmpNo C X112 (pc' := 67) at_64 (teq c139).2 rfl ?_
        refine Go.iconst C X112 (pc' := 68) (v := (0 : Int32)) at_67 rfl rfl ?_
        refine Go.goto C X112 (pc' := 72) at_68 (by decide) (by decide) ?_
        refine Go.istore C X112 (pc' := 74) (Ls' := #[.val (.int x0), .val (.int x1), .val (.int x2), .val (.int x3), .val (.int x4), .val (.int (1 : Int32)), .val (.int (x4 &&& (3 : Int32))), .val (.int (own_f_rm_un x1 (x4 &&& (3 : Int32)))), .val (.int (own_f_rm_un (x1 >>> ((8 : Int32) &&& 31)) (x4 &&& (3 : Int32)))), .val (.int (own_f_rm_un (x1 >>> ((16 : Int32) &&& 31)) (x4 &&& (3 : Int32)))), .val (.int (own_f_rm_un (x1 >>> ((24 : Int32) &&& 31)) (x4 &&& (3 : Int32)))), .val (.int (0 : Int32)), .unset, .unset, .unset, .unset, .unset]) at_72 rfl rfl ?_
        refine Go.goto C X112 (pc' := 85) at_74 (by decide) (by decide) ?_
        exact Cut85 T112 (0 : Int32) X112
      · refine Go.icmpYes C X112 (pc' := 71) at_64 (feq c139).2 (by decide) (by decide) ?_
        refine Go.iloadN C X112 (pc' := 72) at_71 rfl rfl ?_
        refine Go.istore C X112 (pc' := 74) (Ls' := #[.val (.int x0), .val (.int x1), .val (.int x2), .val (.int x3), .val (.int x4), .val (.int (1 : Int32)), .val (.int (x4 &&& (3 : Int32))), .val (.int (own_f_rm_un x1 (x4 &&& (3 : Int32)))), .val (.int (own_f_rm_un (x1 >>> ((8 : Int32) &&& 31)) (x4 &&& (3 : Int32)))), .val (.int (own_f_rm_un (x1 >>> ((16 : Int32) &&& 31)) (x4 &&& (3 : Int32)))), .val (.int (own_f_rm_un (x1 >>> ((24 : Int32) &&& 31)) (x4 &&& (3 : Int32)))), .val (.int x3), .unset, .unset, .unset, .unset, .unset]) at_72 rfl rfl ?_
        refine Go.goto C X112 (pc' := 85) at_74 (by decide) (by decide) ?_
        exact Cut85 T112 x3 X112
  · rw [q108]
    refine Go.iload C X0 (pc' := 9) at_7 rfl rfl ?_
    refine Go.iconst C X0 (pc' := 10) (v := (3 : Int32)) at_9 rfl rfl ?_
    refine Go.iand C X0 (pc' := 11) at_10 rfl ?_
    refine Go.istore C X0 (pc' := 13) (Ls' := #[.val (.int x0), .val (.int x1), .val (.int x2), .val (.int x3), .val (.int x4), .val (.int (2 : Int32)), .val (.int (x4 &&& (3 : Int32))), .unset, .unset, .unset, .unset, .unset, .unset, .unset, .unset, .unset, .unset]) at_11 rfl rfl ?_
    refine Go.iloadN C X0 (pc' := 14) at_13 rfl rfl ?_
    refine Go.iload C X0 (pc' := 16) at_14 rfl rfl ?_
    refine Go.callS C X0 (pc' := 19) (W := 0) (argsL := [(.int x1), (.int (x4 &&& (3 : Int32)))]) (rest := []) (rm_un l Z a0 hw x1 (x4 &&& (3 : Int32)) h0 n0 X0.sz ) (hw _ (List.mem_of_getElem? (i := 0) rfl)) (hw _ (List.mem_of_getElem? (i := 1) rfl)) (hw _ (List.mem_of_getElem? (i := 2) rfl)) (hw _ (List.mem_of_getElem? (i := 3) rfl)) (by decide) rfl rfl (lenOf own_pd1 rfl) rfl (Nat.le_of_eq rfl) (by decide) (by decide) (by decide) (by decide) at_16 rfl (fun _ _ q => Nat.le_of_eq (congrArg Array.size q.2)) (fun T140 h140 v140 X140 P140 => ?_)
    obtain ⟨rfl, rfl⟩ := P140
    show Go p e below s n0 _ _ _ T140 (mkF m 19 #[.val (.int x0), .val (.int x1), .val (.int x2), .val (.int x3), .val (.int x4), .val (.int (2 : Int32)), .val (.int (x4 &&& (3 : Int32))), .unset, .unset, .unset, .unset, .unset, .unset, .unset, .unset, .unset, .unset] [(.int (own_f_rm_un x1 (x4 &&& (3 : Int32))))])
    refine Go.istore C X140 (pc' := 21) (Ls' := #[.val (.int x0), .val (.int x1), .val (.int x2), .val (.int x3), .val (.int x4), .val (.int (2 : Int32)), .val (.int (x4 &&& (3 : Int32))), .val (.int (own_f_rm_un x1 (x4 &&& (3 : Int32)))), .unset, .unset, .unset, .unset, .unset, .unset, .unset, .unset, .unset]) at_19 rfl rfl ?_
    refine Go.iloadN C X140 (pc' := 22) at_21 rfl rfl ?_
    refine Go.bipush C X140 (pc' := 24) (v := (8 : Int32)) at_22 rfl rfl ?_
    refine Go.ishr C X140 (pc' := 25) at_24 rfl ?_
    refine Go.iload C X140 (pc' := 27) at_25 rfl rfl ?_
    refine Go.callS C X140 (pc' := 30) (W := 0) (argsL := [(.int (x1 >>> ((8 : Int32) &&& 31))), (.int (x4 &&& (3 : Int32)))]) (rest := []) (rm_un l Z a0 hw (x1 >>> ((8 : Int32) &&& 31)) (x4 &&& (3 : Int32)) h0 n0 X140.sz ) (hw _ (List.mem_of_getElem? (i := 0) rfl)) (hw _ (List.mem_of_getElem? (i := 1) rfl)) (hw _ (List.mem_of_getElem? (i := 2) rfl)) (hw _ (List.mem_of_getElem? (i := 3) rfl)) (by decide) rfl rfl (lenOf own_pd1 rfl) rfl (Nat.le_of_eq rfl) (by decide) (by decide) (by decide) (by decide) at_27 rfl (fun _ _ q => Nat.le_of_eq (congrArg Array.size q.2)) (fun T141 h141 v141 X141 P141 => ?_)
    obtain ⟨rfl, rfl⟩ := P141
    show Go p e below s n0 _ _ _ T141 (mkF m 30 #[.val (.int x0), .val (.int x1), .val (.int x2), .val (.int x3), .val (.int x4), .val (.int (2 : Int32)), .val (.int (x4 &&& (3 : Int32))), .val (.int (own_f_rm_un x1 (x4 &&& (3 : Int32)))), .unset, .unset, .unset, .unset, .unset, .unset, .unset, .unset, .unset] [(.int (own_f_rm_un (x1 >>> ((8 : Int32) &&& 31)) (x4 &&& (3 : Int32))))])
    refine Go.istore C X141 (pc' := 32) (Ls' := #[.val (.int x0), .val (.int x1), .val (.int x2), .val (.int x3), .val (.int x4), .val (.int (2 : Int32)), .val (.int (x4 &&& (3 : Int32))), .val (.int (own_f_rm_un x1 (x4 &&& (3 : Int32)))), .val (.int (own_f_rm_un (x1 >>> ((8 : Int32) &&& 31)) (x4 &&& (3 : Int32)))), .unset, .unset, .unset, .unset, .unset, .unset, .unset, .unset]) at_30 rfl rfl ?_
    refine Go.iloadN C X141 (pc' := 33) at_32 rfl rfl ?_
    refine Go.bipush C X141 (pc' := 35) (v := (16 : Int32)) at_33 rfl rfl ?_
    refine Go.ishr C X141 (pc' := 36) at_35 rfl ?_
    refine Go.iload C X141 (pc' := 38) at_36 rfl rfl ?_
    refine Go.callS C X141 (pc' := 41) (W := 0) (argsL := [(.int (x1 >>> ((16 : Int32) &&& 31))), (.int (x4 &&& (3 : Int32)))]) (rest := []) (rm_un l Z a0 hw (x1 >>> ((16 : Int32) &&& 31)) (x4 &&& (3 : Int32)) h0 n0 X141.sz ) (hw _ (List.mem_of_getElem? (i := 0) rfl)) (hw _ (List.mem_of_getElem? (i := 1) rfl)) (hw _ (List.mem_of_getElem? (i := 2) rfl)) (hw _ (List.mem_of_getElem? (i := 3) rfl)) (by decide) rfl rfl (lenOf own_pd1 rfl) rfl (Nat.le_of_eq rfl) (by decide) (by decide) (by decide) (by decide) at_38 rfl (fun _ _ q => Nat.le_of_eq (congrArg Array.size q.2)) (fun T142 h142 v142 X142 P142 => ?_)
    obtain ⟨rfl, rfl⟩ := P142
    show Go p e below s n0 _ _ _ T142 (mkF m 41 #[.val (.int x0), .val (.int x1), .val (.int x2), .val (.int x3), .val (.int x4), .val (.int (2 : Int32)), .val (.int (x4 &&& (3 : Int32))), .val (.int (own_f_rm_un x1 (x4 &&& (3 : Int32)))), .val (.int (own_f_rm_un (x1 >>> ((8 : Int32) &&& 31)) (x4 &&& (3 : Int32)))), .unset, .unset, .unset, .unset, .unset, .unset, .unset, .unset] [(.int (own_f_rm_un (x1 >>> ((16 : Int32) &&& 31)) (x4 &&& (3 : Int32))))])
    refine Go.istore C X142 (pc' := 43) (Ls' := #[.val (.int x0), .val (.int x1), .val (.int x2), .val (.int x3), .val (.int x4), .val (.int (2 : Int32)), .val (.int (x4 &&& (3 : Int32))), .val (.int (own_f_rm_un x1 (x4 &&& (3 : Int32)))), .val (.int (own_f_rm_un (x1 >>> ((8 : Int32) &&& 31)) (x4 &&& (3 : Int32)))), .val (.int (own_f_rm_un (x1 >>> ((16 : Int32) &&& 31)) (x4 &&& (3 : Int32)))), .unset, .unset, .unset, .unset, .unset, .unset, .unset]) at_41 rfl rfl ?_
    refine Go.iloadN C X142 (pc' := 44) at_43 rfl rfl ?_
    refine Go.bipush C X142 (pc' := 46) (v := (24 : Int32)) at_44 rfl rfl ?_
    refine Go.ishr C X142 (pc' := 47) at_46 rfl ?_
    refine Go.iload C X142 (pc' := 49) at_47 rfl rfl ?_
    refine Go.callS C X142 (pc' := 52) (W := 0) (argsL := [(.int (x1 >>> ((24 : Int32) &&& 31))), (.int (x4 &&& (3 : Int32)))]) (rest := []) (rm_un l Z a0 hw (x1 >>> ((24 : Int32) &&& 31)) (x4 &&& (3 : Int32)) h0 n0 X142.sz ) (hw _ (List.mem_of_getElem? (i := 0) rfl)) (hw _ (List.mem_of_getElem? (i := 1) rfl)) (hw _ (List.mem_of_getElem? (i := 2) rfl)) (hw _ (List.mem_of_getElem? (i := 3) rfl)) (by decide) rfl rfl (lenOf own_pd1 rfl) rfl (Nat.le_of_eq rfl) (by decide) (by decide) (by decide) (by decide) at_49 rfl (fun _ _ q => Nat.le_of_eq (congrArg Array.size q.2)) (fun T143 h143 v143 X143 P143 => ?_)
    obtain ⟨rfl, rfl⟩ := P143
    show Go p e below s n0 _ _ _ T143 (mkF m 52 #[.val (.int x0), .val (.int x1), .val (.int x2), .val (.int x3), .val (.int x4), .val (.int (2 : Int32)), .val (.int (x4 &&& (3 : Int32))), .val (.int (own_f_rm_un x1 (x4 &&& (3 : Int32)))), .val (.int (own_f_rm_un (x1 >>> ((8 : Int32) &&& 31)) (x4 &&& (3 : Int32)))), .val (.int (own_f_rm_un (x1 >>> ((16 : Int32) &&& 31)) (x4 &&& (3 : Int32)))), .unset, .unset, .unset, .unset, .unset, .unset, .unset] [(.int (own_f_rm_un (x1 >>> ((24 : Int32) &&& 31)) (x4 &&& (3 : Int32))))])
    refine Go.istore C X143 (pc' := 54) (Ls' := #[.val (.int x0), .val (.int x1), .val (.int x2), .val (.int x3), .val (.int x4), .val (.int (2 : Int32)), .val (.int (x4 &&& (3 : Int32))), .val (.int (own_f_rm_un x1 (x4 &&& (3 : Int32)))), .val (.int (own_f_rm_un (x1 >>> ((8 : Int32) &&& 31)) (x4 &&& (3 : Int32)))), .val (.int (own_f_rm_un (x1 >>> ((16 : Int32) &&& 31)) (x4 &&& (3 : Int32)))), .val (.int (own_f_rm_un (x1 >>> ((24 : Int32) &&& 31)) (x4 &&& (3 : Int32)))), .unset, .unset, .unset, .unset, .unset, .unset]) at_52 rfl rfl ?_
    have Cut85 : ∀ (T_85 : State) (u11 : Int32), On p l e room_1 s m #[(.int x0), (.int x1), (.int x2), (.int x3), (.int x4)] below meth c n0 T_85 h0 0 0 → Go p e below s n0 (room_1).cells (room_1).slots (fun rv hv => rv = some (.int 1)) T_85 (mkF m 85 #[.val (.int x0), .val (.int x1), .val (.int x2), .val (.int x3), .val (.int x4), .val (.int (2 : Int32)), .val (.int (x4 &&& (3 : Int32))), .val (.int (own_f_rm_un x1 (x4 &&& (3 : Int32)))), .val (.int (own_f_rm_un (x1 >>> ((8 : Int32) &&& 31)) (x4 &&& (3 : Int32)))), .val (.int (own_f_rm_un (x1 >>> ((16 : Int32) &&& 31)) (x4 &&& (3 : Int32)))), .val (.int (own_f_rm_un (x1 >>> ((24 : Int32) &&& 31)) (x4 &&& (3 : Int32)))), .val (.int u11), .unset, .unset, .unset, .unset, .unset] []) := by
      intro T_85 u11 X_85
      refine Go.iload C X_85 (pc' := 87) at_85 rfl rfl ?_
      refine Go.callS C X_85 (pc' := 90) (W := 0) (argsL := [(.int (2 : Int32))]) (rest := []) (rm_mk l Z a0 hw (2 : Int32) 3 h0 n0 X_85.sz rfl (by decide) (by decide)) (hw _ (List.mem_of_getElem? (i := 4) rfl)) (hw _ (List.mem_of_getElem? (i := 5) rfl)) (hw _ (List.mem_of_getElem? (i := 2) rfl)) (hw _ (List.mem_of_getElem? (i := 6) rfl)) (by decide) rfl rfl (lenOf own_pd5 rfl) rfl (Nat.le_of_eq rfl) (by decide) (by decide) (by decide) (by decide) at_87 rfl (fun _ _ q => by obtain ⟨_, _, _, K, _⟩ := q; exact K.1) (fun T144 h144 v144 X144 P144 => ?_)
      obtain ⟨t144, rfl, D144_t, K144, O144_0⟩ := P144
      have N_t144 : n0 ≤ t144 := Nat.le_trans X_85.sz D144_t
      show Go p e below s n0 _ _ _ T144 (mkF m 90 #[.val (.int x0), .val (.int x1), .val (.int x2), .val (.int x3), .val (.int x4), .val (.int (2 : Int32)), .val (.int (x4 &&& (3 : Int32))), .val (.int (own_f_rm_un x1 (x4 &&& (3 : Int32)))), .val (.int (own_f_rm_un (x1 >>> ((8 : Int32) &&& 31)) (x4 &&& (3 : Int32)))), .val (.int (own_f_rm_un (x1 >>> ((16 : Int32) &&& 31)) (x4 &&& (3 : Int32)))), .val (.int (own_f_rm_un (x1 >>> ((24 : Int32) &&& 31)) (x4 &&& (3 : Int32)))), .val (.int u11), .unset, .unset, .unset, .unset, .unset] [(.ref t144)])
      refine Go.astore C X144 (pc' := 92) (Ls' := #[.val (.int x0), .val (.int x1), .val (.int x2), .val (.int x3), .val (.int x4), .val (.int (2 : Int32)), .val (.int (x4 &&& (3 : Int32))), .val (.int (own_f_rm_un x1 (x4 &&& (3 : Int32)))), .val (.int (own_f_rm_un (x1 >>> ((8 : Int32) &&& 31)) (x4 &&& (3 : Int32)))), .val (.int (own_f_rm_un (x1 >>> ((16 : Int32) &&& 31)) (x4 &&& (3 : Int32)))), .val (.int (own_f_rm_un (x1 >>> ((24 : Int32) &&& 31)) (x4 &&& (3 : Int32)))), .val (.int u11), .val (.ref t144), .unset, .unset, .unset, .unset]) at_90 rfl rfl rfl ?_
      refine Go.aload C X144 (pc' := 94) at_92 rfl rfl rfl ?_
      refine Go.iconst C X144 (pc' := 95) (v := (0 : Int32)) at_94 rfl rfl ?_
      refine Go.iload C X144 (pc' := 97) at_95 rfl rfl ?_
      refine Go.iastore C X144 (pc' := 98) (i := 0) (x' := (own_f_rm_un x1 (x4 &&& (3 : Int32)))) O144_0 rfl (by decide) rfl N_t144 at_97 rfl (fun T145 h145 X145 W145 A145 => ?_)
      refine Go.iload C X145 (pc' := 100) at_98 rfl rfl ?_
      refine Go.iconst C X145 (pc' := 101) (v := (1 : Int32)) at_100 rfl rfl ?_
      refine Go.icmpNo C X145 (pc' := 104) at_101 (tlt (by decide)).2.2.2 rfl ?_
      refine Go.aload C X145 (pc' := 106) at_104 rfl rfl rfl ?_
      refine Go.iconst C X145 (pc' := 107) (v := (1 : Int32)) at_106 rfl rfl ?_
      refine Go.iload C X145 (pc' := 109) at_107 rfl rfl ?_
      refine Go.iastore C X145 (pc' := 110) (i := 1) (x' := (own_f_rm_un (x1 >>> ((8 : Int32) &&& 31)) (x4 &&& (3 : Int32)))) A145 rfl (by decide) rfl N_t144 at_109 rfl (fun T146 h146 X146 W146 A146 => ?_)
      refine Go.iload C X146 (pc' := 112) at_110 rfl rfl ?_
      refine Go.iconst C X146 (pc' := 113) (v := (2 : Int32)) at_112 rfl rfl ?_
      refine Go.icmpYes C X146 (pc' := 122) at_113 (flt (by decide)).2.2.2 (by decide) (by decide) ?_
      refine Go.iload C X146 (pc' := 124) at_122 rfl rfl ?_
      refine Go.iconst C X146 (pc' := 125) (v := (3 : Int32)) at_124 rfl rfl ?_
      refine Go.icmpYes C X146 (pc' := 134) at_125 (flt (by decide)).2.2.2 (by decide) (by decide) ?_
      refine Go.iconst C X146 (pc' := 135) (v := (5 : Int32)) at_134 rfl rfl ?_
      refine Go.newP C X146 (pc' := 137) (nn := 5) (cap := 5) (hw _ (List.mem_of_getElem? (i := 7) rfl)) at_135 rfl (by decide) (by decide) (by decide) (by decide) rfl (fun T147 h147 b147 k147 X147 g147 E147 Ar147 N147 => ?_)
      have ne_t144_b147 : t144 ≠ b147 := Nat.ne_of_lt (Nat.lt_of_lt_of_eq A146.lt g147.symm)
      have A148 := A146.ext E147
      have A147 : AI Z h147 b147 .int 5 (fun _ => 0) := AI.new rfl rfl Ar147
      refine Go.astore C X147 (pc' := 139) (Ls' := #[.val (.int x0), .val (.int x1), .val (.int x2), .val (.int x3), .val (.int x4), .val (.int (2 : Int32)), .val (.int (x4 &&& (3 : Int32))), .val (.int (own_f_rm_un x1 (x4 &&& (3 : Int32)))), .val (.int (own_f_rm_un (x1 >>> ((8 : Int32) &&& 31)) (x4 &&& (3 : Int32)))), .val (.int (own_f_rm_un (x1 >>> ((16 : Int32) &&& 31)) (x4 &&& (3 : Int32)))), .val (.int (own_f_rm_un (x1 >>> ((24 : Int32) &&& 31)) (x4 &&& (3 : Int32)))), .val (.int u11), .val (.ref t144), .val (.ref b147), .unset, .unset, .unset]) at_137 rfl rfl rfl ?_
      refine Go.aload C X147 (pc' := 141) at_139 rfl rfl rfl ?_
      refine Go.iconst C X147 (pc' := 142) (v := (0 : Int32)) at_141 rfl rfl ?_
      refine Go.iload C X147 (pc' := 144) at_142 rfl rfl ?_
      refine Go.iastore C X147 (pc' := 145) (i := 0) (x' := (own_f_rm_un x1 (x4 &&& (3 : Int32)))) A147 rfl (by decide) rfl N147 at_144 rfl (fun T149 h149 X149 W149 A149 => ?_)
      have A150 := A148.other W149 ne_t144_b147
      refine Go.aload C X149 (pc' := 147) at_145 rfl rfl rfl ?_
      refine Go.iconst C X149 (pc' := 148) (v := (1 : Int32)) at_147 rfl rfl ?_
      refine Go.iload C X149 (pc' := 150) at_148 rfl rfl ?_
      refine Go.iastore C X149 (pc' := 151) (i := 1) (x' := (own_f_rm_un (x1 >>> ((8 : Int32) &&& 31)) (x4 &&& (3 : Int32)))) A149 rfl (by decide) rfl N147 at_150 rfl (fun T151 h151 X151 W151 A151 => ?_)
      have A152 := A150.other W151 ne_t144_b147
      refine Go.aload C X151 (pc' := 153) at_151 rfl rfl rfl ?_
      refine Go.iconst C X151 (pc' := 154) (v := (2 : Int32)) at_153 rfl rfl ?_
      refine Go.iload C X151 (pc' := 156) at_154 rfl rfl ?_
      refine Go.iastore C X151 (pc' := 157) (i := 2) (x' := (own_f_rm_un (x1 >>> ((16 : Int32) &&& 31)) (x4 &&& (3 : Int32)))) A151 rfl (by decide) rfl N147 at_156 rfl (fun T153 h153 X153 W153 A153 => ?_)
      have A154 := A152.other W153 ne_t144_b147
      refine Go.aload C X153 (pc' := 159) at_157 rfl rfl rfl ?_
      refine Go.iconst C X153 (pc' := 160) (v := (3 : Int32)) at_159 rfl rfl ?_
      refine Go.iload C X153 (pc' := 162) at_160 rfl rfl ?_
      refine Go.iastore C X153 (pc' := 163) (i := 3) (x' := (own_f_rm_un (x1 >>> ((24 : Int32) &&& 31)) (x4 &&& (3 : Int32)))) A153 rfl (by decide) rfl N147 at_162 rfl (fun T155 h155 X155 W155 A155 => ?_)
      have A156 := A154.other W155 ne_t144_b147
      refine Go.aload C X155 (pc' := 165) at_163 rfl rfl rfl ?_
      refine Go.iload C X155 (pc' := 167) at_165 rfl rfl ?_
      refine Go.ldc C X155 (pc' := 169) (hw _ (List.mem_of_getElem? (i := 8) rfl)) at_167 rfl ?_
      refine Go.iastore C X155 (pc' := 170) (i := 2) (x' := (-2147483648 : Int32)) A155 rfl (by decide) rfl N147 at_169 rfl (fun T157 h157 X157 W157 A157 => ?_)
      have A158 := A156.other W157 ne_t144_b147
      refine Go.newO C X157 (pc' := 173) (hw _ (List.mem_of_getElem? (i := 9) rfl)) (hw _ (List.mem_of_getElem? (i := 10) rfl)) (hw _ (List.mem_of_getElem? (i := 11) rfl)) at_170 (by decide) (by decide) rfl (fun T159 h159 b159 X159 g159 E159 Ex159 D159 N159 => ?_)
      have ne_t144_b159 : t144 ≠ b159 := Nat.ne_of_lt (Nat.lt_of_lt_of_eq A158.lt g159.symm)
      have ne_b147_b159 : b147 ≠ b159 := Nat.ne_of_lt (Nat.lt_of_lt_of_eq A157.lt g159.symm)
      have A160 := A158.ext E159
      have A161 := A157.ext E159
      have F162 : Fld Z h159 b159 "com/example/needlewright/needlewright/Automaton" "units" "[I" .null := D159 (Or.inr (hw _ (List.mem_of_getElem? (i := 20) rfl))) (ty := (.array .int)) (by decide)
      have F163 : Fld Z h159 b159 "com/example/needlewright/needlewright/Automaton" "borders" "[I" .null := D159 (Or.inr (hw _ (List.mem_of_getElem? (i := 22) rfl))) (ty := (.array .int)) (by decide)
      refine Go.dup C X159 (pc' := 174) at_173 rfl rfl ?_
      refine Go.aload C X159 (pc' := 176) at_174 rfl rfl rfl ?_
      refine Go.callI C X159 (pc' := 179) (W := 1) (argsL := [(.ref t144)]) (rest := [(.ref b159)]) (a := b159) (rm_au l Z a0 hw b159 t144 3 (fun q => if q = 1 then (own_f_rm_un (x1 >>> ((8 : Int32) &&& 31)) (x4 &&& (3 : Int32))) else (fun q => if q = 0 then (own_f_rm_un x1 (x4 &&& (3 : Int32))) else (fun _ => 0) q) q) (3 : Int32) h159 n0 X159.sz Ex159 F162 F163 N159 N_t144 A160 (Ne.symm ne_t144_b159) rfl (by decide) (by decide)) rfl rfl (hw _ (List.mem_of_getElem? (i := 12) rfl)) (hw _ (List.mem_of_getElem? (i := 13) rfl)) (hw _ (List.mem_of_getElem? (i := 11) rfl)) (hw _ (List.mem_of_getElem? (i := 14) rfl)) (by decide) rfl rfl (lenOf own_pd6 rfl) rfl (Nat.le_of_eq rfl) (by decide) (by decide) (by decide) (by decide) at_176 rfl (fun _ _ q => by obtain ⟨_, _, _, _, K, _⟩ := q; exact K.1) (fun T164 h164 v164 X164 P164 => ?_)
      obtain ⟨t2164, b1164, rfl, D164_t2, K164, O164_0, O164_1, O164_2, O164_3, O164_4, O164_5, O164_6, Y164_0⟩ := P164
      have ne_t144_t2164 : t144 ≠ t2164 := Nat.ne_of_lt (Nat.lt_of_lt_of_le A160.lt D164_t2)
      have ne_b147_t2164 : b147 ≠ t2164 := Nat.ne_of_lt (Nat.lt_of_lt_of_le A161.lt D164_t2)
      have ne_b159_t2164 : b159 ≠ t2164 := Nat.ne_of_lt (Nat.lt_of_lt_of_le Ex159.lt D164_t2)
      have N_t2164 : n0 ≤ t2164 := Nat.le_trans X159.sz D164_t2
      have A165 := A161.keep K164 (ninS ne_b147_b159 (ninS (Ne.symm ne_t144_b147) nin0))
      have E166 := Ex159.keep K164
      show Go p e below s n0 _ _ _ T164 (mkF m 179 #[.val (.int x0), .val (.int x1), .val (.int x2), .val (.int x3), .val (.int x4), .val (.int (2 : Int32)), .val (.int (x4 &&& (3 : Int32))), .val (.int (own_f_rm_un x1 (x4 &&& (3 : Int32)))), .val (.int (own_f_rm_un (x1 >>> ((8 : Int32) &&& 31)) (x4 &&& (3 : Int32)))), .val (.int (own_f_rm_un (x1 >>> ((16 : Int32) &&& 31)) (x4 &&& (3 : Int32)))), .val (.int (own_f_rm_un (x1 >>> ((24 : Int32) &&& 31)) (x4 &&& (3 : Int32)))), .val (.int u11), .val (.ref t144), .val (.ref b147), .unset, .unset, .unset] [(.ref b159)])
      refine Go.astore C X164 (pc' := 181) (Ls' := #[.val (.int x0), .val (.int x1), .val (.int x2), .val (.int x3), .val (.int x4), .val (.int (2 : Int32)), .val (.int (x4 &&& (3 : Int32))), .val (.int (own_f_rm_un x1 (x4 &&& (3 : Int32)))), .val (.int (own_f_rm_un (x1 >>> ((8 : Int32) &&& 31)) (x4 &&& (3 : Int32)))), .val (.int (own_f_rm_un (x1 >>> ((16 : Int32) &&& 31)) (x4 &&& (3 : Int32)))), .val (.int (own_f_rm_un (x1 >>> ((24 : Int32) &&& 31)) (x4 &&& (3 : Int32)))), .val (.int u11), .val (.ref t144), .val (.ref b147), .val (.ref b159), .unset, .unset]) at_179 rfl rfl rfl ?_
      refine Go.iloadN C X164 (pc' := 182) at_181 rfl rfl ?_
      refine Go.ldc C X164 (pc' := 184) (hw _ (List.mem_of_getElem? (i := 32) rfl)) at_182 rfl ?_
      refine Go.iand C X164 (pc' := 185) at_184 rfl ?_
      refine Go.iload C X164 (pc' := 187) at_185 rfl rfl ?_
      refine Go.iconst C X164 (pc' := 188) (v := (1 : Int32)) at_187 rfl rfl ?_
      refine Go.iadd C X164 (pc' := 189) at_188 rfl ?_
      refine Go.irem C X164 (pc' := 190) at_189 (by decide) rfl ?_
      refine Go.istore C X164 (pc' := 192) (Ls' := #[.val (.int x0), .val (.int x1), .val (.int x2), .val (.int x3), .val (.int x4), .val (.int (2 : Int32)), .val (.int (x4 &&& (3 : Int32))), .val (.int (own_f_rm_un x1 (x4 &&& (3 : Int32)))), .val (.int (own_f_rm_un (x1 >>> ((8 : Int32) &&& 31)) (x4 &&& (3 : Int32)))), .val (.int (own_f_rm_un (x1 >>> ((16 : Int32) &&& 31)) (x4 &&& (3 : Int32)))), .val (.int (own_f_rm_un (x1 >>> ((24 : Int32) &&& 31)) (x4 &&& (3 : Int32)))), .val (.int u11), .val (.ref t144), .val (.ref b147), .val (.ref b159), .val (.int ((x2 &&& (2147483647 : Int32)) % ((2 : Int32) + (1 : Int32)))), .unset]) at_190 rfl rfl ?_
      refine Go.aload C X164 (pc' := 194) at_192 rfl rfl rfl ?_
      refine Go.iload C X164 (pc' := 196) at_194 rfl rfl ?_
      refine Go.iload C X164 (pc' := 198) at_196 rfl rfl ?_
      refine Go.callV C X164 (pc' := 201) (W := 0) (argsL := [(.int ((x2 &&& (2147483647 : Int32)) % ((2 : Int32) + (1 : Int32)))), (.int u11)]) (rest := []) (a := b159) (rm_fb l Z a0 hw b159 ((x2 &&& (2147483647 : Int32)) % ((2 : Int32) + (1 : Int32))) u11 t144 t2164 3 (fun q => if q = (3 - 1) then (-2147483648 : Int32) else (fun q => if q = 1 then (own_f_rm_un (x1 >>> ((8 : Int32) &&& 31)) (x4 &&& (3 : Int32))) else (fun q => if q = 0 then (own_f_rm_un x1 (x4 &&& (3 : Int32))) else (fun _ => 0) q) q) q) b1164 (((x2 &&& (2147483647 : Int32)) % ((2 : Int32) + (1 : Int32))).toInt.toNat) h164 n0 X164.sz O164_1 O164_2 O164_3 O164_4 (by decide) (own_st2 x2).1 (by have := (own_st2 x2).2; omega) (fun k a d => Y164_0 k a (by have := (own_st2 x2).2; omega))) O164_0 (notFace_of_selects (args := #[]) (mvT C.2.1 (hw _ (List.mem_of_getElem? (i := 36) rfl)))) (hw _ (List.mem_of_getElem? (i := 33) rfl)) (hw _ (List.mem_of_getElem? (i := 34) rfl)) (hw _ (List.mem_of_getElem? (i := 36) rfl)) (hw _ (List.mem_of_getElem? (i := 35) rfl)) (hw _ (List.mem_of_getElem? (i := 11) rfl)) (hw _ (List.mem_of_getElem? (i := 37) rfl)) (by decide) rfl rfl (lenOf own_pd1 rfl) rfl (Nat.le_of_eq rfl) (by decide) (by decide) (by decide) (by decide) at_198 rfl (fun _ _ q => Nat.le_of_eq (congrArg Array.size q.2)) (fun T167 h167 v167 X167 P167 => ?_)
      obtain ⟨rfl, rfl⟩ := P167
      show Go p e below s n0 _ _ _ T167 (mkF m 201 #[.val (.int x0), .val (.int x1), .val (.int x2), .val (.int x3), .val (.int x4), .val (.int (2 : Int32)), .val (.int (x4 &&& (3 : Int32))), .val (.int (own_f_rm_un x1 (x4 &&& (3 : Int32)))), .val (.int (own_f_rm_un (x1 >>> ((8 : Int32) &&& 31)) (x4 &&& (3 : Int32)))), .val (.int (own_f_rm_un (x1 >>> ((16 : Int32) &&& 31)) (x4 &&& (3 : Int32)))), .val (.int (own_f_rm_un (x1 >>> ((24 : Int32) &&& 31)) (x4 &&& (3 : Int32)))), .val (.int u11), .val (.ref t144), .val (.ref b147), .val (.ref b159), .val (.int ((x2 &&& (2147483647 : Int32)) % ((2 : Int32) + (1 : Int32)))), .unset] [(.int (Int32.ofNat (own_fb (fun q => if q = (3 - 1) then (-2147483648 : Int32) else (fun q => if q = 1 then (own_f_rm_un (x1 >>> ((8 : Int32) &&& 31)) (x4 &&& (3 : Int32))) else (fun q => if q = 0 then (own_f_rm_un x1 (x4 &&& (3 : Int32))) else (fun _ => 0) q) q) q) b1164 u11 ((x2 &&& (2147483647 : Int32)) % ((2 : Int32) + (1 : Int32))).toInt.toNat)))])
      refine Go.istore C X167 (pc' := 203) (Ls' := #[.val (.int x0), .val (.int x1), .val (.int x2), .val (.int x3), .val (.int x4), .val (.int (2 : Int32)), .val (.int (x4 &&& (3 : Int32))), .val (.int (own_f_rm_un x1 (x4 &&& (3 : Int32)))), .val (.int (own_f_rm_un (x1 >>> ((8 : Int32) &&& 31)) (x4 &&& (3 : Int32)))), .val (.int (own_f_rm_un (x1 >>> ((16 : Int32) &&& 31)) (x4 &&& (3 : Int32)))), .val (.int (own_f_rm_un (x1 >>> ((24 : Int32) &&& 31)) (x4 &&& (3 : Int32)))), .val (.int u11), .val (.ref t144), .val (.ref b147), .val (.ref b159), .val (.int ((x2 &&& (2147483647 : Int32)) % ((2 : Int32) + (1 : Int32)))), .val (.int (Int32.ofNat (own_fb (fun q => if q = (3 - 1) then (-2147483648 : Int32) else (fun q => if q = 1 then (own_f_rm_un (x1 >>> ((8 : Int32) &&& 31)) (x4 &&& (3 : Int32))) else (fun q => if q = 0 then (own_f_rm_un x1 (x4 &&& (3 : Int32))) else (fun _ => 0) q) q) q) b1164 u11 ((x2 &&& (2147483647 : Int32)) % ((2 : Int32) + (1 : Int32))).toInt.toNat)))]) at_201 rfl rfl ?_
      refine Go.iload C X167 (pc' := 205) at_203 rfl rfl ?_
      refine Go.aload C X167 (pc' := 207) at_205 rfl rfl rfl ?_
      refine Go.iload C X167 (pc' := 209) at_207 rfl rfl ?_
      refine Go.iload C X167 (pc' := 211) at_209 rfl rfl ?_
      refine Go.callS C X167 (pc' := 214) (W := 1) (argsL := [(.ref b147), (.int ((x2 &&& (2147483647 : Int32)) % ((2 : Int32) + (1 : Int32)))), (.int u11)]) (rest := [(.int (Int32.ofNat (own_fb (fun q => if q = (3 - 1) then (-2147483648 : Int32) else (fun q => if q = 1 then (own_f_rm_un (x1 >>> ((8 : Int32) &&& 31)) (x4 &&& (3 : Int32))) else (fun q => if q = 0 then (own_f_rm_un x1 (x4 &&& (3 : Int32))) else (fun _ => 0) q) q) q) b1164 u11 ((x2 &&& (2147483647 : Int32)) % ((2 : Int32) + (1 : Int32))).toInt.toNat)))]) (rm_ex l Z a0 hw b147 ((x2 &&& (2147483647 : Int32)) % ((2 : Int32) + (1 : Int32))) u11 (fun q => if q = 2 then (-2147483648 : Int32) else (fun q => if q = 3 then (own_f_rm_un (x1 >>> ((24 : Int32) &&& 31)) (x4 &&& (3 : Int32))) else (fun q => if q = 2 then (own_f_rm_un (x1 >>> ((16 : Int32) &&& 31)) (x4 &&& (3 : Int32))) else (fun q => if q = 1 then (own_f_rm_un (x1 >>> ((8 : Int32) &&& 31)) (x4 &&& (3 : Int32))) else (fun q => if q = 0 then (own_f_rm_un x1 (x4 &&& (3 : Int32))) else (fun _ => 0) q) q) q) q) q) (((x2 &&& (2147483647 : Int32)) % ((2 : Int32) + (1 : Int32))).toInt.toNat) h164 n0 X167.sz A165 (own_st2 x2).1 (by have := (own_st2 x2).2; omega)) (hw _ (List.mem_of_getElem? (i := 38) rfl)) (hw _ (List.mem_of_getElem? (i := 39) rfl)) (hw _ (List.mem_of_getElem? (i := 2) rfl)) (hw _ (List.mem_of_getElem? (i := 40) rfl)) (by decide) rfl rfl (lenOf own_pd7 rfl) rfl (Nat.le_of_eq rfl) (by decide) (by decide) (by decide) (by decide) at_211 rfl (fun _ _ q => Nat.le_of_eq (congrArg Array.size q.2)) (fun T168 h168 v168 X168 P168 => ?_)
      obtain ⟨rfl, rfl⟩ := P168
      show Go p e below s n0 _ _ _ T168 (mkF m 214 #[.val (.int x0), .val (.int x1), .val (.int x2), .val (.int x3), .val (.int x4), .val (.int (2 : Int32)), .val (.int (x4 &&& (3 : Int32))), .val (.int (own_f_rm_un x1 (x4 &&& (3 : Int32)))), .val (.int (own_f_rm_un (x1 >>> ((8 : Int32) &&& 31)) (x4 &&& (3 : Int32)))), .val (.int (own_f_rm_un (x1 >>> ((16 : Int32) &&& 31)) (x4 &&& (3 : Int32)))), .val (.int (own_f_rm_un (x1 >>> ((24 : Int32) &&& 31)) (x4 &&& (3 : Int32)))), .val (.int u11), .val (.ref t144), .val (.ref b147), .val (.ref b159), .val (.int ((x2 &&& (2147483647 : Int32)) % ((2 : Int32) + (1 : Int32)))), .val (.int (Int32.ofNat (own_fb (fun q => if q = (3 - 1) then (-2147483648 : Int32) else (fun q => if q = 1 then (own_f_rm_un (x1 >>> ((8 : Int32) &&& 31)) (x4 &&& (3 : Int32))) else (fun q => if q = 0 then (own_f_rm_un x1 (x4 &&& (3 : Int32))) else (fun _ => 0) q) q) q) b1164 u11 ((x2 &&& (2147483647 : Int32)) % ((2 : Int32) + (1 : Int32))).toInt.toNat)))] [(.int (own_ex (fun q => if q = 2 then (-2147483648 : Int32) else (fun q => if q = 3 then (own_f_rm_un (x1 >>> ((24 : Int32) &&& 31)) (x4 &&& (3 : Int32))) else (fun q => if q = 2 then (own_f_rm_un (x1 >>> ((16 : Int32) &&& 31)) (x4 &&& (3 : Int32))) else (fun q => if q = 1 then (own_f_rm_un (x1 >>> ((8 : Int32) &&& 31)) (x4 &&& (3 : Int32))) else (fun q => if q = 0 then (own_f_rm_un x1 (x4 &&& (3 : Int32))) else (fun _ => 0) q) q) q) q) q) ((x2 &&& (2147483647 : Int32)) % ((2 : Int32) + (1 : Int32))).toInt.toNat u11)), (.int (Int32.ofNat (own_fb (fun q => if q = (3 - 1) then (-2147483648 : Int32) else (fun q => if q = 1 then (own_f_rm_un (x1 >>> ((8 : Int32) &&& 31)) (x4 &&& (3 : Int32))) else (fun q => if q = 0 then (own_f_rm_un x1 (x4 &&& (3 : Int32))) else (fun _ => 0) q) q) q) b1164 u11 ((x2 &&& (2147483647 : Int32)) % ((2 : Int32) + (1 : Int32))).toInt.toNat)))])
      refine Go.icmpNo C X168 (pc' := 217) at_214 (teq (own_key (n := 2) (by decide) (own_st2 x2).2 (own_ag2 _ _ _ _) (own_fb_spec (fun k a d => Y164_0 k a (by have := (own_st2 x2).2; omega))))).2 rfl ?_
      refine Go.iconst C X168 (pc' := 218) (v := (1 : Int32)) at_217 rfl rfl ?_
      refine Go.goto C X168 (pc' := 222) at_218 (by decide) (by decide) ?_
      exact Go.retZ (t := .boolean) C X168 (z' := (1 : Int32)) (by decide) at_222 rfl (by decide) (by decide)
    refine Go.iload C X143 (pc' := 56) at_54 rfl rfl ?_
    refine Go.iconst C X143 (pc' := 57) (v := (4 : Int32)) at_56 rfl rfl ?_
    refine Go.iand C X143 (pc' := 58) at_57 rfl ?_
    by_cases c169 : (x4 &&& (4 : Int32)) = (0 : Int32)
    · refine Go.ifYes C X143 (pc' := 77) at_58 ((if0 _ _).trans (teq c169).1) (by decide) (by decide) ?_
      refine Go.iloadN C X143 (pc' := 78) at_77 rfl rfl ?_
      refine Go.iload C X143 (pc' := 80) at_78 rfl rfl ?_
      refine Go.callS C X143 (pc' := 83) (W := 0) (argsL := [(.int x3), (.int (x4 &&& (3 : Int32)))]) (rest := []) (rm_un l Z a0 hw x3 (x4 &&& (3 : Int32)) h0 n0 X143.sz ) (hw _ (List.mem_of_getElem? (i := 0) rfl)) (hw _ (List.mem_of_getElem? (i := 1) rfl)) (hw _ (List.mem_of_getElem? (i := 2) rfl)) (hw _ (List.mem_of_getElem? (i := 3) rfl)) (by decide) rfl rfl (lenOf own_pd1 rfl) rfl (Nat.le_of_eq rfl) (by decide) (by decide) (by decide) (by decide) at_80 rfl (fun _ _ q => Nat.le_of_eq (congrArg Array.size q.2)) (fun T170 h170 v170 X170 P170 => ?_)
      obtain ⟨rfl, rfl⟩ := P170
      show Go p e below s n0 _ _ _ T170 (mkF m 83 #[.val (.int x0), .val (.int x1), .val (.int x2), .val (.int x3), .val (.int x4), .val (.int (2 : Int32)), .val (.int (x4 &&& (3 : Int32))), .val (.int (own_f_rm_un x1 (x4 &&& (3 : Int32)))), .val (.int (own_f_rm_un (x1 >>> ((8 : Int32) &&& 31)) (x4 &&& (3 : Int32)))), .val (.int (own_f_rm_un (x1 >>> ((16 : Int32) &&& 31)) (x4 &&& (3 : Int32)))), .val (.int (own_f_rm_un (x1 >>> ((24 : Int32) &&& 31)) (x4 &&& (3 : Int32)))), .unset, .unset, .unset, .unset, .unset, .unset] [(.int (own_f_rm_un x3 (x4 &&& (3 : Int32))))])
      refine Go.istore C X170 (pc' := 85) (Ls' := #[.val (.int x0), .val (.int x1), .val (.int x2), .val (.int x3), .val (.int x4), .val (.int (2 : Int32)), .val (.int (x4 &&& (3 : Int32))), .val (.int (own_f_rm_un x1 (x4 &&& (3 : Int32)))), .val (.int (own_f_rm_un (x1 >>> ((8 : Int32) &&& 31)) (x4 &&& (3 : Int32)))), .val (.int (own_f_rm_un (x1 >>> ((16 : Int32) &&& 31)) (x4 &&& (3 : Int32)))), .val (.int (own_f_rm_un (x1 >>> ((24 : Int32) &&& 31)) (x4 &&& (3 : Int32)))), .val (.int (own_f_rm_un x3 (x4 &&& (3 : Int32)))), .unset, .unset, .unset, .unset, .unset]) at_83 rfl rfl ?_
      exact Cut85 T170 (own_f_rm_un x3 (x4 &&& (3 : Int32))) X170
    · refine Go.ifNo C X143 (pc' := 61) at_58 ((if0 _ _).trans (feq c169).1) rfl ?_
      refine Go.iloadN C X143 (pc' := 62) at_61 rfl rfl ?_
      refine Go.ldc C X143 (pc' := 64) (hw _ (List.mem_of_getElem? (i := 8) rfl)) at_62 rfl ?_
      by_cases c171 : x3 = (-2147483648 : Int32)
      · refine Go.icmpNo C X143 (pc' := 67) at_64 (teq c171).2 rfl ?_
        refine Go.iconst C X143 (pc' := 68) (v := (0 : Int32)) at_67 rfl rfl ?_
        refine Go.goto C X143 (pc' := 72) at_68 (by decide) (by decide) ?_
        refine Go.istore C X143 (pc' := 74) (Ls' := #[.val (.int x0), .val (.int x1), .val (.int x2), .val (.int x3), .val (.int x4), .val (.int (2 : Int32)), .val (.int (x4 &&& (3 : Int32))), .val (.int (own_f_rm_un x1 (x4 &&& (3 : Int32)))), .val (.int (own_f_rm_un (x1 >>> ((8 : Int32) &&& 31)) (x4 &&& (3 : Int32)))), .val (.int (own_f_rm_un (x1 >>> ((16 : Int32) &&& 31)) (x4 &&& (3 : Int32)))), .val (.int (own_f_rm_un (x1 >>> ((24 : Int32) &&& 31)) (x4 &&& (3 : Int32)))), .val (.int (0 : Int32)), .unset, .unset, .unset, .unset, .unset]) at_72 rfl rfl ?_
        refine Go.goto C X143 (pc' := 85) at_74 (by decide) (by decide) ?_
        exact Cut85 T143 (0 : Int32) X143
      · refine Go.icmpYes C X143 (pc' := 71) at_64 (feq c171).2 (by decide) (by decide) ?_
        refine Go.iloadN C X143 (pc' := 72) at_71 rfl rfl ?_
        refine Go.istore C X143 (pc' := 74) (Ls' := #[.val (.int x0), .val (.int x1), .val (.int x2), .val (.int x3), .val (.int x4), .val (.int (2 : Int32)), .val (.int (x4 &&& (3 : Int32))), .val (.int (own_f_rm_un x1 (x4 &&& (3 : Int32)))), .val (.int (own_f_rm_un (x1 >>> ((8 : Int32) &&& 31)) (x4 &&& (3 : Int32)))), .val (.int (own_f_rm_un (x1 >>> ((16 : Int32) &&& 31)) (x4 &&& (3 : Int32)))), .val (.int (own_f_rm_un (x1 >>> ((24 : Int32) &&& 31)) (x4 &&& (3 : Int32)))), .val (.int x3), .unset, .unset, .unset, .unset, .unset]) at_72 rfl rfl ?_
        refine Go.goto C X143 (pc' := 85) at_74 (by decide) (by decide) ?_
        exact Cut85 T143 x3 X143
  · rw [q108]
    refine Go.iload C X0 (pc' := 9) at_7 rfl rfl ?_
    refine Go.iconst C X0 (pc' := 10) (v := (3 : Int32)) at_9 rfl rfl ?_
    refine Go.iand C X0 (pc' := 11) at_10 rfl ?_
    refine Go.istore C X0 (pc' := 13) (Ls' := #[.val (.int x0), .val (.int x1), .val (.int x2), .val (.int x3), .val (.int x4), .val (.int (3 : Int32)), .val (.int (x4 &&& (3 : Int32))), .unset, .unset, .unset, .unset, .unset, .unset, .unset, .unset, .unset, .unset]) at_11 rfl rfl ?_
    refine Go.iloadN C X0 (pc' := 14) at_13 rfl rfl ?_
    refine Go.iload C X0 (pc' := 16) at_14 rfl rfl ?_
    refine Go.callS C X0 (pc' := 19) (W := 0) (argsL := [(.int x1), (.int (x4 &&& (3 : Int32)))]) (rest := []) (rm_un l Z a0 hw x1 (x4 &&& (3 : Int32)) h0 n0 X0.sz ) (hw _ (List.mem_of_getElem? (i := 0) rfl)) (hw _ (List.mem_of_getElem? (i := 1) rfl)) (hw _ (List.mem_of_getElem? (i := 2) rfl)) (hw _ (List.mem_of_getElem? (i := 3) rfl)) (by decide) rfl rfl (lenOf own_pd1 rfl) rfl (Nat.le_of_eq rfl) (by decide) (by decide) (by decide) (by decide) at_16 rfl (fun _ _ q => Nat.le_of_eq (congrArg Array.size q.2)) (fun T172 h172 v172 X172 P172 => ?_)
    obtain ⟨rfl, rfl⟩ := P172
    show Go p e below s n0 _ _ _ T172 (mkF m 19 #[.val (.int x0), .val (.int x1), .val (.int x2), .val (.int x3), .val (.int x4), .val (.int (3 : Int32)), .val (.int (x4 &&& (3 : Int32))), .unset, .unset, .unset, .unset, .unset, .unset, .unset, .unset, .unset, .unset] [(.int (own_f_rm_un x1 (x4 &&& (3 : Int32))))])
    refine Go.istore C X172 (pc' := 21) (Ls' := #[.val (.int x0), .val (.int x1), .val (.int x2), .val (.int x3), .val (.int x4), .val (.int (3 : Int32)), .val (.int (x4 &&& (3 : Int32))), .val (.int (own_f_rm_un x1 (x4 &&& (3 : Int32)))), .unset, .unset, .unset, .unset, .unset, .unset, .unset, .unset, .unset]) at_19 rfl rfl ?_
    refine Go.iloadN C X172 (pc' := 22) at_21 rfl rfl ?_
    refine Go.bipush C X172 (pc' := 24) (v := (8 : Int32)) at_22 rfl rfl ?_
    refine Go.ishr C X172 (pc' := 25) at_24 rfl ?_
    refine Go.iload C X172 (pc' := 27) at_25 rfl rfl ?_
    refine Go.callS C X172 (pc' := 30) (W := 0) (argsL := [(.int (x1 >>> ((8 : Int32) &&& 31))), (.int (x4 &&& (3 : Int32)))]) (rest := []) (rm_un l Z a0 hw (x1 >>> ((8 : Int32) &&& 31)) (x4 &&& (3 : Int32)) h0 n0 X172.sz ) (hw _ (List.mem_of_getElem? (i := 0) rfl)) (hw _ (List.mem_of_getElem? (i := 1) rfl)) (hw _ (List.mem_of_getElem? (i := 2) rfl)) (hw _ (List.mem_of_getElem? (i := 3) rfl)) (by decide) rfl rfl (lenOf own_pd1 rfl) rfl (Nat.le_of_eq rfl) (by decide) (by decide) (by decide) (by decide) at_27 rfl (fun _ _ q => Nat.le_of_eq (congrArg Array.size q.2)) (fun T173 h173 v173 X173 P173 => ?_)
    obtain ⟨rfl, rfl⟩ := P173
    show Go p e below s n0 _ _ _ T173 (mkF m 30 #[.val (.int x0), .val (.int x1), .val (.int x2), .val (.int x3), .val (.int x4), .val (.int (3 : Int32)), .val (.int (x4 &&& (3 : Int32))), .val (.int (own_f_rm_un x1 (x4 &&& (3 : Int32)))), .unset, .unset, .unset, .unset, .unset, .unset, .unset, .unset, .unset] [(.int (own_f_rm_un (x1 >>> ((8 : Int32) &&& 31)) (x4 &&& (3 : Int32))))])
    refine Go.istore C X173 (pc' := 32) (Ls' := #[.val (.int x0), .val (.int x1), .val (.int x2), .val (.int x3), .val (.int x4), .val (.int (3 : Int32)), .val (.int (x4 &&& (3 : Int32))), .val (.int (own_f_rm_un x1 (x4 &&& (3 : Int32)))), .val (.int (own_f_rm_un (x1 >>> ((8 : Int32) &&& 31)) (x4 &&& (3 : Int32)))), .unset, .unset, .unset, .unset, .unset, .unset, .unset, .unset]) at_30 rfl rfl ?_
    refine Go.iloadN C X173 (pc' := 33) at_32 rfl rfl ?_
    refine Go.bipush C X173 (pc' := 35) (v := (16 : Int32)) at_33 rfl rfl ?_
    refine Go.ishr C X173 (pc' := 36) at_35 rfl ?_
    refine Go.iload C X173 (pc' := 38) at_36 rfl rfl ?_
    refine Go.callS C X173 (pc' := 41) (W := 0) (argsL := [(.int (x1 >>> ((16 : Int32) &&& 31))), (.int (x4 &&& (3 : Int32)))]) (rest := []) (rm_un l Z a0 hw (x1 >>> ((16 : Int32) &&& 31)) (x4 &&& (3 : Int32)) h0 n0 X173.sz ) (hw _ (List.mem_of_getElem? (i := 0) rfl)) (hw _ (List.mem_of_getElem? (i := 1) rfl)) (hw _ (List.mem_of_getElem? (i := 2) rfl)) (hw _ (List.mem_of_getElem? (i := 3) rfl)) (by decide) rfl rfl (lenOf own_pd1 rfl) rfl (Nat.le_of_eq rfl) (by decide) (by decide) (by decide) (by decide) at_38 rfl (fun _ _ q => Nat.le_of_eq (congrArg Array.size q.2)) (fun T174 h174 v174 X174 P174 => ?_)
    obtain ⟨rfl, rfl⟩ := P174
    show Go p e below s n0 _ _ _ T174 (mkF m 41 #[.val (.int x0), .val (.int x1), .val (.int x2), .val (.int x3), .val (.int x4), .val (.int (3 : Int32)), .val (.int (x4 &&& (3 : Int32))), .val (.int (own_f_rm_un x1 (x4 &&& (3 : Int32)))), .val (.int (own_f_rm_un (x1 >>> ((8 : Int32) &&& 31)) (x4 &&& (3 : Int32)))), .unset, .unset, .unset, .unset, .unset, .unset, .unset, .unset] [(.int (own_f_rm_un (x1 >>> ((16 : Int32) &&& 31)) (x4 &&& (3 : Int32))))])
    refine Go.istore C X174 (pc' := 43) (Ls' := #[.val (.int x0), .val (.int x1), .val (.int x2), .val (.int x3), .val (.int x4), .val (.int (3 : Int32)), .val (.int (x4 &&& (3 : Int32))), .val (.int (own_f_rm_un x1 (x4 &&& (3 : Int32)))), .val (.int (own_f_rm_un (x1 >>> ((8 : Int32) &&& 31)) (x4 &&& (3 : Int32)))), .val (.int (own_f_rm_un (x1 >>> ((16 : Int32) &&& 31)) (x4 &&& (3 : Int32)))), .unset, .unset, .unset, .unset, .unset, .unset, .unset]) at_41 rfl rfl ?_
    refine Go.iloadN C X174 (pc' := 44) at_43 rfl rfl ?_
    refine Go.bipush C X174 (pc' := 46) (v := (24 : Int32)) at_44 rfl rfl ?_
    refine Go.ishr C X174 (pc' := 47) at_46 rfl ?_
    refine Go.iload C X174 (pc' := 49) at_47 rfl rfl ?_
    refine Go.callS C X174 (pc' := 52) (W := 0) (argsL := [(.int (x1 >>> ((24 : Int32) &&& 31))), (.int (x4 &&& (3 : Int32)))]) (rest := []) (rm_un l Z a0 hw (x1 >>> ((24 : Int32) &&& 31)) (x4 &&& (3 : Int32)) h0 n0 X174.sz ) (hw _ (List.mem_of_getElem? (i := 0) rfl)) (hw _ (List.mem_of_getElem? (i := 1) rfl)) (hw _ (List.mem_of_getElem? (i := 2) rfl)) (hw _ (List.mem_of_getElem? (i := 3) rfl)) (by decide) rfl rfl (lenOf own_pd1 rfl) rfl (Nat.le_of_eq rfl) (by decide) (by decide) (by decide) (by decide) at_49 rfl (fun _ _ q => Nat.le_of_eq (congrArg Array.size q.2)) (fun T175 h175 v175 X175 P175 => ?_)
    obtain ⟨rfl, rfl⟩ := P175
    show Go p e below s n0 _ _ _ T175 (mkF m 52 #[.val (.int x0), .val (.int x1), .val (.int x2), .val (.int x3), .val (.int x4), .val (.int (3 : Int32)), .val (.int (x4 &&& (3 : Int32))), .val (.int (own_f_rm_un x1 (x4 &&& (3 : Int32)))), .val (.int (own_f_rm_un (x1 >>> ((8 : Int32) &&& 31)) (x4 &&& (3 : Int32)))), .val (.int (own_f_rm_un (x1 >>> ((16 : Int32) &&& 31)) (x4 &&& (3 : Int32)))), .unset, .unset, .unset, .unset, .unset, .unset, .unset] [(.int (own_f_rm_un (x1 >>> ((24 : Int32) &&& 31)) (x4 &&& (3 : Int32))))])
    refine Go.istore C X175 (pc' := 54) (Ls' := #[.val (.int x0), .val (.int x1), .val (.int x2), .val (.int x3), .val (.int x4), .val (.int (3 : Int32)), .val (.int (x4 &&& (3 : Int32))), .val (.int (own_f_rm_un x1 (x4 &&& (3 : Int32)))), .val (.int (own_f_rm_un (x1 >>> ((8 : Int32) &&& 31)) (x4 &&& (3 : Int32)))), .val (.int (own_f_rm_un (x1 >>> ((16 : Int32) &&& 31)) (x4 &&& (3 : Int32)))), .val (.int (own_f_rm_un (x1 >>> ((24 : Int32) &&& 31)) (x4 &&& (3 : Int32)))), .unset, .unset, .unset, .unset, .unset, .unset]) at_52 rfl rfl ?_
    have Cut85 : ∀ (T_85 : State) (u11 : Int32), On p l e room_1 s m #[(.int x0), (.int x1), (.int x2), (.int x3), (.int x4)] below meth c n0 T_85 h0 0 0 → Go p e below s n0 (room_1).cells (room_1).slots (fun rv hv => rv = some (.int 1)) T_85 (mkF m 85 #[.val (.int x0), .val (.int x1), .val (.int x2), .val (.int x3), .val (.int x4), .val (.int (3 : Int32)), .val (.int (x4 &&& (3 : Int32))), .val (.int (own_f_rm_un x1 (x4 &&& (3 : Int32)))), .val (.int (own_f_rm_un (x1 >>> ((8 : Int32) &&& 31)) (x4 &&& (3 : Int32)))), .val (.int (own_f_rm_un (x1 >>> ((16 : Int32) &&& 31)) (x4 &&& (3 : Int32)))), .val (.int (own_f_rm_un (x1 >>> ((24 : Int32) &&& 31)) (x4 &&& (3 : Int32)))), .val (.int u11), .unset, .unset, .unset, .unset, .unset] []) := by
      intro T_85 u11 X_85
      refine Go.iload C X_85 (pc' := 87) at_85 rfl rfl ?_
      refine Go.callS C X_85 (pc' := 90) (W := 0) (argsL := [(.int (3 : Int32))]) (rest := []) (rm_mk l Z a0 hw (3 : Int32) 4 h0 n0 X_85.sz rfl (by decide) (by decide)) (hw _ (List.mem_of_getElem? (i := 4) rfl)) (hw _ (List.mem_of_getElem? (i := 5) rfl)) (hw _ (List.mem_of_getElem? (i := 2) rfl)) (hw _ (List.mem_of_getElem? (i := 6) rfl)) (by decide) rfl rfl (lenOf own_pd5 rfl) rfl (Nat.le_of_eq rfl) (by decide) (by decide) (by decide) (by decide) at_87 rfl (fun _ _ q => by obtain ⟨_, _, _, K, _⟩ := q; exact K.1) (fun T176 h176 v176 X176 P176 => ?_)
      obtain ⟨t176, rfl, D176_t, K176, O176_0⟩ := P176
      have N_t176 : n0 ≤ t176 := Nat.le_trans X_85.sz D176_t
      show Go p e below s n0 _ _ _ T176 (mkF m 90 #[.val (.int x0), .val (.int x1), .val (.int x2), .val (.int x3), .val (.int x4), .val (.int (3 : Int32)), .val (.int (x4 &&& (3 : Int32))), .val (.int (own_f_rm_un x1 (x4 &&& (3 : Int32)))), .val (.int (own_f_rm_un (x1 >>> ((8 : Int32) &&& 31)) (x4 &&& (3 : Int32)))), .val (.int (own_f_rm_un (x1 >>> ((16 : Int32) &&& 31)) (x4 &&& (3 : Int32)))), .val (.int (own_f_rm_un (x1 >>> ((24 : Int32) &&& 31)) (x4 &&& (3 : Int32)))), .val (.int u11), .unset, .unset, .unset, .unset, .unset] [(.ref t176)])
      refine Go.astore C X176 (pc' := 92) (Ls' := #[.val (.int x0), .val (.int x1), .val (.int x2), .val (.int x3), .val (.int x4), .val (.int (3 : Int32)), .val (.int (x4 &&& (3 : Int32))), .val (.int (own_f_rm_un x1 (x4 &&& (3 : Int32)))), .val (.int (own_f_rm_un (x1 >>> ((8 : Int32) &&& 31)) (x4 &&& (3 : Int32)))), .val (.int (own_f_rm_un (x1 >>> ((16 : Int32) &&& 31)) (x4 &&& (3 : Int32)))), .val (.int (own_f_rm_un (x1 >>> ((24 : Int32) &&& 31)) (x4 &&& (3 : Int32)))), .val (.int u11), .val (.ref t176), .unset, .unset, .unset, .unset]) at_90 rfl rfl rfl ?_
      refine Go.aload C X176 (pc' := 94) at_92 rfl rfl rfl ?_
      refine Go.iconst C X176 (pc' := 95) (v := (0 : Int32)) at_94 rfl rfl ?_
      refine Go.iload C X176 (pc' := 97) at_95 rfl rfl ?_
      refine Go.iastore C X176 (pc' := 98) (i := 0) (x' := (own_f_rm_un x1 (x4 &&& (3 : Int32)))) O176_0 rfl (by decide) rfl N_t176 at_97 rfl (fun T177 h177 X177 W177 A177 => ?_)
      refine Go.iload C X177 (pc' := 100) at_98 rfl rfl ?_
      refine Go.iconst C X177 (pc' := 101) (v := (1 : Int32)) at_100 rfl rfl ?_
      refine Go.icmpNo C X177 (pc' := 104) at_101 (tlt (by decide)).2.2.2 rfl ?_
      refine Go.aload C X177 (pc' := 106) at_104 rfl rfl rfl ?_
      refine Go.iconst C X177 (pc' := 107) (v := (1 : Int32)) at_106 rfl rfl ?_
      refine Go.iload C X177 (pc' := 109) at_107 rfl rfl ?_
      refine Go.iastore C X177 (pc' := 110) (i := 1) (x' := (own_f_rm_un (x1 >>> ((8 : Int32) &&& 31)) (x4 &&& (3 : Int32)))) A177 rfl (by decide) rfl N_t176 at_109 rfl (fun T178 h178 X178 W178 A178 => ?_)
      refine Go.iload C X178 (pc' := 112) at_110 rfl rfl ?_
      refine Go.iconst C X178 (pc' := 113) (v := (2 : Int32)) at_112 rfl rfl ?_
      refine Go.icmpNo C X178 (pc' := 116) at_113 (tlt (by decide)).2.2.2 rfl ?_
      refine Go.aload C X178 (pc' := 118) at_116 rfl rfl rfl ?_
      refine Go.iconst C X178 (pc' := 119) (v := (2 : Int32)) at_118 rfl rfl ?_
      refine Go.iload C X178 (pc' := 121) at_119 rfl rfl ?_
      refine Go.iastore C X178 (pc' := 122) (i := 2) (x' := (own_f_rm_un (x1 >>> ((16 : Int32) &&& 31)) (x4 &&& (3 : Int32)))) A178 rfl (by decide) rfl N_t176 at_121 rfl (fun T179 h179 X179 W179 A179 => ?_)
      refine Go.iload C X179 (pc' := 124) at_122 rfl rfl ?_
      refine Go.iconst C X179 (pc' := 125) (v := (3 : Int32)) at_124 rfl rfl ?_
      refine Go.icmpYes C X179 (pc' := 134) at_125 (flt (by decide)).2.2.2 (by decide) (by decide) ?_
      refine Go.iconst C X179 (pc' := 135) (v := (5 : Int32)) at_134 rfl rfl ?_
      refine Go.newP C X179 (pc' := 137) (nn := 5) (cap := 5) (hw _ (List.mem_of_getElem? (i := 7) rfl)) at_135 rfl (by decide) (by decide) (by decide) (by decide) rfl (fun T180 h180 b180 k180 X180 g180 E180 Ar180 N180 => ?_)
      have ne_t176_b180 : t176 ≠ b180 := Nat.ne_of_lt (Nat.lt_of_lt_of_eq A179.lt g180.symm)
      have A181 := A179.ext E180
      have A180 : AI Z h180 b180 .int 5 (fun _ => 0) := AI.new rfl rfl Ar180
      refine Go.astore C X180 (pc' := 139) (Ls' := #[.val (.int x0), .val (.int x1), .val (.int x2), .val (.int x3), .val (.int x4), .val (.int (3 : Int32)), .val (.int (x4 &&& (3 : Int32))), .val (.int (own_f_rm_un x1 (x4 &&& (3 : Int32)))), .val (.int (own_f_rm_un (x1 >>> ((8 : Int32) &&& 31)) (x4 &&& (3 : Int32)))), .val (.int (own_f_rm_un (x1 >>> ((16 : Int32) &&& 31)) (x4 &&& (3 : Int32)))), .val (.int (own_f_rm_un (x1 >>> ((24 : Int32) &&& 31)) (x4 &&& (3 : Int32)))), .val (.int u11), .val (.ref t176), .val (.ref b180), .unset, .unset, .unset]) at_137 rfl rfl rfl ?_
      refine Go.aload C X180 (pc' := 141) at_139 rfl rfl rfl ?_
      refine Go.iconst C X180 (pc' := 142) (v := (0 : Int32)) at_141 rfl rfl ?_
      refine Go.iload C X180 (pc' := 144) at_142 rfl rfl ?_
      refine Go.iastore C X180 (pc' := 145) (i := 0) (x' := (own_f_rm_un x1 (x4 &&& (3 : Int32)))) A180 rfl (by decide) rfl N180 at_144 rfl (fun T182 h182 X182 W182 A182 => ?_)
      have A183 := A181.other W182 ne_t176_b180
      refine Go.aload C X182 (pc' := 147) at_145 rfl rfl rfl ?_
      refine Go.iconst C X182 (pc' := 148) (v := (1 : Int32)) at_147 rfl rfl ?_
      refine Go.iload C X182 (pc' := 150) at_148 rfl rfl ?_
      refine Go.iastore C X182 (pc' := 151) (i := 1) (x' := (own_f_rm_un (x1 >>> ((8 : Int32) &&& 31)) (x4 &&& (3 : Int32)))) A182 rfl (by decide) rfl N180 at_150 rfl (fun T184 h184 X184 W184 A184 => ?_)
      have A185 := A183.other W184 ne_t176_b180
      refine Go.aload C X184 (pc' := 153) at_151 rfl rfl rfl ?_
      refine Go.iconst C X184 (pc' := 154) (v := (2 : Int32)) at_153 rfl rfl ?_
      refine Go.iload C X184 (pc' := 156) at_154 rfl rfl ?_
      refine Go.iastore C X184 (pc' := 157) (i := 2) (x' := (own_f_rm_un (x1 >>> ((16 : Int32) &&& 31)) (x4 &&& (3 : Int32)))) A184 rfl (by decide) rfl N180 at_156 rfl (fun T186 h186 X186 W186 A186 => ?_)
      have A187 := A185.other W186 ne_t176_b180
      refine Go.aload C X186 (pc' := 159) at_157 rfl rfl rfl ?_
      refine Go.iconst C X186 (pc' := 160) (v := (3 : Int32)) at_159 rfl rfl ?_
      refine Go.iload C X186 (pc' := 162) at_160 rfl rfl ?_
      refine Go.iastore C X186 (pc' := 163) (i := 3) (x' := (own_f_rm_un (x1 >>> ((24 : Int32) &&& 31)) (x4 &&& (3 : Int32)))) A186 rfl (by decide) rfl N180 at_162 rfl (fun T188 h188 X188 W188 A188 => ?_)
      have A189 := A187.other W188 ne_t176_b180
      refine Go.aload C X188 (pc' := 165) at_163 rfl rfl rfl ?_
      refine Go.iload C X188 (pc' := 167) at_165 rfl rfl ?_
      refine Go.ldc C X188 (pc' := 169) (hw _ (List.mem_of_getElem? (i := 8) rfl)) at_167 rfl ?_
      refine Go.iastore C X188 (pc' := 170) (i := 3) (x' := (-2147483648 : Int32)) A188 rfl (by decide) rfl N180 at_169 rfl (fun T190 h190 X190 W190 A190 => ?_)
      have A191 := A189.other W190 ne_t176_b180
      refine Go.newO C X190 (pc' := 173) (hw _ (List.mem_of_getElem? (i := 9) rfl)) (hw _ (List.mem_of_getElem? (i := 10) rfl)) (hw _ (List.mem_of_getElem? (i := 11) rfl)) at_170 (by decide) (by decide) rfl (fun T192 h192 b192 X192 g192 E192 Ex192 D192 N192 => ?_)
      have ne_t176_b192 : t176 ≠ b192 := Nat.ne_of_lt (Nat.lt_of_lt_of_eq A191.lt g192.symm)
      have ne_b180_b192 : b180 ≠ b192 := Nat.ne_of_lt (Nat.lt_of_lt_of_eq A190.lt g192.symm)
      have A193 := A191.ext E192
      have A194 := A190.ext E192
      have F195 : Fld Z h192 b192 "com/example/needlewright/needlewright/Automaton" "units" "[I" .null := D192 (Or.inr (hw _ (List.mem_of_getElem? (i := 20) rfl))) (ty := (.array .int)) (by decide)
      have F196 : Fld Z h192 b192 "com/example/needlewright/needlewright/Automaton" "borders" "[I" .null := D192 (Or.inr (hw _ (List.mem_of_getElem? (i := 22) rfl))) (ty := (.array .int)) (by decide)
      refine Go.dup C X192 (pc' := 174) at_173 rfl rfl ?_
      refine Go.aload C X192 (pc' := 176) at_174 rfl rfl rfl ?_
      refine Go.callI C X192 (pc' := 179) (W := 1) (argsL := [(.ref t176)]) (rest := [(.ref b192)]) (a := b192) (rm_au l Z a0 hw b192 t176 4 (fun q => if q = 2 then (own_f_rm_un (x1 >>> ((16 : Int32) &&& 31)) (x4 &&& (3 : Int32))) else (fun q => if q = 1 then (own_f_rm_un (x1 >>> ((8 : Int32) &&& 31)) (x4 &&& (3 : Int32))) else (fun q => if q = 0 then (own_f_rm_un x1 (x4 &&& (3 : Int32))) else (fun _ => 0) q) q) q) (4 : Int32) h192 n0 X192.sz Ex192 F195 F196 N192 N_t176 A193 (Ne.symm ne_t176_b192) rfl (by decide) (by decide)) rfl rfl (hw _ (List.mem_of_getElem? (i := 12) rfl)) (hw _ (List.mem_of_getElem? (i := 13) rfl)) (hw _ (List.mem_of_getElem? (i := 11) rfl)) (hw _ (List.mem_of_getElem? (i := 14) rfl)) (by decide) rfl rfl (lenOf own_pd6 rfl) rfl (Nat.le_of_eq rfl) (by decide) (by decide) (by decide) (by decide) at_176 rfl (fun _ _ q => by obtain ⟨_, _, _, _, K, _⟩ := q; exact K.1) (fun T197 h197 v197 X197 P197 => ?_)
      obtain ⟨t2197, b1197, rfl, D197_t2, K197, O197_0, O197_1, O197_2, O197_3, O197_4, O197_5, O197_6, Y197_0⟩ := P197
      have ne_t176_t2197 : t176 ≠ t2197 := Nat.ne_of_lt (Nat.lt_of_lt_of_le A193.lt D197_t2)
      have ne_b180_t2197 : b180 ≠ t2197 := Nat.ne_of_lt (Nat.lt_of_lt_of_le A194.lt D197_t2)
      have ne_b192_t2197 : b192 ≠ t2197 := Nat.ne_of_lt (Nat.lt_of_lt_of_le Ex192.lt D197_t2)
      have N_t2197 : n0 ≤ t2197 := Nat.le_trans X192.sz D197_t2
      have A198 := A194.keep K197 (ninS ne_b180_b192 (ninS (Ne.symm ne_t176_b180) nin0))
      have E199 := Ex192.keep K197
      show Go p e below s n0 _ _ _ T197 (mkF m 179 #[.val (.int x0), .val (.int x1), .val (.int x2), .val (.int x3), .val (.int x4), .val (.int (3 : Int32)), .val (.int (x4 &&& (3 : Int32))), .val (.int (own_f_rm_un x1 (x4 &&& (3 : Int32)))), .val (.int (own_f_rm_un (x1 >>> ((8 : Int32) &&& 31)) (x4 &&& (3 : Int32)))), .val (.int (own_f_rm_un (x1 >>> ((16 : Int32) &&& 31)) (x4 &&& (3 : Int32)))), .val (.int (own_f_rm_un (x1 >>> ((24 : Int32) &&& 31)) (x4 &&& (3 : Int32)))), .val (.int u11), .val (.ref t176), .val (.ref b180), .unset, .unset, .unset] [(.ref b192)])
      refine Go.astore C X197 (pc' := 181) (Ls' := #[.val (.int x0), .val (.int x1), .val (.int x2), .val (.int x3), .val (.int x4), .val (.int (3 : Int32)), .val (.int (x4 &&& (3 : Int32))), .val (.int (own_f_rm_un x1 (x4 &&& (3 : Int32)))), .val (.int (own_f_rm_un (x1 >>> ((8 : Int32) &&& 31)) (x4 &&& (3 : Int32)))), .val (.int (own_f_rm_un (x1 >>> ((16 : Int32) &&& 31)) (x4 &&& (3 : Int32)))), .val (.int (own_f_rm_un (x1 >>> ((24 : Int32) &&& 31)) (x4 &&& (3 : Int32)))), .val (.int u11), .val (.ref t176), .val (.ref b180), .val (.ref b192), .unset, .unset]) at_179 rfl rfl rfl ?_
      refine Go.iloadN C X197 (pc' := 182) at_181 rfl rfl ?_
      refine Go.ldc C X197 (pc' := 184) (hw _ (List.mem_of_getElem? (i := 32) rfl)) at_182 rfl ?_
      refine Go.iand C X197 (pc' := 185) at_184 rfl ?_
      refine Go.iload C X197 (pc' := 187) at_185 rfl rfl ?_
      refine Go.iconst C X197 (pc' := 188) (v := (1 : Int32)) at_187 rfl rfl ?_
      refine Go.iadd C X197 (pc' := 189) at_188 rfl ?_
      refine Go.irem C X197 (pc' := 190) at_189 (by decide) rfl ?_
      refine Go.istore C X197 (pc' := 192) (Ls' := #[.val (.int x0), .val (.int x1), .val (.int x2), .val (.int x3), .val (.int x4), .val (.int (3 : Int32)), .val (.int (x4 &&& (3 : Int32))), .val (.int (own_f_rm_un x1 (x4 &&& (3 : Int32)))), .val (.int (own_f_rm_un (x1 >>> ((8 : Int32) &&& 31)) (x4 &&& (3 : Int32)))), .val (.int (own_f_rm_un (x1 >>> ((16 : Int32) &&& 31)) (x4 &&& (3 : Int32)))), .val (.int (own_f_rm_un (x1 >>> ((24 : Int32) &&& 31)) (x4 &&& (3 : Int32)))), .val (.int u11), .val (.ref t176), .val (.ref b180), .val (.ref b192), .val (.int ((x2 &&& (2147483647 : Int32)) % ((3 : Int32) + (1 : Int32)))), .unset]) at_190 rfl rfl ?_
      refine Go.aload C X197 (pc' := 194) at_192 rfl rfl rfl ?_
      refine Go.iload C X197 (pc' := 196) at_194 rfl rfl ?_
      refine Go.iload C X197 (pc' := 198) at_196 rfl rfl ?_
      refine Go.callV C X197 (pc' := 201) (W := 0) (argsL := [(.int ((x2 &&& (2147483647 : Int32)) % ((3 : Int32) + (1 : Int32)))), (.int u11)]) (rest := []) (a := b192) (rm_fb l Z a0 hw b192 ((x2 &&& (2147483647 : Int32)) % ((3 : Int32) + (1 : Int32))) u11 t176 t2197 4 (fun q => if q = (4 - 1) then (-2147483648 : Int32) else (fun q => if q = 2 then (own_f_rm_un (x1 >>> ((16 : Int32) &&& 31)) (x4 &&& (3 : Int32))) else (fun q => if q = 1 then (own_f_rm_un (x1 >>> ((8 : Int32) &&& 31)) (x4 &&& (3 : Int32))) else (fun q => if q = 0 then (own_f_rm_un x1 (x4 &&& (3 : Int32))) else (fun _ => 0) q) q) q) q) b1197 (((x2 &&& (2147483647 : Int32)) % ((3 : Int32) + (1 : Int32))).toInt.toNat) h197 n0 X197.sz O197_1 O197_2 O197_3 O197_4 (by decide) (own_st3 x2).1 (by have := (own_st3 x2).2; omega) (fun k a d => Y197_0 k a (by have := (own_st3 x2).2; omega))) O197_0 (notFace_of_selects (args := #[]) (mvT C.2.1 (hw _ (List.mem_of_getElem? (i := 36) rfl)))) (hw _ (List.mem_of_getElem? (i := 33) rfl)) (hw _ (List.mem_of_getElem? (i := 34) rfl)) (hw _ (List.mem_of_getElem? (i := 36) rfl)) (hw _ (List.mem_of_getElem? (i := 35) rfl)) (hw _ (List.mem_of_getElem? (i := 11) rfl)) (hw _ (List.mem_of_getElem? (i := 37) rfl)) (by decide) rfl rfl (lenOf own_pd1 rfl) rfl (Nat.le_of_eq rfl) (by decide) (by decide) (by decide) (by decide) at_198 rfl (fun _ _ q => Nat.le_of_eq (congrArg Array.size q.2)) (fun T200 h200 v200 X200 P200 => ?_)
      obtain ⟨rfl, rfl⟩ := P200
      show Go p e below s n0 _ _ _ T200 (mkF m 201 #[.val (.int x0), .val (.int x1), .val (.int x2), .val (.int x3), .val (.int x4), .val (.int (3 : Int32)), .val (.int (x4 &&& (3 : Int32))), .val (.int (own_f_rm_un x1 (x4 &&& (3 : Int32)))), .val (.int (own_f_rm_un (x1 >>> ((8 : Int32) &&& 31)) (x4 &&& (3 : Int32)))), .val (.int (own_f_rm_un (x1 >>> ((16 : Int32) &&& 31)) (x4 &&& (3 : Int32)))), .val (.int (own_f_rm_un (x1 >>> ((24 : Int32) &&& 31)) (x4 &&& (3 : Int32)))), .val (.int u11), .val (.ref t176), .val (.ref b180), .val (.ref b192), .val (.int ((x2 &&& (2147483647 : Int32)) % ((3 : Int32) + (1 : Int32)))), .unset] [(.int (Int32.ofNat (own_fb (fun q => if q = (4 - 1) then (-2147483648 : Int32) else (fun q => if q = 2 then (own_f_rm_un (x1 >>> ((16 : Int32) &&& 31)) (x4 &&& (3 : Int32))) else (fun q => if q = 1 then (own_f_rm_un (x1 >>> ((8 : Int32) &&& 31)) (x4 &&& (3 : Int32))) else (fun q => if q = 0 then (own_f_rm_un x1 (x4 &&& (3 : Int32))) else (fun _ => 0) q) q) q) q) b1197 u11 ((x2 &&& (2147483647 : Int32)) % ((3 : Int32) + (1 : Int32))).toInt.toNat)))])
      refine Go.istore C X200 (pc' := 203) (Ls' := #[.val (.int x0), .val (.int x1), .val (.int x2), .val (.int x3), .val (.int x4), .val (.int (3 : Int32)), .val (.int (x4 &&& (3 : Int32))), .val (.int (own_f_rm_un x1 (x4 &&& (3 : Int32)))), .val (.int (own_f_rm_un (x1 >>> ((8 : Int32) &&& 31)) (x4 &&& (3 : Int32)))), .val (.int (own_f_rm_un (x1 >>> ((16 : Int32) &&& 31)) (x4 &&& (3 : Int32)))), .val (.int (own_f_rm_un (x1 >>> ((24 : Int32) &&& 31)) (x4 &&& (3 : Int32)))), .val (.int u11), .val (.ref t176), .val (.ref b180), .val (.ref b192), .val (.int ((x2 &&& (2147483647 : Int32)) % ((3 : Int32) + (1 : Int32)))), .val (.int (Int32.ofNat (own_fb (fun q => if q = (4 - 1) then (-2147483648 : Int32) else (fun q => if q = 2 then (own_f_rm_un (x1 >>> ((16 : Int32) &&& 31)) (x4 &&& (3 : Int32))) else (fun q => if q = 1 then (own_f_rm_un (x1 >>> ((8 : Int32) &&& 31)) (x4 &&& (3 : Int32))) else (fun q => if q = 0 then (own_f_rm_un x1 (x4 &&& (3 : Int32))) else (fun _ => 0) q) q) q) q) b1197 u11 ((x2 &&& (2147483647 : Int32)) % ((3 : Int32) + (1 : Int32))).toInt.toNat)))]) at_201 rfl rfl ?_
      refine Go.iload C X200 (pc' := 205) at_203 rfl rfl ?_
      refine Go.aload C X200 (pc' := 207) at_205 rfl rfl rfl ?_
      refine Go.iload C X200 (pc' := 209) at_207 rfl rfl ?_
      refine Go.iload C X200 (pc' := 211) at_209 rfl rfl ?_
      refine Go.callS C X200 (pc' := 214) (W := 1) (argsL := [(.ref b180), (.int ((x2 &&& (2147483647 : Int32)) % ((3 : Int32) + (1 : Int32)))), (.int u11)]) (rest := [(.int (Int32.ofNat (own_fb (fun q => if q = (4 - 1) then (-2147483648 : Int32) else (fun q => if q = 2 then (own_f_rm_un (x1 >>> ((16 : Int32) &&& 31)) (x4 &&& (3 : Int32))) else (fun q => if q = 1 then (own_f_rm_un (x1 >>> ((8 : Int32) &&& 31)) (x4 &&& (3 : Int32))) else (fun q => if q = 0 then (own_f_rm_un x1 (x4 &&& (3 : Int32))) else (fun _ => 0) q) q) q) q) b1197 u11 ((x2 &&& (2147483647 : Int32)) % ((3 : Int32) + (1 : Int32))).toInt.toNat)))]) (rm_ex l Z a0 hw b180 ((x2 &&& (2147483647 : Int32)) % ((3 : Int32) + (1 : Int32))) u11 (fun q => if q = 3 then (-2147483648 : Int32) else (fun q => if q = 3 then (own_f_rm_un (x1 >>> ((24 : Int32) &&& 31)) (x4 &&& (3 : Int32))) else (fun q => if q = 2 then (own_f_rm_un (x1 >>> ((16 : Int32) &&& 31)) (x4 &&& (3 : Int32))) else (fun q => if q = 1 then (own_f_rm_un (x1 >>> ((8 : Int32) &&& 31)) (x4 &&& (3 : Int32))) else (fun q => if q = 0 then (own_f_rm_un x1 (x4 &&& (3 : Int32))) else (fun _ => 0) q) q) q) q) q) (((x2 &&& (2147483647 : Int32)) % ((3 : Int32) + (1 : Int32))).toInt.toNat) h197 n0 X200.sz A198 (own_st3 x2).1 (by have := (own_st3 x2).2; omega)) (hw _ (List.mem_of_getElem? (i := 38) rfl)) (hw _ (List.mem_of_getElem? (i := 39) rfl)) (hw _ (List.mem_of_getElem? (i := 2) rfl)) (hw _ (List.mem_of_getElem? (i := 40) rfl)) (by decide) rfl rfl (lenOf own_pd7 rfl) rfl (Nat.le_of_eq rfl) (by decide) (by decide) (by decide) (by decide) at_211 rfl (fun _ _ q => Nat.le_of_eq (congrArg Array.size q.2)) (fun T201 h201 v201 X201 P201 => ?_)
      obtain ⟨rfl, rfl⟩ := P201
      show Go p e below s n0 _ _ _ T201 (mkF m 214 #[.val (.int x0), .val (.int x1), .val (.int x2), .val (.int x3), .val (.int x4), .val (.int (3 : Int32)), .val (.int (x4 &&& (3 : Int32))), .val (.int (own_f_rm_un x1 (x4 &&& (3 : Int32)))), .val (.int (own_f_rm_un (x1 >>> ((8 : Int32) &&& 31)) (x4 &&& (3 : Int32)))), .val (.int (own_f_rm_un (x1 >>> ((16 : Int32) &&& 31)) (x4 &&& (3 : Int32)))), .val (.int (own_f_rm_un (x1 >>> ((24 : Int32) &&& 31)) (x4 &&& (3 : Int32)))), .val (.int u11), .val (.ref t176), .val (.ref b180), .val (.ref b192), .val (.int ((x2 &&& (2147483647 : Int32)) % ((3 : Int32) + (1 : Int32)))), .val (.int (Int32.ofNat (own_fb (fun q => if q = (4 - 1) then (-2147483648 : Int32) else (fun q => if q = 2 then (own_f_rm_un (x1 >>> ((16 : Int32) &&& 31)) (x4 &&& (3 : Int32))) else (fun q => if q = 1 then (own_f_rm_un (x1 >>> ((8 : Int32) &&& 31)) (x4 &&& (3 : Int32))) else (fun q => if q = 0 then (own_f_rm_un x1 (x4 &&& (3 : Int32))) else (fun _ => 0) q) q) q) q) b1197 u11 ((x2 &&& (2147483647 : Int32)) % ((3 : Int32) + (1 : Int32))).toInt.toNat)))] [(.int (own_ex (fun q => if q = 3 then (-2147483648 : Int32) else (fun q => if q = 3 then (own_f_rm_un (x1 >>> ((24 : Int32) &&& 31)) (x4 &&& (3 : Int32))) else (fun q => if q = 2 then (own_f_rm_un (x1 >>> ((16 : Int32) &&& 31)) (x4 &&& (3 : Int32))) else (fun q => if q = 1 then (own_f_rm_un (x1 >>> ((8 : Int32) &&& 31)) (x4 &&& (3 : Int32))) else (fun q => if q = 0 then (own_f_rm_un x1 (x4 &&& (3 : Int32))) else (fun _ => 0) q) q) q) q) q) ((x2 &&& (2147483647 : Int32)) % ((3 : Int32) + (1 : Int32))).toInt.toNat u11)), (.int (Int32.ofNat (own_fb (fun q => if q = (4 - 1) then (-2147483648 : Int32) else (fun q => if q = 2 then (own_f_rm_un (x1 >>> ((16 : Int32) &&& 31)) (x4 &&& (3 : Int32))) else (fun q => if q = 1 then (own_f_rm_un (x1 >>> ((8 : Int32) &&& 31)) (x4 &&& (3 : Int32))) else (fun q => if q = 0 then (own_f_rm_un x1 (x4 &&& (3 : Int32))) else (fun _ => 0) q) q) q) q) b1197 u11 ((x2 &&& (2147483647 : Int32)) % ((3 : Int32) + (1 : Int32))).toInt.toNat)))])
      refine Go.icmpNo C X201 (pc' := 217) at_214 (teq (own_key (n := 3) (by decide) (own_st3 x2).2 (own_ag3 _ _ _ _) (own_fb_spec (fun k a d => Y197_0 k a (by have := (own_st3 x2).2; omega))))).2 rfl ?_
      refine Go.iconst C X201 (pc' := 218) (v := (1 : Int32)) at_217 rfl rfl ?_
      refine Go.goto C X201 (pc' := 222) at_218 (by decide) (by decide) ?_
      exact Go.retZ (t := .boolean) C X201 (z' := (1 : Int32)) (by decide) at_222 rfl (by decide) (by decide)
    refine Go.iload C X175 (pc' := 56) at_54 rfl rfl ?_
    refine Go.iconst C X175 (pc' := 57) (v := (4 : Int32)) at_56 rfl rfl ?_
    refine Go.iand C X175 (pc' := 58) at_57 rfl ?_
    by_cases c202 : (x4 &&& (4 : Int32)) = (0 : Int32)
    · refine Go.ifYes C X175 (pc' := 77) at_58 ((if0 _ _).trans (teq c202).1) (by decide) (by decide) ?_
      refine Go.iloadN C X175 (pc' := 78) at_77 rfl rfl ?_
      refine Go.iload C X175 (pc' := 80) at_78 rfl rfl ?_
      refine Go.callS C X175 (pc' := 83) (W := 0) (argsL := [(.int x3), (.int (x4 &&& (3 : Int32)))]) (rest := []) (rm_un l Z a0 hw x3 (x4 &&& (3 : Int32)) h0 n0 X175.sz ) (hw _ (List.mem_of_getElem? (i := 0) rfl)) (hw _ (List.mem_of_getElem? (i := 1) rfl)) (hw _ (List.mem_of_getElem? (i := 2) rfl)) (hw _ (List.mem_of_getElem? (i := 3) rfl)) (by decide) rfl rfl (lenOf own_pd1 rfl) rfl (Nat.le_of_eq rfl) (by decide) (by decide) (by decide) (by decide) at_80 rfl (fun _ _ q => Nat.le_of_eq (congrArg Array.size q.2)) (fun T203 h203 v203 X203 P203 => ?_)
      obtain ⟨rfl, rfl⟩ := P203
      show Go p e below s n0 _ _ _ T203 (mkF m 83 #[.val (.int x0), .val (.int x1), .val (.int x2), .val (.int x3), .val (.int x4), .val (.int (3 : Int32)), .val (.int (x4 &&& (3 : Int32))), .val (.int (own_f_rm_un x1 (x4 &&& (3 : Int32)))), .val (.int (own_f_rm_un (x1 >>> ((8 : Int32) &&& 31)) (x4 &&& (3 : Int32)))), .val (.int (own_f_rm_un (x1 >>> ((16 : Int32) &&& 31)) (x4 &&& (3 : Int32)))), .val (.int (own_f_rm_un (x1 >>> ((24 : Int32) &&& 31)) (x4 &&& (3 : Int32)))), .unset, .unset, .unset, .unset, .unset, .unset] [(.int (own_f_rm_un x3 (x4 &&& (3 : Int32))))])
      refine Go.istore C X203 (pc' := 85) (Ls' := #[.val (.int x0), .val (.int x1), .val (.int x2), .val (.int x3), .val (.int x4), .val (.int (3 : Int32)), .val (.int (x4 &&& (3 : Int32))), .val (.int (own_f_rm_un x1 (x4 &&& (3 : Int32)))), .val (.int (own_f_rm_un (x1 >>> ((8 : Int32) &&& 31)) (x4 &&& (3 : Int32)))), .val (.int (own_f_rm_un (x1 >>> ((16 : Int32) &&& 31)) (x4 &&& (3 : Int32)))), .val (.int (own_f_rm_un (x1 >>> ((24 : Int32) &&& 31)) (x4 &&& (3 : Int32)))), .val (.int (own_f_rm_un x3 (x4 &&& (3 : Int32)))), .unset, .unset, .unset, .unset, .unset]) at_83 rfl rfl ?_
      exact Cut85 T203 (own_f_rm_un x3 (x4 &&& (3 : Int32))) X203
    · refine Go.ifNo C X175 (pc' := 61) at_58 ((if0 _ _).trans (feq c202).1) rfl ?_
      refine Go.iloadN C X175 (pc' := 62) at_61 rfl rfl ?_
      refine Go.ldc C X175 (pc' := 64) (hw _ (List.mem_of_getElem? (i := 8) rfl)) at_62 rfl ?_
      by_cases c204 : x3 = (-2147483648 : Int32)
      · refine Go.icmpNo C X175 (pc' := 67) at_64 (teq c204).2 rfl ?_
        refine Go.iconst C X175 (pc' := 68) (v := (0 : Int32)) at_67 rfl rfl ?_
        refine Go.goto C X175 (pc' := 72) at_68 (by decide) (by decide) ?_
        refine Go.istore C X175 (pc' := 74) (Ls' := #[.val (.int x0), .val (.int x1), .val (.int x2), .val (.int x3), .val (.int x4), .val (.int (3 : Int32)), .val (.int (x4 &&& (3 : Int32))), .val (.int (own_f_rm_un x1 (x4 &&& (3 : Int32)))), .val (.int (own_f_rm_un (x1 >>> ((8 : Int32) &&& 31)) (x4 &&& (3 : Int32)))), .val (.int (own_f_rm_un (x1 >>> ((16 : Int32) &&& 31)) (x4 &&& (3 : Int32)))), .val (.int (own_f_rm_un (x1 >>> ((24 : Int32) &&& 31)) (x4 &&& (3 : Int32)))), .val (.int (0 : Int32)), .unset, .unset, .unset, .unset, .unset]) at_72 rfl rfl ?_
        refine Go.goto C X175 (pc' := 85) at_74 (by decide) (by decide) ?_
        exact Cut85 T175 (0 : Int32) X175
      · refine Go.icmpYes C X175 (pc' := 71) at_64 (feq c204).2 (by decide) (by decide) ?_
        refine Go.iloadN C X175 (pc' := 72) at_71 rfl rfl ?_
        refine Go.istore C X175 (pc' := 74) (Ls' := #[.val (.int x0), .val (.int x1), .val (.int x2), .val (.int x3), .val (.int x4), .val (.int (3 : Int32)), .val (.int (x4 &&& (3 : Int32))), .val (.int (own_f_rm_un x1 (x4 &&& (3 : Int32)))), .val (.int (own_f_rm_un (x1 >>> ((8 : Int32) &&& 31)) (x4 &&& (3 : Int32)))), .val (.int (own_f_rm_un (x1 >>> ((16 : Int32) &&& 31)) (x4 &&& (3 : Int32)))), .val (.int (own_f_rm_un (x1 >>> ((24 : Int32) &&& 31)) (x4 &&& (3 : Int32)))), .val (.int x3), .unset, .unset, .unset, .unset, .unset]) at_72 rfl rfl ?_
        refine Go.goto C X175 (pc' := 85) at_74 (by decide) (by decide) ?_
        exact Cut85 T175 x3 X175
  · rw [q108]
    refine Go.iload C X0 (pc' := 9) at_7 rfl rfl ?_
    refine Go.iconst C X0 (pc' := 10) (v := (3 : Int32)) at_9 rfl rfl ?_
    refine Go.iand C X0 (pc' := 11) at_10 rfl ?_
    refine Go.istore C X0 (pc' := 13) (Ls' := #[.val (.int x0), .val (.int x1), .val (.int x2), .val (.int x3), .val (.int x4), .val (.int (4 : Int32)), .val (.int (x4 &&& (3 : Int32))), .unset, .unset, .unset, .unset, .unset, .unset, .unset, .unset, .unset, .unset]) at_11 rfl rfl ?_
    refine Go.iloadN C X0 (pc' := 14) at_13 rfl rfl ?_
    refine Go.iload C X0 (pc' := 16) at_14 rfl rfl ?_
    refine Go.callS C X0 (pc' := 19) (W := 0) (argsL := [(.int x1), (.int (x4 &&& (3 : Int32)))]) (rest := []) (rm_un l Z a0 hw x1 (x4 &&& (3 : Int32)) h0 n0 X0.sz ) (hw _ (List.mem_of_getElem? (i := 0) rfl)) (hw _ (List.mem_of_getElem? (i := 1) rfl)) (hw _ (List.mem_of_getElem? (i := 2) rfl)) (hw _ (List.mem_of_getElem? (i := 3) rfl)) (by decide) rfl rfl (lenOf own_pd1 rfl) rfl (Nat.le_of_eq rfl) (by decide) (by decide) (by decide) (by decide) at_16 rfl (fun _ _ q => Nat.le_of_eq (congrArg Array.size q.2)) (fun T205 h205 v205 X205 P205 => ?_)
    obtain ⟨rfl, rfl⟩ := P205
    show Go p e below s n0 _ _ _ T205 (mkF m 19 #[.val (.int x0), .val (.int x1), .val (.int x2), .val (.int x3), .val (.int x4), .val (.int (4 : Int32)), .val (.int (x4 &&& (3 : Int32))), .unset, .unset, .unset, .unset, .unset, .unset, .unset, .unset, .unset, .unset] [(.int (own_f_rm_un x1 (x4 &&& (3 : Int32))))])
    refine Go.istore C X205 (pc' := 21) (Ls' := #[.val (.int x0), .val (.int x1), .val (.int x2), .val (.int x3), .val (.int x4), .val (.int (4 : Int32)), .val (.int (x4 &&& (3 : Int32))), .val (.int (own_f_rm_un x1 (x4 &&& (3 : Int32)))), .unset, .unset, .unset, .unset, .unset, .unset, .unset, .unset, .unset]) at_19 rfl rfl ?_
    refine Go.iloadN C X205 (pc' := 22) at_21 rfl rfl ?_
    refine Go.bipush C X205 (pc' := 24) (v := (8 : Int32)) at_22 rfl rfl ?_
    refine Go.ishr C X205 (pc' := 25) at_24 rfl ?_
    refine Go.iload C X205 (pc' := 27) at_25 rfl rfl ?_
    refine Go.callS C X205 (pc' := 30) (W := 0) (argsL := [(.int (x1 >>> ((8 : Int32) &&& 31))), (.int (x4 &&& (3 : Int32)))]) (rest := []) (rm_un l Z a0 hw (x1 >>> ((8 : Int32) &&& 31)) (x4 &&& (3 : Int32)) h0 n0 X205.sz ) (hw _ (List.mem_of_getElem? (i := 0) rfl)) (hw _ (List.mem_of_getElem? (i := 1) rfl)) (hw _ (List.mem_of_getElem? (i := 2) rfl)) (hw _ (List.mem_of_getElem? (i := 3) rfl)) (by decide) rfl rfl (lenOf own_pd1 rfl) rfl (Nat.le_of_eq rfl) (by decide) (by decide) (by decide) (by decide) at_27 rfl (fun _ _ q => Nat.le_of_eq (congrArg Array.size q.2)) (fun T206 h206 v206 X206 P206 => ?_)
    obtain ⟨rfl, rfl⟩ := P206
    show Go p e below s n0 _ _ _ T206 (mkF m 30 #[.val (.int x0), .val (.int x1), .val (.int x2), .val (.int x3), .val (.int x4), .val (.int (4 : Int32)), .val (.int (x4 &&& (3 : Int32))), .val (.int (own_f_rm_un x1 (x4 &&& (3 : Int32)))), .unset, .unset, .unset, .unset, .unset, .unset, .unset, .unset, .unset] [(.int (own_f_rm_un (x1 >>> ((8 : Int32) &&& 31)) (x4 &&& (3 : Int32))))])
    refine Go.istore C X206 (pc' := 32) (Ls' := #[.val (.int x0), .val (.int x1), .val (.int x2), .val (.int x3), .val (.int x4), .val (.int (4 : Int32)), .val (.int (x4 &&& (3 : Int32))), .val (.int (own_f_rm_un x1 (x4 &&& (3 : Int32)))), .val (.int (own_f_rm_un (x1 >>> ((8 : Int32) &&& 31)) (x4 &&& (3 : Int32)))), .unset, .unset, .unset, .unset, .unset, .unset, .unset, .unset]) at_30 rfl rfl ?_
    refine Go.iloadN C X206 (pc' := 33) at_32 rfl rfl ?_
    refine Go.bipush C X206 (pc' := 35) (v := (16 : Int32)) at_33 rfl rfl ?_
    refine Go.ishr C X206 (pc' := 36) at_35 rfl ?_
    refine Go.iload C X206 (pc' := 38) at_36 rfl rfl ?_
    refine Go.callS C X206 (pc' := 41) (W := 0) (argsL := [(.int (x1 >>> ((16 : Int32) &&& 31))), (.int (x4 &&& (3 : Int32)))]) (rest := []) (rm_un l Z a0 hw (x1 >>> ((16 : Int32) &&& 31)) (x4 &&& (3 : Int32)) h0 n0 X206.sz ) (hw _ (List.mem_of_getElem? (i := 0) rfl)) (hw _ (List.mem_of_getElem? (i := 1) rfl)) (hw _ (List.mem_of_getElem? (i := 2) rfl)) (hw _ (List.mem_of_getElem? (i := 3) rfl)) (by decide) rfl rfl (lenOf own_pd1 rfl) rfl (Nat.le_of_eq rfl) (by decide) (by decide) (by decide) (by decide) at_38 rfl (fun _ _ q => Nat.le_of_eq (congrArg Array.size q.2)) (fun T207 h207 v207 X207 P207 => ?_)
    obtain ⟨rfl, rfl⟩ := P207
    show Go p e below s n0 _ _ _ T207 (mkF m 41 #[.val (.int x0), .val (.int x1), .val (.int x2), .val (.int x3), .val (.int x4), .val (.int (4 : Int32)), .val (.int (x4 &&& (3 : Int32))), .val (.int (own_f_rm_un x1 (x4 &&& (3 : Int32)))), .val (.int (own_f_rm_un (x1 >>> ((8 : Int32) &&& 31)) (x4 &&& (3 : Int32)))), .unset, .unset, .unset, .unset, .unset, .unset, .unset, .unset] [(.int (own_f_rm_un (x1 >>> ((16 : Int32) &&& 31)) (x4 &&& (3 : Int32))))])
    refine Go.istore C X207 (pc' := 43) (Ls' := #[.val (.int x0), .val (.int x1), .val (.int x2), .val (.int x3), .val (.int x4), .val (.int (4 : Int32)), .val (.int (x4 &&& (3 : Int32))), .val (.int (own_f_rm_un x1 (x4 &&& (3 : Int32)))), .val (.int (own_f_rm_un (x1 >>> ((8 : Int32) &&& 31)) (x4 &&& (3 : Int32)))), .val (.int (own_f_rm_un (x1 >>> ((16 : Int32) &&& 31)) (x4 &&& (3 : Int32)))), .unset, .unset, .unset, .unset, .unset, .unset, .unset]) at_41 rfl rfl ?_
    refine Go.iloadN C X207 (pc' := 44) at_43 rfl rfl ?_
    refine Go.bipush C X207 (pc' := 46) (v := (24 : Int32)) at_44 rfl rfl ?_
    refine Go.ishr C X207 (pc' := 47) at_46 rfl ?_
    refine Go.iload C X207 (pc' := 49) at_47 rfl rfl ?_
    refine Go.callS C X207 (pc' := 52) (W := 0) (argsL := [(.int (x1 >>> ((24 : Int32) &&& 31))), (.int (x4 &&& (3 : Int32)))]) (rest := []) (rm_un l Z a0 hw (x1 >>> ((24 : Int32) &&& 31)) (x4 &&& (3 : Int32)) h0 n0 X207.sz ) (hw _ (List.mem_of_getElem? (i := 0) rfl)) (hw _ (List.mem_of_getElem? (i := 1) rfl)) (hw _ (List.mem_of_getElem? (i := 2) rfl)) (hw _ (List.mem_of_getElem? (i := 3) rfl)) (by decide) rfl rfl (lenOf own_pd1 rfl) rfl (Nat.le_of_eq rfl) (by decide) (by decide) (by decide) (by decide) at_49 rfl (fun _ _ q => Nat.le_of_eq (congrArg Array.size q.2)) (fun T208 h208 v208 X208 P208 => ?_)
    obtain ⟨rfl, rfl⟩ := P208
    show Go p e below s n0 _ _ _ T208 (mkF m 52 #[.val (.int x0), .val (.int x1), .val (.int x2), .val (.int x3), .val (.int x4), .val (.int (4 : Int32)), .val (.int (x4 &&& (3 : Int32))), .val (.int (own_f_rm_un x1 (x4 &&& (3 : Int32)))), .val (.int (own_f_rm_un (x1 >>> ((8 : Int32) &&& 31)) (x4 &&& (3 : Int32)))), .val (.int (own_f_rm_un (x1 >>> ((16 : Int32) &&& 31)) (x4 &&& (3 : Int32)))), .unset, .unset, .unset, .unset, .unset, .unset, .unset] [(.int (own_f_rm_un (x1 >>> ((24 : Int32) &&& 31)) (x4 &&& (3 : Int32))))])
    refine Go.istore C X208 (pc' := 54) (Ls' := #[.val (.int x0), .val (.int x1), .val (.int x2), .val (.int x3), .val (.int x4), .val (.int (4 : Int32)), .val (.int (x4 &&& (3 : Int32))), .val (.int (own_f_rm_un x1 (x4 &&& (3 : Int32)))), .val (.int (own_f_rm_un (x1 >>> ((8 : Int32) &&& 31)) (x4 &&& (3 : Int32)))), .val (.int (own_f_rm_un (x1 >>> ((16 : Int32) &&& 31)) (x4 &&& (3 : Int32)))), .val (.int (own_f_rm_un (x1 >>> ((24 : Int32) &&& 31)) (x4 &&& (3 : Int32)))), .unset, .unset, .unset, .unset, .unset, .unset]) at_52 rfl rfl ?_
    have Cut85 : ∀ (T_85 : State) (u11 : Int32), On p l e room_1 s m #[(.int x0), (.int x1), (.int x2), (.int x3), (.int x4)] below meth c n0 T_85 h0 0 0 → Go p e below s n0 (room_1).cells (room_1).slots (fun rv hv => rv = some (.int 1)) T_85 (mkF m 85 #[.val (.int x0), .val (.int x1), .val (.int x2), .val (.int x3), .val (.int x4), .val (.int (4 : Int32)), .val (.int (x4 &&& (3 : Int32))), .val (.int (own_f_rm_un x1 (x4 &&& (3 : Int32)))), .val (.int (own_f_rm_un (x1 >>> ((8 : Int32) &&& 31)) (x4 &&& (3 : Int32)))), .val (.int (own_f_rm_un (x1 >>> ((16 : Int32) &&& 31)) (x4 &&& (3 : Int32)))), .val (.int (own_f_rm_un (x1 >>> ((24 : Int32) &&& 31)) (x4 &&& (3 : Int32)))), .val (.int u11), .unset, .unset, .unset, .unset, .unset] []) := by
      intro T_85 u11 X_85
      refine Go.iload C X_85 (pc' := 87) at_85 rfl rfl ?_
      refine Go.callS C X_85 (pc' := 90) (W := 0) (argsL := [(.int (4 : Int32))]) (rest := []) (rm_mk l Z a0 hw (4 : Int32) 5 h0 n0 X_85.sz rfl (by decide) (by decide)) (hw _ (List.mem_of_getElem? (i := 4) rfl)) (hw _ (List.mem_of_getElem? (i := 5) rfl)) (hw _ (List.mem_of_getElem? (i := 2) rfl)) (hw _ (List.mem_of_getElem? (i := 6) rfl)) (by decide) rfl rfl (lenOf own_pd5 rfl) rfl (Nat.le_of_eq rfl) (by decide) (by decide) (by decide) (by decide) at_87 rfl (fun _ _ q => by obtain ⟨_, _, _, K, _⟩ := q; exact K.1) (fun T209 h209 v209 X209 P209 => ?_)
      obtain ⟨t209, rfl, D209_t, K209, O209_0⟩ := P209
      have N_t209 : n0 ≤ t209 := Nat.le_trans X_85.sz D209_t
      show Go p e below s n0 _ _ _ T209 (mkF m 90 #[.val (.int x0), .val (.int x1), .val (.int x2), .val (.int x3), .val (.int x4), .val (.int (4 : Int32)), .val (.int (x4 &&& (3 : Int32))), .val (.int (own_f_rm_un x1 (x4 &&& (3 : Int32)))), .val (.int (own_f_rm_un (x1 >>> ((8 : Int32) &&& 31)) (x4 &&& (3 : Int32)))), .val (.int (own_f_rm_un (x1 >>> ((16 : Int32) &&& 31)) (x4 &&& (3 : Int32)))), .val (.int (own_f_rm_un (x1 >>> ((24 : Int32) &&& 31)) (x4 &&& (3 : Int32)))), .val (.int u11), .unset, .unset, .unset, .unset, .unset] [(.ref t209)])
      refine Go.astore C X209 (pc' := 92) (Ls' := #[.val (.int x0), .val (.int x1), .val (.int x2), .val (.int x3), .val (.int x4), .val (.int (4 : Int32)), .val (.int (x4 &&& (3 : Int32))), .val (.int (own_f_rm_un x1 (x4 &&& (3 : Int32)))), .val (.int (own_f_rm_un (x1 >>> ((8 : Int32) &&& 31)) (x4 &&& (3 : Int32)))), .val (.int (own_f_rm_un (x1 >>> ((16 : Int32) &&& 31)) (x4 &&& (3 : Int32)))), .val (.int (own_f_rm_un (x1 >>> ((24 : Int32) &&& 31)) (x4 &&& (3 : Int32)))), .val (.int u11), .val (.ref t209), .unset, .unset, .unset, .unset]) at_90 rfl rfl rfl ?_
      refine Go.aload C X209 (pc' := 94) at_92 rfl rfl rfl ?_
      refine Go.iconst C X209 (pc' := 95) (v := (0 : Int32)) at_94 rfl rfl ?_
      refine Go.iload C X209 (pc' := 97) at_95 rfl rfl ?_
      refine Go.iastore C X209 (pc' := 98) (i := 0) (x' := (own_f_rm_un x1 (x4 &&& (3 : Int32)))) O209_0 rfl (by decide) rfl N_t209 at_97 rfl (fun T210 h210 X210 W210 A210 => ?_)
      refine Go.iload C X210 (pc' := 100) at_98 rfl rfl ?_
      refine Go.iconst C X210 (pc' := 101) (v := (1 : Int32)) at_100 rfl rfl ?_
      refine Go.icmpNo C X210 (pc' := 104) at_101 (tlt (by decide)).2.2.2 rfl ?_
      refine Go.aload C X210 (pc' := 106) at_104 rfl rfl rfl ?_
      refine Go.iconst C X210 (pc' := 107) (v := (1 : Int32)) at_106 rfl rfl ?_
      refine Go.iload C X210 (pc' := 109) at_107 rfl rfl ?_
      refine Go.iastore C X210 (pc' := 110) (i := 1) (x' := (own_f_rm_un (x1 >>> ((8 : Int32) &&& 31)) (x4 &&& (3 : Int32)))) A210 rfl (by decide) rfl N_t209 at_109 rfl (fun T211 h211 X211 W211 A211 => ?_)
      refine Go.iload C X211 (pc' := 112) at_110 rfl rfl ?_
      refine Go.iconst C X211 (pc' := 113) (v := (2 : Int32)) at_112 rfl rfl ?_
      refine Go.icmpNo C X211 (pc' := 116) at_113 (tlt (by decide)).2.2.2 rfl ?_
      refine Go.aload C X211 (pc' := 118) at_116 rfl rfl rfl ?_
      refine Go.iconst C X211 (pc' := 119) (v := (2 : Int32)) at_118 rfl rfl ?_
      refine Go.iload C X211 (pc' := 121) at_119 rfl rfl ?_
      refine Go.iastore C X211 (pc' := 122) (i := 2) (x' := (own_f_rm_un (x1 >>> ((16 : Int32) &&& 31)) (x4 &&& (3 : Int32)))) A211 rfl (by decide) rfl N_t209 at_121 rfl (fun T212 h212 X212 W212 A212 => ?_)
      refine Go.iload C X212 (pc' := 124) at_122 rfl rfl ?_
      refine Go.iconst C X212 (pc' := 125) (v := (3 : Int32)) at_124 rfl rfl ?_
      refine Go.icmpNo C X212 (pc' := 128) at_125 (tlt (by decide)).2.2.2 rfl ?_
      refine Go.aload C X212 (pc' := 130) at_128 rfl rfl rfl ?_
      refine Go.iconst C X212 (pc' := 131) (v := (3 : Int32)) at_130 rfl rfl ?_
      refine Go.iload C X212 (pc' := 133) at_131 rfl rfl ?_
      refine Go.iastore C X212 (pc' := 134) (i := 3) (x' := (own_f_rm_un (x1 >>> ((24 : Int32) &&& 31)) (x4 &&& (3 : Int32)))) A212 rfl (by decide) rfl N_t209 at_133 rfl (fun T213 h213 X213 W213 A213 => ?_)
      refine Go.iconst C X213 (pc' := 135) (v := (5 : Int32)) at_134 rfl rfl ?_
      refine Go.newP C X213 (pc' := 137) (nn := 5) (cap := 5) (hw _ (List.mem_of_getElem? (i := 7) rfl)) at_135 rfl (by decide) (by decide) (by decide) (by decide) rfl (fun T214 h214 b214 k214 X214 g214 E214 Ar214 N214 => ?_)
      have ne_t209_b214 : t209 ≠ b214 := Nat.ne_of_lt (Nat.lt_of_lt_of_eq A213.lt g214.symm)
      have A215 := A213.ext E214
      have A214 : AI Z h214 b214 .int 5 (fun _ => 0) := AI.new rfl rfl Ar214
      refine Go.astore C X214 (pc' := 139) (Ls' := #[.val (.int x0), .val (.int x1), .val (.int x2), .val (.int x3), .val (.int x4), .val (.int (4 : Int32)), .val (.int (x4 &&& (3 : Int32))), .val (.int (own_f_rm_un x1 (x4 &&& (3 : Int32)))), .val (.int (own_f_rm_un (x1 >>> ((8 : Int32) &&& 31)) (x4 &&& (3 : Int32)))), .val (.int (own_f_rm_un (x1 >>> ((16 : Int32) &&& 31)) (x4 &&& (3 : Int32)))), .val (.int (own_f_rm_un (x1 >>> ((24 : Int32) &&& 31)) (x4 &&& (3 : Int32)))), .val (.int u11), .val (.ref t209), .val (.ref b214), .unset, .unset, .unset]) at_137 rfl rfl rfl ?_
      refine Go.aload C X214 (pc' := 141) at_139 rfl rfl rfl ?_
      refine Go.iconst C X214 (pc' := 142) (v := (0 : Int32)) at_141 rfl rfl ?_
      refine Go.iload C X214 (pc' := 144) at_142 rfl rfl ?_
      refine Go.iastore C X214 (pc' := 145) (i := 0) (x' := (own_f_rm_un x1 (x4 &&& (3 : Int32)))) A214 rfl (by decide) rfl N214 at_144 rfl (fun T216 h216 X216 W216 A216 => ?_)
      have A217 := A215.other W216 ne_t209_b214
      refine Go.aload C X216 (pc' := 147) at_145 rfl rfl rfl ?_
      refine Go.iconst C X216 (pc' := 148) (v := (1 : Int32)) at_147 rfl rfl ?_
      refine Go.iload C X216 (pc' := 150) at_148 rfl rfl ?_
      refine Go.iastore C X216 (pc' := 151) (i := 1) (x' := (own_f_rm_un (x1 >>> ((8 : Int32) &&& 31)) (x4 &&& (3 : Int32)))) A216 rfl (by decide) rfl N214 at_150 rfl (fun T218 h218 X218 W218 A218 => ?_)
      have A219 := A217.other W218 ne_t209_b214
      refine Go.aload C X218 (pc' := 153) at_151 rfl rfl rfl ?_
      refine Go.iconst C X218 (pc' := 154) (v := (2 : Int32)) at_153 rfl rfl ?_
      refine Go.iload C X218 (pc' := 156) at_154 rfl rfl ?_
      refine Go.iastore C X218 (pc' := 157) (i := 2) (x' := (own_f_rm_un (x1 >>> ((16 : Int32) &&& 31)) (x4 &&& (3 : Int32)))) A218 rfl (by decide) rfl N214 at_156 rfl (fun T220 h220 X220 W220 A220 => ?_)
      have A221 := A219.other W220 ne_t209_b214
      refine Go.aload C X220 (pc' := 159) at_157 rfl rfl rfl ?_
      refine Go.iconst C X220 (pc' := 160) (v := (3 : Int32)) at_159 rfl rfl ?_
      refine Go.iload C X220 (pc' := 162) at_160 rfl rfl ?_
      refine Go.iastore C X220 (pc' := 163) (i := 3) (x' := (own_f_rm_un (x1 >>> ((24 : Int32) &&& 31)) (x4 &&& (3 : Int32)))) A220 rfl (by decide) rfl N214 at_162 rfl (fun T222 h222 X222 W222 A222 => ?_)
      have A223 := A221.other W222 ne_t209_b214
      refine Go.aload C X222 (pc' := 165) at_163 rfl rfl rfl ?_
      refine Go.iload C X222 (pc' := 167) at_165 rfl rfl ?_
      refine Go.ldc C X222 (pc' := 169) (hw _ (List.mem_of_getElem? (i := 8) rfl)) at_167 rfl ?_
      refine Go.iastore C X222 (pc' := 170) (i := 4) (x' := (-2147483648 : Int32)) A222 rfl (by decide) rfl N214 at_169 rfl (fun T224 h224 X224 W224 A224 => ?_)
      have A225 := A223.other W224 ne_t209_b214
      refine Go.newO C X224 (pc' := 173) (hw _ (List.mem_of_getElem? (i := 9) rfl)) (hw _ (List.mem_of_getElem? (i := 10) rfl)) (hw _ (List.mem_of_getElem? (i := 11) rfl)) at_170 (by decide) (by decide) rfl (fun T226 h226 b226 X226 g226 E226 Ex226 D226 N226 => ?_)
      have ne_t209_b226 : t209 ≠ b226 := Nat.ne_of_lt (Nat.lt_of_lt_of_eq A225.lt g226.symm)
      have ne_b214_b226 : b214 ≠ b226 := Nat.ne_of_lt (Nat.lt_of_lt_of_eq A224.lt g226.symm)
      have A227 := A225.ext E226
      have A228 := A224.ext E226
      have F229 : Fld Z h226 b226 "com/example/needlewright/needlewright/Automaton" "units" "[I" .null := D226 (Or.inr (hw _ (List.mem_of_getElem? (i := 20) rfl))) (ty := (.array .int)) (by decide)
      have F230 : Fld Z h226 b226 "com/example/needlewright/needlewright/Automaton" "borders" "[I" .null := D226 (Or.inr (hw _ (List.mem_of_getElem? (i := 22) rfl))) (ty := (.array .int)) (by decide)
      refine Go.dup C X226 (pc' := 174) at_173 rfl rfl ?_
      refine Go.aload C X226 (pc' := 176) at_174 rfl rfl rfl ?_
      refine Go.callI C X226 (pc' := 179) (W := 1) (argsL := [(.ref t209)]) (rest := [(.ref b226)]) (a := b226) (rm_au l Z a0 hw b226 t209 5 (fun q => if q = 3 then (own_f_rm_un (x1 >>> ((24 : Int32) &&& 31)) (x4 &&& (3 : Int32))) else (fun q => if q = 2 then (own_f_rm_un (x1 >>> ((16 : Int32) &&& 31)) (x4 &&& (3 : Int32))) else (fun q => if q = 1 then (own_f_rm_un (x1 >>> ((8 : Int32) &&& 31)) (x4 &&& (3 : Int32))) else (fun q => if q = 0 then (own_f_rm_un x1 (x4 &&& (3 : Int32))) else (fun _ => 0) q) q) q) q) (5 : Int32) h226 n0 X226.sz Ex226 F229 F230 N226 N_t209 A227 (Ne.symm ne_t209_b226) rfl (by decide) (by decide)) rfl rfl (hw _ (List.mem_of_getElem? (i := 12) rfl)) (hw _ (List.mem_of_getElem? (i := 13) rfl)) (hw _ (List.mem_of_getElem? (i := 11) rfl)) (hw _ (List.mem_of_getElem? (i := 14) rfl)) (by decide) rfl rfl (lenOf own_pd6 rfl) rfl (Nat.le_of_eq rfl) (by decide) (by decide) (by decide) (by decide) at_176 rfl (fun _ _ q => by obtain ⟨_, _, _, _, K, _⟩ := q; exact K.1) (fun T231 h231 v231 X231 P231 => ?_)
      obtain ⟨t2231, b1231, rfl, D231_t2, K231, O231_0, O231_1, O231_2, O231_3, O231_4, O231_5, O231_6, Y231_0⟩ := P231
      have ne_t209_t2231 : t209 ≠ t2231 := Nat.ne_of_lt (Nat.lt_of_lt_of_le A227.lt D231_t2)
      have ne_b214_t2231 : b214 ≠ t2231 := Nat.ne_of_lt (Nat.lt_of_lt_of_le A228.lt D231_t2)
      have ne_b226_t2231 : b226 ≠ t2231 := Nat.ne_of_lt (Nat.lt_of_lt_of_le Ex226.lt D231_t2)
      have N_t2231 : n0 ≤ t2231 := Nat.le_trans X226.sz D231_t2
      have A232 := A228.keep K231 (ninS ne_b214_b226 (ninS (Ne.symm ne_t209_b214) nin0))
      have E233 := Ex226.keep K231
      show Go p e below s n0 _ _ _ T231 (mkF m 179 #[.val (.int x0), .val (.int x1), .val (.int x2), .val (.int x3), .val (.int x4), .val (.int (4 : Int32)), .val (.int (x4 &&& (3 : Int32))), .val (.int (own_f_rm_un x1 (x4 &&& (3 : Int32)))), .val (.int (own_f_rm_un (x1 >>> ((8 : Int32) &&& 31)) (x4 &&& (3 : Int32)))), .val (.int (own_f_rm_un (x1 >>> ((16 : Int32) &&& 31)) (x4 &&& (3 : Int32)))), .val (.int (own_f_rm_un (x1 >>> ((24 : Int32) &&& 31)) (x4 &&& (3 : Int32)))), .val (.int u11), .val (.ref t209), .val (.ref b214), .unset, .unset, .unset] [(.ref b226)])
      refine Go.astore C X231 (pc' := 181) (Ls' := #[.val (.int x0), .val (.int x1), .val (.int x2), .val (.int x3), .val (.int x4), .val (.int (4 : Int32)), .val (.int (x4 &&& (3 : Int32))), .val (.int (own_f_rm_un x1 (x4 &&& (3 : Int32)))), .val (.int (own_f_rm_un (x1 >>> ((8 : Int32) &&& 31)) (x4 &&& (3 : Int32)))), .val (.int (own_f_rm_un (x1 >>> ((16 : Int32) &&& 31)) (x4 &&& (3 : Int32)))), .val (.int (own_f_rm_un (x1 >>> ((24 : Int32) &&& 31)) (x4 &&& (3 : Int32)))), .val (.int u11), .val (.ref t209), .val (.ref b214), .val (.ref b226), .unset, .unset]) at_179 rfl rfl rfl ?_
      refine Go.iloadN C X231 (pc' := 182) at_181 rfl rfl ?_
      refine Go.ldc C X231 (pc' := 184) (hw _ (List.mem_of_getElem? (i := 32) rfl)) at_182 rfl ?_
      refine Go.iand C X231 (pc' := 185) at_184 rfl ?_
      refine Go.iload C X231 (pc' := 187) at_185 rfl rfl ?_
      refine Go.iconst C X231 (pc' := 188) (v := (1 : Int32)) at_187 rfl rfl ?_
      refine Go.iadd C X231 (pc' := 189) at_188 rfl ?_
      refine Go.irem C X231 (pc' := 190) at_189 (by decide) rfl ?_
      refine Go.istore C X231 (pc' := 192) (Ls' := #[.val (.int x0), .val (.int x1), .val (.int x2), .val (.int x3), .val (.int x4), .val (.int (4 : Int32)), .val (.int (x4 &&& (3 : Int32))), .val (.int (own_f_rm_un x1 (x4 &&& (3 : Int32)))), .val (.int (own_f_rm_un (x1 >>> ((8 : Int32) &&& 31)) (x4 &&& (3 : Int32)))), .val (.int (own_f_rm_un (x1 >>> ((16 : Int32) &&& 31)) (x4 &&& (3 : Int32)))), .val (.int (own_f_rm_un (x1 >>> ((24 : Int32) &&& 31)) (x4 &&& (3 : Int32)))), .val (.int u11), .val (.ref t209), .val (.ref b214), .val (.ref b226), .val (.int ((x2 &&& (2147483647 : Int32)) % ((4 : Int32) + (1 : Int32)))), .unset]) at_190 rfl rfl ?_
      refine Go.aload C X231 (pc' := 194) at_192 rfl rfl rfl ?_
      refine Go.iload C X231 (pc' := 196) at_194 rfl rfl ?_
      refine Go.iload C X231 (pc' := 198) at_196 rfl rfl ?_
      refine Go.callV C X231 (pc' := 201) (W := 0) (argsL := [(.int ((x2 &&& (2147483647 : Int32)) % ((4 : Int32) + (1 : Int32)))), (.int u11)]) (rest := []) (a := b226) (rm_fb l Z a0 hw b226 ((x2 &&& (2147483647 : Int32)) % ((4 : Int32) + (1 : Int32))) u11 t209 t2231 5 (fun q => if q = (5 - 1) then (-2147483648 : Int32) else (fun q => if q = 3 then (own_f_rm_un (x1 >>> ((24 : Int32) &&& 31)) (x4 &&& (3 : Int32))) else (fun q => if q = 2 then (own_f_rm_un (x1 >>> ((16 : Int32) &&& 31)) (x4 &&& (3 : Int32))) else (fun q => if q = 1 then (own_f_rm_un (x1 >>> ((8 : Int32) &&& 31)) (x4 &&& (3 : Int32))) else (fun q => if q = 0 then (own_f_rm_un x1 (x4 &&& (3 : Int32))) else (fun _ => 0) q) q) q) q) q) b1231 (((x2 &&& (2147483647 : Int32)) % ((4 : Int32) + (1 : Int32))).toInt.toNat) h231 n0 X231.sz O231_1 O231_2 O231_3 O231_4 (by decide) (own_st4 x2).1 (by have := (own_st4 x2).2; omega) (fun k a d => Y231_0 k a (by have := (own_st4 x2).2; omega))) O231_0 (notFace_of_selects (args := #[]) (mvT C.2.1 (hw _ (List.mem_of_getElem? (i := 36) rfl)))) (hw _ (List.mem_of_getElem? (i := 33) rfl)) (hw _ (List.mem_of_getElem? (i := 34) rfl)) (hw _ (List.mem_of_getElem? (i := 36) rfl)) (hw _ (List.mem_of_getElem? (i := 35) rfl)) (hw _ (List.mem_of_getElem? (i := 11) rfl)) (hw _ (List.mem_of_getElem? (i := 37) rfl)) (by decide) rfl rfl (lenOf own_pd1 rfl) rfl (Nat.le_of_eq rfl) (by decide) (by decide) (by decide) (by decide) at_198 rfl (fun _ _ q => Nat.le_of_eq (congrArg Array.size q.2)) (fun T234 h234 v234 X234 P234 => ?_)
      obtain ⟨rfl, rfl⟩ := P234
      show Go p e below s n0 _ _ _ T234 (mkF m 201 #[.val (.int x0), .val (.int x1), .val (.int x2), .val (.int x3), .val (.int x4), .val (.int (4 : Int32)), .val (.int (x4 &&& (3 : Int32))), .val (.int (own_f_rm_un x1 (x4 &&& (3 : Int32)))), .val (.int (own_f_rm_un (x1 >>> ((8 : Int32) &&& 31)) (x4 &&& (3 : Int32)))), .val (.int (own_f_rm_un (x1 >>> ((16 : Int32) &&& 31)) (x4 &&& (3 : Int32)))), .val (.int (own_f_rm_un (x1 >>> ((24 : Int32) &&& 31)) (x4 &&& (3 : Int32)))), .val (.int u11), .val (.ref t209), .val (.ref b214), .val (.ref b226), .val (.int ((x2 &&& (2147483647 : Int32)) % ((4 : Int32) + (1 : Int32)))), .unset] [(.int (Int32.ofNat (own_fb (fun q => if q = (5 - 1) then (-2147483648 : Int32) else (fun q => if q = 3 then (own_f_rm_un (x1 >>> ((24 : Int32) &&& 31)) (x4 &&& (3 : Int32))) else (fun q => if q = 2 then (own_f_rm_un (x1 >>> ((16 : Int32) &&& 31)) (x4 &&& (3 : Int32))) else (fun q => if q = 1 then (own_f_rm_un (x1 >>> ((8 : Int32) &&& 31)) (x4 &&& (3 : Int32))) else (fun q => if q = 0 then (own_f_rm_un x1 (x4 &&& (3 : Int32))) else (fun _ => 0) q) q) q) q) q) b1231 u11 ((x2 &&& (2147483647 : Int32)) % ((4 : Int32) + (1 : Int32))).toInt.toNat)))])
      refine Go.istore C X234 (pc' := 203) (Ls' := #[.val (.int x0), .val (.int x1), .val (.int x2), .val (.int x3), .val (.int x4), .val (.int (4 : Int32)), .val (.int (x4 &&& (3 : Int32))), .val (.int (own_f_rm_un x1 (x4 &&& (3 : Int32)))), .val (.int (own_f_rm_un (x1 >>> ((8 : Int32) &&& 31)) (x4 &&& (3 : Int32)))), .val (.int (own_f_rm_un (x1 >>> ((16 : Int32) &&& 31)) (x4 &&& (3 : Int32)))), .val (.int (own_f_rm_un (x1 >>> ((24 : Int32) &&& 31)) (x4 &&& (3 : Int32)))), .val (.int u11), .val (.ref t209), .val (.ref b214), .val (.ref b226), .val (.int ((x2 &&& (2147483647 : Int32)) % ((4 : Int32) + (1 : Int32)))), .val (.int (Int32.ofNat (own_fb (fun q => if q = (5 - 1) then (-2147483648 : Int32) else (fun q => if q = 3 then (own_f_rm_un (x1 >>> ((24 : Int32) &&& 31)) (x4 &&& (3 : Int32))) else (fun q => if q = 2 then (own_f_rm_un (x1 >>> ((16 : Int32) &&& 31)) (x4 &&& (3 : Int32))) else (fun q => if q = 1 then (own_f_rm_un (x1 >>> ((8 : Int32) &&& 31)) (x4 &&& (3 : Int32))) else (fun q => if q = 0 then (own_f_rm_un x1 (x4 &&& (3 : Int32))) else (fun _ => 0) q) q) q) q) q) b1231 u11 ((x2 &&& (2147483647 : Int32)) % ((4 : Int32) + (1 : Int32))).toInt.toNat)))]) at_201 rfl rfl ?_
      refine Go.iload C X234 (pc' := 205) at_203 rfl rfl ?_
      refine Go.aload C X234 (pc' := 207) at_205 rfl rfl rfl ?_
      refine Go.iload C X234 (pc' := 209) at_207 rfl rfl ?_
      refine Go.iload C X234 (pc' := 211) at_209 rfl rfl ?_
      refine Go.callS C X234 (pc' := 214) (W := 1) (argsL := [(.ref b214), (.int ((x2 &&& (2147483647 : Int32)) % ((4 : Int32) + (1 : Int32)))), (.int u11)]) (rest := [(.int (Int32.ofNat (own_fb (fun q => if q = (5 - 1) then (-2147483648 : Int32) else (fun q => if q = 3 then (own_f_rm_un (x1 >>> ((24 : Int32) &&& 31)) (x4 &&& (3 : Int32))) else (fun q => if q = 2 then (own_f_rm_un (x1 >>> ((16 : Int32) &&& 31)) (x4 &&& (3 : Int32))) else (fun q => if q = 1 then (own_f_rm_un (x1 >>> ((8 : Int32) &&& 31)) (x4 &&& (3 : Int32))) else (fun q => if q = 0 then (own_f_rm_un x1 (x4 &&& (3 : Int32))) else (fun _ => 0) q) q) q) q) q) b1231 u11 ((x2 &&& (2147483647 : Int32)) % ((4 : Int32) + (1 : Int32))).toInt.toNat)))]) (rm_ex l Z a0 hw b214 ((x2 &&& (2147483647 : Int32)) % ((4 : Int32) + (1 : Int32))) u11 (fun q => if q = 4 then (-2147483648 : Int32) else (fun q => if q = 3 then (own_f_rm_un (x1 >>> ((24 : Int32) &&& 31)) (x4 &&& (3 : Int32))) else (fun q => if q = 2 then (own_f_rm_un (x1 >>> ((16 : Int32) &&& 31)) (x4 &&& (3 : Int32))) else (fun q => if q = 1 then (own_f_rm_un (x1 >>> ((8 : Int32) &&& 31)) (x4 &&& (3 : Int32))) else (fun q => if q = 0 then (own_f_rm_un x1 (x4 &&& (3 : Int32))) else (fun _ => 0) q) q) q) q) q) (((x2 &&& (2147483647 : Int32)) % ((4 : Int32) + (1 : Int32))).toInt.toNat) h231 n0 X234.sz A232 (own_st4 x2).1 (by have := (own_st4 x2).2; omega)) (hw _ (List.mem_of_getElem? (i := 38) rfl)) (hw _ (List.mem_of_getElem? (i := 39) rfl)) (hw _ (List.mem_of_getElem? (i := 2) rfl)) (hw _ (List.mem_of_getElem? (i := 40) rfl)) (by decide) rfl rfl (lenOf own_pd7 rfl) rfl (Nat.le_of_eq rfl) (by decide) (by decide) (by decide) (by decide) at_211 rfl (fun _ _ q => Nat.le_of_eq (congrArg Array.size q.2)) (fun T235 h235 v235 X235 P235 => ?_)
      obtain ⟨rfl, rfl⟩ := P235
      show Go p e below s n0 _ _ _ T235 (mkF m 214 #[.val (.int x0), .val (.int x1), .val (.int x2), .val (.int x3), .val (.int x4), .val (.int (4 : Int32)), .val (.int (x4 &&& (3 : Int32))), .val (.int (own_f_rm_un x1 (x4 &&& (3 : Int32)))), .val (.int (own_f_rm_un (x1 >>> ((8 : Int32) &&& 31)) (x4 &&& (3 : Int32)))), .val (.int (own_f_rm_un (x1 >>> ((16 : Int32) &&& 31)) (x4 &&& (3 : Int32)))), .val (.int (own_f_rm_un (x1 >>> ((24 : Int32) &&& 31)) (x4 &&& (3 : Int32)))), .val (.int u11), .val (.ref t209), .val (.ref b214), .val (.ref b226), .val (.int ((x2 &&& (2147483647 : Int32)) % ((4 : Int32) + (1 : Int32)))), .val (.int (Int32.ofNat (own_fb (fun q => if q = (5 - 1) then (-2147483648 : Int32) else (fun q => if q = 3 then (own_f_rm_un (x1 >>> ((24 : Int32) &&& 31)) (x4 &&& (3 : Int32))) else (fun q => if q = 2 then (own_f_rm_un (x1 >>> ((16 : Int32) &&& 31)) (x4 &&& (3 : Int32))) else (fun q => if q = 1 then (own_f_rm_un (x1 >>> ((8 : Int32) &&& 31)) (x4 &&& (3 : Int32))) else (fun q => if q = 0 then (own_f_rm_un x1 (x4 &&& (3 : Int32))) else (fun _ => 0) q) q) q) q) q) b1231 u11 ((x2 &&& (2147483647 : Int32)) % ((4 : Int32) + (1 : Int32))).toInt.toNat)))] [(.int (own_ex (fun q => if q = 4 then (-2147483648 : Int32) else (fun q => if q = 3 then (own_f_rm_un (x1 >>> ((24 : Int32) &&& 31)) (x4 &&& (3 : Int32))) else (fun q => if q = 2 then (own_f_rm_un (x1 >>> ((16 : Int32) &&& 31)) (x4 &&& (3 : Int32))) else (fun q => if q = 1 then (own_f_rm_un (x1 >>> ((8 : Int32) &&& 31)) (x4 &&& (3 : Int32))) else (fun q => if q = 0 then (own_f_rm_un x1 (x4 &&& (3 : Int32))) else (fun _ => 0) q) q) q) q) q) ((x2 &&& (2147483647 : Int32)) % ((4 : Int32) + (1 : Int32))).toInt.toNat u11)), (.int (Int32.ofNat (own_fb (fun q => if q = (5 - 1) then (-2147483648 : Int32) else (fun q => if q = 3 then (own_f_rm_un (x1 >>> ((24 : Int32) &&& 31)) (x4 &&& (3 : Int32))) else (fun q => if q = 2 then (own_f_rm_un (x1 >>> ((16 : Int32) &&& 31)) (x4 &&& (3 : Int32))) else (fun q => if q = 1 then (own_f_rm_un (x1 >>> ((8 : Int32) &&& 31)) (x4 &&& (3 : Int32))) else (fun q => if q = 0 then (own_f_rm_un x1 (x4 &&& (3 : Int32))) else (fun _ => 0) q) q) q) q) q) b1231 u11 ((x2 &&& (2147483647 : Int32)) % ((4 : Int32) + (1 : Int32))).toInt.toNat)))])
      refine Go.icmpNo C X235 (pc' := 217) at_214 (teq (own_key (n := 4) (by decide) (own_st4 x2).2 (own_ag4 _ _ _ _) (own_fb_spec (fun k a d => Y231_0 k a (by have := (own_st4 x2).2; omega))))).2 rfl ?_
      refine Go.iconst C X235 (pc' := 218) (v := (1 : Int32)) at_217 rfl rfl ?_
      refine Go.goto C X235 (pc' := 222) at_218 (by decide) (by decide) ?_
      exact Go.retZ (t := .boolean) C X235 (z' := (1 : Int32)) (by decide) at_222 rfl (by decide) (by decide)
    refine Go.iload C X208 (pc' := 56) at_54 rfl rfl ?_
    refine Go.iconst C X208 (pc' := 57) (v := (4 : Int32)) at_56 rfl rfl ?_
    refine Go.iand C X208 (pc' := 58) at_57 rfl ?_
    by_cases c236 : (x4 &&& (4 : Int32)) = (0 : Int32)
    · refine Go.ifYes C X208 (pc' := 77) at_58 ((if0 _ _).trans (teq c236).1) (by decide) (by decide) ?_
      refine Go.iloadN C X208 (pc' := 78) at_77 rfl rfl ?_
      refine Go.iload C X208 (pc' := 80) at_78 rfl rfl ?_
      refine Go.callS C X208 (pc' := 83) (W := 0) (argsL := [(.int x3), (.int (x4 &&& (3 : Int32)))]) (rest := []) (rm_un l Z a0 hw x3 (x4 &&& (3 : Int32)) h0 n0 X208.sz ) (hw _ (List.mem_of_getElem? (i := 0) rfl)) (hw _ (List.mem_of_getElem? (i := 1) rfl)) (hw _ (List.mem_of_getElem? (i := 2) rfl)) (hw _ (List.mem_of_getElem? (i := 3) rfl)) (by decide) rfl rfl (lenOf own_pd1 rfl) rfl (Nat.le_of_eq rfl) (by decide) (by decide) (by decide) (by decide) at_80 rfl (fun _ _ q => Nat.le_of_eq (congrArg Array.size q.2)) (fun T237 h237 v237 X237 P237 => ?_)
      obtain ⟨rfl, rfl⟩ := P237
      show Go p e below s n0 _ _ _ T237 (mkF m 83 #[.val (.int x0), .val (.int x1), .val (.int x2), .val (.int x3), .val (.int x4), .val (.int (4 : Int32)), .val (.int (x4 &&& (3 : Int32))), .val (.int (own_f_rm_un x1 (x4 &&& (3 : Int32)))), .val (.int (own_f_rm_un (x1 >>> ((8 : Int32) &&& 31)) (x4 &&& (3 : Int32)))), .val (.int (own_f_rm_un (x1 >>> ((16 : Int32) &&& 31)) (x4 &&& (3 : Int32)))), .val (.int (own_f_rm_un (x1 >>> ((24 : Int32) &&& 31)) (x4 &&& (3 : Int32)))), .unset, .unset, .unset, .unset, .unset, .unset] [(.int (own_f_rm_un x3 (x4 &&& (3 : Int32))))])
      refine Go.istore C X237 (pc' := 85) (Ls' := #[.val (.int x0), .val (.int x1), .val (.int x2), .val (.int x3), .val (.int x4), .val (.int (4 : Int32)), .val (.int (x4 &&& (3 : Int32))), .val (.int (own_f_rm_un x1 (x4 &&& (3 : Int32)))), .val (.int (own_f_rm_un (x1 >>> ((8 : Int32) &&& 31)) (x4 &&& (3 : Int32)))), .val (.int (own_f_rm_un (x1 >>> ((16 : Int32) &&& 31)) (x4 &&& (3 : Int32)))), .val (.int (own_f_rm_un (x1 >>> ((24 : Int32) &&& 31)) (x4 &&& (3 : Int32)))), .val (.int (own_f_rm_un x3 (x4 &&& (3 : Int32)))), .unset, .unset, .unset, .unset, .unset]) at_83 rfl rfl ?_
      exact Cut85 T237 (own_f_rm_un x3 (x4 &&& (3 : Int32))) X237
    · refine Go.ifNo C X208 (pc' := 61) at_58 ((if0 _ _).trans (feq c236).1) rfl ?_
      refine Go.iloadN C X208 (pc' := 62) at_61 rfl rfl ?_
      refine Go.ldc C X208 (pc' := 64) (hw _ (List.mem_of_getElem? (i := 8) rfl)) at_62 rfl ?_
      by_cases c238 : x3 = (-2147483648 : Int32)
      · refine Go.icmpNo C X208 (pc' := 67) at_64 (teq c238).2 rfl ?_
        refine Go.iconst C X208 (pc' := 68) (v := (0 : Int32)) at_67 rfl rfl ?_
        refine Go.goto C X208 (pc' := 72) at_68 (by decide) (by decide) ?_
        refine Go.istore C X208 (pc' := 74) (Ls' := #[.val (.int x0), .val (.int x1), .val (.int x2), .val (.int x3), .val (.int x4), .val (.int (4 : Int32)), .val (.int (x4 &&& (3 : Int32))), .val (.int (own_f_rm_un x1 (x4 &&& (3 : Int32)))), .val (.int (own_f_rm_un (x1 >>> ((8 : Int32) &&& 31)) (x4 &&& (3 : Int32)))), .val (.int (own_f_rm_un (x1 >>> ((16 : Int32) &&& 31)) (x4 &&& (3 : Int32)))), .val (.int (own_f_rm_un (x1 >>> ((24 : Int32) &&& 31)) (x4 &&& (3 : Int32)))), .val (.int (0 : Int32)), .unset, .unset, .unset, .unset, .unset]) at_72 rfl rfl ?_
        refine Go.goto C X208 (pc' := 85) at_74 (by decide) (by decide) ?_
        exact Cut85 T208 (0 : Int32) X208
      · refine Go.icmpYes C X208 (pc' := 71) at_64 (feq c238).2 (by decide) (by decide) ?_
        refine Go.iloadN C X208 (pc' := 72) at_71 rfl rfl ?_
        refine Go.istore C X208 (pc' := 74) (Ls' := #[.val (.int x0), .val (.int x1), .val (.int x2), .val (.int x3), .val (.int x4), .val (.int (4 : Int32)), .val (.int (x4 &&& (3 : Int32))), .val (.int (own_f_rm_un x1 (x4 &&& (3 : Int32)))), .val (.int (own_f_rm_un (x1 >>> ((8 : Int32) &&& 31)) (x4 &&& (3 : Int32)))), .val (.int (own_f_rm_un (x1 >>> ((16 : Int32) &&& 31)) (x4 &&& (3 : Int32)))), .val (.int (own_f_rm_un (x1 >>> ((24 : Int32) &&& 31)) (x4 &&& (3 : Int32)))), .val (.int x3), .unset, .unset, .unset, .unset, .unset]) at_72 rfl rfl ?_
        refine Go.goto C X208 (pc' := 85) at_74 (by decide) (by decide) ?_
        exact Cut85 T208 x3 X208
set_option maxRecDepth 65536 in
set_option maxHeartbeats 40000000 in
theorem comes_1 {Post : Tables → Env → Array Value → State → Outcome → State → Prop} (hpost : ∀ tb e args s v u, (limb_1_1.after args s (.returned v) u = true ∧ limb_1_2.after args s (.returned v) u = true ∧ True) → FrameEnd s (.returned v) u (Jvm.fieldLocs frame_1_writes args s ++ Jvm.arrayLocs frame_1_arrays args s ++ Jvm.staticLocs frame_1_statics s) 16 128 → Post tb e args s (.returned v) u) :
    ArmFor flags0 classFile x code maxLocals ret World_1 tables_1 room_1 Calls_1 rest_1 Pre_1 Post := by
  intro l hfl _ _ p e ha hc hk s m args below hf hA hF happ hP
  obtain ⟨hcalls, hrest, hpre⟩ := hP
  obtain ⟨-, -, -, hnamed, -, -, -, hat⟩ := (Spec.applies_iff hf).mp happ
  obtain ⟨hg, hn⟩ := and_e (Cond.before_iff.mp (show (Jvm.Cond.and given_1 narrow_1).before args s = true from hpre))
  obtain ⟨hcount, hg0⟩ := and_e hg
  obtain ⟨w0, w1, w2, w3, w4, rfl⟩ : ∃ w0 w1 w2 w3 w4 : Value, args = #[w0, w1, w2, w3, w4] := by
    have hs : args.size = 5 := by simpa [Cond.value, given_1] using hcount
    obtain ⟨L⟩ := args
    match L, hs with
    | [w0, w1, w2, w3, w4], _ => exact ⟨w0, w1, w2, w3, w4, rfl⟩
  have hw := fun d (hd : d ∈ tables_1) => atoms_spec (ws := Jvm.Cond.code x code maxLocals ret :: tables_1) hat d (List.mem_cons_of_mem _ hd)
  have hfit : Fit s := fun {y c} hc i hi => by
    obtain ⟨ha, rfl⟩ := Array.getElem?_eq_some_iff.mp hc
    have q := List.all_eq_true.mp ((Array.all_eq_true_iff_forall_mem.mp hF) _ (Array.getElem_mem ha)) i (List.mem_range.mpr hi)
    simpa [Array.getElem?_eq_getElem hi] using q
  obtain ⟨ha0, hg1⟩ := and_e hg0
  obtain ⟨i0, e0⟩ := is_v ha0
  obtain rfl : w0 = (.int i0) := Option.some.inj e0
  obtain ⟨ha1, hg2⟩ := and_e hg1
  obtain ⟨i1, e1⟩ := is_v ha1
  obtain rfl : w1 = (.int i1) := Option.some.inj e1
  obtain ⟨ha2, hg3⟩ := and_e hg2
  obtain ⟨i2, e2⟩ := is_v ha2
  obtain rfl : w2 = (.int i2) := Option.some.inj e2
  obtain ⟨ha3, hg4⟩ := and_e hg3
  obtain ⟨i3, e3⟩ := is_v ha3
  obtain rfl : w3 = (.int i3) := Option.some.inj e3
  obtain ⟨i4, e4⟩ := is_v hg4
  obtain rfl : w4 = (.int i4) := Option.some.inj e4
  obtain ⟨n, o, h1, h2, h3, _, L, rfl, ⟨rfl, N⟩, hq⟩ := rm0 l s _ hw i0 i1 i2 i3 i4 s.heap s.heap.size (Nat.le_refl _)  tables_1 p e ha hc hk s m _ below hf ((Spec.applies_iff_loose hf).mp happ).1 ⟨rfl, State.Warmed39.refl s, rfl⟩ trivial
  refine ⟨n, _, h1, h2, h3, hpost _ _ _ _ _ _ ⟨Cond.after_iff.mpr rfl, Cond.after_iff.mpr (eq_i res_at (Term.int_eval (1)) rfl), trivial⟩ ⟨hq.1, hq.2.1, (hq.2.2.sift fun y hy => Or.inr (N y hy)).mono (by decide) (by decide)⟩⟩
theorem main_1_1 : Claimed_1_1 := comes_1 fun _ _ _ _ _ _ h hF => ⟨h.1, hF⟩
theorem main_1_2 : Claimed_1_2 := comes_1 fun _ _ _ _ _ _ h hF => ⟨h.2.1, hF⟩
end Jvm.Pilot.@@N@@
namespace Jvm.Pilot.@@N@@
open Jvm Jvm.ClassFile Sem Op Lib Jvm.Free Jvm.Stand Jvm.Pilot.@@N@@.Jvm.D
/-! MADE BY PROGRAM (witnessworld.py) out of the Statement's table words and the real class files: 9 classes; the members and pool entries that the words name. The judged class is class 1, her method 1. -/
namespace start1
open Jvm.ClassFile
def u (s : String) : CpInfo := .utf8 (stringToUtf16 s)
/-- a pool by its gaps: so many unusable entries, then the entry; so many at the end -/
def gap : Nat → List CpInfo → List CpInfo
  | 0, r => r
  | n + 1, r => .unusable :: gap n r
def poolList (es : List (Nat × CpInfo)) (last : Nat) : List CpInfo := es.foldr (fun e r => gap e.1 (e.2 :: r)) (gap last [])
def pool (es : List (Nat × CpInfo)) (last : Nat) : Array CpInfo := ⟨poolList es last⟩
def fileOf (pool : Array CpInfo) (this : Nat) (attrs : Array Attribute := #[]) (ms : Array MethodInfo := #[]) (fl : Nat := 33) (sup : Nat := 0) (ifs : Array Nat := #[]) (fds : Array FieldInfo := #[]) : ClassFile where
  minorVersion := 0
  majorVersion := 65
  constantPool := pool
  accessFlags := fl
  thisClass := this
  superClass := sup
  interfaces := ifs
  fields := fds
  methods := ms
  attributes := attrs
def plain (name : String) (sup : Option ClassId) : Class where
  name := name
  kind := .ordinary
  loader := none
  accessFlags := 33
  super := sup
  interfaces := #[]
  cf := none
  fields := #[]
  methods := #[]
  instanceTypes := #[]
  staticTypes := #[]
  resolved := #[]
  callSites := []
  init := .initialized
  statics := none
  mirror := none

def pool0 : Array CpInfo := pool [(5, u "<init>"), (0, u "()V"), (1, .class_ 10), (1, u "java/lang/Object")] 113

def k0c0 : Code := { maxStack := 0, maxLocals := 1, code := object_method_1_code, exceptionTable := #[], attributes := #[] }
def k0m0 : Method := { name := "<init>", desc := "()V", sig := { parameters := [], returnType := none }, accessFlags := 1, code := some k0c0 }
/-- java/lang/Object -/
def k0 : Class := { plain "java/lang/Object" none with
  accessFlags := 33
  interfaces := #[]
  cf := some (fileOf pool0 8 #[] #[{ accessFlags := 1, nameIndex := 5, descriptorIndex := 6, attributes := #[] }] 33 0 #[] #[])
  fields := #[]
  methods := #[k0m0]
  instanceTypes := #[]
  staticTypes := #[]
  resolved := Array.replicate 124 none
  statics := none }

def pool1 : Array CpInfo := pool [(2, .class_ 4), (1, u "java/lang/Object"), (0, u "<init>"), (0, u "()V"), (0, .methodref 8 9), (0, .class_ 10), (0, .nameAndType 11 12), (0, u "com/example/needlewright/needlewright/AutomatonFallBackPinLaw"), (0, u "unitOf"), (0, u "(II)I"), (2, .integer 2147483648), (0, .methodref 8 17), (0, .nameAndType 18 19), (0, u "make"), (0, u "(I)[I"), (0, .class_ 21), (0, u "com/example/needlewright/needlewright/Automaton"), (0, .methodref 20 23), (0, .nameAndType 5 24), (0, u "([I)V"), (0, .integer 2147483647), (0, .methodref 20 27), (0, .nameAndType 28 12), (0, u "fallBack"), (0, .methodref 8 30), (0, .nameAndType 31 32), (0, u "expected"), (0, u "([III)I"), (0, .methodref 8 34), (0, .nameAndType 35 36), (0, u "border"), (0, u "([III)Z"), (0, .methodref 8 38), (0, .nameAndType 39 40), (0, u "ok"), (0, u "([IIII)Z"), (2, u "law"), (0, u "(IIIII)Z")] 5

def k1m0 : Method := { name := "<init>", desc := "()V", sig := { parameters := [], returnType := none }, accessFlags := 1, code := none }
def k1c1 : Code := { maxStack := 4, maxLocals := 17, code := code, exceptionTable := #[], attributes := #[] }
def k1m1 : Method := { name := "law", desc := "(IIIII)Z", sig := { parameters := [.int, .int, .int, .int, .int], returnType := some .boolean }, accessFlags := 9, code := some k1c1 }
def k1c2 : Code := { maxStack := 2, maxLocals := 2, code := method_3_code, exceptionTable := #[], attributes := #[] }
def k1m2 : Method := { name := "unitOf", desc := "(II)I", sig := { parameters := [.int, .int], returnType := some .int }, accessFlags := 10, code := some k1c2 }
def k1c3 : Code := { maxStack := 2, maxLocals := 1, code := method_4_code, exceptionTable := #[], attributes := #[] }
def k1m3 : Method := { name := "make", desc := "(I)[I", sig := { parameters := [.int], returnType := some (.array .int) }, accessFlags := 10, code := some k1c3 }
def k1c4 : Code := { maxStack := 3, maxLocals := 3, code := method_5_code, exceptionTable := #[], attributes := #[] }
def k1m4 : Method := { name := "border", desc := "([III)Z", sig := { parameters := [(.array .int), .int, .int], returnType := some .boolean }, accessFlags := 10, code := some k1c4 }
def k1c5 : Code := { maxStack := 3, maxLocals := 4, code := method_6_code, exceptionTable := #[], attributes := #[] }
def k1m5 : Method := { name := "ok", desc := "([IIII)Z", sig := { parameters := [(.array .int), .int, .int, .int], returnType := some .boolean }, accessFlags := 10, code := some k1c5 }
def k1c6 : Code := { maxStack := 4, maxLocals := 3, code := method_7_code, exceptionTable := #[], attributes := #[] }
def k1m6 : Method := { name := "expected", desc := "([III)I", sig := { parameters := [(.array .int), .int, .int], returnType := some .int }, accessFlags := 10, code := some k1c6 }
/-- com/example/needlewright/needlewright/AutomatonFallBackPinLaw -/
def k1 : Class := { plain "com/example/needlewright/needlewright/AutomatonFallBackPinLaw" (some 0) with
  accessFlags := 49
  interfaces := #[]
  cf := some (fileOf pool1 8 #[] #[{ accessFlags := 1, nameIndex := 5, descriptorIndex := 6, attributes := #[] }, { accessFlags := 9, nameIndex := 43, descriptorIndex := 44, attributes := #[] }, { accessFlags := 10, nameIndex := 11, descriptorIndex := 12, attributes := #[] }, { accessFlags := 10, nameIndex := 18, descriptorIndex := 19, attributes := #[] }, { accessFlags := 10, nameIndex := 35, descriptorIndex := 36, attributes := #[] }, { accessFlags := 10, nameIndex := 39, descriptorIndex := 40, attributes := #[] }, { accessFlags := 10, nameIndex := 31, descriptorIndex := 32, attributes := #[] }] 49 2 #[] #[])
  fields := #[]
  methods := #[k1m0, k1m1, k1m2, k1m3, k1m4, k1m5, k1m6]
  instanceTypes := #[]
  staticTypes := #[]
  resolved := Array.replicate 50 none
  statics := none }

def pool2 : Array CpInfo := pool [(3, .methodref 4 5), (0, .class_ 6), (0, .nameAndType 7 8), (0, u "java/lang/Object"), (0, u "<init>"), (0, u "()V"), (7, .class_ 17), (0, u "com/example/needlewright/needlewright/Automaton"), (0, .integer 2147483648), (0, .fieldref 16 20), (0, .nameAndType 21 22), (0, u "units"), (0, u "[I"), (0, .fieldref 16 24), (0, .nameAndType 25 22), (0, u "borders"), (0, .methodref 16 27), (0, .nameAndType 28 8), (0, u "fillBorders"), (0, .methodref 16 30), (0, .nameAndType 31 32), (0, u "length"), (0, u "()I"), (0, .methodref 16 34), (0, .nameAndType 35 36), (0, u "fallBack"), (0, u "(II)I"), (0, u "BEYOND"), (0, u "I"), (1, u "([I)V")] 6

def k2c0 : Code := { maxStack := 3, maxLocals := 2, code := prog_3_method_1_code, exceptionTable := #[], attributes := #[] }
def k2m0 : Method := { name := "<init>", desc := "([I)V", sig := { parameters := [(.array .int)], returnType := none }, accessFlags := 0, code := some k2c0 }
def k2c1 : Code := { maxStack := 2, maxLocals := 1, code := prog_3_method_2_code, exceptionTable := #[], attributes := #[] }
def k2m1 : Method := { name := "length", desc := "()I", sig := { parameters := [], returnType := some .int }, accessFlags := 0, code := some k2c1 }
def k2c2 : Code := { maxStack := 2, maxLocals := 3, code := prog_3_method_3_code, exceptionTable := #[], attributes := #[] }
def k2m2 : Method := { name := "fallBack", desc := "(II)I", sig := { parameters := [.int, .int], returnType := some .int }, accessFlags := 0, code := some k2c2 }
def k2c3 : Code := { maxStack := 4, maxLocals := 3, code := prog_3_method_4_code, exceptionTable := #[], attributes := #[] }
def k2m3 : Method := { name := "fillBorders", desc := "()V", sig := { parameters := [], returnType := none }, accessFlags := 2, code := some k2c3 }
/-- com/example/needlewright/needlewright/Automaton -/
def k2 : Class := { plain "com/example/needlewright/needlewright/Automaton" (some 0) with
  accessFlags := 48
  interfaces := #[]
  cf := some (fileOf pool2 16 #[] #[{ accessFlags := 0, nameIndex := 7, descriptorIndex := 40, attributes := #[] }, { accessFlags := 0, nameIndex := 31, descriptorIndex := 32, attributes := #[] }, { accessFlags := 0, nameIndex := 35, descriptorIndex := 36, attributes := #[] }, { accessFlags := 2, nameIndex := 28, descriptorIndex := 8, attributes := #[] }] 48 4 #[] #[{ accessFlags := 26, nameIndex := 37, descriptorIndex := 38, attributes := #[] }, { accessFlags := 16, nameIndex := 21, descriptorIndex := 22, attributes := #[] }, { accessFlags := 18, nameIndex := 25, descriptorIndex := 22, attributes := #[] }])
  fields := #[{ name := "BEYOND", type := .int, accessFlags := 26, slot := 0, constantValue := 0 }, { name := "units", type := (.array .int), accessFlags := 16, slot := 0, constantValue := 0 }, { name := "borders", type := (.array .int), accessFlags := 18, slot := 1, constantValue := 0 }]
  methods := #[k2m0, k2m1, k2m2, k2m3]
  instanceTypes := #[(.array .int), (.array .int)]
  staticTypes := #[.int]
  resolved := Array.replicate 47 none
  statics := none }

def pool3 : Array CpInfo := pool [(1, u "java/lang/Cloneable"), (0, .class_ 1), (0, u "java/lang/Object"), (0, .class_ 3)] 3

/-- java/lang/Cloneable -/
def k3 : Class := { plain "java/lang/Cloneable" (some 0) with
  accessFlags := 1537
  interfaces := #[]
  cf := some (fileOf pool3 2 #[] #[] 1537 4 #[] #[])
  fields := #[]
  methods := #[]
  instanceTypes := #[]
  staticTypes := #[]
  resolved := Array.replicate 8 none
  statics := none }

def pool4 : Array CpInfo := pool [(1, u "java/io/Serializable"), (0, .class_ 1), (0, u "java/lang/Object"), (0, .class_ 3)] 3

/-- java/io/Serializable -/
def k4 : Class := { plain "java/io/Serializable" (some 0) with
  accessFlags := 1537
  interfaces := #[]
  cf := some (fileOf pool4 2 #[] #[] 1537 4 #[] #[])
  fields := #[]
  methods := #[]
  instanceTypes := #[]
  staticTypes := #[]
  resolved := Array.replicate 8 none
  statics := none }

/-- the primitive byte -/
def k5 : Class := { plain "byte" none with kind := .primitive 'B', accessFlags := 0x411 }
/-- [B -/
def k6 : Class := { plain "[B" (some 0) with kind := .array 5 .byte, interfaces := #[3, 4], accessFlags := 1041 }

/-- the primitive int -/
def k7 : Class := { plain "int" none with kind := .primitive 'I', accessFlags := 0x411 }
/-- [I -/
def k8 : Class := { plain "[I" (some 0) with kind := .array 7 .int, interfaces := #[3, 4], accessFlags := 1041 }

def heap : Heap := #[]
def classes : Array Class := #[k0, k1, k2, k3, k4, k5, k6, k7, k8]
def interned : List (Array UInt16 × Addr) := []
def slotsUsed : Nat := 0
def theMethod : MethodId := ⟨1, 1⟩
def args0 : Array Value := #[.int 2, .int 1000, .int 2, .int 1, .int 1]
def aboutOver (below : List Frame) : State where
  vm := { classes := classes, interned := interned.toArray }
  heap := heap
  slotsUsed := slotsUsed
  threads := #[{ frames := .invoking theMethod args0 :: below }]
def below0 : List Frame := [.native { method := ⟨0, 0⟩, args := #[] }]
def about1 : State := aboutOver below0
def p0 : Program := .bare "" "" ""
def e0 : Env := launch0.env 0 0 0
theorem w_frames : about1.frames = Frame.invoking theMethod args0 :: below0 := rfl
set_option maxRecDepth 65536 in
theorem w_args : argsFit about1.vm theMethod args0 = true := by decide +kernel
set_option maxRecDepth 65536 in
theorem w_heap : heapFits about1 = true := by decide +kernel
set_option maxRecDepth 65536 in
theorem w_runnable : about1.curStatus? = some .runnable := by decide +kernel
set_option maxRecDepth 65536 in
theorem w_alone : about1.alone = true := by decide +kernel
set_option maxRecDepth 65536 in
theorem w_named : about1.methodNamed? x = some theMethod := by decide +kernel
set_option maxRecDepth 65536 in
theorem w_hears : about1.hears theMethod below0 = true := by decide +kernel
set_option maxRecDepth 65536 in
theorem w_ripe : about1.ripe theMethod args0 below0 = true := by decide +kernel
theorem w_running : about1.status = .running := rfl
set_option maxRecDepth 65536 in
theorem w_room : about1.hasRoom e0.platform room_1 = true :=
  launch0.hasRoom_least _ room_1 (by decide +kernel) (by decide +kernel) (by decide +kernel) (by decide +kernel) (by decide +kernel) (by decide +kernel)
theorem allAtoms_all (ts : List Jvm.Cond) (a : Array Jvm.Value) (st : Jvm.State) : (allAtoms ts).before a st = ts.all (fun c => c.before a st) := by
  induction ts with
  | nil => rfl
  | cons c t ih =>
    show (Jvm.Cond.and c (allAtoms t)).before a st = _
    rw [Jvm.Cond.before_and, ih, List.all_cons]
def words1 : List Jvm.Cond := Jvm.Cond.code x code maxLocals ret :: tables_1
/-- a 'code' word, met by the world's own term for the bytes: nothing is compared byte by byte -/
theorem code_word {y : MethodName} {bytes : ByteArray} {mx : Nat} {rt : Option FieldType} {a : Array Value} {s : State} {m : MethodId} {meth : Method} {c : Code} (h1 : s.methodNamed? y = some m) (h2 : s.vm.method? m = some meth) (h3 : meth.code = some c) (h4 : c.code = bytes)
    (h5 : (c.maxLocals == mx && c.exceptionTable.isEmpty && decide (c.maxStack ≤ mostOperands) && decide (meth.sig.returnType = rt) && !meth.locks && decide (parseMethodDescriptor y.desc = some meth.sig)) = true) : (Jvm.Cond.code y bytes mx rt).before a s = true := by
  simp only [Bool.and_eq_true, beq_iff_eq, Bool.not_eq_true', decide_eq_true_eq] at h5
  obtain ⟨⟨⟨⟨⟨g1, g2⟩, g3⟩, g4⟩, g5⟩, g6⟩ := h5
  simp [Cond.before, Cond.holds, Cond.value, h1, h2, h3, h4, g1, g2, g3, g4, g5, g6]
def isCode : Jvm.Cond → Bool
  | .code _ _ _ _ => true
  | _ => false
theorem all_split {L : List Jvm.Cond} {P : Jvm.Cond → Bool} (h1 : L.all (fun c => isCode c || P c) = true) (h2 : ∀ c ∈ L.filter isCode, P c = true) : L.all P = true := by
  refine List.all_eq_true.mpr fun c hc => ?_
  have h := List.all_eq_true.mp h1 c hc
  rcases Bool.eq_false_or_eq_true (isCode c) with hi | hi
  · exact h2 c (List.mem_filter.mpr ⟨hc, hi⟩)
  · simpa [hi] using h
set_option maxRecDepth 65536 in
theorem w_c0 : (Jvm.Cond.code x code maxLocals ret).before args0 about1 = true := code_word (m := ⟨1, 1⟩) (meth := k1m1) (c := k1c1) (by decide +kernel) rfl rfl rfl (by decide +kernel)
set_option maxRecDepth 65536 in
theorem w_c1 : (Jvm.Cond.code ({ cls := "com/example/needlewright/needlewright/AutomatonFallBackPinLaw", name := "unitOf", desc := "(II)I" } : Jvm.MethodName) method_3_code (2 : Nat) (Option.some Jvm.ClassFile.FieldType.int)).before args0 about1 = true := code_word (m := ⟨1, 2⟩) (meth := k1m2) (c := k1c2) (by decide +kernel) rfl rfl rfl (by decide +kernel)
set_option maxRecDepth 65536 in
theorem w_c2 : (Jvm.Cond.code ({ cls := "com/example/needlewright/needlewright/AutomatonFallBackPinLaw", name := "make", desc := "(I)[I" } : Jvm.MethodName) method_4_code (1 : Nat) (Option.some (Jvm.ClassFile.FieldType.array Jvm.ClassFile.FieldType.int))).before args0 about1 = true := code_word (m := ⟨1, 3⟩) (meth := k1m3) (c := k1c3) (by decide +kernel) rfl rfl rfl (by decide +kernel)
set_option maxRecDepth 65536 in
theorem w_c3 : (Jvm.Cond.code ({ cls := "com/example/needlewright/needlewright/Automaton", name := "<init>", desc := "([I)V" } : Jvm.MethodName) prog_3_method_1_code (2 : Nat) (Option.none : Option Jvm.ClassFile.FieldType)).before args0 about1 = true := code_word (m := ⟨2, 0⟩) (meth := k2m0) (c := k2c0) (by decide +kernel) rfl rfl rfl (by decide +kernel)
set_option maxRecDepth 65536 in
theorem w_c4 : (Jvm.Cond.code ({ cls := "java/lang/Object", name := "<init>", desc := "()V" } : Jvm.MethodName) object_method_1_code (1 : Nat) (Option.none : Option Jvm.ClassFile.FieldType)).before args0 about1 = true := code_word (m := ⟨0, 0⟩) (meth := k0m0) (c := k0c0) (by decide +kernel) rfl rfl rfl (by decide +kernel)
set_option maxRecDepth 65536 in
theorem w_c5 : (Jvm.Cond.code ({ cls := "com/example/needlewright/needlewright/Automaton", name := "fillBorders", desc := "()V" } : Jvm.MethodName) prog_3_method_4_code (3 : Nat) (Option.none : Option Jvm.ClassFile.FieldType)).before args0 about1 = true := code_word (m := ⟨2, 3⟩) (meth := k2m3) (c := k2c3) (by decide +kernel) rfl rfl rfl (by decide +kernel)
set_option maxRecDepth 65536 in
theorem w_c6 : (Jvm.Cond.code ({ cls := "com/example/needlewright/needlewright/Automaton", name := "length", desc := "()I" } : Jvm.MethodName) prog_3_method_2_code (1 : Nat) (Option.some Jvm.ClassFile.FieldType.int)).before args0 about1 = true := code_word (m := ⟨2, 1⟩) (meth := k2m1) (c := k2c1) (by decide +kernel) rfl rfl rfl (by decide +kernel)
set_option maxRecDepth 65536 in
theorem w_c7 : (Jvm.Cond.code ({ cls := "com/example/needlewright/needlewright/Automaton", name := "fallBack", desc := "(II)I" } : Jvm.MethodName) prog_3_method_3_code (3 : Nat) (Option.some Jvm.ClassFile.FieldType.int)).before args0 about1 = true := code_word (m := ⟨2, 2⟩) (meth := k2m2) (c := k2c2) (by decide +kernel) rfl rfl rfl (by decide +kernel)
set_option maxRecDepth 65536 in
theorem w_c8 : (Jvm.Cond.code ({ cls := "com/example/needlewright/needlewright/AutomatonFallBackPinLaw", name := "expected", desc := "([III)I" } : Jvm.MethodName) method_7_code (3 : Nat) (Option.some Jvm.ClassFile.FieldType.int)).before args0 about1 = true := code_word (m := ⟨1, 6⟩) (meth := k1m6) (c := k1c6) (by decide +kernel) rfl rfl rfl (by decide +kernel)
set_option maxRecDepth 65536 in
theorem w_c9 : (Jvm.Cond.code ({ cls := "com/example/needlewright/needlewright/AutomatonFallBackPinLaw", name := "ok", desc := "([IIII)Z" } : Jvm.MethodName) method_6_code (4 : Nat) (Option.some Jvm.ClassFile.FieldType.boolean)).before args0 about1 = true := code_word (m := ⟨1, 5⟩) (meth := k1m5) (c := k1c5) (by decide +kernel) rfl rfl rfl (by decide +kernel)
set_option maxRecDepth 65536 in
theorem w_c10 : (Jvm.Cond.code ({ cls := "com/example/needlewright/needlewright/AutomatonFallBackPinLaw", name := "border", desc := "([III)Z" } : Jvm.MethodName) method_5_code (3 : Nat) (Option.some Jvm.ClassFile.FieldType.boolean)).before args0 about1 = true := code_word (m := ⟨1, 4⟩) (meth := k1m4) (c := k1c4) (by decide +kernel) rfl rfl rfl (by decide +kernel)
def codes1 : List Jvm.Cond := [Jvm.Cond.code x code maxLocals ret, Jvm.Cond.code ({ cls := "com/example/needlewright/needlewright/AutomatonFallBackPinLaw", name := "unitOf", desc := "(II)I" } : Jvm.MethodName) method_3_code (2 : Nat) (Option.some Jvm.ClassFile.FieldType.int), Jvm.Cond.code ({ cls := "com/example/needlewright/needlewright/AutomatonFallBackPinLaw", name := "make", desc := "(I)[I" } : Jvm.MethodName) method_4_code (1 : Nat) (Option.some (Jvm.ClassFile.FieldType.array Jvm.ClassFile.FieldType.int)), Jvm.Cond.code ({ cls := "com/example/needlewright/needlewright/Automaton", name := "<init>", desc := "([I)V" } : Jvm.MethodName) prog_3_method_1_code (2 : Nat) (Option.none : Option Jvm.ClassFile.FieldType), Jvm.Cond.code ({ cls := "java/lang/Object", name := "<init>", desc := "()V" } : Jvm.MethodName) object_method_1_code (1 : Nat) (Option.none : Option Jvm.ClassFile.FieldType), Jvm.Cond.code ({ cls := "com/example/needlewright/needlewright/Automaton", name := "fillBorders", desc := "()V" } : Jvm.MethodName) prog_3_method_4_code (3 : Nat) (Option.none : Option Jvm.ClassFile.FieldType), Jvm.Cond.code ({ cls := "com/example/needlewright/needlewright/Automaton", name := "length", desc := "()I" } : Jvm.MethodName) prog_3_method_2_code (1 : Nat) (Option.some Jvm.ClassFile.FieldType.int), Jvm.Cond.code ({ cls := "com/example/needlewright/needlewright/Automaton", name := "fallBack", desc := "(II)I" } : Jvm.MethodName) prog_3_method_3_code (3 : Nat) (Option.some Jvm.ClassFile.FieldType.int), Jvm.Cond.code ({ cls := "com/example/needlewright/needlewright/AutomatonFallBackPinLaw", name := "expected", desc := "([III)I" } : Jvm.MethodName) method_7_code (3 : Nat) (Option.some Jvm.ClassFile.FieldType.int), Jvm.Cond.code ({ cls := "com/example/needlewright/needlewright/AutomatonFallBackPinLaw", name := "ok", desc := "([IIII)Z" } : Jvm.MethodName) method_6_code (4 : Nat) (Option.some Jvm.ClassFile.FieldType.boolean), Jvm.Cond.code ({ cls := "com/example/needlewright/needlewright/AutomatonFallBackPinLaw", name := "border", desc := "([III)Z" } : Jvm.MethodName) method_5_code (3 : Nat) (Option.some Jvm.ClassFile.FieldType.boolean)]
set_option maxRecDepth 65536 in
theorem codes_eq : words1.filter isCode = codes1 := rfl
theorem w_codes : ∀ c ∈ words1.filter isCode, c.before args0 about1 = true := by
  rw [codes_eq]
  intro c hc
  simp only [codes1, List.mem_cons, List.not_mem_nil, or_false] at hc
  rcases hc with rfl | rfl | rfl | rfl | rfl | rfl | rfl | rfl | rfl | rfl | rfl
  · exact w_c0
  · exact w_c1
  · exact w_c2
  · exact w_c3
  · exact w_c4
  · exact w_c5
  · exact w_c6
  · exact w_c7
  · exact w_c8
  · exact w_c9
  · exact w_c10
set_option maxRecDepth 65536 in
theorem w_t1 : (words1.take 24).all (fun c => isCode c || c.before args0 about1) = true := by decide +kernel
set_option maxRecDepth 65536 in
theorem w_t2 : ((words1.drop 24).take 24).all (fun c => isCode c || c.before args0 about1) = true := by decide +kernel
set_option maxRecDepth 65536 in
theorem w_t3 : ((words1.drop 24).drop 24).all (fun c => isCode c || c.before args0 about1) = true := by decide +kernel
theorem w_tables : (allAtoms (Jvm.Cond.code x code maxLocals ret :: tables_1)).before args0 about1 = true := by
  rw [allAtoms_all]
  show words1.all (fun c => c.before args0 about1) = true
  refine all_split ?_ w_codes
  rw [← List.take_append_drop 24 words1, List.all_append, w_t1, ← List.take_append_drop 24 (words1.drop 24), List.all_append, w_t2, w_t3]
  rfl
set_option maxRecDepth 65536 in
theorem w_case : (Jvm.Cond.and given_1 narrow_1).before args0 about1 = true := by decide +kernel
theorem w_applies : (headSpec (Jvm.Cond.code x code maxLocals ret :: tables_1) room_1).applies x e0.platform about1 = true :=
  (Spec.applies_iff w_frames).mpr ⟨w_running, w_runnable, w_alone, w_named, w_hears, w_ripe, w_room, w_tables⟩
theorem atStart : AtStart classFile x code maxLocals ret World_1 tables_1 room_1 Calls_1 rest_1 Pre_1 launch0 p0 e0 about1 theMethod args0 below0 :=
  ⟨lists_1, trivial, launch0.admits_env _ _ _, launch0.least_env, fairChoices_fair.cas, fairChoices_fair.clock, w_frames, w_args, w_heap, w_applies, trivial, trivial, w_case⟩
end start1
theorem witness_1 : WitnessClaimed_1 := ⟨start1.p0, start1.e0, start1.about1, start1.theMethod, start1.args0, start1.below0, start1.atStart⟩
end Jvm.Pilot.@@N@@
