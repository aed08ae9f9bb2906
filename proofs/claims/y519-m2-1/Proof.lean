import JvmDerived
import JvmDerived.Pilot.@@N@@Statement
import JvmDerived.Pilot.@@N@@Code
set_option linter.unusedVariables false
set_option linter.unusedSimpArgs false
namespace Jvm.RoadKit
open Sem ClassFile Op Lib Jvm.Stand Jvm.Free Jvm.LawKit
section Own
variable {p : Program} {l : Launch} {e : Env} {R : Room} {s : State} {m : MethodId} {args : Array Value} {below : List Frame} {meth : Method} {c : Code} {T : State} {Z : State} {a0 : Array Value} {h : Heap} {cells slots n0 rc rs : Nat} {bytes : ByteArray} {own : String} {ret : Option FieldType} {maxL : Nat} {P : Option Value → Heap → Prop} {Ls : Array Slot} {pc pc' : Nat} {st : List Value}
def Cx (p : Program) (s : State) (m : MethodId) (meth : Method) (c : Code) (Z : State) (bytes : ByteArray) (own : String) (ret : Option FieldType) (maxL : Nat) : Prop :=
  p.tables.exec = Jvm.exec ∧ Z.Warmed39 s.vm ∧ c.code = bytes ∧ s.vm.findClass own = some m.cls ∧ c.maxLocals = maxL ∧ meth.locks = false ∧ meth.sig.returnType = ret
def On (p : Program) (l : Launch) (e : Env) (R : Room) (s : State) (m : MethodId) (args : Array Value) (below : List Frame) (meth : Method) (c : Code) (n0 : Nat) (T : State) (h : Heap) (cells slots : Nat) : Prop :=
  ∃ locs, Stand p l e R s m args below meth c T locs cells slots ∧ T.heap = h ∧ Fr n0 locs ∧ n0 ≤ h.size
def Go (p : Program) (e : Env) (below : List Frame) (s : State) (n0 rc rs : Nat) (P : Option Value → Heap → Prop) (T : State) (g : JFrame) : Prop :=
  ∃ s₂ o, Steps p.tables e below (T.setTop g) s₂ ∧ s₂.status = .running ∧ Ended s₂ below o ∧ ∃ v L, o = .returned v ∧ (P v s₂.heap ∧ Fr n0 L) ∧ FrameEnd s o s₂ L rc rs
def Con (l : Launch) (Z : State) (y : MethodName) (bytes : ByteArray) (maxL : Nat) (ret : Option FieldType) (rm : Room) (as' : Array Value) (h0 : Heap) (n0 : Nat) (P : Option Value → Heap → Prop) : Prop :=
  ∀ ws, MetFree l y (head1 (Cond.code y bytes maxL ret :: ws) rm) (fun a U => a = as' ∧ Z.Warmed39 U.vm ∧ U.heap = h0) (fun _ _ _ _ _ => True) (fun _ U o U' => ∃ v L, o = .returned v ∧ (P v U'.heap ∧ Fr n0 L) ∧ FrameEnd U o U' L rm.cells rm.slots)
theorem Go.of {T' : State} {g g' : JFrame} (st : ∀ t, Steps p.tables e below (T'.setTop g') t → Steps p.tables e below (T.setTop g) t) (k : Go p e below s n0 rc rs P T' g') : Go p e below s n0 rc rs P T g := by
  obtain ⟨s₂, o, h1, h2⟩ := k
  exact ⟨s₂, o, st _ h1, h2⟩
theorem Go.tr {T' : State} {g g' : JFrame} (st : Steps p.tables e below (T.setTop g) (T'.setTop g')) (k : Go p e below s n0 rc rs P T' g') : Go p e below s n0 rc rs P T g :=
  Go.of (fun _ q => st.trans q) k
theorem Go.imp {P' : Option Value → Heap → Prop} {g : JFrame} (k : Go p e below s n0 rc rs P' T g) (hi : ∀ v h, P' v h → P v h) : Go p e below s n0 rc rs P T g := by
  obtain ⟨s₂, o, h1, h2, h3, v, L, h4, ⟨h5, h6⟩, h7⟩ := k
  exact ⟨s₂, o, h1, h2, h3, v, L, h4, ⟨hi _ _ h5, h6⟩, h7⟩
theorem Con.enter {y : MethodName} {rm : Room} {as' : Array Value} {h0 : Heap} (hpl : plainFor y = true) (hz : n0 ≤ h0.size)
    (body : ∀ p e s m below meth c T, Cx p s m meth c Z bytes y.cls ret maxL → meth.name = y.name → On p l e rm s m as' below meth c n0 T h0 0 0 → Go p e below s n0 rm.cells rm.slots P T (entryFrame m as' maxL)) :
    Con l Z y bytes maxL ret rm as' h0 n0 P := by
  intro ws
  refine MetFree.of_bodySF hpl hisR ?_
  intro p e s m args below meth c s₁ Bd hml0 hP hK
  obtain ⟨rfl, hZ, hh⟩ := hP
  have X0 := Stand.of_body Bd
  have e0 : s₁.heap = h0 := by rw [← hh, Bd.state]; rfl
  exact body p e s m below meth c s₁ ⟨Bd.exec, hZ, Bd.bytes, findClass_of_methodNamed Bd.named, hml0, BodyLoose.notSynchronized Bd, Bd.returns⟩ (name_of_methodNamed Bd.named Bd.method).1 ⟨[], X0, e0, Fr.nil n0, hz⟩
theorem On.sz (X : On p l e R s m args below meth c n0 T h cells slots) : n0 ≤ h.size := X.elim fun _ q => q.2.2.2
theorem Go.cast {g g' : JFrame} (q : g = g') (k : Go p e below s n0 rc rs P T g') : Go p e below s n0 rc rs P T g := q ▸ k
theorem Con.back {y : MethodName} {rm : Room} {as' : Array Value} {W : Nat} {P' : Option Value → Heap → Prop} {cb : ByteArray} {cm : Nat} {cr : Option FieldType} (K : Con l Z y cb cm cr rm as' h n0 P') (hZ : Z.Warmed39 s.vm) (wc : (Cond.code y cb cm cr).before a0 Z = true) (wz : (Cond.initialized y.cls).before a0 Z = true) (hf : rm.frames + 1 ≤ R.frames) (hl : W + (cm + 11) + rm.locals ≤ R.locals) :
    Back l R p e below s args y 3 W (fun A a => a = as' ∧ A.U.heap = h ∧ A.cells + rm.cells ≤ R.cells ∧ A.slots + rm.slots ≤ R.slots)
      (fun A _ v B => ∃ L, (P' v B.U.heap ∧ Fr n0 L) ∧ B.locs = A.locs ++ L ∧ B.cells = A.cells + rm.cells ∧ B.slots = A.slots + rm.slots) :=
  backOf (Q := fun v h L => P' v h ∧ Fr n0 L) (K []) hZ wc wz hf hl
theorem Go.iadd (C : Cx p s m meth c Z bytes own ret maxL) (X : On p l e R s m args below meth c n0 T h cells slots) {x y : Int32} (hd : decode bytes pc = .ok (.iadd, 1))  (hp : pc + 1 = pc') (k : Go p e below s n0 rc rs P T (mkF m pc' Ls (.int (x + y) :: st))) : Go p e below s n0 rc rs P T (mkF m pc Ls (.int y :: .int x :: st)) := by
  obtain ⟨locs, X, eT, N, hn⟩ := X; obtain ⟨hx, hZ, hby, hown, hml, hlk, hrt⟩ := C
  subst hp; exact Go.of (fun t q => XS.iadd X.here hx rfl (hb hby hd) rfl q) k
theorem Go.isub (C : Cx p s m meth c Z bytes own ret maxL) (X : On p l e R s m args below meth c n0 T h cells slots) {x y : Int32} (hd : decode bytes pc = .ok (.isub, 1))  (hp : pc + 1 = pc') (k : Go p e below s n0 rc rs P T (mkF m pc' Ls (.int (x - y) :: st))) : Go p e below s n0 rc rs P T (mkF m pc Ls (.int y :: .int x :: st)) := by
  obtain ⟨locs, X, eT, N, hn⟩ := X; obtain ⟨hx, hZ, hby, hown, hml, hlk, hrt⟩ := C
  subst hp; exact Go.of (fun t q => XS.isub X.here hx rfl (hb hby hd) rfl q) k
theorem Go.imul (C : Cx p s m meth c Z bytes own ret maxL) (X : On p l e R s m args below meth c n0 T h cells slots) {x y : Int32} (hd : decode bytes pc = .ok (.imul, 1))  (hp : pc + 1 = pc') (k : Go p e below s n0 rc rs P T (mkF m pc' Ls (.int (x * y) :: st))) : Go p e below s n0 rc rs P T (mkF m pc Ls (.int y :: .int x :: st)) := by
  obtain ⟨locs, X, eT, N, hn⟩ := X; obtain ⟨hx, hZ, hby, hown, hml, hlk, hrt⟩ := C
  subst hp; exact Go.of (fun t q => XS.imul X.here hx rfl (hb hby hd) rfl q) k
theorem Go.iand (C : Cx p s m meth c Z bytes own ret maxL) (X : On p l e R s m args below meth c n0 T h cells slots) {x y : Int32} (hd : decode bytes pc = .ok (.iand, 1))  (hp : pc + 1 = pc') (k : Go p e below s n0 rc rs P T (mkF m pc' Ls (.int (x &&& y) :: st))) : Go p e below s n0 rc rs P T (mkF m pc Ls (.int y :: .int x :: st)) := by
  obtain ⟨locs, X, eT, N, hn⟩ := X; obtain ⟨hx, hZ, hby, hown, hml, hlk, hrt⟩ := C
  subst hp; exact Go.of (fun t q => XS.iand X.here hx rfl (hb hby hd) rfl q) k
theorem Go.ior (C : Cx p s m meth c Z bytes own ret maxL) (X : On p l e R s m args below meth c n0 T h cells slots) {x y : Int32} (hd : decode bytes pc = .ok (.ior, 1))  (hp : pc + 1 = pc') (k : Go p e below s n0 rc rs P T (mkF m pc' Ls (.int (x ||| y) :: st))) : Go p e below s n0 rc rs P T (mkF m pc Ls (.int y :: .int x :: st)) := by
  obtain ⟨locs, X, eT, N, hn⟩ := X; obtain ⟨hx, hZ, hby, hown, hml, hlk, hrt⟩ := C
  subst hp; exact Go.of (fun t q => XS.ior X.here hx rfl (hb hby hd) rfl q) k
theorem Go.ixor (C : Cx p s m meth c Z bytes own ret maxL) (X : On p l e R s m args below meth c n0 T h cells slots) {x y : Int32} (hd : decode bytes pc = .ok (.ixor, 1))  (hp : pc + 1 = pc') (k : Go p e below s n0 rc rs P T (mkF m pc' Ls (.int (x ^^^ y) :: st))) : Go p e below s n0 rc rs P T (mkF m pc Ls (.int y :: .int x :: st)) := by
  obtain ⟨locs, X, eT, N, hn⟩ := X; obtain ⟨hx, hZ, hby, hown, hml, hlk, hrt⟩ := C
  subst hp; exact Go.of (fun t q => XS.ixor X.here hx rfl (hb hby hd) rfl q) k
theorem Go.ishl (C : Cx p s m meth c Z bytes own ret maxL) (X : On p l e R s m args below meth c n0 T h cells slots) {x y : Int32} (hd : decode bytes pc = .ok (.ishl, 1))  (hp : pc + 1 = pc') (k : Go p e below s n0 rc rs P T (mkF m pc' Ls (.int (x <<< (y &&& 31)) :: st))) : Go p e below s n0 rc rs P T (mkF m pc Ls (.int y :: .int x :: st)) := by
  obtain ⟨locs, X, eT, N, hn⟩ := X; obtain ⟨hx, hZ, hby, hown, hml, hlk, hrt⟩ := C
  subst hp; exact Go.of (fun t q => XS.ishl X.here hx rfl (hb hby hd) rfl q) k
theorem Go.ishr (C : Cx p s m meth c Z bytes own ret maxL) (X : On p l e R s m args below meth c n0 T h cells slots) {x y : Int32} (hd : decode bytes pc = .ok (.ishr, 1))  (hp : pc + 1 = pc') (k : Go p e below s n0 rc rs P T (mkF m pc' Ls (.int (x >>> (y &&& 31)) :: st))) : Go p e below s n0 rc rs P T (mkF m pc Ls (.int y :: .int x :: st)) := by
  obtain ⟨locs, X, eT, N, hn⟩ := X; obtain ⟨hx, hZ, hby, hown, hml, hlk, hrt⟩ := C
  subst hp; exact Go.of (fun t q => XS.ishr X.here hx rfl (hb hby hd) rfl q) k
theorem Go.iushr (C : Cx p s m meth c Z bytes own ret maxL) (X : On p l e R s m args below meth c n0 T h cells slots) {x y : Int32} (hd : decode bytes pc = .ok (.iushr, 1))  (hp : pc + 1 = pc') (k : Go p e below s n0 rc rs P T (mkF m pc' Ls (.int ((x.toUInt32 >>> (y &&& 31).toUInt32).toInt32) :: st))) : Go p e below s n0 rc rs P T (mkF m pc Ls (.int y :: .int x :: st)) := by
  obtain ⟨locs, X, eT, N, hn⟩ := X; obtain ⟨hx, hZ, hby, hown, hml, hlk, hrt⟩ := C
  subst hp; exact Go.of (fun t q => XS.iushr X.here hx rfl (hb hby hd) rfl q) k
theorem Go.ladd (C : Cx p s m meth c Z bytes own ret maxL) (X : On p l e R s m args below meth c n0 T h cells slots) {x y : Int64} (hd : decode bytes pc = .ok (.ladd, 1))  (hp : pc + 1 = pc') (k : Go p e below s n0 rc rs P T (mkF m pc' Ls (.long (x + y) :: st))) : Go p e below s n0 rc rs P T (mkF m pc Ls (.long y :: .long x :: st)) := by
  obtain ⟨locs, X, eT, N, hn⟩ := X; obtain ⟨hx, hZ, hby, hown, hml, hlk, hrt⟩ := C
  subst hp; exact Go.of (fun t q => XS.ladd X.here hx rfl (hb hby hd) rfl q) k
theorem Go.lsub (C : Cx p s m meth c Z bytes own ret maxL) (X : On p l e R s m args below meth c n0 T h cells slots) {x y : Int64} (hd : decode bytes pc = .ok (.lsub, 1))  (hp : pc + 1 = pc') (k : Go p e below s n0 rc rs P T (mkF m pc' Ls (.long (x - y) :: st))) : Go p e below s n0 rc rs P T (mkF m pc Ls (.long y :: .long x :: st)) := by
  obtain ⟨locs, X, eT, N, hn⟩ := X; obtain ⟨hx, hZ, hby, hown, hml, hlk, hrt⟩ := C
  subst hp; exact Go.of (fun t q => XS.lsub X.here hx rfl (hb hby hd) rfl q) k
theorem Go.lmul (C : Cx p s m meth c Z bytes own ret maxL) (X : On p l e R s m args below meth c n0 T h cells slots) {x y : Int64} (hd : decode bytes pc = .ok (.lmul, 1))  (hp : pc + 1 = pc') (k : Go p e below s n0 rc rs P T (mkF m pc' Ls (.long (x * y) :: st))) : Go p e below s n0 rc rs P T (mkF m pc Ls (.long y :: .long x :: st)) := by
  obtain ⟨locs, X, eT, N, hn⟩ := X; obtain ⟨hx, hZ, hby, hown, hml, hlk, hrt⟩ := C
  subst hp; exact Go.of (fun t q => XS.lmul X.here hx rfl (hb hby hd) rfl q) k
theorem Go.land (C : Cx p s m meth c Z bytes own ret maxL) (X : On p l e R s m args below meth c n0 T h cells slots) {x y : Int64} (hd : decode bytes pc = .ok (.land, 1))  (hp : pc + 1 = pc') (k : Go p e below s n0 rc rs P T (mkF m pc' Ls (.long (x &&& y) :: st))) : Go p e below s n0 rc rs P T (mkF m pc Ls (.long y :: .long x :: st)) := by
  obtain ⟨locs, X, eT, N, hn⟩ := X; obtain ⟨hx, hZ, hby, hown, hml, hlk, hrt⟩ := C
  subst hp; exact Go.of (fun t q => XS.land X.here hx rfl (hb hby hd) rfl q) k
theorem Go.lor (C : Cx p s m meth c Z bytes own ret maxL) (X : On p l e R s m args below meth c n0 T h cells slots) {x y : Int64} (hd : decode bytes pc = .ok (.lor, 1))  (hp : pc + 1 = pc') (k : Go p e below s n0 rc rs P T (mkF m pc' Ls (.long (x ||| y) :: st))) : Go p e below s n0 rc rs P T (mkF m pc Ls (.long y :: .long x :: st)) := by
  obtain ⟨locs, X, eT, N, hn⟩ := X; obtain ⟨hx, hZ, hby, hown, hml, hlk, hrt⟩ := C
  subst hp; exact Go.of (fun t q => XS.lor X.here hx rfl (hb hby hd) rfl q) k
theorem Go.lxor (C : Cx p s m meth c Z bytes own ret maxL) (X : On p l e R s m args below meth c n0 T h cells slots) {x y : Int64} (hd : decode bytes pc = .ok (.lxor, 1))  (hp : pc + 1 = pc') (k : Go p e below s n0 rc rs P T (mkF m pc' Ls (.long (x ^^^ y) :: st))) : Go p e below s n0 rc rs P T (mkF m pc Ls (.long y :: .long x :: st)) := by
  obtain ⟨locs, X, eT, N, hn⟩ := X; obtain ⟨hx, hZ, hby, hown, hml, hlk, hrt⟩ := C
  subst hp; exact Go.of (fun t q => XS.lxor X.here hx rfl (hb hby hd) rfl q) k
theorem Go.lshl (C : Cx p s m meth c Z bytes own ret maxL) (X : On p l e R s m args below meth c n0 T h cells slots) {x : Int64} {y : Int32} (hd : decode bytes pc = .ok (.lshl, 1))  (hp : pc + 1 = pc') (k : Go p e below s n0 rc rs P T (mkF m pc' Ls (.long (x <<< (y &&& 0x3f).toInt64) :: st))) : Go p e below s n0 rc rs P T (mkF m pc Ls (.int y :: .long x :: st)) := by
  obtain ⟨locs, X, eT, N, hn⟩ := X; obtain ⟨hx, hZ, hby, hown, hml, hlk, hrt⟩ := C
  subst hp; exact Go.of (fun t q => XS.lshl X.here hx rfl (hb hby hd) rfl q) k
theorem Go.lshr (C : Cx p s m meth c Z bytes own ret maxL) (X : On p l e R s m args below meth c n0 T h cells slots) {x : Int64} {y : Int32} (hd : decode bytes pc = .ok (.lshr, 1))  (hp : pc + 1 = pc') (k : Go p e below s n0 rc rs P T (mkF m pc' Ls (.long (x >>> (y &&& 0x3f).toInt64) :: st))) : Go p e below s n0 rc rs P T (mkF m pc Ls (.int y :: .long x :: st)) := by
  obtain ⟨locs, X, eT, N, hn⟩ := X; obtain ⟨hx, hZ, hby, hown, hml, hlk, hrt⟩ := C
  subst hp; exact Go.of (fun t q => XS.lshr X.here hx rfl (hb hby hd) rfl q) k
theorem Go.lushr (C : Cx p s m meth c Z bytes own ret maxL) (X : On p l e R s m args below meth c n0 T h cells slots) {x : Int64} {y : Int32} (hd : decode bytes pc = .ok (.lushr, 1))  (hp : pc + 1 = pc') (k : Go p e below s n0 rc rs P T (mkF m pc' Ls (.long ((x.toUInt64 >>> (y &&& 0x3f).toInt64.toUInt64).toInt64) :: st))) : Go p e below s n0 rc rs P T (mkF m pc Ls (.int y :: .long x :: st)) := by
  obtain ⟨locs, X, eT, N, hn⟩ := X; obtain ⟨hx, hZ, hby, hown, hml, hlk, hrt⟩ := C
  subst hp; exact Go.of (fun t q => XS.lushr X.here hx rfl (hb hby hd) rfl q) k
theorem Go.i2l (C : Cx p s m meth c Z bytes own ret maxL) (X : On p l e R s m args below meth c n0 T h cells slots) {x : Int32} (hd : decode bytes pc = .ok (.i2l, 1))  (hp : pc + 1 = pc') (k : Go p e below s n0 rc rs P T (mkF m pc' Ls (.long (x.toInt64) :: st))) : Go p e below s n0 rc rs P T (mkF m pc Ls (.int x :: st)) := by
  obtain ⟨locs, X, eT, N, hn⟩ := X; obtain ⟨hx, hZ, hby, hown, hml, hlk, hrt⟩ := C
  subst hp; exact Go.of (fun t q => XS.i2l X.here hx rfl (hb hby hd) rfl q) k
theorem Go.l2i (C : Cx p s m meth c Z bytes own ret maxL) (X : On p l e R s m args below meth c n0 T h cells slots) {x : Int64} (hd : decode bytes pc = .ok (.l2i, 1))  (hp : pc + 1 = pc') (k : Go p e below s n0 rc rs P T (mkF m pc' Ls (.int (x.toInt32) :: st))) : Go p e below s n0 rc rs P T (mkF m pc Ls (.long x :: st)) := by
  obtain ⟨locs, X, eT, N, hn⟩ := X; obtain ⟨hx, hZ, hby, hown, hml, hlk, hrt⟩ := C
  subst hp; exact Go.of (fun t q => XS.l2i X.here hx rfl (hb hby hd) rfl q) k
theorem Go.i2b (C : Cx p s m meth c Z bytes own ret maxL) (X : On p l e R s m args below meth c n0 T h cells slots) {x : Int32} (hd : decode bytes pc = .ok (.i2b, 1))  (hp : pc + 1 = pc') (k : Go p e below s n0 rc rs P T (mkF m pc' Ls (.int (x.toInt8.toInt32) :: st))) : Go p e below s n0 rc rs P T (mkF m pc Ls (.int x :: st)) := by
  obtain ⟨locs, X, eT, N, hn⟩ := X; obtain ⟨hx, hZ, hby, hown, hml, hlk, hrt⟩ := C
  subst hp; exact Go.of (fun t q => XS.i2b X.here hx rfl (hb hby hd) rfl q) k
theorem Go.i2s (C : Cx p s m meth c Z bytes own ret maxL) (X : On p l e R s m args below meth c n0 T h cells slots) {x : Int32} (hd : decode bytes pc = .ok (.i2s, 1))  (hp : pc + 1 = pc') (k : Go p e below s n0 rc rs P T (mkF m pc' Ls (.int (x.toInt16.toInt32) :: st))) : Go p e below s n0 rc rs P T (mkF m pc Ls (.int x :: st)) := by
  obtain ⟨locs, X, eT, N, hn⟩ := X; obtain ⟨hx, hZ, hby, hown, hml, hlk, hrt⟩ := C
  subst hp; exact Go.of (fun t q => XS.i2s X.here hx rfl (hb hby hd) rfl q) k
theorem Go.i2c (C : Cx p s m meth c Z bytes own ret maxL) (X : On p l e R s m args below meth c n0 T h cells slots) {x : Int32} (hd : decode bytes pc = .ok (.i2c, 1))  (hp : pc + 1 = pc') (k : Go p e below s n0 rc rs P T (mkF m pc' Ls (.int (x.toUInt32.toUInt16.toUInt32.toInt32) :: st))) : Go p e below s n0 rc rs P T (mkF m pc Ls (.int x :: st)) := by
  obtain ⟨locs, X, eT, N, hn⟩ := X; obtain ⟨hx, hZ, hby, hown, hml, hlk, hrt⟩ := C
  subst hp; exact Go.of (fun t q => XS.i2c X.here hx rfl (hb hby hd) rfl q) k
theorem Go.lneg (C : Cx p s m meth c Z bytes own ret maxL) (X : On p l e R s m args below meth c n0 T h cells slots) {x : Int64} (hd : decode bytes pc = .ok (.lneg, 1))  (hp : pc + 1 = pc') (k : Go p e below s n0 rc rs P T (mkF m pc' Ls (.long (-x) :: st))) : Go p e below s n0 rc rs P T (mkF m pc Ls (.long x :: st)) := by
  obtain ⟨locs, X, eT, N, hn⟩ := X; obtain ⟨hx, hZ, hby, hown, hml, hlk, hrt⟩ := C
  subst hp; exact Go.of (fun t q => XS.lneg X.here hx rfl (hb hby hd) rfl q) k
theorem Go.ineg (C : Cx p s m meth c Z bytes own ret maxL) (X : On p l e R s m args below meth c n0 T h cells slots) {x : Int32} (hd : decode bytes pc = .ok (.ineg, 1))  (hp : pc + 1 = pc') (k : Go p e below s n0 rc rs P T (mkF m pc' Ls (.int (-x) :: st))) : Go p e below s n0 rc rs P T (mkF m pc Ls (.int x :: st)) := by
  obtain ⟨locs, X, eT, N, hn⟩ := X; obtain ⟨hx, hZ, hby, hown, hml, hlk, hrt⟩ := C
  subst hp; exact Go.of (fun t q => XS.ineg X.here hx rfl (hb hby hd) rfl q) k
theorem Go.idiv (C : Cx p s m meth c Z bytes own ret maxL) (X : On p l e R s m args below meth c n0 T h cells slots) {x y : Int32} (hd : decode bytes pc = .ok (.idiv, 1)) (hy : y ≠ 0) (hp : pc + 1 = pc') (k : Go p e below s n0 rc rs P T (mkF m pc' Ls (.int (x / y) :: st))) : Go p e below s n0 rc rs P T (mkF m pc Ls (.int y :: .int x :: st)) := by
  obtain ⟨locs, X, eT, N, hn⟩ := X; obtain ⟨hx, hZ, hby, hown, hml, hlk, hrt⟩ := C
  subst hp; exact Go.of (fun t q => XS.idiv X.here hx rfl (hb hby hd) rfl hy q) k
theorem Go.ldiv (C : Cx p s m meth c Z bytes own ret maxL) (X : On p l e R s m args below meth c n0 T h cells slots) {x y : Int64} (hd : decode bytes pc = .ok (.ldiv, 1)) (hy : y ≠ 0) (hp : pc + 1 = pc') (k : Go p e below s n0 rc rs P T (mkF m pc' Ls (.long (x / y) :: st))) : Go p e below s n0 rc rs P T (mkF m pc Ls (.long y :: .long x :: st)) := by
  obtain ⟨locs, X, eT, N, hn⟩ := X; obtain ⟨hx, hZ, hby, hown, hml, hlk, hrt⟩ := C
  subst hp; exact Go.of (fun t q => XS.ldiv X.here hx rfl (hb hby hd) rfl hy q) k
theorem Go.irem (C : Cx p s m meth c Z bytes own ret maxL) (X : On p l e R s m args below meth c n0 T h cells slots) {x y : Int32} (hd : decode bytes pc = .ok (.irem, 1)) (hy : y ≠ 0) (hp : pc + 1 = pc') (k : Go p e below s n0 rc rs P T (mkF m pc' Ls (.int (x % y) :: st))) : Go p e below s n0 rc rs P T (mkF m pc Ls (.int y :: .int x :: st)) := by
  obtain ⟨locs, X, eT, N, hn⟩ := X; obtain ⟨hx, hZ, hby, hown, hml, hlk, hrt⟩ := C
  subst hp; exact Go.of (fun t q => iremM X hx rfl (hb hby hd) rfl hy q) k
theorem Go.lrem (C : Cx p s m meth c Z bytes own ret maxL) (X : On p l e R s m args below meth c n0 T h cells slots) {x y : Int64} (hd : decode bytes pc = .ok (.lrem, 1)) (hy : y ≠ 0) (hp : pc + 1 = pc') (k : Go p e below s n0 rc rs P T (mkF m pc' Ls (.long (x % y) :: st))) : Go p e below s n0 rc rs P T (mkF m pc Ls (.long y :: .long x :: st)) := by
  obtain ⟨locs, X, eT, N, hn⟩ := X; obtain ⟨hx, hZ, hby, hown, hml, hlk, hrt⟩ := C
  subst hp; rw [← lrem_mod] at k; exact Go.of (fun t q => XS.lrem X.here hx rfl (hb hby hd) rfl hy q) k
theorem Go.lcmp (C : Cx p s m meth c Z bytes own ret maxL) (X : On p l e R s m args below meth c n0 T h cells slots) {x y : Int64} (hd : decode bytes pc = .ok (.lcmp, 1))  (hp : pc + 1 = pc') (k : Go p e below s n0 rc rs P T (mkF m pc' Ls (.int (lcmpW x y) :: st))) : Go p e below s n0 rc rs P T (mkF m pc Ls (.long y :: .long x :: st)) := by
  obtain ⟨locs, X, eT, N, hn⟩ := X; obtain ⟨hx, hZ, hby, hown, hml, hlk, hrt⟩ := C
  subst hp; exact Go.of (fun t q => XS.lcmp X.here hx rfl (hb hby hd) rfl q) k
theorem Go.dup (C : Cx p s m meth c Z bytes own ret maxL) (X : On p l e R s m args below meth c n0 T h cells slots) {v : Value} (hd : decode bytes pc = .ok (.dup, 1)) (hc : v.category = 1) (hp : pc + 1 = pc') (k : Go p e below s n0 rc rs P T (mkF m pc' Ls (v :: v :: st))) : Go p e below s n0 rc rs P T (mkF m pc Ls (v :: st)) := by
  obtain ⟨locs, X, eT, N, hn⟩ := X; obtain ⟨hx, hZ, hby, hown, hml, hlk, hrt⟩ := C
  subst hp; exact Go.of (fun t q => XS.dup X.here hx rfl (hb hby hd) rfl hc q) k
theorem Go.pop (C : Cx p s m meth c Z bytes own ret maxL) (X : On p l e R s m args below meth c n0 T h cells slots) {v : Value} (hd : decode bytes pc = .ok (.pop, 1)) (hc : v.category = 1) (hp : pc + 1 = pc') (k : Go p e below s n0 rc rs P T (mkF m pc' Ls st)) : Go p e below s n0 rc rs P T (mkF m pc Ls (v :: st)) := by
  obtain ⟨locs, X, eT, N, hn⟩ := X; obtain ⟨hx, hZ, hby, hown, hml, hlk, hrt⟩ := C
  subst hp; exact Go.of (fun t q => XS.pop X.here hx rfl (hb hby hd) rfl hc q) k
theorem Go.dup_x1 (C : Cx p s m meth c Z bytes own ret maxL) (X : On p l e R s m args below meth c n0 T h cells slots) {v u : Value} (hd : decode bytes pc = .ok (.dup_x1, 1)) (hc : v.category = 1) (hc2 : u.category = 1) (hp : pc + 1 = pc') (k : Go p e below s n0 rc rs P T (mkF m pc' Ls (v :: u :: v :: st))) : Go p e below s n0 rc rs P T (mkF m pc Ls (v :: u :: st)) := by
  obtain ⟨locs, X, eT, N, hn⟩ := X; obtain ⟨hx, hZ, hby, hown, hml, hlk, hrt⟩ := C
  subst hp; exact Go.of (fun t q => XS.dupX1 X.here hx rfl (hb hby hd) rfl hc hc2 q) k
theorem Go.dup2 (C : Cx p s m meth c Z bytes own ret maxL) (X : On p l e R s m args below meth c n0 T h cells slots) {v u : Value} (hd : decode bytes pc = .ok (.dup2, 1)) (hc : v.category = 1) (hc2 : u.category = 1) (hp : pc + 1 = pc') (k : Go p e below s n0 rc rs P T (mkF m pc' Ls (v :: u :: v :: u :: st))) : Go p e below s n0 rc rs P T (mkF m pc Ls (v :: u :: st)) := by
  obtain ⟨locs, X, eT, N, hn⟩ := X; obtain ⟨hx, hZ, hby, hown, hml, hlk, hrt⟩ := C
  subst hp; exact Go.of (fun t q => Jvm.Free.XT.dup2 X.here hx rfl (hb hby hd) rfl hc hc2 q) k
theorem Go.dup2L (C : Cx p s m meth c Z bytes own ret maxL) (X : On p l e R s m args below meth c n0 T h cells slots) {x : Int64} (hd : decode bytes pc = .ok (.dup2, 1))  (hp : pc + 1 = pc') (k : Go p e below s n0 rc rs P T (mkF m pc' Ls (.long x :: .long x :: st))) : Go p e below s n0 rc rs P T (mkF m pc Ls (.long x :: st)) := by
  obtain ⟨locs, X, eT, N, hn⟩ := X; obtain ⟨hx, hZ, hby, hown, hml, hlk, hrt⟩ := C
  subst hp; exact Go.of (fun t q => Jvm.Free.XT.dup2L X.here hx rfl (hb hby hd) rfl q) k
theorem Go.iconst (C : Cx p s m meth c Z bytes own ret maxL) (X : On p l e R s m args below meth c n0 T h cells slots) {i : Int} {v : Int32} (hd : decode bytes pc = .ok (.iconst i, 1)) (hv : Int32.ofInt i = v) (hp : pc + 1 = pc') (k : Go p e below s n0 rc rs P T (mkF m pc' Ls (.int v :: st))) : Go p e below s n0 rc rs P T (mkF m pc Ls st) := by
  obtain ⟨locs, X, eT, N, hn⟩ := X; obtain ⟨hx, hZ, hby, hown, hml, hlk, hrt⟩ := C
  subst hp hv; exact Go.of (fun t q => XS.iconst X.here hx rfl (hb hby hd) q) k
theorem Go.bipush (C : Cx p s m meth c Z bytes own ret maxL) (X : On p l e R s m args below meth c n0 T h cells slots) {i : Int} {v : Int32} (hd : decode bytes pc = .ok (.bipush i, 2)) (hv : (Int8.ofInt i).toInt32 = v) (hp : pc + 2 = pc') (k : Go p e below s n0 rc rs P T (mkF m pc' Ls (.int v :: st))) : Go p e below s n0 rc rs P T (mkF m pc Ls st) := by
  obtain ⟨locs, X, eT, N, hn⟩ := X; obtain ⟨hx, hZ, hby, hown, hml, hlk, hrt⟩ := C
  subst hp hv; exact Go.of (fun t q => XS.bipush X.here hx rfl (hb hby hd) q) k
theorem Go.sipush (C : Cx p s m meth c Z bytes own ret maxL) (X : On p l e R s m args below meth c n0 T h cells slots) {i : Int} {v : Int32} (hd : decode bytes pc = .ok (.sipush i, 3)) (hv : (Int16.ofInt i).toInt32 = v) (hp : pc + 3 = pc') (k : Go p e below s n0 rc rs P T (mkF m pc' Ls (.int v :: st))) : Go p e below s n0 rc rs P T (mkF m pc Ls st) := by
  obtain ⟨locs, X, eT, N, hn⟩ := X; obtain ⟨hx, hZ, hby, hown, hml, hlk, hrt⟩ := C
  subst hp hv; exact Go.of (fun t q => XS.sipush X.here hx rfl (hb hby hd) q) k
theorem Go.lconst (C : Cx p s m meth c Z bytes own ret maxL) (X : On p l e R s m args below meth c n0 T h cells slots) {i : Fin 2} {v : Int64} (hd : decode bytes pc = .ok (.lconst i, 1)) (hv : Int64.ofNat i = v) (hp : pc + 1 = pc') (k : Go p e below s n0 rc rs P T (mkF m pc' Ls (.long v :: st))) : Go p e below s n0 rc rs P T (mkF m pc Ls st) := by
  obtain ⟨locs, X, eT, N, hn⟩ := X; obtain ⟨hx, hZ, hby, hown, hml, hlk, hrt⟩ := C
  subst hp hv; exact Go.of (fun t q => XS.lconst X.here hx rfl (hb hby hd) q) k
theorem Go.aconst_null (C : Cx p s m meth c Z bytes own ret maxL) (X : On p l e R s m args below meth c n0 T h cells slots)  (hd : decode bytes pc = .ok (.aconst_null, 1))  (hp : pc + 1 = pc') (k : Go p e below s n0 rc rs P T (mkF m pc' Ls (.null :: st))) : Go p e below s n0 rc rs P T (mkF m pc Ls st) := by
  obtain ⟨locs, X, eT, N, hn⟩ := X; obtain ⟨hx, hZ, hby, hown, hml, hlk, hrt⟩ := C
  subst hp; exact Go.of (fun t q => XS.aconstNull X.here hx rfl (hb hby hd)  q) k
theorem Go.ldc (C : Cx p s m meth c Z bytes own ret maxL) (X : On p l e R s m args below meth c n0 T h cells slots) {i : Nat} {v : Int32} (hc : (Cond.constant own i v).before a0 Z = true) (hd : decode bytes pc = .ok (.ldc i, 2)) (hp : pc + 2 = pc') (k : Go p e below s n0 rc rs P T (mkF m pc' Ls (.int v :: st))) : Go p e below s n0 rc rs P T (mkF m pc Ls st) := by
  obtain ⟨locs, X, eT, N, hn⟩ := X; obtain ⟨hx, hZ, hby, hown, hml, hlk, hrt⟩ := C
  subst hp; exact Go.of (X.ldcInt hx hown (mvT hZ hc) (g := mkF m pc Ls st) rfl (hb hby hd)) k
theorem Go.ldc2 (C : Cx p s m meth c Z bytes own ret maxL) (X : On p l e R s m args below meth c n0 T h cells slots) {i : Nat} {v : Int64} (hc : (Cond.constantLong own i v).before a0 Z = true) (hd : decode bytes pc = .ok (.ldc2_w i, 3)) (hp : pc + 3 = pc') (k : Go p e below s n0 rc rs P T (mkF m pc' Ls (.long v :: st))) : Go p e below s n0 rc rs P T (mkF m pc Ls st) := by
  obtain ⟨locs, X, eT, N, hn⟩ := X; obtain ⟨hx, hZ, hby, hown, hml, hlk, hrt⟩ := C
  subst hp; exact Go.of (X.ldc2Long hx hown (mvT hZ hc) (g := mkF m pc Ls st) rfl (hb hby hd)) k
theorem Go.iload (C : Cx p s m meth c Z bytes own ret maxL) (X : On p l e R s m args below meth c n0 T h cells slots) {i : Nat} {v : Int32} (hd : decode bytes pc = .ok (.iload i, 2)) (hl : Ls[i]? = some (.val (.int v))) (hp : pc + 2 = pc') (k : Go p e below s n0 rc rs P T (mkF m pc' Ls (.int v :: st))) : Go p e below s n0 rc rs P T (mkF m pc Ls st) := by
  obtain ⟨locs, X, eT, N, hn⟩ := X; obtain ⟨hx, hZ, hby, hown, hml, hlk, hrt⟩ := C
  subst hp; exact Go.of (fun t q => XS.iload X.here hx rfl (hb hby hd) hl q) k
theorem Go.iloadN (C : Cx p s m meth c Z bytes own ret maxL) (X : On p l e R s m args below meth c n0 T h cells slots) {i : Fin 4} {v : Int32} (hd : decode bytes pc = .ok (.iload_n i, 1)) (hl : Ls[i.val]? = some (.val (.int v))) (hp : pc + 1 = pc') (k : Go p e below s n0 rc rs P T (mkF m pc' Ls (.int v :: st))) : Go p e below s n0 rc rs P T (mkF m pc Ls st) := by
  obtain ⟨locs, X, eT, N, hn⟩ := X; obtain ⟨hx, hZ, hby, hown, hml, hlk, hrt⟩ := C
  subst hp; exact Go.of (fun t q => XS.iloadN X.here hx rfl (hb hby hd) hl q) k
theorem Go.istore (C : Cx p s m meth c Z bytes own ret maxL) (X : On p l e R s m args below meth c n0 T h cells slots) {i : Nat} {v : Int32} {Ls' : Array Slot} (hd : decode bytes pc = .ok (.istore i, 2)) (hl : storeLocals Ls i (.int v) = some Ls') (hp : pc + 2 = pc') (k : Go p e below s n0 rc rs P T (mkF m pc' Ls' st)) : Go p e below s n0 rc rs P T (mkF m pc Ls (.int v :: st)) := by
  obtain ⟨locs, X, eT, N, hn⟩ := X; obtain ⟨hx, hZ, hby, hown, hml, hlk, hrt⟩ := C
  subst hp; exact Go.of (fun t q => XS.istore X.here hx rfl (hb hby hd) rfl hl q) k
theorem Go.istoreN (C : Cx p s m meth c Z bytes own ret maxL) (X : On p l e R s m args below meth c n0 T h cells slots) {i : Fin 4} {v : Int32} {Ls' : Array Slot} (hd : decode bytes pc = .ok (.istore_n i, 1)) (hl : storeLocals Ls i.val (.int v) = some Ls') (hp : pc + 1 = pc') (k : Go p e below s n0 rc rs P T (mkF m pc' Ls' st)) : Go p e below s n0 rc rs P T (mkF m pc Ls (.int v :: st)) := by
  obtain ⟨locs, X, eT, N, hn⟩ := X; obtain ⟨hx, hZ, hby, hown, hml, hlk, hrt⟩ := C
  subst hp; exact Go.of (fun t q => XS.istoreN X.here hx rfl (hb hby hd) rfl hl q) k
theorem Go.lload (C : Cx p s m meth c Z bytes own ret maxL) (X : On p l e R s m args below meth c n0 T h cells slots) {i : Nat} {v : Int64} (hd : decode bytes pc = .ok (.lload i, 2)) (hl : Ls[i]? = some (.val (.long v))) (hp : pc + 2 = pc') (k : Go p e below s n0 rc rs P T (mkF m pc' Ls (.long v :: st))) : Go p e below s n0 rc rs P T (mkF m pc Ls st) := by
  obtain ⟨locs, X, eT, N, hn⟩ := X; obtain ⟨hx, hZ, hby, hown, hml, hlk, hrt⟩ := C
  subst hp; exact Go.of (fun t q => XS.lload X.here hx rfl (hb hby hd) hl q) k
theorem Go.lloadN (C : Cx p s m meth c Z bytes own ret maxL) (X : On p l e R s m args below meth c n0 T h cells slots) {i : Fin 4} {v : Int64} (hd : decode bytes pc = .ok (.lload_n i, 1)) (hl : Ls[i.val]? = some (.val (.long v))) (hp : pc + 1 = pc') (k : Go p e below s n0 rc rs P T (mkF m pc' Ls (.long v :: st))) : Go p e below s n0 rc rs P T (mkF m pc Ls st) := by
  obtain ⟨locs, X, eT, N, hn⟩ := X; obtain ⟨hx, hZ, hby, hown, hml, hlk, hrt⟩ := C
  subst hp; exact Go.of (fun t q => XS.lloadN X.here hx rfl (hb hby hd) hl q) k
theorem Go.lstore (C : Cx p s m meth c Z bytes own ret maxL) (X : On p l e R s m args below meth c n0 T h cells slots) {i : Nat} {v : Int64} {Ls' : Array Slot} (hd : decode bytes pc = .ok (.lstore i, 2)) (hl : storeLocals Ls i (.long v) = some Ls') (hp : pc + 2 = pc') (k : Go p e below s n0 rc rs P T (mkF m pc' Ls' st)) : Go p e below s n0 rc rs P T (mkF m pc Ls (.long v :: st)) := by
  obtain ⟨locs, X, eT, N, hn⟩ := X; obtain ⟨hx, hZ, hby, hown, hml, hlk, hrt⟩ := C
  subst hp; exact Go.of (fun t q => XS.lstore X.here hx rfl (hb hby hd) rfl hl q) k
theorem Go.lstoreN (C : Cx p s m meth c Z bytes own ret maxL) (X : On p l e R s m args below meth c n0 T h cells slots) {i : Fin 4} {v : Int64} {Ls' : Array Slot} (hd : decode bytes pc = .ok (.lstore_n i, 1)) (hl : storeLocals Ls i.val (.long v) = some Ls') (hp : pc + 1 = pc') (k : Go p e below s n0 rc rs P T (mkF m pc' Ls' st)) : Go p e below s n0 rc rs P T (mkF m pc Ls (.long v :: st)) := by
  obtain ⟨locs, X, eT, N, hn⟩ := X; obtain ⟨hx, hZ, hby, hown, hml, hlk, hrt⟩ := C
  subst hp; exact Go.of (fun t q => XS.lstoreN X.here hx rfl (hb hby hd) rfl hl q) k
theorem Go.aload (C : Cx p s m meth c Z bytes own ret maxL) (X : On p l e R s m args below meth c n0 T h cells slots) {i : Nat} {v : Value} (hd : decode bytes pc = .ok (.aload i, 2)) (hl : Ls[i]? = some (.val v)) (hv : v.isRef = true) (hp : pc + 2 = pc') (k : Go p e below s n0 rc rs P T (mkF m pc' Ls (v :: st))) : Go p e below s n0 rc rs P T (mkF m pc Ls st) := by
  obtain ⟨locs, X, eT, N, hn⟩ := X; obtain ⟨hx, hZ, hby, hown, hml, hlk, hrt⟩ := C
  subst hp; exact Go.of (fun t q => XS.aload X.here hx rfl (hb hby hd) hl hv q) k
theorem Go.aloadN (C : Cx p s m meth c Z bytes own ret maxL) (X : On p l e R s m args below meth c n0 T h cells slots) {i : Fin 4} {v : Value} (hd : decode bytes pc = .ok (.aload_n i, 1)) (hl : Ls[i.val]? = some (.val v)) (hv : v.isRef = true) (hp : pc + 1 = pc') (k : Go p e below s n0 rc rs P T (mkF m pc' Ls (v :: st))) : Go p e below s n0 rc rs P T (mkF m pc Ls st) := by
  obtain ⟨locs, X, eT, N, hn⟩ := X; obtain ⟨hx, hZ, hby, hown, hml, hlk, hrt⟩ := C
  subst hp; exact Go.of (fun t q => XS.aloadN X.here hx rfl (hb hby hd) hl hv q) k
theorem Go.astore (C : Cx p s m meth c Z bytes own ret maxL) (X : On p l e R s m args below meth c n0 T h cells slots) {i : Nat} {v : Value} {Ls' : Array Slot} (hd : decode bytes pc = .ok (.astore i, 2)) (hv : v.isRef = true) (hl : storeLocals Ls i v = some Ls') (hp : pc + 2 = pc') (k : Go p e below s n0 rc rs P T (mkF m pc' Ls' st)) : Go p e below s n0 rc rs P T (mkF m pc Ls (v :: st)) := by
  obtain ⟨locs, X, eT, N, hn⟩ := X; obtain ⟨hx, hZ, hby, hown, hml, hlk, hrt⟩ := C
  subst hp; exact Go.of (fun t q => XS.astore X.here hx rfl (hb hby hd) rfl hv hl q) k
theorem Go.astoreN (C : Cx p s m meth c Z bytes own ret maxL) (X : On p l e R s m args below meth c n0 T h cells slots) {i : Fin 4} {v : Value} {Ls' : Array Slot} (hd : decode bytes pc = .ok (.astore_n i, 1)) (hv : v.isRef = true) (hl : storeLocals Ls i.val v = some Ls') (hp : pc + 1 = pc') (k : Go p e below s n0 rc rs P T (mkF m pc' Ls' st)) : Go p e below s n0 rc rs P T (mkF m pc Ls (v :: st)) := by
  obtain ⟨locs, X, eT, N, hn⟩ := X; obtain ⟨hx, hZ, hby, hown, hml, hlk, hrt⟩ := C
  subst hp; exact Go.of (fun t q => XS.astoreN X.here hx rfl (hb hby hd) rfl hv hl q) k
theorem Go.iinc (C : Cx p s m meth c Z bytes own ret maxL) (X : On p l e R s m args below meth c n0 T h cells slots) {i : Nat} {d : Int} {v v' : Int32} {Ls' : Array Slot} (hd : decode bytes pc = .ok (.iinc i d, 3)) (hl : Ls[i]? = some (.val (.int v))) (hv : v + Int32.ofInt d = v') (hl' : storeLocals Ls i (.int v') = some Ls') (hp : pc + 3 = pc') (k : Go p e below s n0 rc rs P T (mkF m pc' Ls' st)) : Go p e below s n0 rc rs P T (mkF m pc Ls st) := by
  obtain ⟨locs, X, eT, N, hn⟩ := X; obtain ⟨hx, hZ, hby, hown, hml, hlk, hrt⟩ := C
  subst hp hv; exact Go.of (fun t q => XS.iinc X.here hx rfl (hb hby hd) hl hl' q) k
theorem Go.goto (C : Cx p s m meth c Z bytes own ret maxL) (X : On p l e R s m args below meth c n0 T h cells slots) {o : Int} (hd : decode bytes pc = .ok (.goto o, 3)) (ho : 0 ≤ (pc : Int) + o) (hp : ((pc : Int) + o).toNat = pc') (k : Go p e below s n0 rc rs P T (mkF m pc' Ls st)) : Go p e below s n0 rc rs P T (mkF m pc Ls st) := by
  obtain ⟨locs, X, eT, N, hn⟩ := X; obtain ⟨hx, hZ, hby, hown, hml, hlk, hrt⟩ := C
  exact Go.of (fun t q => XS.goto X.here hx rfl (pc0 := pc) rfl (hb hby hd) ho hp q) k
theorem Go.ifYes (C : Cx p s m meth c Z bytes own ret maxL) (X : On p l e R s m args below meth c n0 T h cells slots) {o : Int} {cd : ClassFile.Cond} {x : Int32} (hd : decode bytes pc = .ok (.ifCond cd o, 3)) (hc : ifCond.holds cd x = true) (ho : 0 ≤ (pc : Int) + o) (hp : ((pc : Int) + o).toNat = pc') (k : Go p e below s n0 rc rs P T (mkF m pc' Ls st)) : Go p e below s n0 rc rs P T (mkF m pc Ls (.int x :: st)) := by
  obtain ⟨locs, X, eT, N, hn⟩ := X; obtain ⟨hx, hZ, hby, hown, hml, hlk, hrt⟩ := C
  exact Go.of (fun t q => XS.ifYes X.here hx rfl (pc0 := pc) rfl (hb hby hd) rfl hc ho hp q) k
theorem Go.ifNo (C : Cx p s m meth c Z bytes own ret maxL) (X : On p l e R s m args below meth c n0 T h cells slots) {o : Int} {cd : ClassFile.Cond} {x : Int32} (hd : decode bytes pc = .ok (.ifCond cd o, 3)) (hc : ifCond.holds cd x = false) (hp : pc + 3 = pc') (k : Go p e below s n0 rc rs P T (mkF m pc' Ls st)) : Go p e below s n0 rc rs P T (mkF m pc Ls (.int x :: st)) := by
  obtain ⟨locs, X, eT, N, hn⟩ := X; obtain ⟨hx, hZ, hby, hown, hml, hlk, hrt⟩ := C
  subst hp; exact Go.of (fun t q => XS.ifNo X.here hx rfl (hb hby hd) rfl hc q) k
theorem Go.icmpYes (C : Cx p s m meth c Z bytes own ret maxL) (X : On p l e R s m args below meth c n0 T h cells slots) {o : Int} {cd : ClassFile.Cond} {x y : Int32} (hd : decode bytes pc = .ok (.if_icmp cd o, 3)) (hc : if_icmp.holds cd x y = true) (ho : 0 ≤ (pc : Int) + o) (hp : ((pc : Int) + o).toNat = pc') (k : Go p e below s n0 rc rs P T (mkF m pc' Ls st)) : Go p e below s n0 rc rs P T (mkF m pc Ls (.int y :: .int x :: st)) := by
  obtain ⟨locs, X, eT, N, hn⟩ := X; obtain ⟨hx, hZ, hby, hown, hml, hlk, hrt⟩ := C
  exact Go.of (fun t q => XS.icmpYes X.here hx rfl (pc0 := pc) rfl (hb hby hd) rfl hc ho hp q) k
theorem Go.icmpNo (C : Cx p s m meth c Z bytes own ret maxL) (X : On p l e R s m args below meth c n0 T h cells slots) {o : Int} {cd : ClassFile.Cond} {x y : Int32} (hd : decode bytes pc = .ok (.if_icmp cd o, 3)) (hc : if_icmp.holds cd x y = false) (hp : pc + 3 = pc') (k : Go p e below s n0 rc rs P T (mkF m pc' Ls st)) : Go p e below s n0 rc rs P T (mkF m pc Ls (.int y :: .int x :: st)) := by
  obtain ⟨locs, X, eT, N, hn⟩ := X; obtain ⟨hx, hZ, hby, hown, hml, hlk, hrt⟩ := C
  subst hp; exact Go.of (fun t q => XS.icmpNo X.here hx rfl (hb hby hd) rfl hc q) k
theorem Go.acmpYes (C : Cx p s m meth c Z bytes own ret maxL) (X : On p l e R s m args below meth c n0 T h cells slots) {o : Int} {cd : ClassFile.ACond} {a b : Addr} (hd : decode bytes pc = .ok (.if_acmp cd o, 3)) (hc : if_acmp.holds cd (some a) (some b) = true) (ho : 0 ≤ (pc : Int) + o) (hp : ((pc : Int) + o).toNat = pc') (k : Go p e below s n0 rc rs P T (mkF m pc' Ls st)) : Go p e below s n0 rc rs P T (mkF m pc Ls (.ref b :: .ref a :: st)) := by
  obtain ⟨locs, X, eT, N, hn⟩ := X; obtain ⟨hx, hZ, hby, hown, hml, hlk, hrt⟩ := C
  exact Go.of (fun t q => XS.acmpYes X.here hx rfl (pc0 := pc) rfl (hb hby hd) rfl hc ho hp q) k
theorem Go.acmpNo (C : Cx p s m meth c Z bytes own ret maxL) (X : On p l e R s m args below meth c n0 T h cells slots) {o : Int} {cd : ClassFile.ACond} {a b : Addr} (hd : decode bytes pc = .ok (.if_acmp cd o, 3)) (hc : if_acmp.holds cd (some a) (some b) = false) (hp : pc + 3 = pc') (k : Go p e below s n0 rc rs P T (mkF m pc' Ls st)) : Go p e below s n0 rc rs P T (mkF m pc Ls (.ref b :: .ref a :: st)) := by
  obtain ⟨locs, X, eT, N, hn⟩ := X; obtain ⟨hx, hZ, hby, hown, hml, hlk, hrt⟩ := C
  subst hp; exact Go.of (fun t q => XS.acmpNo X.here hx rfl (hb hby hd) rfl hc q) k
theorem Go.acmpV (C : Cx p s m meth c Z bytes own ret maxL) (X : On p l e R s m args below meth c n0 T h cells slots) {o : Int} {cd : ClassFile.ACond} {u v : Value} {same : Bool} (hd : decode bytes pc = .ok (.if_acmp cd o, 3)) (h1 : u.isRef = true) (h2 : v.isRef = true) (hq : decide (u = v) = same) (ho : 0 ≤ (pc : Int) + o) (hp : pc' = if acV cd same = true then ((pc : Int) + o).toNat else pc + 3) (k : Go p e below s n0 rc rs P T (mkF m pc' Ls st)) : Go p e below s n0 rc rs P T (mkF m pc Ls (v :: u :: st)) := by
  obtain ⟨locs, X, eT, N, hn⟩ := X; obtain ⟨hx, hZ, hby, hown, hml, hlk, hrt⟩ := C
  exact Go.of (fun t q => acmp X hx rfl h1 h2 (pc0 := pc) rfl (hb hby hd) rfl hq ho hp q) k
theorem Go.ifnullYes (C : Cx p s m meth c Z bytes own ret maxL) (X : On p l e R s m args below meth c n0 T h cells slots) {o : Int} (hd : decode bytes pc = .ok (.ifnull o, 3)) (ho : 0 ≤ (pc : Int) + o) (hp : ((pc : Int) + o).toNat = pc') (k : Go p e below s n0 rc rs P T (mkF m pc' Ls st)) : Go p e below s n0 rc rs P T (mkF m pc Ls (.null :: st)) := by
  obtain ⟨locs, X, eT, N, hn⟩ := X; obtain ⟨hx, hZ, hby, hown, hml, hlk, hrt⟩ := C
  exact Go.of (fun t q => XS.ifnullYes X.here hx rfl (pc0 := pc) rfl (hb hby hd) rfl ho hp q) k
theorem Go.ifnullNo (C : Cx p s m meth c Z bytes own ret maxL) (X : On p l e R s m args below meth c n0 T h cells slots) {o : Int} {a : Addr} (hd : decode bytes pc = .ok (.ifnull o, 3)) (hp : pc + 3 = pc') (k : Go p e below s n0 rc rs P T (mkF m pc' Ls st)) : Go p e below s n0 rc rs P T (mkF m pc Ls (.ref a :: st)) := by
  obtain ⟨locs, X, eT, N, hn⟩ := X; obtain ⟨hx, hZ, hby, hown, hml, hlk, hrt⟩ := C
  subst hp; exact Go.of (fun t q => XS.ifnullNo X.here hx rfl (hb hby hd) rfl q) k
theorem Go.ifnonnullYes (C : Cx p s m meth c Z bytes own ret maxL) (X : On p l e R s m args below meth c n0 T h cells slots) {o : Int} {a : Addr} (hd : decode bytes pc = .ok (.ifnonnull o, 3)) (ho : 0 ≤ (pc : Int) + o) (hp : ((pc : Int) + o).toNat = pc') (k : Go p e below s n0 rc rs P T (mkF m pc' Ls st)) : Go p e below s n0 rc rs P T (mkF m pc Ls (.ref a :: st)) := by
  obtain ⟨locs, X, eT, N, hn⟩ := X; obtain ⟨hx, hZ, hby, hown, hml, hlk, hrt⟩ := C
  exact Go.of (fun t q => XS.ifnonnullYes X.here hx rfl (pc0 := pc) rfl (hb hby hd) rfl ho hp q) k
theorem Go.ifnonnullNo (C : Cx p s m meth c Z bytes own ret maxL) (X : On p l e R s m args below meth c n0 T h cells slots) {o : Int} (hd : decode bytes pc = .ok (.ifnonnull o, 3)) (hp : pc + 3 = pc') (k : Go p e below s n0 rc rs P T (mkF m pc' Ls st)) : Go p e below s n0 rc rs P T (mkF m pc Ls (.null :: st)) := by
  obtain ⟨locs, X, eT, N, hn⟩ := X; obtain ⟨hx, hZ, hby, hown, hml, hlk, hrt⟩ := C
  subst hp; exact Go.of (fun t q => XS.ifnonnullNo X.here hx rfl (hb hby hd) rfl q) k
theorem Go.lswHit (C : Cx p s m meth c Z bytes own ret maxL) (X : On p l e R s m args below meth c n0 T h cells slots) {dflt : Int} {pairs : Array (Int × Int)} {len : Nat} {x : Int32} {a off : Int} (hd : decode bytes pc = .ok (.lookupswitch dflt pairs, len)) (hs : (pairs.toList.zip (pairs.toList.drop 1)).all (fun (a, next) => a.1 < next.1) = true) (hf : pairs.find? (·.1 == x.toInt) = some (a, off)) (ho : 0 ≤ (pc : Int) + off) (hp : ((pc : Int) + off).toNat = pc') (k : Go p e below s n0 rc rs P T (mkF m pc' Ls st)) : Go p e below s n0 rc rs P T (mkF m pc Ls (.int x :: st)) := by
  obtain ⟨locs, X, eT, N, hn⟩ := X; obtain ⟨hx, hZ, hby, hown, hml, hlk, hrt⟩ := C
  subst hp; exact Go.of (fun t q => X.lookupswitchHit hx (g := mkF m pc Ls (.int x :: st)) rfl rfl (hb hby hd) hs hf ho t q) k
theorem Go.lswMiss (C : Cx p s m meth c Z bytes own ret maxL) (X : On p l e R s m args below meth c n0 T h cells slots) {dflt : Int} {pairs : Array (Int × Int)} {len : Nat} {x : Int32} (hd : decode bytes pc = .ok (.lookupswitch dflt pairs, len)) (hs : (pairs.toList.zip (pairs.toList.drop 1)).all (fun (a, next) => a.1 < next.1) = true) (hf : pairs.find? (·.1 == x.toInt) = none) (ho : 0 ≤ (pc : Int) + dflt) (hp : ((pc : Int) + dflt).toNat = pc') (k : Go p e below s n0 rc rs P T (mkF m pc' Ls st)) : Go p e below s n0 rc rs P T (mkF m pc Ls (.int x :: st)) := by
  obtain ⟨locs, X, eT, N, hn⟩ := X; obtain ⟨hx, hZ, hby, hown, hml, hlk, hrt⟩ := C
  subst hp; exact Go.of (fun t q => X.lookupswitchMiss hx (g := mkF m pc Ls (.int x :: st)) rfl rfl (hb hby hd) hs hf ho t q) k
theorem Go.retV  (C : Cx p s m meth c Z bytes own none maxL) (X : On p l e R s m args below meth c n0 T h cells slots) (hd : decode bytes pc = .ok (.return_, 1)) (hq : P none h) (hc : cells ≤ rc) (hs : slots ≤ rs) : Go p e below s n0 rc rs P T (mkF m pc Ls []) := by
  obtain ⟨locs, X, eT, N, hn⟩ := X; obtain ⟨hx, hZ, hby, hown, hml, hlk, hrt⟩ := C
  obtain ⟨fs, hr, hrun, hended, hW, hsame⟩ := X.leave (v := none) (fun _ => rfl) hlk
  refine ⟨_, _, ?_, hrun, hended, _, _, rfl, ⟨?_, N⟩, ⟨_, rfl⟩, hW, hsame.mono hc hs⟩
  · exact X.returnOut hx hrt (hb hby hd) hr
  · show P _ T.heap; rw [eT]; exact hq
theorem own_retS {locs : List Loc} (X : Stand p l e R s m args below meth c T locs cells slots) (hx : p.tables.exec = Jvm.exec) {z z' : Int32} {t : FieldType} {rest : List Value} (hret : meth.sig.returnType = some t) (hn : narrow t (.int z) = .int z') (hd : decode c.code pc = .ok (.ireturn, 1)) {fs : List Frame}
    (hl : ∀ (f : JFrame) (acts : List Action), f.method = m → f.locked = none → f.entered = [] → (doReturn e (T.setTop f) acts (some (.int z'))).1 = T.setFrames fs) : Steps p.tables e below (T.setTop (mkF m pc Ls (.int z :: rest))) (T.setFrames fs) := by
  have hm' : T.vm.method? m = some meth := X.method'
  show Steps p.tables e below (T.setTop { method := m, pc := pc, locals := Ls, stack := _ :: rest, locked := none }) _
  jvm_step X.here [X.here.top, hx, hd, hm', hret, hn]
  first | (intro acts; rw [hl _ acts rfl rfl rfl]) | rw [hl _ _ rfl rfl rfl]
  exact Steps.refl _
theorem Go.retZ {t : FieldType} (C : Cx p s m meth c Z bytes own (some t) maxL) (X : On p l e R s m args below meth c n0 T h cells slots) {z z' : Int32} (hz : narrow t (.int z) = .int z') (hd : decode bytes pc = .ok (.ireturn, 1)) (hq : P (some (.int z')) h) (hc : cells ≤ rc) (hs : slots ≤ rs) : Go p e below s n0 rc rs P T (mkF m pc Ls (.int z :: st)) := by
  obtain ⟨locs, X, eT, N, hn⟩ := X; obtain ⟨hx, hZ, hby, hown, hml, hlk, hrt⟩ := C
  obtain ⟨fs, hr, hrun, hended, hW, hsame⟩ := X.leave (v := (some (.int z'))) (fun h => by rw [hrt] at h; cases h) hlk
  refine ⟨_, _, ?_, hrun, hended, _, _, rfl, ⟨?_, N⟩, ⟨_, rfl⟩, hW, hsame.mono hc hs⟩
  · exact own_retS X hx hrt hz (hb hby hd) hr
  · show P _ T.heap; rw [eT]; exact hq
theorem Go.retI  (C : Cx p s m meth c Z bytes own (some .int) maxL) (X : On p l e R s m args below meth c n0 T h cells slots) {z : Int32} (hd : decode bytes pc = .ok (.ireturn, 1)) (hq : P (some (.int z)) h) (hc : cells ≤ rc) (hs : slots ≤ rs) : Go p e below s n0 rc rs P T (mkF m pc Ls (.int z :: st)) := by
  obtain ⟨locs, X, eT, N, hn⟩ := X; obtain ⟨hx, hZ, hby, hown, hml, hlk, hrt⟩ := C
  obtain ⟨fs, hr, hrun, hended, hW, hsame⟩ := X.leave (v := (some (.int z))) (fun h => by rw [hrt] at h; cases h) hlk
  refine ⟨_, _, ?_, hrun, hended, _, _, rfl, ⟨?_, N⟩, ⟨_, rfl⟩, hW, hsame.mono hc hs⟩
  · exact own_retS X hx hrt rfl (hb hby hd) hr
  · show P _ T.heap; rw [eT]; exact hq
theorem Go.retL  (C : Cx p s m meth c Z bytes own (some .long) maxL) (X : On p l e R s m args below meth c n0 T h cells slots) {z : Int64} (hd : decode bytes pc = .ok (.lreturn, 1)) (hq : P (some (.long z)) h) (hc : cells ≤ rc) (hs : slots ≤ rs) : Go p e below s n0 rc rs P T (mkF m pc Ls (.long z :: st)) := by
  obtain ⟨locs, X, eT, N, hn⟩ := X; obtain ⟨hx, hZ, hby, hown, hml, hlk, hrt⟩ := C
  obtain ⟨fs, hr, hrun, hended, hW, hsame⟩ := X.leave (v := (some (.long z))) (fun h => by rw [hrt] at h; cases h) hlk
  refine ⟨_, _, ?_, hrun, hended, _, _, rfl, ⟨?_, N⟩, ⟨_, rfl⟩, hW, hsame.mono hc hs⟩
  · jvm_step X.here [X.here.top, hx, (hb hby hd), X.method', hrt, narrow]
    first | (intro acts; rw [hr _ acts rfl rfl rfl]) | rw [hr _ _ rfl rfl rfl]
    exact Steps.refl _
  · show P _ T.heap; rw [eT]; exact hq
theorem Go.retA {cn : String} (C : Cx p s m meth c Z bytes own (some (.object cn)) maxL) (X : On p l e R s m args below meth c n0 T h cells slots) {z : Value} (hz : z.isRef = true) (hd : decode bytes pc = .ok (.areturn, 1)) (hq : P (some z) h) (hc : cells ≤ rc) (hs : slots ≤ rs) : Go p e below s n0 rc rs P T (mkF m pc Ls (z :: st)) := by
  obtain ⟨locs, X, eT, N, hn⟩ := X; obtain ⟨hx, hZ, hby, hown, hml, hlk, hrt⟩ := C
  obtain ⟨fs, hr, hrun, hended, hW, hsame⟩ := X.leave (v := (some z)) (fun h => by rw [hrt] at h; cases h) hlk
  refine ⟨_, _, ?_, hrun, hended, _, _, rfl, ⟨?_, N⟩, ⟨_, rfl⟩, hW, hsame.mono hc hs⟩
  · rcases ref_cases hz with rfl | ⟨a, rfl⟩ <;>
    · jvm_step X.here [X.here.top, hx, (hb hby hd), X.method', hrt, Value.isRef, FieldType.isReference]
      first | (intro acts; rw [hr _ acts rfl rfl rfl]) | rw [hr _ _ rfl rfl rfl]
      exact Steps.refl _
  · show P _ T.heap; rw [eT]; exact hq
theorem Go.retAA {ct : FieldType} (C : Cx p s m meth c Z bytes own (some (.array ct)) maxL) (X : On p l e R s m args below meth c n0 T h cells slots) {z : Value} (hz : z.isRef = true) (hd : decode bytes pc = .ok (.areturn, 1)) (hq : P (some z) h) (hc : cells ≤ rc) (hs : slots ≤ rs) : Go p e below s n0 rc rs P T (mkF m pc Ls (z :: st)) := by
  obtain ⟨locs, X, eT, N, hn⟩ := X; obtain ⟨hx, hZ, hby, hown, hml, hlk, hrt⟩ := C
  obtain ⟨fs, hr, hrun, hended, hW, hsame⟩ := X.leave (v := (some z)) (fun h => by rw [hrt] at h; cases h) hlk
  refine ⟨_, _, ?_, hrun, hended, _, _, rfl, ⟨?_, N⟩, ⟨_, rfl⟩, hW, hsame.mono hc hs⟩
  · rcases ref_cases hz with rfl | ⟨a, rfl⟩ <;>
    · jvm_step X.here [X.here.top, hx, (hb hby hd), X.method', hrt, Value.isRef, FieldType.isReference]
      first | (intro acts; rw [hr _ acts rfl rfl rfl]) | rw [hr _ _ rfl rfl rfl]
      exact Steps.refl _
  · show P _ T.heap; rw [eT]; exact hq
theorem Go.getF (C : Cx p s m meth c Z bytes own ret maxL) (X : On p l e R s m args below meth c n0 T h cells slots) {R0 O n d host : String} {i : Nat} {a : Addr} {v : Value} (w : (Cond.fieldLink own i R0 n d).before a0 Z = true ∨ (Cond.fieldLinkNest own i R0 n d host).before a0 Z = true) (via : Via Z R0 O n d) (F : Fld Z h a O n d v) (hd : decode bytes pc = .ok (.getfield i, 3)) (hp : pc + 3 = pc')
    (k : ∀ T', On p l e R s m args below meth c n0 T' h cells slots → Go p e below s n0 rc rs P T' (mkF m pc' Ls (v :: st))) : Go p e below s n0 rc rs P T (mkF m pc Ls (.ref a :: st)) := by
  obtain ⟨locs, X, eT, N, hn⟩ := X; obtain ⟨hx, hZ, hby, hown, hml, hlk, hrt⟩ := C; subst hp
  obtain ⟨T', X', e', st'⟩ := RoadKit.getF X hx hZ hown w via eT F (g := mkF m pc Ls (.ref a :: st)) rfl rfl (hb hby hd)
  exact Go.of st' (k T' ⟨locs, X', e', N, hn⟩)
theorem Go.getS (C : Cx p s m meth c Z bytes own ret maxL) (X : On p l e R s m args below meth c n0 T h cells slots) {R0 O n d : String} {i : Nat} {v : Value} (w : (Cond.fieldLink own i R0 n d).before a0 Z = true) (via : Via Z R0 O n d) (F : Sta Z h O n d v) (hd : decode bytes pc = .ok (.getstatic i, 3)) (hp : pc + 3 = pc')
    (k : ∀ T', On p l e R s m args below meth c n0 T' h cells slots → Go p e below s n0 rc rs P T' (mkF m pc' Ls (v :: st))) : Go p e below s n0 rc rs P T (mkF m pc Ls st) := by
  obtain ⟨locs, X, eT, N, hn⟩ := X; obtain ⟨hx, hZ, hby, hown, hml, hlk, hrt⟩ := C; subst hp
  obtain ⟨T', X', e', st'⟩ := RoadKit.getS X hx hZ (host := "") hown w via eT F (g := mkF m pc Ls st) rfl (hb hby hd)
  exact Go.of st' (k T' ⟨locs, X', e', N, hn⟩)
theorem Go.putF (C : Cx p s m meth c Z bytes own ret maxL) (X : On p l e R s m args below meth c n0 T h cells slots) {R0 O n d host K : String} {i kk : Nat} {ty : FieldType} {a : Addr} {v old : Value} (w : (Cond.fieldLink own i R0 n d).before a0 Z = true ∨ (Cond.fieldLinkNest own i R0 n d host).before a0 Z = true) (via : Via Z R0 O n d) (F : Fld Z h a O n d old) (E : Exa Z h a K) (L : (Cond.lays K O n d).before a0 Z = true ∨ ((Cond.laysFinal K O n d).before a0 Z = true ∧ own = O ∧ meth.name = "<init>")) (wi : (Cond.instantiable K kk).before a0 Z = true) (ha : n0 ≤ a) (hty : parseFieldDescriptor d = some ty) (hn : narrow ty v = v) (hf : fits ty v = true) (hd : decode bytes pc = .ok (.putfield i, 3)) (hp : pc + 3 = pc')
    (k : ∀ T' h', On p l e R s m args below meth c n0 T' h' cells slots → Wr h h' a (slotOf Z O n d) v → Go p e below s n0 rc rs P T' (mkF m pc' Ls st)) : Go p e below s n0 rc rs P T (mkF m pc Ls (v :: .ref a :: st)) := by
  obtain ⟨locs, X, eT, N, hz⟩ := X; obtain ⟨hx, hZ, hby, hown, hml, hlk, hrt⟩ := C; subst hp
  obtain ⟨T', h', X', e', W, st'⟩ := RoadKit.putF X hx hZ hown w via eT F E L wi hty hn hf (g := mkF m pc Ls (v :: .ref a :: st)) rfl rfl (hb hby hd)
  exact Go.of st' (k T' h' ⟨_, X', e', Fr.snoc X' N ha, by rw [W.size]; exact hz⟩ W)
theorem Go.putFN (C : Cx p s m meth c Z bytes own ret maxL) (X : On p l e R s m args below meth c n0 T h cells slots) {R0 O n d K : String} {i kk : Nat} {ty : FieldType} {a : Addr} {v v' old : Value} (w : (Cond.fieldLink own i R0 n d).before a0 Z = true) (via : Via Z R0 O n d) (F : Fld Z h a O n d old) (E : Exa Z h a K) (L : (Cond.lays K O n d).before a0 Z = true ∨ ((Cond.laysFinal K O n d).before a0 Z = true ∧ own = O ∧ meth.name = "<init>")) (wi : (Cond.instantiable K kk).before a0 Z = true) (ha : n0 ≤ a) (hty : parseFieldDescriptor d = some ty) (hn : narrow ty v = v') (hf : fits ty v' = true) (hd : decode bytes pc = .ok (.putfield i, 3)) (hp : pc + 3 = pc')
    (k : ∀ T' h', On p l e R s m args below meth c n0 T' h' cells slots → Wr h h' a (slotOf Z O n d) v' → Go p e below s n0 rc rs P T' (mkF m pc' Ls st)) : Go p e below s n0 rc rs P T (mkF m pc Ls (v :: .ref a :: st)) := by
  obtain ⟨locs, X, eT, N, hz⟩ := X; obtain ⟨hx, hZ, hby, hown, hml, hlk, hrt⟩ := C; subst hp
  obtain ⟨T', h', X', e', W, st'⟩ := RoadKit.putFN X hx hZ hown w via eT F E L wi hty hn hf (g := mkF m pc Ls (v :: .ref a :: st)) rfl rfl (hb hby hd)
  exact Go.of st' (k T' h' ⟨_, X', e', Fr.snoc X' N ha, by rw [W.size]; exact hz⟩ W)
theorem Go.newO (C : Cx p s m meth c Z bytes own ret maxL) (X : On p l e R s m args below meth c n0 T h cells slots) {K : String} {i kk : Nat} (w : (Cond.classLink own i K).before a0 Z = true) (wi : (Cond.instantiable K kk).before a0 Z = true) (wz : (Cond.initialized K).before a0 Z = true) (hd : decode bytes pc = .ok (.new i, 3)) (hc : cells + 1 ≤ R.cells) (hl : slots + kk ≤ R.slots) (hp : pc + 3 = pc')
    (k : ∀ T' h' a, On p l e R s m args below meth c n0 T' h' (cells + 1) (slots + kk) → a = h.size → Ext h h' → Exa Z h' a K → (∀ {O nm d : String} {ty : FieldType}, Laid Z a0 K O nm d → parseFieldDescriptor d = some ty → Fld Z h' a O nm d (defaultValue ty)) → n0 ≤ a → Go p e below s n0 rc rs P T' (mkF m pc' Ls (.ref a :: st))) : Go p e below s n0 rc rs P T (mkF m pc Ls st) := by
  obtain ⟨locs, X, eT, N, hz⟩ := X; obtain ⟨hx, hZ, hby, hown, hml, hlk, hrt⟩ := C; subst hp
  obtain ⟨T', h', X', e', E, A, D, -, st'⟩ := RoadKit.newO X hx hZ hown w wi wz eT (g := mkF m pc Ls st) rfl (hb hby hd) hc hl
  exact Go.of st' (k T' h' h.size ⟨_, X', e', N, Nat.le_trans hz E.1⟩ rfl E A D hz)
theorem Go.initO (C : Cx p s m meth c Z bytes own ret maxL) (X : On p l e R s m args below meth c n0 T h cells slots) {a : Addr} (hI : ∀ locs, Stand p l e R s m args below meth c T locs cells slots → T.heap = h → ∃ T', Stand p l e R s m args below meth c T' locs cells slots ∧ T'.heap = h ∧ ∀ target, Steps p.tables e below (T'.setTop (mkF m (pc + 3) Ls st)) target → Steps p.tables e below (T.setTop (mkF m pc Ls (.ref a :: st))) target) (hp : pc + 3 = pc')
    (k : ∀ T', On p l e R s m args below meth c n0 T' h cells slots → Go p e below s n0 rc rs P T' (mkF m pc' Ls st)) : Go p e below s n0 rc rs P T (mkF m pc Ls (.ref a :: st)) := by
  obtain ⟨locs, X, eT, N, hz⟩ := X; subst hp
  obtain ⟨T', X', e', st'⟩ := hI locs X eT
  exact Go.of st' (k T' ⟨_, X', e', N, hz⟩)
theorem Go.castY (C : Cx p s m meth c Z bytes own ret maxL) (X : On p l e R s m args below meth c n0 T h cells slots) {K : String} {i : Nat} {a : Addr} (w : (Cond.classLink own i K).before a0 Z = true) (F : Ins Z h a K true) (hd : decode bytes pc = .ok (.checkcast i, 3)) (hp : pc + 3 = pc')
    (k : ∀ T', On p l e R s m args below meth c n0 T' h cells slots → Go p e below s n0 rc rs P T' (mkF m pc' Ls (.ref a :: st))) : Go p e below s n0 rc rs P T (mkF m pc Ls (.ref a :: st)) := by
  obtain ⟨locs, X, eT, N, hn⟩ := X; obtain ⟨hx, hZ, hby, hown, hml, hlk, hrt⟩ := C; subst hp
  obtain ⟨T', X', e', st'⟩ := RoadKit.castY X hx hZ hown w eT F (g := mkF m pc Ls (.ref a :: st)) rfl rfl (hb hby hd)
  exact Go.of st' (k T' ⟨locs, X', e', N, hn⟩)
theorem Go.instY (C : Cx p s m meth c Z bytes own ret maxL) (X : On p l e R s m args below meth c n0 T h cells slots) {K : String} {i : Nat} {a : Addr} (w : (Cond.classLink own i K).before a0 Z = true) (F : Ins Z h a K true) (hd : decode bytes pc = .ok (.instanceof i, 3)) (hp : pc + 3 = pc')
    (k : ∀ T', On p l e R s m args below meth c n0 T' h cells slots → Go p e below s n0 rc rs P T' (mkF m pc' Ls (.int 1 :: st))) : Go p e below s n0 rc rs P T (mkF m pc Ls (.ref a :: st)) := by
  obtain ⟨locs, X, eT, N, hn⟩ := X; obtain ⟨hx, hZ, hby, hown, hml, hlk, hrt⟩ := C; subst hp
  obtain ⟨T', X', e', st'⟩ := RoadKit.instY X hx hZ hown w eT F (g := mkF m pc Ls (.ref a :: st)) rfl rfl (hb hby hd)
  exact Go.of st' (k T' ⟨locs, X', e', N, hn⟩)
def AI (Z : State) (h : Heap) (a : Addr) (ty : FieldType) (n : Nat) (f : Nat → Int32) : Prop := ∃ cl : Cell, Arr Z h a cl ty ∧ cl.slots.size = n ∧ n < 2 ^ 31 ∧ ∀ i, i < n → cl.slots[i]? = some (.int (f i))
def AJ (Z : State) (h : Heap) (a : Addr) (n : Nat) (f : Nat → Int64) : Prop := ∃ cl : Cell, Arr Z h a cl .long ∧ cl.slots.size = n ∧ n < 2 ^ 31 ∧ ∀ i, i < n → cl.slots[i]? = some (.long (f i))
theorem clamp_of {j : Int32} {i : Nat} (hj : j.toInt = (i : Int)) : j.toNatClampNeg = i := by
  show j.toInt.toNat = i
  omega
theorem in_of {j : Int32} {i n : Nat} (hj : j.toInt = (i : Int)) (hi : i < n) {sz : Nat} (hs : sz = n) : ¬ (j < 0 ∨ sz ≤ j.toNatClampNeg) := by
  rw [clamp_of hj]
  intro q
  rcases q with q | q
  · rw [Int32.lt_iff_toInt_lt] at q
    have : (0 : Int32).toInt = 0 := rfl
    omega
  · omega
theorem len32 {z : Int32} {n : Nat} (hz : z.toInt = (n : Int)) : n.toInt32 = z := by
  apply Int32.toInt_inj.mp
  rw [hz]
  have h2 : z.toInt < 2147483648 := z.toInt_lt
  rw [hz] at h2
  exact Int32.toInt_ofNat_of_lt (by omega)
section AFacts
variable {h' : Heap} {a b : Addr} {ty : FieldType} {n sl : Nat} {f : Nat → Int32} {g : Nat → Int64} {v : Value} {ws : List Addr}
theorem AI.lt (F : AI Z h a ty n f) : a < h.size := by obtain ⟨c, A, -⟩ := F; exact A.lt
theorem AI.ext (F : AI Z h a ty n f) (E : Ext h h') : AI Z h' a ty n f := by obtain ⟨c, A, r⟩ := F; exact ⟨c, A.ext E, r⟩
theorem AI.other (F : AI Z h b ty n f) (W : Wr h h' a sl v) (q : b ≠ a) : AI Z h' b ty n f := by obtain ⟨c, A, r⟩ := F; exact ⟨c, A.other W q, r⟩
theorem AI.keep (F : AI Z h a ty n f) (K : Keep h h' ws) (q : a ∉ ws) : AI Z h' a ty n f := by obtain ⟨c, A, r⟩ := F; exact ⟨c, ⟨K.2.1 a c A.1 q, A.2⟩, r⟩
theorem AI.congr {f' : Nat → Int32} (F : AI Z h a ty n f) (q : ∀ i, i < n → f i = f' i) : AI Z h a ty n f' := by
  obtain ⟨c, A, r1, r2, r3⟩ := F; exact ⟨c, A, r1, r2, fun i hi => by rw [r3 i hi, q i hi]⟩
theorem AI.bound (F : AI Z h a ty n f) : n < 2 ^ 31 := by obtain ⟨c, A, r1, r2, r3⟩ := F; exact r2
theorem AI.set {i : Nat} {x : Int32} (F : AI Z h a ty n f) (W : Wr h h' a i (.int x)) : AI Z h' a ty n (fun k => if k = i then x else f k) := by
  obtain ⟨c, A, r1, r2, r3⟩ := F
  refine ⟨_, A.same W, by rw [sz_set]; exact r1, r2, fun k hk => ?_⟩
  by_cases q : k = i
  · subst q; simp [Cell.setSlot, r1, hk]
  · simp only [Cell.setSlot, if_neg q]
    rw [Array.getElem?_setIfInBounds_ne (fun e => q e.symm)]
    exact r3 k hk
theorem AI.new {k : ClassId} {z : Int32} {n : Nat} (hz : z.toInt = (n : Int)) (ht : defaultValue ty = .int 0) (A : Arr Z h a (newA k ty z) ty) : AI Z h a ty n (fun _ => 0) := by
  have h2 : z.toInt < 2147483648 := z.toInt_lt
  refine ⟨_, A, by rw [sz_new, clamp_of hz], by omega, fun i hi => ?_⟩
  simp [newA, clamp_of hz, hi, ht]
theorem AJ.lt (F : AJ Z h a n g) : a < h.size := by obtain ⟨c, A, -⟩ := F; exact A.lt
theorem AJ.ext (F : AJ Z h a n g) (E : Ext h h') : AJ Z h' a n g := by obtain ⟨c, A, r⟩ := F; exact ⟨c, A.ext E, r⟩
theorem AJ.other (F : AJ Z h b n g) (W : Wr h h' a sl v) (q : b ≠ a) : AJ Z h' b n g := by obtain ⟨c, A, r⟩ := F; exact ⟨c, A.other W q, r⟩
theorem AJ.keep (F : AJ Z h a n g) (K : Keep h h' ws) (q : a ∉ ws) : AJ Z h' a n g := by obtain ⟨c, A, r⟩ := F; exact ⟨c, ⟨K.2.1 a c A.1 q, A.2⟩, r⟩
theorem AJ.congr {g' : Nat → Int64} (F : AJ Z h a n g) (q : ∀ i, i < n → g i = g' i) : AJ Z h a n g' := by
  obtain ⟨c, A, r1, r2, r3⟩ := F; exact ⟨c, A, r1, r2, fun i hi => by rw [r3 i hi, q i hi]⟩
theorem AJ.set {i : Nat} {x : Int64} (F : AJ Z h a n g) (W : Wr h h' a i (.long x)) : AJ Z h' a n (fun k => if k = i then x else g k) := by
  obtain ⟨c, A, r1, r2, r3⟩ := F
  refine ⟨_, A.same W, by rw [sz_set]; exact r1, r2, fun k hk => ?_⟩
  by_cases q : k = i
  · subst q; simp [Cell.setSlot, r1, hk]
  · simp only [Cell.setSlot, if_neg q]
    rw [Array.getElem?_setIfInBounds_ne (fun e => q e.symm)]
    exact r3 k hk
theorem AJ.new {k : ClassId} {z : Int32} {n : Nat} (hz : z.toInt = (n : Int)) (A : Arr Z h a (newA k .long z) .long) : AJ Z h a n (fun _ => 0) := by
  have h2 : z.toInt < 2147483648 := z.toInt_lt
  refine ⟨_, A, by rw [sz_new, clamp_of hz], by omega, fun i hi => ?_⟩
  simp [newA, clamp_of hz, hi, defaultValue]
end AFacts
theorem Go.newP (C : Cx p s m meth c Z bytes own ret maxL) (X : On p l e R s m args below meth c n0 T h cells slots) {aty : ArrayType} {z : Int32} {nn cap : Nat} (w : (Cond.arrayClass (newarray.typeOf aty)).before a0 Z = true) (hd : decode bytes pc = .ok (.newarray aty, 2)) (hz : z.toInt = (nn : Int)) (hcap : nn ≤ cap) (hbig : cap * 8 ≤ 536870912) (hc : cells + 1 ≤ R.cells) (hl : slots + cap ≤ R.slots) (hp : pc + 2 = pc')
    (k : ∀ T' h' a cA, On p l e R s m args below meth c n0 T' h' (cells + 1) (slots + cap) → a = h.size → Ext h h' → Arr Z h' a (newA cA (newarray.typeOf aty) z) (newarray.typeOf aty) → n0 ≤ a → Go p e below s n0 rc rs P T' (mkF m pc' Ls (.ref a :: st))) : Go p e below s n0 rc rs P T (mkF m pc Ls (.int z :: st)) := by
  obtain ⟨locs, X, eT, N, hn⟩ := X; obtain ⟨hx, hZ, hby, hown, hml, hlk, hrt⟩ := C; subst hp
  obtain ⟨T', h', cA, X', e', E, A, st'⟩ := RoadKit.newP X hx hZ w eT (g := mkF m pc Ls (.int z :: st)) rfl (hb hby hd) rfl (by rw [Int32.lt_iff_toInt_lt]; have : (0 : Int32).toInt = 0 := rfl; omega) (cap := cap) (by rw [clamp_of hz]; exact hcap) hbig hc hl
  exact Go.of st' (k T' h' h.size cA ⟨_, X', e', N, Nat.le_trans hn E.1⟩ rfl E A hn)
theorem Go.alenI (C : Cx p s m meth c Z bytes own ret maxL) (X : On p l e R s m args below meth c n0 T h cells slots) {a : Addr} {ty : FieldType} {n : Nat} {f : Nat → Int32} {z : Int32} (A : AI Z h a ty n f) (hz : z.toInt = (n : Int)) (hd : decode bytes pc = .ok (.arraylength, 1)) (hp : pc + 1 = pc') (k : Go p e below s n0 rc rs P T (mkF m pc' Ls (.int z :: st))) : Go p e below s n0 rc rs P T (mkF m pc Ls (.ref a :: st)) := by
  obtain ⟨locs, X, eT, N, hn⟩ := X; obtain ⟨hx, hZ, hby, hown, hml, hlk, hrt⟩ := C; subst hp
  obtain ⟨cl, A, r1, r2, r3⟩ := A
  refine Go.of (fun t q => X.arraylength hx (by rw [eT]; exact A.1) (State.isArrayOf_alike hZ.alike A.2.1) (g := mkF m pc Ls (.ref a :: st)) rfl rfl (hb hby hd) t ?_) k
  rw [r1, len32 hz]; exact q
theorem Go.alenJ (C : Cx p s m meth c Z bytes own ret maxL) (X : On p l e R s m args below meth c n0 T h cells slots) {a : Addr} {n : Nat} {f : Nat → Int64} {z : Int32} (A : AJ Z h a n f) (hz : z.toInt = (n : Int)) (hd : decode bytes pc = .ok (.arraylength, 1)) (hp : pc + 1 = pc') (k : Go p e below s n0 rc rs P T (mkF m pc' Ls (.int z :: st))) : Go p e below s n0 rc rs P T (mkF m pc Ls (.ref a :: st)) := by
  obtain ⟨locs, X, eT, N, hn⟩ := X; obtain ⟨hx, hZ, hby, hown, hml, hlk, hrt⟩ := C; subst hp
  obtain ⟨cl, A, r1, r2, r3⟩ := A
  refine Go.of (fun t q => X.arraylength hx (by rw [eT]; exact A.1) (State.isArrayOf_alike hZ.alike A.2.1) (g := mkF m pc Ls (.ref a :: st)) rfl rfl (hb hby hd) t ?_) k
  rw [r1, len32 hz]; exact q
theorem Go.iaload (C : Cx p s m meth c Z bytes own ret maxL) (X : On p l e R s m args below meth c n0 T h cells slots) {a : Addr} {n : Nat} {f : Nat → Int32} {j : Int32} {i : Nat} {w : Int32} (A : AI Z h a .int n f) (hj : j.toInt = (i : Int)) (hi : i < n) (hw : f i = w) (hd : decode bytes pc = .ok (.iaload, 1)) (hp : pc + 1 = pc') (k : Go p e below s n0 rc rs P T (mkF m pc' Ls (.int w :: st))) : Go p e below s n0 rc rs P T (mkF m pc Ls (.int j :: .ref a :: st)) := by
  obtain ⟨locs, X, eT, N, hn⟩ := X; obtain ⟨hx, hZ, hby, hown, hml, hlk, hrt⟩ := C; subst hp hw
  obtain ⟨cl, A, r1, r2, r3⟩ := A
  exact Go.of (fun t q => X.iaload hx (j := j) (v := .int (f i)) (by rw [eT]; exact A.1) (State.isArrayOf_alike hZ.alike A.2.1) A.2.2 (in_of hj hi r1) (by rw [clamp_of hj]; exact r3 i hi) (g := mkF m pc Ls (.int j :: .ref a :: st)) rfl rfl (hb hby hd) t q) k
theorem Go.baload (C : Cx p s m meth c Z bytes own ret maxL) (X : On p l e R s m args below meth c n0 T h cells slots) {a : Addr} {n : Nat} {f : Nat → Int32} {j : Int32} {i : Nat} {w : Int32} (A : AI Z h a .byte n f) (hj : j.toInt = (i : Int)) (hi : i < n) (hw : f i = w) (hd : decode bytes pc = .ok (.baload, 1)) (hp : pc + 1 = pc') (k : Go p e below s n0 rc rs P T (mkF m pc' Ls (.int w :: st))) : Go p e below s n0 rc rs P T (mkF m pc Ls (.int j :: .ref a :: st)) := by
  obtain ⟨locs, X, eT, N, hn⟩ := X; obtain ⟨hx, hZ, hby, hown, hml, hlk, hrt⟩ := C; subst hp hw
  obtain ⟨cl, A, r1, r2, r3⟩ := A
  exact Go.of (fun t q => X.baloadBytes hx (j := j) (v := .int (f i)) (by rw [eT]; exact A.1) (State.isArrayOf_alike hZ.alike A.2.1) A.2.2 (in_of hj hi r1) (by rw [clamp_of hj]; exact r3 i hi) (g := mkF m pc Ls (.int j :: .ref a :: st)) rfl rfl (hb hby hd) t q) k
theorem Go.zaload (C : Cx p s m meth c Z bytes own ret maxL) (X : On p l e R s m args below meth c n0 T h cells slots) {a : Addr} {n : Nat} {f : Nat → Int32} {j : Int32} {i : Nat} {w : Int32} (A : AI Z h a .boolean n f) (hj : j.toInt = (i : Int)) (hi : i < n) (hw : f i = w) (hd : decode bytes pc = .ok (.baload, 1)) (hp : pc + 1 = pc') (k : Go p e below s n0 rc rs P T (mkF m pc' Ls (.int w :: st))) : Go p e below s n0 rc rs P T (mkF m pc Ls (.int j :: .ref a :: st)) := by
  obtain ⟨locs, X, eT, N, hn⟩ := X; obtain ⟨hx, hZ, hby, hown, hml, hlk, hrt⟩ := C; subst hp hw
  obtain ⟨cl, A, r1, r2, r3⟩ := A
  exact Go.of (fun t q => X.baloadBooleans hx (j := j) (v := .int (f i)) (by rw [eT]; exact A.1) (State.isArrayOf_alike hZ.alike A.2.1) A.2.2 (in_of hj hi r1) (by rw [clamp_of hj]; exact r3 i hi) (g := mkF m pc Ls (.int j :: .ref a :: st)) rfl rfl (hb hby hd) t q) k
theorem Go.caload (C : Cx p s m meth c Z bytes own ret maxL) (X : On p l e R s m args below meth c n0 T h cells slots) {a : Addr} {n : Nat} {f : Nat → Int32} {j : Int32} {i : Nat} {w : Int32} (A : AI Z h a .char n f) (hj : j.toInt = (i : Int)) (hi : i < n) (hw : f i = w) (hd : decode bytes pc = .ok (.caload, 1)) (hp : pc + 1 = pc') (k : Go p e below s n0 rc rs P T (mkF m pc' Ls (.int w :: st))) : Go p e below s n0 rc rs P T (mkF m pc Ls (.int j :: .ref a :: st)) := by
  obtain ⟨locs, X, eT, N, hn⟩ := X; obtain ⟨hx, hZ, hby, hown, hml, hlk, hrt⟩ := C; subst hp hw
  obtain ⟨cl, A, r1, r2, r3⟩ := A
  exact Go.of (fun t q => X.caload hx (j := j) (v := .int (f i)) (by rw [eT]; exact A.1) (State.isArrayOf_alike hZ.alike A.2.1) A.2.2 (in_of hj hi r1) (by rw [clamp_of hj]; exact r3 i hi) (g := mkF m pc Ls (.int j :: .ref a :: st)) rfl rfl (hb hby hd) t q) k
theorem Go.laload (C : Cx p s m meth c Z bytes own ret maxL) (X : On p l e R s m args below meth c n0 T h cells slots) {a : Addr} {n : Nat} {f : Nat → Int64} {j : Int32} {i : Nat} {w : Int64} (A : AJ Z h a n f) (hj : j.toInt = (i : Int)) (hi : i < n) (hw : f i = w) (hd : decode bytes pc = .ok (.laload, 1)) (hp : pc + 1 = pc') (k : Go p e below s n0 rc rs P T (mkF m pc' Ls (.long w :: st))) : Go p e below s n0 rc rs P T (mkF m pc Ls (.int j :: .ref a :: st)) := by
  obtain ⟨locs, X, eT, N, hn⟩ := X; obtain ⟨hx, hZ, hby, hown, hml, hlk, hrt⟩ := C; subst hp hw
  obtain ⟨cl, A, r1, r2, r3⟩ := A
  exact Go.of (fun t q => X.laload hx (j := j) (v := .long (f i)) (by rw [eT]; exact A.1) (State.isArrayOf_alike hZ.alike A.2.1) A.2.2 (in_of hj hi r1) (by rw [clamp_of hj]; exact r3 i hi) (g := mkF m pc Ls (.int j :: .ref a :: st)) rfl rfl (hb hby hd) t q) k
theorem Go.iastore (C : Cx p s m meth c Z bytes own ret maxL) (X : On p l e R s m args below meth c n0 T h cells slots) {a : Addr} {n : Nat} {f : Nat → Int32} {j x x' : Int32} {i : Nat} (A : AI Z h a .int n f) (hj : j.toInt = (i : Int)) (hi : i < n) (hv : x = x') (ha : n0 ≤ a) (hd : decode bytes pc = .ok (.iastore, 1)) (hp : pc + 1 = pc')
    (k : ∀ T' h', On p l e R s m args below meth c n0 T' h' cells slots → Wr h h' a i (.int x') → AI Z h' a .int n (fun q => if q = i then x' else f q) → Go p e below s n0 rc rs P T' (mkF m pc' Ls st)) : Go p e below s n0 rc rs P T (mkF m pc Ls (.int x :: .int j :: .ref a :: st)) := by
  obtain ⟨locs, X, eT, N, hn⟩ := X; obtain ⟨hx, hZ, hby, hown, hml, hlk, hrt⟩ := C; subst hp hv
  obtain ⟨cl, A', r1, r2, r3⟩ := id A
  obtain ⟨T', h', X', e', W, st'⟩ := RoadKit.stI X hx hZ eT A' (in_of hj hi r1) (g := mkF m pc Ls (.int x :: .int j :: .ref a :: st)) rfl rfl (hb hby hd)
  have N' := Fr.snoc X' N ha
  rw [clamp_of hj] at W
  exact Go.of st' (k T' h' ⟨_, X', e', N', by rw [W.size]; exact hn⟩ W (A.set W))
theorem Go.bastore (C : Cx p s m meth c Z bytes own ret maxL) (X : On p l e R s m args below meth c n0 T h cells slots) {a : Addr} {n : Nat} {f : Nat → Int32} {j x x' : Int32} {i : Nat} (A : AI Z h a .byte n f) (hj : j.toInt = (i : Int)) (hi : i < n) (hv : nar .byte x = x') (ha : n0 ≤ a) (hd : decode bytes pc = .ok (.bastore, 1)) (hp : pc + 1 = pc')
    (k : ∀ T' h', On p l e R s m args below meth c n0 T' h' cells slots → Wr h h' a i (.int x') → AI Z h' a .byte n (fun q => if q = i then x' else f q) → Go p e below s n0 rc rs P T' (mkF m pc' Ls st)) : Go p e below s n0 rc rs P T (mkF m pc Ls (.int x :: .int j :: .ref a :: st)) := by
  obtain ⟨locs, X, eT, N, hn⟩ := X; obtain ⟨hx, hZ, hby, hown, hml, hlk, hrt⟩ := C; subst hp hv
  obtain ⟨cl, A', r1, r2, r3⟩ := id A
  obtain ⟨T', h', X', e', W, st'⟩ := RoadKit.stB X hx hZ eT A' (in_of hj hi r1) (g := mkF m pc Ls (.int x :: .int j :: .ref a :: st)) rfl rfl (hb hby hd)
  have N' := Fr.snoc X' N ha
  rw [clamp_of hj] at W
  exact Go.of st' (k T' h' ⟨_, X', e', N', by rw [W.size]; exact hn⟩ W (A.set W))
theorem Go.castore (C : Cx p s m meth c Z bytes own ret maxL) (X : On p l e R s m args below meth c n0 T h cells slots) {a : Addr} {n : Nat} {f : Nat → Int32} {j x x' : Int32} {i : Nat} (A : AI Z h a .char n f) (hj : j.toInt = (i : Int)) (hi : i < n) (hv : nar .char x = x') (ha : n0 ≤ a) (hd : decode bytes pc = .ok (.castore, 1)) (hp : pc + 1 = pc')
    (k : ∀ T' h', On p l e R s m args below meth c n0 T' h' cells slots → Wr h h' a i (.int x') → AI Z h' a .char n (fun q => if q = i then x' else f q) → Go p e below s n0 rc rs P T' (mkF m pc' Ls st)) : Go p e below s n0 rc rs P T (mkF m pc Ls (.int x :: .int j :: .ref a :: st)) := by
  obtain ⟨locs, X, eT, N, hn⟩ := X; obtain ⟨hx, hZ, hby, hown, hml, hlk, hrt⟩ := C; subst hp hv
  obtain ⟨cl, A', r1, r2, r3⟩ := id A
  obtain ⟨T', h', X', e', W, st'⟩ := RoadKit.stC X hx hZ eT A' (in_of hj hi r1) (g := mkF m pc Ls (.int x :: .int j :: .ref a :: st)) rfl rfl (hb hby hd)
  have N' := Fr.snoc X' N ha
  rw [clamp_of hj] at W
  exact Go.of st' (k T' h' ⟨_, X', e', N', by rw [W.size]; exact hn⟩ W (A.set W))
theorem Go.zastore (C : Cx p s m meth c Z bytes own ret maxL) (X : On p l e R s m args below meth c n0 T h cells slots) {a : Addr} {n : Nat} {f : Nat → Int32} {j x x' : Int32} {i : Nat} (A : AI Z h a .boolean n f) (hj : j.toInt = (i : Int)) (hi : i < n) (hv : nar .boolean x = x') (ha : n0 ≤ a) (hd : decode bytes pc = .ok (.bastore, 1)) (hp : pc + 1 = pc')
    (k : ∀ T' h', On p l e R s m args below meth c n0 T' h' cells slots → Wr h h' a i (.int x') → AI Z h' a .boolean n (fun q => if q = i then x' else f q) → Go p e below s n0 rc rs P T' (mkF m pc' Ls st)) : Go p e below s n0 rc rs P T (mkF m pc Ls (.int x :: .int j :: .ref a :: st)) := by
  obtain ⟨locs, X, eT, N, hn⟩ := X; obtain ⟨hx, hZ, hby, hown, hml, hlk, hrt⟩ := C; subst hp hv
  obtain ⟨cl, A', r1, r2, r3⟩ := id A
  obtain ⟨T', h', X', e', W, st'⟩ := RoadKit.stZ X hx hZ eT A' (in_of hj hi r1) (g := mkF m pc Ls (.int x :: .int j :: .ref a :: st)) rfl rfl (hb hby hd)
  have N' := Fr.snoc X' N ha
  rw [clamp_of hj] at W
  exact Go.of st' (k T' h' ⟨_, X', e', N', by rw [W.size]; exact hn⟩ W (A.set W))
theorem Go.lastore (C : Cx p s m meth c Z bytes own ret maxL) (X : On p l e R s m args below meth c n0 T h cells slots) {a : Addr} {n : Nat} {f : Nat → Int64} {j : Int32} {x : Int64} {i : Nat} (A : AJ Z h a n f) (hj : j.toInt = (i : Int)) (hi : i < n) (ha : n0 ≤ a) (hd : decode bytes pc = .ok (.lastore, 1)) (hp : pc + 1 = pc')
    (k : ∀ T' h', On p l e R s m args below meth c n0 T' h' cells slots → Wr h h' a i (.long x) → AJ Z h' a n (fun q => if q = i then x else f q) → Go p e below s n0 rc rs P T' (mkF m pc' Ls st)) : Go p e below s n0 rc rs P T (mkF m pc Ls (.long x :: .int j :: .ref a :: st)) := by
  obtain ⟨locs, X, eT, N, hn⟩ := X; obtain ⟨hx, hZ, hby, hown, hml, hlk, hrt⟩ := C; subst hp
  obtain ⟨cl, A', r1, r2, r3⟩ := id A
  obtain ⟨T', h', X', e', W, st'⟩ := RoadKit.stJ X hx hZ eT A' (in_of hj hi r1) (g := mkF m pc Ls (.long x :: .int j :: .ref a :: st)) rfl rfl (hb hby hd)
  have N' := Fr.snoc X' N ha
  rw [clamp_of hj] at W
  exact Go.of st' (k T' h' ⟨_, X', e', N', by rw [W.size]; exact hn⟩ W (A.set W))
def AR (Z : State) (h : Heap) (a : Addr) (ty : FieldType) (n : Nat) (f : Nat → Value) : Prop := ∃ cl : Cell, Arr Z h a cl ty ∧ cl.slots.size = n ∧ n < 2 ^ 31 ∧ (∀ i, i < n → cl.slots[i]? = some (f i)) ∧ FitC Z cl
theorem AR.lt {a : Addr} {ty : FieldType} {n : Nat} {f : Nat → Value} (F : AR Z h a ty n f) : a < h.size := by obtain ⟨c, A, -⟩ := F; exact A.lt
theorem AR.ext {h' : Heap} {a : Addr} {ty : FieldType} {n : Nat} {f : Nat → Value} (F : AR Z h a ty n f) (E : Ext h h') : AR Z h' a ty n f := by obtain ⟨c, A, r⟩ := F; exact ⟨c, A.ext E, r⟩
theorem AR.other {h' : Heap} {a b : Addr} {sl : Nat} {v : Value} {ty : FieldType} {n : Nat} {f : Nat → Value} (F : AR Z h b ty n f) (W : Wr h h' a sl v) (q : b ≠ a) : AR Z h' b ty n f := by obtain ⟨c, A, r⟩ := F; exact ⟨c, A.other W q, r⟩
theorem AR.keep {h' : Heap} {a : Addr} {ws : List Addr} {ty : FieldType} {n : Nat} {f : Nat → Value} (F : AR Z h a ty n f) (K : Keep h h' ws) (q : a ∉ ws) : AR Z h' a ty n f := by obtain ⟨c, A, r⟩ := F; exact ⟨c, ⟨K.2.1 a c A.1 q, A.2⟩, r⟩
theorem Go.alenR (C : Cx p s m meth c Z bytes own ret maxL) (X : On p l e R s m args below meth c n0 T h cells slots) {a : Addr} {ty : FieldType} {n : Nat} {f : Nat → Value} {z : Int32} (A : AR Z h a ty n f) (hz : z.toInt = (n : Int)) (hd : decode bytes pc = .ok (.arraylength, 1)) (hp : pc + 1 = pc') (k : Go p e below s n0 rc rs P T (mkF m pc' Ls (.int z :: st))) : Go p e below s n0 rc rs P T (mkF m pc Ls (.ref a :: st)) := by
  obtain ⟨locs, X, eT, N, hn⟩ := X; obtain ⟨hx, hZ, hby, hown, hml, hlk, hrt⟩ := C; subst hp
  obtain ⟨cl, A, r1, r2, r3⟩ := A
  refine Go.of (fun t q => X.arraylength hx (by rw [eT]; exact A.1) (State.isArrayOf_alike hZ.alike A.2.1) (g := mkF m pc Ls (.ref a :: st)) rfl rfl (hb hby hd) t ?_) k
  rw [r1, len32 hz]; exact q
theorem Go.aaload (C : Cx p s m meth c Z bytes own ret maxL) (X : On p l e R s m args below meth c n0 T h cells slots) {a : Addr} {ty : FieldType} {n : Nat} {f : Nat → Value} {j : Int32} {i : Nat} {w : Value} (A : AR Z h a ty n f) (hty : ty.isReference = true) (hj : j.toInt = (i : Int)) (hi : i < n) (hw : f i = w) (hd : decode bytes pc = .ok (.aaload, 1)) (hp : pc + 1 = pc') (k : Go p e below s n0 rc rs P T (mkF m pc' Ls (w :: st))) : Go p e below s n0 rc rs P T (mkF m pc Ls (.int j :: .ref a :: st)) := by
  obtain ⟨locs, X, eT, N, hn⟩ := X; obtain ⟨hx, hZ, hby, hown, hml, hlk, hrt⟩ := C; subst hp hw
  obtain ⟨cl, A, r1, r2, r3, r4⟩ := A
  exact Go.of (fun t q => X.aaload hx (j := j) (v := f i) (by rw [eT]; exact A.1) (State.isArrayOf_alike hZ.alike A.2.1) hty A.2.2 (in_of hj hi r1) (by rw [clamp_of hj]; exact r3 i hi) (g := mkF m pc Ls (.int j :: .ref a :: st)) rfl rfl (hb hby hd) t q) k
theorem Go.cloneA (C : Cx p s m meth c Z bytes own ret maxL) (X : On p l e R s m args below meth c n0 T h cells slots) {ad : String} {i : Nat} {a : Addr} {ty : FieldType} {n W cap : Nat} {f : Nat → Value}
    (w1 : (Cond.methodLink own i ⟨ad, "clone", "()Ljava/lang/Object;"⟩).before a0 Z = true) (w2 : (Cond.sameMethod ad "java/lang/Object" "clone" "()Ljava/lang/Object;").before a0 Z = true) (w3 : (Cond.native ⟨"java/lang/Object", "clone", "()Ljava/lang/Object;"⟩).before a0 Z = true)
    (w4 : (Cond.instanceMethod ⟨"java/lang/Object", "clone", "()Ljava/lang/Object;"⟩).before a0 Z = true) (w5 : (Cond.selects ad ⟨ad, "clone", "()Ljava/lang/Object;"⟩ ⟨"java/lang/Object", "clone", "()Ljava/lang/Object;"⟩).before a0 Z = true) (w6 : (Cond.castable ad "java/lang/Cloneable").before a0 Z = true)
    (A : AR Z h a ty n f) (E : Exa Z h a ad) (hsz : Ls.size = maxL) (hd : decode bytes pc = .ok (.invokevirtual i, 3)) (hf : 1 ≤ R.frames) (hW : (st.map fun v => v.category).sum ≤ W) (hl : W + 14 ≤ R.locals) (hcap : n ≤ cap) (hc : cells + 1 ≤ R.cells) (hsl : slots + cap ≤ R.slots) (hp : pc + 3 = pc')
    (k : ∀ T' h' b, On p l e R s m args below meth c n0 T' h' (cells + 1) (slots + cap) → b = h.size → Ext h h' → AR Z h' b ty n f → Exa Z h' b ad → n0 ≤ b → Go p e below s n0 rc rs P T' (mkF m pc' Ls (.ref b :: st))) : Go p e below s n0 rc rs P T (mkF m pc Ls (.ref a :: st)) := by
  obtain ⟨locs, X, eT, N, hn⟩ := X; obtain ⟨hx, hZ, hby, hown, hml, hlk, hrt⟩ := C; subst hp
  obtain ⟨cl, A, r1, r2, r3, r4⟩ := A
  obtain ⟨T', h', X', e', ex, A', E', st'⟩ := RoadKit.cloneA X hx hZ hown w1 w2 w3 w4 w5 w6 eT A E r4 (g := mkF m pc Ls (.ref a :: st)) rfl (by rw [hml]; exact hsz) rfl (hb hby hd) hf (W := W) (cap := cap) (by simpa using hW) hl (by rw [r1]; exact hcap) hc hsl
  exact Go.of st' (k T' h' h.size ⟨_, X', e', N, Nat.le_trans hn ex.1⟩ rfl ex ⟨cloneOf cl, A', r1, r2, r3, r4⟩ E' hn)
theorem Go.callS (C : Cx p s m meth c Z bytes own ret maxL) (X : On p l e R s m args below meth c n0 T h cells slots) {y : MethodName} {cb : ByteArray} {cm : Nat} {cr : Option FieldType} {rm : Room} {as' : Array Value} {P' : Option Value → Heap → Prop} {i W : Nat} {argsL rest : List Value} (K : Con l Z y cb cm cr rm as' h n0 P') (w1 : (Cond.methodLink own i y).before a0 Z = true) (w2 : (Cond.static y).before a0 Z = true) (w3 : (Cond.initialized y.cls).before a0 Z = true) (w4 : (Cond.code y cb cm cr).before a0 Z = true) (hy : y.cls ≠ "java/lang/invoke/MethodHandle" ∧ y.cls ≠ "java/lang/invoke/VarHandle")
    (has : argsL.toArray = as') (hst : st = argsL.reverse ++ rest) (hlen : ∀ sig, parseMethodDescriptor y.desc = some sig → argsL.length = sig.parameters.length) (hsz : Ls.size = maxL) (hW : (rest.map fun v => v.category).sum ≤ W) (hf : rm.frames + 1 ≤ R.frames) (hlo : W + (cm + 11) + rm.locals ≤ R.locals) (hce : cells + rm.cells ≤ R.cells) (hsl : slots + rm.slots ≤ R.slots) (hd : decode bytes pc = .ok (.invokestatic i, 3)) (hp : pc + 3 = pc')
    (hgrow : ∀ v h', P' v h' → h.size ≤ h'.size)
    (k : ∀ T' h' v, On p l e R s m args below meth c n0 T' h' (cells + rm.cells) (slots + rm.slots) → P' v h' → Go p e below s n0 rc rs P T' (mkF m pc' Ls (v.toList ++ rest))) : Go p e below s n0 rc rs P T (mkF m pc Ls st) := by
  obtain ⟨locs, X, eT, N, hn⟩ := X; obtain ⟨hx, hZ, hby, hown, hml, hlk, hrt⟩ := C; subst hp has hst
  obtain ⟨v, _, ⟨T', L', k', n'⟩, -, X', ⟨Lc, hQ, l', y', z'⟩, st'⟩ := Jvm.LawKit.callS X hx (y := y) hown (mvT hZ w1) (mvT hZ w2) (mvT hZ w3) (mvT hZ w4) hy (K.back (W := W) hZ w4 w3 hf hlo) (g := mkF m pc Ls (argsL.reverse ++ rest)) rfl (by rw [hml]; exact hsz) (argsL := argsL) (rest := rest) hlen rfl (by simpa using hW) (hb hby hd) (fun _ _ => ⟨rfl, eT, hce, hsl⟩)
  dsimp only [Pt.U, Pt.locs, Pt.cells, Pt.slots] at X' l' y' z' st' hQ
  subst l' y' z'
  exact Go.of st' (k T' _ v ⟨_, X', rfl, Fr.app N hQ.2, Nat.le_trans hn (hgrow _ _ hQ.1)⟩ hQ.1)
theorem Go.callI (C : Cx p s m meth c Z bytes own ret maxL) (X : On p l e R s m args below meth c n0 T h cells slots) {y : MethodName} {cb : ByteArray} {cm : Nat} {cr : Option FieldType} {rm : Room} {as' : Array Value} {P' : Option Value → Heap → Prop} {i W : Nat} {argsL rest : List Value} (K : Con l Z y cb cm cr rm as' h n0 P') {a : Addr} (hy1 : y.name = "<init>") (hcr : cr = none) (w1 : (Cond.methodLink own i y).before a0 Z = true) (w2 : (Cond.instanceMethod y).before a0 Z = true) (w3 : (Cond.initialized y.cls).before a0 Z = true) (w4 : (Cond.code y cb cm cr).before a0 Z = true) (hy : y.cls ≠ "java/lang/invoke/MethodHandle" ∧ y.cls ≠ "java/lang/invoke/VarHandle")
    (has : (.ref a :: argsL).toArray = as') (hst : st = argsL.reverse ++ .ref a :: rest) (hlen : ∀ sig, parseMethodDescriptor y.desc = some sig → argsL.length = sig.parameters.length) (hsz : Ls.size = maxL) (hW : (rest.map fun v => v.category).sum ≤ W) (hf : rm.frames + 1 ≤ R.frames) (hlo : W + (cm + 11) + rm.locals ≤ R.locals) (hce : cells + rm.cells ≤ R.cells) (hsl : slots + rm.slots ≤ R.slots) (hd : decode bytes pc = .ok (.invokespecial i, 3)) (hp : pc + 3 = pc')
    (hgrow : ∀ v h', P' v h' → h.size ≤ h'.size)
    (k : ∀ T' h' v, On p l e R s m args below meth c n0 T' h' (cells + rm.cells) (slots + rm.slots) → P' v h' → Go p e below s n0 rc rs P T' (mkF m pc' Ls (v.toList ++ rest))) : Go p e below s n0 rc rs P T (mkF m pc Ls st) := by
  obtain ⟨locs, X, eT, N, hn⟩ := X; obtain ⟨hx, hZ, hby, hown, hml, hlk, hrt⟩ := C; subst hp has hst hcr
  obtain ⟨v, _, ⟨T', L', k', n'⟩, -, X', ⟨Lc, hQ, l', y', z'⟩, st'⟩ := X.specialBack hx (y := y) hy1 hown (mvT hZ w1) (mvT hZ w2) (mvT hZ w4) hy (K.back (W := W) hZ w4 w3 hf hlo) (g := mkF m pc Ls (argsL.reverse ++ .ref a :: rest)) rfl (by rw [hml]; exact hsz) (Steps.refl _) (a := a) (argsL := argsL) (rest := rest) hlen rfl (by simpa using hW) (hb hby hd) (fun _ _ => ⟨rfl, eT, hce, hsl⟩)
  dsimp only [Pt.U, Pt.locs, Pt.cells, Pt.slots] at X' l' y' z' st' hQ
  subst l' y' z'
  exact Go.tr st' (k T' _ v ⟨_, X', rfl, Fr.app N hQ.2, Nat.le_trans hn (hgrow _ _ hQ.1)⟩ hQ.1)
theorem Go.callV (C : Cx p s m meth c Z bytes own ret maxL) (X : On p l e R s m args below meth c n0 T h cells slots) {y : MethodName} {cb : ByteArray} {cm : Nat} {cr : Option FieldType} {rm : Room} {as' : Array Value} {P' : Option Value → Heap → Prop} {i W : Nat} {argsL rest : List Value} (K : Con l Z y cb cm cr rm as' h n0 P') {y0 : MethodName} {a : Addr} {Ck : String} (E : Exa Z h a Ck) (nf : NotFace s y0) (w1 : (Cond.methodLink own i y0).before a0 Z = true) (w2 : (Cond.declares y0).before a0 Z = true) (w5 : (Cond.selects Ck y0 y).before a0 Z = true) (w6 : (Cond.instanceMethod y).before a0 Z = true) (w3 : (Cond.initialized y.cls).before a0 Z = true) (w4 : (Cond.code y cb cm cr).before a0 Z = true) (hy : y0.cls ≠ "java/lang/invoke/MethodHandle" ∧ y0.cls ≠ "java/lang/invoke/VarHandle")
    (has : (.ref a :: argsL).toArray = as') (hst : st = argsL.reverse ++ .ref a :: rest) (hlen : ∀ sig, parseMethodDescriptor y0.desc = some sig → argsL.length = sig.parameters.length) (hsz : Ls.size = maxL) (hW : (rest.map fun v => v.category).sum ≤ W) (hf : rm.frames + 1 ≤ R.frames) (hlo : W + (cm + 11) + rm.locals ≤ R.locals) (hce : cells + rm.cells ≤ R.cells) (hsl : slots + rm.slots ≤ R.slots) (hd : decode bytes pc = .ok (.invokevirtual i, 3)) (hp : pc + 3 = pc')
    (hgrow : ∀ v h', P' v h' → h.size ≤ h'.size)
    (k : ∀ T' h' v, On p l e R s m args below meth c n0 T' h' (cells + rm.cells) (slots + rm.slots) → P' v h' → Go p e below s n0 rc rs P T' (mkF m pc' Ls (v.toList ++ rest))) : Go p e below s n0 rc rs P T (mkF m pc Ls st) := by
  obtain ⟨locs, X, eT, N, hn⟩ := X; obtain ⟨hx, hZ, hby, hown, hml, hlk, hrt⟩ := C; subst hp has hst
  obtain ⟨cq, kq, qa, qb, qc⟩ := isOf hZ eT E
  obtain ⟨v, _, ⟨T', L', k', n'⟩, -, X', ⟨Lc, hQ, l', y', z'⟩, st'⟩ := X.virtualBack hx (y := y0) (z := y) hown (mvT hZ w1) (mvT hZ w2) nf (mvT hZ w5) (mvT hZ w6) hy (K.back (W := W) hZ w4 w3 hf hlo) qa qc (g := mkF m pc Ls (argsL.reverse ++ .ref a :: rest)) rfl (by rw [hml]; exact hsz) (Steps.refl _) (argsL := argsL) (rest := rest) hlen rfl (by simpa using hW) (hb hby hd) (fun _ _ => ⟨rfl, eT, hce, hsl⟩)
  dsimp only [Pt.U, Pt.locs, Pt.cells, Pt.slots] at X' l' y' z' st' hQ
  subst l' y' z'
  exact Go.tr st' (k T' _ v ⟨_, X', rfl, Fr.app N hQ.2, Nat.le_trans hn (hgrow _ _ hQ.1)⟩ hQ.1)
theorem own_selp {y : MethodName} {kk : Nat} (hZ : Z.Warmed39 s.vm) (wi : (Cond.instantiable y.cls kk).before a0 Z = true) (w2 : (Cond.instanceMethod y).before a0 Z = true) (w6 : (Cond.privateMethod y).before a0 Z = true) (hy : y.cls ≠ "java/lang/invoke/MethodHandle" ∧ y.cls ≠ "java/lang/invoke/VarHandle") : (Cond.selects y.cls y y).before args s = true := by
  have wi' : (Cond.instantiable y.cls kk).before args s = true := mvT hZ wi
  obtain ⟨c2, k2, i1, i2, i3, i4, -⟩ := Cond.instantiable_spec wi'
  exact Jvm.Stand.selects_self_of_private i1 i2 (by simp only [Bool.or_eq_false_iff] at i4; exact i4.1) (Cond.privateMethod_at (mvP hZ w6 (args := #[]))) (mvT hZ w2) hy
theorem Go.callP (C : Cx p s m meth c Z bytes own ret maxL) (X : On p l e R s m args below meth c n0 T h cells slots) {y : MethodName} {cb : ByteArray} {cm : Nat} {cr : Option FieldType} {rm : Room} {as' : Array Value} {P' : Option Value → Heap → Prop} {i W : Nat} {argsL rest : List Value} (K : Con l Z y cb cm cr rm as' h n0 P') {a : Addr} {Ck : String} (E : Exa Z h a Ck) (w1 : (Cond.methodLink own i y).before a0 Z = true) (w2 : (Cond.instanceMethod y).before a0 Z = true) {kk : Nat} (w5 : (Cond.instantiable y.cls kk).before a0 Z = true) (w6 : (Cond.privateMethod y).before a0 Z = true) (w3 : (Cond.initialized y.cls).before a0 Z = true) (w4 : (Cond.code y cb cm cr).before a0 Z = true) (hy : y.cls ≠ "java/lang/invoke/MethodHandle" ∧ y.cls ≠ "java/lang/invoke/VarHandle")
    (has : (.ref a :: argsL).toArray = as') (hst : st = argsL.reverse ++ .ref a :: rest) (hlen : ∀ sig, parseMethodDescriptor y.desc = some sig → argsL.length = sig.parameters.length) (hsz : Ls.size = maxL) (hW : (rest.map fun v => v.category).sum ≤ W) (hf : rm.frames + 1 ≤ R.frames) (hlo : W + (cm + 11) + rm.locals ≤ R.locals) (hce : cells + rm.cells ≤ R.cells) (hsl : slots + rm.slots ≤ R.slots) (hd : decode bytes pc = .ok (.invokevirtual i, 3)) (hp : pc + 3 = pc')
    (hgrow : ∀ v h', P' v h' → h.size ≤ h'.size)
    (k : ∀ T' h' v, On p l e R s m args below meth c n0 T' h' (cells + rm.cells) (slots + rm.slots) → P' v h' → Go p e below s n0 rc rs P T' (mkF m pc' Ls (v.toList ++ rest))) : Go p e below s n0 rc rs P T (mkF m pc Ls st) := by
  obtain ⟨locs, X, eT, N, hn⟩ := X; obtain ⟨hx, hZ, hby, hown, hml, hlk, hrt⟩ := C; subst hp has hst
  obtain ⟨cq, qa, qb⟩ := E.cell
  obtain ⟨v, _, ⟨T', L', k', n'⟩, -, X', ⟨Lc, hQ, l', y', z'⟩, st'⟩ := X.privateBack hx (y := y) hown (mvT hZ w1) (mvT hZ w2) (own_selp hZ w5 w2 w6 hy) (Cond.privateMethod_at (mvP hZ w6 (args := #[]))) (mvT hZ w4) hy (K.back (W := W) hZ w4 w3 hf hlo) (g := mkF m pc Ls (argsL.reverse ++ .ref a :: rest)) rfl (by rw [hml]; exact hsz) (Steps.refl _) (a := a) (by rw [eT]; exact qa) qb (argsL := argsL) (rest := rest) hlen rfl (by simpa using hW) (hb hby hd) (fun _ _ => ⟨rfl, eT, hce, hsl⟩)
  dsimp only [Pt.U, Pt.locs, Pt.cells, Pt.slots] at X' l' y' z' st' hQ
  subst l' y' z'
  exact Go.tr st' (k T' _ v ⟨_, X', rfl, Fr.app N hQ.2, Nat.le_trans hn (hgrow _ _ hQ.1)⟩ hQ.1)
end Own
end Jvm.RoadKit
namespace Jvm.RoadKit
theorem own_iadd {x y : Int32} (h1 : -2147483648 ≤ x.toInt + y.toInt) (h2 : x.toInt + y.toInt < 2147483648) : (x + y).toInt = x.toInt + y.toInt := by
  have h3 := c_iadd x y; have h4 := rng32 (x + y); omega
theorem own_isub {x y : Int32} (h1 : -2147483648 ≤ x.toInt - y.toInt) (h2 : x.toInt - y.toInt < 2147483648) : (x - y).toInt = x.toInt - y.toInt := by
  have h3 := c_isub x y; have h4 := rng32 (x - y); omega
theorem own_imul {x y : Int32} (h1 : -2147483648 ≤ x.toInt * y.toInt) (h2 : x.toInt * y.toInt < 2147483648) : (x * y).toInt = x.toInt * y.toInt := by
  have h3 := c_imul x y; have h4 := rng32 (x * y); omega
theorem own_ladd {x y : Int64} (h1 : -9223372036854775808 ≤ x.toInt + y.toInt) (h2 : x.toInt + y.toInt < 9223372036854775808) : (x + y).toInt = x.toInt + y.toInt := by
  have h3 := c_ladd x y; have h4 := rng64 (x + y); omega
theorem own_lsub {x y : Int64} (h1 : -9223372036854775808 ≤ x.toInt - y.toInt) (h2 : x.toInt - y.toInt < 9223372036854775808) : (x - y).toInt = x.toInt - y.toInt := by
  have h3 := c_lsub x y; have h4 := rng64 (x - y); omega
theorem own_lmul {x y : Int64} (h1 : -9223372036854775808 ≤ x.toInt * y.toInt) (h2 : x.toInt * y.toInt < 9223372036854775808) : (x * y).toInt = x.toInt * y.toInt := by
  have h3 := c_lmul x y; have h4 := rng64 (x * y); omega
theorem own_ilt {x y : Int32} : x < y ↔ x.toInt < y.toInt := Int32.lt_iff_toInt_lt
theorem own_jlt {x y : Int64} : x < y ↔ x.toInt < y.toInt := Int64.lt_iff_toInt_lt
theorem own_ieq {x y : Int32} : x = y ↔ x.toInt = y.toInt := Int32.toInt_inj.symm
theorem own_jeq {x y : Int64} : x = y ↔ x.toInt = y.toInt := Int64.toInt_inj.symm
theorem own_nilt {x y : Int32} (h : ¬ x < y) : ¬ x.toInt < y.toInt := fun q => h (own_ilt.mpr q)
theorem own_njlt {x y : Int64} (h : ¬ x < y) : ¬ x.toInt < y.toInt := fun q => h (own_jlt.mpr q)
theorem own_nieq {x y : Int32} (h : ¬ x = y) : ¬ x.toInt = y.toInt := fun q => h (own_ieq.mpr q)
theorem own_njeq {x y : Int64} (h : ¬ x = y) : ¬ x.toInt = y.toInt := fun q => h (own_jeq.mpr q)
theorem own_inc {x y : Int32} (h : x < y) : (x + (1 : Int32)).toInt = x.toInt + 1 := by
  rw [own_ilt] at h
  have h1 := rng32 x; have h2 := rng32 y
  have e : (1 : Int32).toInt = 1 := rfl
  rw [own_iadd (by omega) (by omega), e]
theorem own_dec {x y : Int32} (h : y < x) : (x + (-1 : Int32)).toInt = x.toInt - 1 := by
  rw [own_ilt] at h
  have h1 := rng32 x; have h2 := rng32 y
  have e : (-1 : Int32).toInt = -1 := rfl
  rw [own_iadd (by omega) (by omega), e]; omega
theorem own_nat32 {x : Int32} {n : Nat} (h : x.toInt = (n : Int)) : x = Int32.ofNat n := by
  apply Int32.toInt_inj.mp
  have := rng32 x
  rw [Int32.toInt_ofNat_of_lt (by omega), h]
theorem own_pos31 (x : Int32) : 0 ≤ (x &&& (2147483647 : Int32)).toInt := by
  have h := c_mask x 2147483647 31 (by decide) (by decide)
  rw [h]; exact Int.emod_nonneg _ (by decide)
theorem own_mod (x : Int32) (k : Int32) (d : Int) (hk : k.toInt = d) (hd : 0 < d) : ((x &&& (2147483647 : Int32)) % k).toInt = (x &&& (2147483647 : Int32)).toInt % d ∧ 0 ≤ ((x &&& (2147483647 : Int32)) % k).toInt ∧ ((x &&& (2147483647 : Int32)) % k).toInt < d := by
  have h := (c_irem (x &&& (2147483647 : Int32)) k d hk).1 (own_pos31 x)
  exact ⟨h, by rw [h]; exact Int.emod_nonneg _ (by omega), by rw [h]; exact Int.emod_lt_of_pos _ hd⟩
theorem own_upd {R : Int32 → Prop} {f : Nat → Int32} {x : Int32} {i : Nat} (h : ∀ q, R (f q)) (hx : R x) : ∀ q, R ((fun q => if q = i then x else f q) q) := fun q => by
  by_cases e : q = i
  · simp only [if_pos e]; exact hx
  · simp only [if_neg e]; exact h q
theorem own_i2b (x : Int32) : -128 ≤ (x.toInt8.toInt32).toInt ∧ (x.toInt8.toInt32).toInt ≤ 127 := by have := c_i2b x; omega
theorem own_b2 (x : Int32) : x.toInt8.toInt32.toInt8.toInt32 = x.toInt8.toInt32 := by rw [Int8.toInt8_toInt32]
theorem own_and3 (x : Int32) : x &&& (3 : Int32) = 0 ∨ x &&& (3 : Int32) = 1 ∨ x &&& (3 : Int32) = 2 ∨ x &&& (3 : Int32) = 3 := by
  have h := c_mask x 3 2 (by decide) (by decide)
  have z0 : (0 : Int32).toInt = 0 := rfl
  have z1 : (1 : Int32).toInt = 1 := rfl
  have z2 : (2 : Int32).toInt = 2 := rfl
  have z3 : (3 : Int32).toInt = 3 := rfl
  have h1 : ((2 ^ 2 : Nat) : Int) = 4 := rfl
  rw [h1] at h
  rw [own_ieq, own_ieq, own_ieq, own_ieq, z0, z1, z2, z3]
  omega
theorem own_and1 (x : Int32) : x &&& (1 : Int32) = 0 ∨ x &&& (1 : Int32) = 1 := by
  have h := c_mask x 1 1 (by decide) (by decide)
  have z0 : (0 : Int32).toInt = 0 := rfl
  have z1 : (1 : Int32).toInt = 1 := rfl
  have h1 : ((2 ^ 1 : Nat) : Int) = 2 := rfl
  rw [h1] at h
  rw [own_ieq, own_ieq, z0, z1]
  omega
end Jvm.RoadKit
namespace Jvm.Pilot.@@N@@
open Jvm Jvm.ClassFile Sem Op Lib Jvm.Free Jvm.Stand Jvm.LawKit Jvm.RoadKit Bundle Jvm.Pilot.@@N@@.Jvm.D
abbrev own_B (u : Nat → Int32) (s k : Nat) : Prop := k ≤ s ∧ ∀ j, j < k → u (s - k + j) = u j
theorem own_B_refl (u : Nat → Int32) (s : Nat) : own_B u s s := ⟨Nat.le_refl _, fun j _ => by rw [Nat.sub_self, Nat.zero_add]⟩
theorem own_B_zero (u : Nat → Int32) (s : Nat) : own_B u s 0 := ⟨Nat.zero_le _, fun j h => absurd h (Nat.not_lt_zero _)⟩
theorem own_B_trans {u : Nat → Int32} {s b k : Nat} (h1 : own_B u s b) (h2 : own_B u b k) : own_B u s k := by
  refine ⟨Nat.le_trans h2.1 h1.1, fun j hj => ?_⟩
  have a := h1.1; have c := h2.1
  rw [show s - k + j = s - b + (b - k + j) by omega, h1.2 _ (by omega)]
  exact h2.2 j hj
theorem own_B_sub {u : Nat → Int32} {s b k : Nat} (h1 : own_B u s b) (h2 : own_B u s k) (h : k ≤ b) : own_B u b k := by
  refine ⟨h, fun j hj => ?_⟩
  have a := h1.1; have c := h2.1
  rw [← h1.2 _ (by omega : b - k + j < b), show s - b + (b - k + j) = s - k + j by omega]
  exact h2.2 j hj
def own_P (u : Nat → Int32) (s b : Nat) : Prop := own_B u s b ∧ b < s ∧ ∀ k, k < s → own_B u s k → k ≤ b
def own_F (u : Nat → Int32) (s : Nat) (x : Int32) (c : Nat) : Prop := own_B u s c ∧ (c = 0 ∨ u c = x) ∧ ∀ k, c < k → own_B u s k → ¬ u k = x
def own_fb (u : Nat → Int32) (b : Nat → Nat) (x : Int32) (s : Nat) : Nat := if h : 0 < s ∧ ¬ u s = x ∧ b s < s then own_fb u b x (b s) else s
termination_by s
decreasing_by exact h.2.2
theorem own_fb_step {u : Nat → Int32} {b : Nat → Nat} {x : Int32} {s : Nat} (h : 0 < s ∧ ¬ u s = x ∧ b s < s) : own_fb u b x s = own_fb u b x (b s) := by rw [own_fb, dif_pos h]
theorem own_fb_stop {u : Nat → Int32} {b : Nat → Nat} {x : Int32} {s : Nat} (h : ¬ (0 < s ∧ ¬ u s = x ∧ b s < s)) : own_fb u b x s = s := by rw [own_fb, dif_neg h]
theorem own_fb_le (u : Nat → Int32) (b : Nat → Nat) (x : Int32) (s : Nat) : own_fb u b x s ≤ s := by
  induction s using Nat.strongRecOn with
  | _ s ih =>
    by_cases h : 0 < s ∧ ¬ u s = x ∧ b s < s
    · rw [own_fb_step h]; exact Nat.le_trans (ih _ h.2.2) (Nat.le_of_lt h.2.2)
    · rw [own_fb_stop h]; exact Nat.le_refl _
theorem own_fb_F {u : Nat → Int32} {b : Nat → Nat} {x : Int32} {s : Nat} (c : Nat) (hb : ∀ k, 1 ≤ k → k ≤ c → own_P u k (b k)) (h1 : own_B u s c) (h2 : ∀ k, c < k → own_B u s k → ¬ u k = x) : own_F u s x (own_fb u b x c) := by
  induction c using Nat.strongRecOn with
  | _ c ih =>
    by_cases h : 0 < c ∧ ¬ u c = x ∧ b c < c
    · rw [own_fb_step h]
      have hP := hb c h.1 (Nat.le_refl _)
      refine ih (b c) h.2.2 (fun k a d => hb k a (by omega)) (own_B_trans h1 hP.1) (fun k a d => ?_)
      rcases Nat.lt_trichotomy k c with q | q | q
      · have := hP.2.2 k q (own_B_sub h1 d (by omega)); omega
      · rw [q]; exact h.2.1
      · exact h2 k q d
    · rw [own_fb_stop h]
      refine ⟨h1, ?_, h2⟩
      by_cases c0 : c = 0
      · exact Or.inl c0
      · refine Or.inr (Classical.byContradiction fun q => h ⟨by omega, q, (hb c (by omega) (Nat.le_refl _)).2.1⟩)
theorem own_fb_spec {u : Nat → Int32} {b : Nat → Nat} {x : Int32} {s : Nat} (hb : ∀ k, 1 ≤ k → k ≤ s → own_P u k (b k)) : own_F u s x (own_fb u b x s) :=
  own_fb_F s hb (own_B_refl u s) (fun k h d => absurd d.1 (by omega))
theorem own_P1 (u : Nat → Int32) : own_P u 1 0 := ⟨own_B_zero u 1, by decide, fun k h _ => by omega⟩
theorem own_back1 {u : Nat → Int32} {e k : Nat} (h : own_B u (e + 1) (k + 1)) : own_B u e k ∧ u e = u k := by
  have a := h.1
  refine ⟨⟨by omega, fun j hj => ?_⟩, ?_⟩
  · rw [← h.2 j (by omega)]; congr 1; omega
  · rw [← h.2 k (by omega)]; congr 1; omega
theorem own_nextY {u : Nat → Int32} {e bb c : Nat} (hP : own_P u e bb) (hF : own_F u bb (u e) c) (h : u c = u e) : own_P u (e + 1) (c + 1) := by
  have hB := own_B_trans hP.1 hF.1
  have a := hB.1; have a2 := hF.1.1; have a3 := hP.2.1
  refine ⟨⟨by omega, fun j hj => ?_⟩, by omega, fun k hk d => ?_⟩
  · by_cases q : j = c
    · subst q; rw [show e + 1 - (j + 1) + j = e by omega]; exact h.symm
    · rw [show e + 1 - (c + 1) + j = e - c + j by omega]; exact hB.2 j (by omega)
  · cases k with
    | zero => omega
    | succ k =>
      obtain ⟨d1, d2⟩ := own_back1 d
      have q := hP.2.2 k (by omega) d1
      have d3 := own_B_sub hP.1 d1 q
      refine Nat.succ_le_succ (Nat.le_of_not_lt fun z => hF.2.2 k z d3 d2.symm)
theorem own_nextN {u : Nat → Int32} {e bb c : Nat} (hP : own_P u e bb) (hF : own_F u bb (u e) c) (h : ¬ u c = u e) : own_P u (e + 1) c := by
  have c0 : c = 0 := hF.2.1.resolve_right h
  subst c0
  refine ⟨own_B_zero _ _, by omega, fun k hk d => ?_⟩
  cases k with
  | zero => omega
  | succ k =>
    obtain ⟨d1, d2⟩ := own_back1 d
    have q := hP.2.2 k (by omega) d1
    have d3 := own_B_sub hP.1 d1 q
    by_cases z : k = 0
    · subst z; exact absurd d2.symm h
    · exact absurd d2.symm (hF.2.2 k (by omega) d3)
def own_ofn (b : Nat → Nat) : Nat → Int32 := fun i => Int32.ofNat (b i)
def own_upn (b : Nat → Nat) (k x : Nat) : Nat → Nat := fun i => if i = k then x else b i
theorem own_upP {u : Nat → Int32} {b : Nat → Nat} {e x : Nat} (hb : ∀ k, 1 ≤ k → k ≤ e → own_P u k (b k)) (h : own_P u (e + 1) x) : ∀ k, 1 ≤ k → k ≤ e + 1 → own_P u k (own_upn b (e + 1) x k) := fun k a d => by
  unfold own_upn
  by_cases q : k = e + 1
  · subst q; rw [if_pos rfl]; exact h
  · rw [if_neg q]; exact hb k a (by omega)
theorem own_upP0 (u : Nat → Int32) : ∀ k, 1 ≤ k → k ≤ 1 → own_P u k 0 := fun k a d => by
  obtain rfl : k = 1 := (by omega)
  exact own_P1 u
theorem own_upo {b : Nat → Nat} {k x n : Nat} {v : Int32} (hv : v = Int32.ofNat x) : ∀ i, i < n → (if i = k then v else own_ofn b i) = own_ofn (own_upn b k x) i := fun i _ => by
  unfold own_ofn own_upn
  by_cases e : i = k
  · rw [if_pos e, if_pos e, hv]
  · rw [if_neg e, if_neg e]
theorem own_n32 {n : Nat} (h : n < 1000) : (Int32.ofNat n).toInt = (n : Int) := by
  rw [Int32.toInt_ofNat_of_lt (by omega)]
theorem own_o1 : (1 : Int32).toInt = 1 := rfl
theorem own_o0 : (0 : Int32).toInt = 0 := rfl
theorem own_add1 {n : Nat} (h : n < 900) : Int32.ofNat n + (1 : Int32) = Int32.ofNat (n + 1) := by
  apply Int32.toInt_inj.mp
  rw [own_iadd (by rw [own_n32 (by omega), own_o1]; omega) (by rw [own_n32 (by omega), own_o1]; omega), own_n32 (by omega), own_n32 (by omega), own_o1]; omega
theorem own_pn0 : plainName "com/example/needlewright/needlewright/Automaton" = true := by first | (simp [plainName, overriddenIn]; done) | decide +kernel
theorem own_ef_rm_len (m : MethodId) (x0 : Addr) : entryFrame m #[(.ref x0)] 1 = mkF m 0 #[.val (.ref x0)] [] := by first | (simp [entryFrame, mkF, argsToLocals, Value.category]; done) | rfl
theorem d5_0 : decode prog_3_method_2_code 0 = .ok (.aload_n 0, 1) := by decide +kernel
theorem d5_1 : decode prog_3_method_2_code 1 = .ok (.getfield 19, 3) := by decide +kernel
theorem d5_4 : decode prog_3_method_2_code 4 = .ok (.arraylength, 1) := by decide +kernel
theorem d5_5 : decode prog_3_method_2_code 5 = .ok (.iconst 1, 1) := by decide +kernel
theorem d5_6 : decode prog_3_method_2_code 6 = .ok (.isub, 1) := by decide +kernel
theorem d5_7 : decode prog_3_method_2_code 7 = .ok (.ireturn, 1) := by decide +kernel
set_option maxRecDepth 65536 in
set_option maxHeartbeats 40000000 in
theorem rm_len (l : Launch) (Z : State) (a0 : Array Value) (hw : ∀ d ∈ tables_1, d.before a0 Z = true) (a : Addr) (t : Addr) (m1 : Nat) (u : Nat → Int32) (z : Int32) (h0 : Heap) (n0 : Nat) (Z0 : n0 ≤ h0.size) (f0 : Fld Z h0 a "com/example/needlewright/needlewright/Automaton" "units" "[I" (.ref t)) (f1 : AI Z h0 t .int m1 u) (hz : z.toInt = (m1 : Int)) :
    Con l Z (⟨"com/example/needlewright/needlewright/Automaton", "length", "()I"⟩ : MethodName) prog_3_method_2_code 1 (some .int) ({ frames := 0, cells := 0, slots := 0, locals := 0 } : Room) #[(.ref a)] h0 n0 (fun rv hv => rv = some (.int (z - (1 : Int32))) ∧ h0 = hv) := by
  refine Con.enter (plainFor_of_name own_pn0) Z0 ?_
  intro p e s m below meth c T0 C hnm X0
  refine Go.cast (own_ef_rm_len m a) ?_
  refine Go.aloadN C X0 (pc' := 1) d5_0 rfl rfl rfl ?_
  refine Go.getF C X0 (pc' := 4) (host := "") (Or.inl (hw _ (List.mem_of_getElem? (i := 19) rfl))) Via.refl f0 d5_1 rfl (fun T1 X1 => ?_)
  refine Go.alenI C X1 (pc' := 5) (z := z) f1 hz d5_4 rfl ?_
  refine Go.iconst C X1 (pc' := 6) (v := (1 : Int32)) d5_5 rfl rfl ?_
  refine Go.isub C X1 (pc' := 7) d5_6 rfl ?_
  exact Go.retI C X1 d5_7 ⟨rfl, rfl⟩ (by decide) (by decide)
theorem own_ef_rm_fb (m : MethodId) (x0 : Addr) (x1 : Int32) (x2 : Int32) : entryFrame m #[(.ref x0), (.int x1), (.int x2)] 3 = mkF m 0 #[.val (.ref x0), .val (.int x1), .val (.int x2)] [] := by first | (simp [entryFrame, mkF, argsToLocals, Value.category]; done) | rfl
theorem d6_0 : decode prog_3_method_3_code 0 = .ok (.iload_n 1, 1) := by decide +kernel
theorem d6_1 : decode prog_3_method_3_code 1 = .ok (.ifCond .le 23, 3) := by decide +kernel
theorem d6_4 : decode prog_3_method_3_code 4 = .ok (.aload_n 0, 1) := by decide +kernel
theorem d6_5 : decode prog_3_method_3_code 5 = .ok (.getfield 19, 3) := by decide +kernel
theorem d6_8 : decode prog_3_method_3_code 8 = .ok (.iload_n 1, 1) := by decide +kernel
theorem d6_9 : decode prog_3_method_3_code 9 = .ok (.iaload, 1) := by decide +kernel
theorem d6_10 : decode prog_3_method_3_code 10 = .ok (.iload_n 2, 1) := by decide +kernel
theorem d6_11 : decode prog_3_method_3_code 11 = .ok (.if_icmp .eq 13, 3) := by decide +kernel
theorem d6_24 : decode prog_3_method_3_code 24 = .ok (.iload_n 1, 1) := by decide +kernel
theorem d6_25 : decode prog_3_method_3_code 25 = .ok (.ireturn, 1) := by decide +kernel
theorem d6_14 : decode prog_3_method_3_code 14 = .ok (.aload_n 0, 1) := by decide +kernel
theorem d6_15 : decode prog_3_method_3_code 15 = .ok (.getfield 23, 3) := by decide +kernel
theorem d6_18 : decode prog_3_method_3_code 18 = .ok (.iload_n 1, 1) := by decide +kernel
theorem d6_19 : decode prog_3_method_3_code 19 = .ok (.iaload, 1) := by decide +kernel
theorem d6_20 : decode prog_3_method_3_code 20 = .ok (.istore_n 1, 1) := by decide +kernel
theorem d6_21 : decode prog_3_method_3_code 21 = .ok (.goto (-21), 3) := by decide +kernel
set_option maxRecDepth 65536 in
set_option maxHeartbeats 40000000 in
theorem rm_fb (l : Launch) (Z : State) (a0 : Array Value) (hw : ∀ d ∈ tables_1, d.before a0 Z = true) (a : Addr) (s0 : Int32) (x : Int32) (t : Addr) (t2 : Addr) (m1 : Nat) (u : Nat → Int32) (b : Nat → Nat) (ss : Nat) (h0 : Heap) (n0 : Nat) (Z0 : n0 ≤ h0.size) (f0 : Fld Z h0 a "com/example/needlewright/needlewright/Automaton" "units" "[I" (.ref t)) (f1 : Fld Z h0 a "com/example/needlewright/needlewright/Automaton" "borders" "[I" (.ref t2)) (f2 : AI Z h0 t .int m1 u) (f3 : AI Z h0 t2 .int m1 (own_ofn b)) (hm1 : m1 ≤ 100) (hs : s0.toInt = (ss : Int)) (hss : ss < m1) (hb0 : ∀ k, 1 ≤ k → k ≤ ss → own_P u k (b k)) :
    Con l Z (⟨"com/example/needlewright/needlewright/Automaton", "fallBack", "(II)I"⟩ : MethodName) prog_3_method_3_code 3 (some .int) ({ frames := 0, cells := 0, slots := 0, locals := 0 } : Room) #[(.ref a), (.int s0), (.int x)] h0 n0 (fun rv hv => rv = some (.int (Int32.ofNat (own_fb u b x ss))) ∧ h0 = hv) := by
  refine Con.enter (plainFor_of_name own_pn0) Z0 ?_
  intro p e s m below meth c T0 C hnm X0
  refine Go.cast (own_ef_rm_fb m a s0 x) ?_
  have Cut0 : ∀ (fuel : Nat) (T_0 : State) (mm : Nat) (u1 : Int32), mm < fuel → (u1.toInt = (mm : Int)) → (mm < m1) → (mm ≤ ss) → (own_fb u b x mm = own_fb u b x ss) → On p l e ({ frames := 0, cells := 0, slots := 0, locals := 0 } : Room) s m #[(.ref a), (.int s0), (.int x)] below meth c n0 T_0 h0 0 0 → Go p e below s n0 (({ frames := 0, cells := 0, slots := 0, locals := 0 } : Room)).cells (({ frames := 0, cells := 0, slots := 0, locals := 0 } : Room)).slots (fun rv hv => rv = some (.int (Int32.ofNat (own_fb u b x ss))) ∧ h0 = hv) T_0 (mkF m 0 #[.val (.ref a), .val (.int u1), .val (.int x)] []) := by
    intro fuel
    induction fuel with
    | zero => intro T_0 mm u1 hM_0 h1 hm hms hf X_0; exact absurd hM_0 (Nat.not_lt_zero _)
    | succ fuel ih_0 =>
      intro T_0 mm u1 hM_0 h1 hm hms hf X_0
      refine Go.iloadN C X_0 (pc' := 1) d6_0 rfl rfl ?_
      by_cases c2 : (0 : Int32) < u1
      · refine Go.ifNo C X_0 (pc' := 4) d6_1 ((if0 _ _).trans (tlt c2).2.2.2) rfl ?_
        refine Go.aloadN C X_0 (pc' := 5) d6_4 rfl rfl rfl ?_
        refine Go.getF C X_0 (pc' := 8) (host := "") (Or.inl (hw _ (List.mem_of_getElem? (i := 19) rfl))) Via.refl f0 d6_5 rfl (fun T3 X3 => ?_)
        refine Go.iloadN C X3 (pc' := 9) d6_8 rfl rfl ?_
        refine Go.iaload C X3 (pc' := 10) (i := mm) (w := (u mm)) f2 h1 hm rfl d6_9 rfl ?_
        refine Go.iloadN C X3 (pc' := 11) d6_10 rfl rfl ?_
        by_cases c4 : (u mm) = x
        · refine Go.icmpYes C X3 (pc' := 24) d6_11 (teq c4).1 (by decide) (by decide) ?_
          refine Go.iloadN C X3 (pc' := 25) d6_24 rfl rfl ?_
          exact Go.retI C X3 d6_25 ⟨(by rw [own_nat32 h1, ← hf, own_fb_stop (fun q => q.2.1 c4)]), rfl⟩ (by decide) (by decide)
        · refine Go.icmpNo C X3 (pc' := 14) d6_11 (feq c4).1 rfl ?_
          refine Go.aloadN C X3 (pc' := 15) d6_14 rfl rfl rfl ?_
          refine Go.getF C X3 (pc' := 18) (host := "") (Or.inl (hw _ (List.mem_of_getElem? (i := 21) rfl))) Via.refl f1 d6_15 rfl (fun T5 X5 => ?_)
          refine Go.iloadN C X5 (pc' := 19) d6_18 rfl rfl ?_
          refine Go.iaload C X5 (pc' := 20) (i := mm) (w := (own_ofn b mm)) f3 h1 hm rfl d6_19 rfl ?_
          refine Go.istoreN C X5 (pc' := 21) (Ls' := #[.val (.ref a), .val (.int (own_ofn b mm)), .val (.int x)]) d6_20 rfl rfl ?_
          refine Go.goto C X5 (pc' := 0) d6_21 (by decide) (by decide) ?_
          exact ih_0 T5 (b mm) (own_ofn b mm) (by have := (hb0 mm (by have := own_ilt.mp c2; rw [h1, own_o0] at this; omega) hms).2.1; omega) (own_n32 (by have := (hb0 mm (by have := own_ilt.mp c2; rw [h1, own_o0] at this; omega) hms).2.1; omega)) (by have := (hb0 mm (by have := own_ilt.mp c2; rw [h1, own_o0] at this; omega) hms).2.1; omega) (by have := (hb0 mm (by have := own_ilt.mp c2; rw [h1, own_o0] at this; omega) hms).2.1; omega) (by rw [← hf]; exact (own_fb_step ⟨(by have := own_ilt.mp c2; rw [h1, own_o0] at this; omega), c4, (hb0 mm (by have := own_ilt.mp c2; rw [h1, own_o0] at this; omega) hms).2.1⟩).symm) X5
      · refine Go.ifYes C X_0 (pc' := 24) d6_1 ((if0 _ _).trans (flt c2).2.2.2) (by decide) (by decide) ?_
        refine Go.iloadN C X_0 (pc' := 25) d6_24 rfl rfl ?_
        exact Go.retI C X_0 d6_25 ⟨(by rw [own_nat32 h1, ← hf, own_fb_stop (fun q => c2 (own_ilt.mpr (by rw [h1, own_o0]; omega)))]), rfl⟩ (by decide) (by decide)
  exact Cut0 (_) T0 ss s0 (Nat.lt_succ_self _) hs hss (Nat.le_refl _) rfl X0
theorem own_ef_rm_fl (m : MethodId) (x0 : Addr) : entryFrame m #[(.ref x0)] 3 = mkF m 0 #[.val (.ref x0), .unset, .unset] [] := by first | (simp [entryFrame, mkF, argsToLocals, Value.category]; done) | rfl
theorem d4_0 : decode prog_3_method_4_code 0 = .ok (.iconst 0, 1) := by decide +kernel
theorem d4_1 : decode prog_3_method_4_code 1 = .ok (.istore_n 1, 1) := by decide +kernel
theorem d4_2 : decode prog_3_method_4_code 2 = .ok (.iconst 1, 1) := by decide +kernel
theorem d4_3 : decode prog_3_method_4_code 3 = .ok (.istore_n 2, 1) := by decide +kernel
theorem d4_4 : decode prog_3_method_4_code 4 = .ok (.iload_n 2, 1) := by decide +kernel
theorem d4_5 : decode prog_3_method_4_code 5 = .ok (.aload_n 0, 1) := by decide +kernel
theorem d4_6 : decode prog_3_method_4_code 6 = .ok (.invokevirtual 29, 3) := by decide +kernel
theorem own_pd0 : parseMethodDescriptor "()I" = some ⟨[], some .int⟩ := by decide +kernel
theorem d4_9 : decode prog_3_method_4_code 9 = .ok (.if_icmp .ge 48, 3) := by decide +kernel
theorem d4_12 : decode prog_3_method_4_code 12 = .ok (.aload_n 0, 1) := by decide +kernel
theorem d4_13 : decode prog_3_method_4_code 13 = .ok (.iload_n 1, 1) := by decide +kernel
theorem d4_14 : decode prog_3_method_4_code 14 = .ok (.aload_n 0, 1) := by decide +kernel
theorem d4_15 : decode prog_3_method_4_code 15 = .ok (.getfield 19, 3) := by decide +kernel
theorem d4_18 : decode prog_3_method_4_code 18 = .ok (.iload_n 2, 1) := by decide +kernel
theorem d4_19 : decode prog_3_method_4_code 19 = .ok (.iaload, 1) := by decide +kernel
theorem d4_20 : decode prog_3_method_4_code 20 = .ok (.invokevirtual 33, 3) := by decide +kernel
theorem own_pd1 : parseMethodDescriptor "(II)I" = some ⟨[.int, .int], some .int⟩ := by decide +kernel
theorem d4_23 : decode prog_3_method_4_code 23 = .ok (.istore_n 1, 1) := by decide +kernel
theorem d4_24 : decode prog_3_method_4_code 24 = .ok (.aload_n 0, 1) := by decide +kernel
theorem d4_25 : decode prog_3_method_4_code 25 = .ok (.getfield 19, 3) := by decide +kernel
theorem d4_28 : decode prog_3_method_4_code 28 = .ok (.iload_n 1, 1) := by decide +kernel
theorem d4_29 : decode prog_3_method_4_code 29 = .ok (.iaload, 1) := by decide +kernel
theorem d4_30 : decode prog_3_method_4_code 30 = .ok (.aload_n 0, 1) := by decide +kernel
theorem d4_31 : decode prog_3_method_4_code 31 = .ok (.getfield 19, 3) := by decide +kernel
theorem d4_34 : decode prog_3_method_4_code 34 = .ok (.iload_n 2, 1) := by decide +kernel
theorem d4_35 : decode prog_3_method_4_code 35 = .ok (.iaload, 1) := by decide +kernel
theorem d4_36 : decode prog_3_method_4_code 36 = .ok (.if_icmp .ne 6, 3) := by decide +kernel
theorem d4_39 : decode prog_3_method_4_code 39 = .ok (.iinc 1 1, 3) := by decide +kernel
theorem d4_42 : decode prog_3_method_4_code 42 = .ok (.aload_n 0, 1) := by decide +kernel
theorem d4_43 : decode prog_3_method_4_code 43 = .ok (.getfield 23, 3) := by decide +kernel
theorem d4_46 : decode prog_3_method_4_code 46 = .ok (.iload_n 2, 1) := by decide +kernel
theorem d4_47 : decode prog_3_method_4_code 47 = .ok (.iconst 1, 1) := by decide +kernel
theorem d4_48 : decode prog_3_method_4_code 48 = .ok (.iadd, 1) := by decide +kernel
theorem d4_49 : decode prog_3_method_4_code 49 = .ok (.iload_n 1, 1) := by decide +kernel
theorem d4_50 : decode prog_3_method_4_code 50 = .ok (.iastore, 1) := by decide +kernel
theorem d4_51 : decode prog_3_method_4_code 51 = .ok (.iinc 2 1, 3) := by decide +kernel
theorem d4_54 : decode prog_3_method_4_code 54 = .ok (.goto (-50), 3) := by decide +kernel
theorem d4_57 : decode prog_3_method_4_code 57 = .ok (.return_, 1) := by decide +kernel
set_option maxRecDepth 65536 in
set_option maxHeartbeats 40000000 in
theorem rm_fl (l : Launch) (Z : State) (a0 : Array Value) (hw : ∀ d ∈ tables_1, d.before a0 Z = true) (a : Addr) (t : Addr) (t2 : Addr) (m1 : Nat) (u : Nat → Int32) (z : Int32) (h0 : Heap) (n0 : Nat) (Z0 : n0 ≤ h0.size) (f0 : Exa Z h0 a "com/example/needlewright/needlewright/Automaton") (f1 : Fld Z h0 a "com/example/needlewright/needlewright/Automaton" "units" "[I" (.ref t)) (f2 : Fld Z h0 a "com/example/needlewright/needlewright/Automaton" "borders" "[I" (.ref t2)) (f3 : AI Z h0 t .int m1 u) (f4 : AI Z h0 t2 .int m1 (own_ofn (fun _ => 0))) (f5 : n0 ≤ t2) (f6 : a ≠ t2) (f7 : t ≠ t2) (hz : z.toInt = (m1 : Int)) (hm2 : 2 ≤ m1) (hm1 : m1 ≤ 100) :
    Con l Z (⟨"com/example/needlewright/needlewright/Automaton", "fillBorders", "()V"⟩ : MethodName) prog_3_method_4_code 3 none ({ frames := 1, cells := 0, slots := 0, locals := 14 } : Room) #[(.ref a)] h0 n0 (fun rv hv => ∃ b1 : Nat → Nat, rv = none ∧ Keep h0 hv [t2] ∧ AI Z hv t2 .int m1 (own_ofn b1) ∧ (∀ k, 1 ≤ k → k < m1 → own_P u k (b1 k))) := by
  refine Con.enter (plainFor_of_name own_pn0) Z0 ?_
  intro p e s m below meth c T0 C hnm X0
  refine Go.cast (own_ef_rm_fl m a) ?_
  refine Go.iconst C X0 (pc' := 1) (v := (0 : Int32)) d4_0 rfl rfl ?_
  refine Go.istoreN C X0 (pc' := 2) (Ls' := #[.val (.ref a), .val (.int (0 : Int32)), .unset]) d4_1 rfl rfl ?_
  refine Go.iconst C X0 (pc' := 3) (v := (1 : Int32)) d4_2 rfl rfl ?_
  refine Go.istoreN C X0 (pc' := 4) (Ls' := #[.val (.ref a), .val (.int (0 : Int32)), .val (.int (1 : Int32))]) d4_3 rfl rfl ?_
  have Cut4 : ∀ (fuel : Nat) (T_4 : State) (h_4 : Heap) (bb : Nat) (ee : Nat) (b : Nat → Nat) (u1 : Int32) (u2 : Int32), (m1 - ee) < fuel → (u1.toInt = (bb : Int)) → (u2.toInt = (ee : Int)) → (1 ≤ ee) → (ee < m1) → (own_P u ee bb) → (∀ k, 1 ≤ k → k ≤ ee → own_P u k (b k)) → On p l e ({ frames := 1, cells := 0, slots := 0, locals := 14 } : Room) s m #[(.ref a)] below meth c n0 T_4 h_4 0 0 → Keep h0 h_4 [t2] → Exa Z h_4 a "com/example/needlewright/needlewright/Automaton" → Fld Z h_4 a "com/example/needlewright/needlewright/Automaton" "units" "[I" (.ref t) → Fld Z h_4 a "com/example/needlewright/needlewright/Automaton" "borders" "[I" (.ref t2) → AI Z h_4 t .int m1 u → AI Z h_4 t2 .int m1 (own_ofn b) → Go p e below s n0 (({ frames := 1, cells := 0, slots := 0, locals := 14 } : Room)).cells (({ frames := 1, cells := 0, slots := 0, locals := 14 } : Room)).slots (fun rv hv => ∃ b1 : Nat → Nat, rv = none ∧ Keep h0 hv [t2] ∧ AI Z hv t2 .int m1 (own_ofn b1) ∧ (∀ k, 1 ≤ k → k < m1 → own_P u k (b1 k))) T_4 (mkF m 4 #[.val (.ref a), .val (.int u1), .val (.int u2)] []) := by
    intro fuel
    induction fuel with
    | zero => intro T_4 h_4 bb ee b u1 u2 hM_4 h1 h2 he1 he2 hP hb X_4 K_4 G4_0 G4_1 G4_2 G4_3 G4_4; exact absurd hM_4 (Nat.not_lt_zero _)
    | succ fuel ih_4 =>
      intro T_4 h_4 bb ee b u1 u2 hM_4 h1 h2 he1 he2 hP hb X_4 K_4 G4_0 G4_1 G4_2 G4_3 G4_4
      refine Go.iloadN C X_4 (pc' := 5) d4_4 rfl rfl ?_
      refine Go.aloadN C X_4 (pc' := 6) d4_5 rfl rfl rfl ?_
      refine Go.callV C X_4 (pc' := 9) (W := 1) (argsL := []) (rest := [(.int u2)]) (a := a) (rm_len l Z a0 hw a t m1 u z h_4 n0 X_4.sz G4_1 G4_3 hz) G4_0 (notFace_of_selects (args := #[]) (mvT C.2.1 (hw _ (List.mem_of_getElem? (i := 30) rfl)))) (hw _ (List.mem_of_getElem? (i := 27) rfl)) (hw _ (List.mem_of_getElem? (i := 28) rfl)) (hw _ (List.mem_of_getElem? (i := 30) rfl)) (hw _ (List.mem_of_getElem? (i := 29) rfl)) (hw _ (List.mem_of_getElem? (i := 11) rfl)) (hw _ (List.mem_of_getElem? (i := 31) rfl)) (by decide) rfl rfl (lenOf own_pd0 rfl) rfl (Nat.le_of_eq rfl) (by decide) (by decide) (by decide) (by decide) d4_6 rfl (fun _ _ q => Nat.le_of_eq (congrArg Array.size q.2)) (fun T6 h6 v6 X6 P6 => ?_)
      obtain ⟨rfl, rfl⟩ := P6
      show Go p e below s n0 _ _ _ T6 (mkF m 9 #[.val (.ref a), .val (.int u1), .val (.int u2)] [(.int (z - (1 : Int32))), (.int u2)])
      by_cases c7 : u2 < (z - (1 : Int32))
      · refine Go.icmpNo C X6 (pc' := 12) d4_9 (tlt c7).2.1 rfl ?_
        refine Go.aloadN C X6 (pc' := 13) d4_12 rfl rfl rfl ?_
        refine Go.iloadN C X6 (pc' := 14) d4_13 rfl rfl ?_
        refine Go.aloadN C X6 (pc' := 15) d4_14 rfl rfl rfl ?_
        refine Go.getF C X6 (pc' := 18) (host := "") (Or.inl (hw _ (List.mem_of_getElem? (i := 19) rfl))) Via.refl G4_1 d4_15 rfl (fun T8 X8 => ?_)
        refine Go.iloadN C X8 (pc' := 19) d4_18 rfl rfl ?_
        refine Go.iaload C X8 (pc' := 20) (i := ee) (w := (u ee)) G4_3 h2 he2 rfl d4_19 rfl ?_
        refine Go.callV C X8 (pc' := 23) (W := 0) (argsL := [(.int u1), (.int (u ee))]) (rest := []) (a := a) (rm_fb l Z a0 hw a u1 (u ee) t t2 m1 u b bb h_4 n0 X8.sz G4_1 G4_2 G4_3 G4_4 hm1 h1 (by have := hP.2.1; omega) (fun k a d => hb k a (by have := hP.2.1; omega))) G4_0 (notFace_of_selects (args := #[]) (mvT C.2.1 (hw _ (List.mem_of_getElem? (i := 35) rfl)))) (hw _ (List.mem_of_getElem? (i := 32) rfl)) (hw _ (List.mem_of_getElem? (i := 33) rfl)) (hw _ (List.mem_of_getElem? (i := 35) rfl)) (hw _ (List.mem_of_getElem? (i := 34) rfl)) (hw _ (List.mem_of_getElem? (i := 11) rfl)) (hw _ (List.mem_of_getElem? (i := 36) rfl)) (by decide) rfl rfl (lenOf own_pd1 rfl) rfl (Nat.le_of_eq rfl) (by decide) (by decide) (by decide) (by decide) d4_20 rfl (fun _ _ q => Nat.le_of_eq (congrArg Array.size q.2)) (fun T9 h9 v9 X9 P9 => ?_)
        obtain ⟨rfl, rfl⟩ := P9
        show Go p e below s n0 _ _ _ T9 (mkF m 23 #[.val (.ref a), .val (.int u1), .val (.int u2)] [(.int (Int32.ofNat (own_fb u b (u ee) bb)))])
        refine Go.istoreN C X9 (pc' := 24) (Ls' := #[.val (.ref a), .val (.int (Int32.ofNat (own_fb u b (u ee) bb))), .val (.int u2)]) d4_23 rfl rfl ?_
        refine Go.aloadN C X9 (pc' := 25) d4_24 rfl rfl rfl ?_
        refine Go.getF C X9 (pc' := 28) (host := "") (Or.inl (hw _ (List.mem_of_getElem? (i := 19) rfl))) Via.refl G4_1 d4_25 rfl (fun T10 X10 => ?_)
        refine Go.iloadN C X10 (pc' := 29) d4_28 rfl rfl ?_
        refine Go.iaload C X10 (pc' := 30) (i := (own_fb u b (u ee) bb)) (w := (u (own_fb u b (u ee) bb))) G4_3 (own_n32 (by have := own_fb_le u b (u ee) bb; have := hP.2.1; omega)) (by have := own_fb_le u b (u ee) bb; have := hP.2.1; omega) rfl d4_29 rfl ?_
        refine Go.aloadN C X10 (pc' := 31) d4_30 rfl rfl rfl ?_
        refine Go.getF C X10 (pc' := 34) (host := "") (Or.inl (hw _ (List.mem_of_getElem? (i := 19) rfl))) Via.refl G4_1 d4_31 rfl (fun T11 X11 => ?_)
        refine Go.iloadN C X11 (pc' := 35) d4_34 rfl rfl ?_
        refine Go.iaload C X11 (pc' := 36) (i := ee) (w := (u ee)) G4_3 h2 he2 rfl d4_35 rfl ?_
        by_cases c12 : (u (own_fb u b (u ee) bb)) = (u ee)
        · refine Go.icmpNo C X11 (pc' := 39) d4_36 (teq c12).2 rfl ?_
          refine Go.iinc C X11 (pc' := 42) (Ls' := #[.val (.ref a), .val (.int ((Int32.ofNat (own_fb u b (u ee) bb)) + (1 : Int32))), .val (.int u2)]) (v' := ((Int32.ofNat (own_fb u b (u ee) bb)) + (1 : Int32))) d4_39 rfl rfl rfl rfl ?_
          refine Go.aloadN C X11 (pc' := 43) d4_42 rfl rfl rfl ?_
          refine Go.getF C X11 (pc' := 46) (host := "") (Or.inl (hw _ (List.mem_of_getElem? (i := 21) rfl))) Via.refl G4_2 d4_43 rfl (fun T13 X13 => ?_)
          refine Go.iloadN C X13 (pc' := 47) d4_46 rfl rfl ?_
          refine Go.iconst C X13 (pc' := 48) (v := (1 : Int32)) d4_47 rfl rfl ?_
          refine Go.iadd C X13 (pc' := 49) d4_48 rfl ?_
          refine Go.iloadN C X13 (pc' := 50) d4_49 rfl rfl ?_
          refine Go.iastore C X13 (pc' := 51) (i := (ee + 1)) (x' := ((Int32.ofNat (own_fb u b (u ee) bb)) + (1 : Int32))) G4_4 (by rw [own_iadd (by rw [h2, own_o1]; omega) (by rw [h2, own_o1]; omega), h2, own_o1]; omega) (by have := own_ilt.mp c7; rw [own_isub (by rw [hz, own_o1]; omega) (by rw [hz, own_o1]; omega), hz, own_o1, h2] at this; omega) rfl f5 d4_50 rfl (fun T14 h14 X14 W14 A14 => ?_)
          have K15 : Keep h0 h14 [t2] := K_4.wr W14 (Or.inl (List.mem_of_getElem? (i := 0) rfl))
          have E16 := G4_0.wr W14
          have F17 := G4_1.other W14 (Or.inl f6)
          have F18 := G4_2.other W14 (Or.inl f6)
          have A19 := G4_3.other W14 f7
          refine Go.iinc C X14 (pc' := 54) (Ls' := #[.val (.ref a), .val (.int ((Int32.ofNat (own_fb u b (u ee) bb)) + (1 : Int32))), .val (.int (u2 + (1 : Int32)))]) (v' := (u2 + (1 : Int32))) d4_51 rfl rfl rfl rfl ?_
          refine Go.goto C X14 (pc' := 4) d4_54 (by decide) (by decide) ?_
          exact ih_4 T14 h14 ((own_fb u b (u ee) bb) + 1) (ee + 1) (own_upn b (ee + 1) ((own_fb u b (u ee) bb) + 1)) ((Int32.ofNat (own_fb u b (u ee) bb)) + (1 : Int32)) (u2 + (1 : Int32)) (by omega) (by rw [own_add1 (by have := own_fb_le u b (u ee) bb; have := hP.2.1; omega)]; exact own_n32 (by have := own_fb_le u b (u ee) bb; have := hP.2.1; omega)) (by rw [own_iadd (by rw [h2, own_o1]; omega) (by rw [h2, own_o1]; omega), h2, own_o1]; omega) (by omega) (by have := own_ilt.mp c7; rw [own_isub (by rw [hz, own_o1]; omega) (by rw [hz, own_o1]; omega), hz, own_o1, h2] at this; omega) (own_nextY hP (own_fb_spec (fun k a d => hb k a (by have := hP.2.1; omega))) c12) (own_upP hb (own_nextY hP (own_fb_spec (fun k a d => hb k a (by have := hP.2.1; omega))) c12)) X14 K15 E16 F17 F18 A19 (AI.congr A14 (own_upo (own_add1 (by have := own_fb_le u b (u ee) bb; have := hP.2.1; omega))))
        · refine Go.icmpYes C X11 (pc' := 42) d4_36 (feq c12).2 (by decide) (by decide) ?_
          refine Go.aloadN C X11 (pc' := 43) d4_42 rfl rfl rfl ?_
          refine Go.getF C X11 (pc' := 46) (host := "") (Or.inl (hw _ (List.mem_of_getElem? (i := 21) rfl))) Via.refl G4_2 d4_43 rfl (fun T20 X20 => ?_)
          refine Go.iloadN C X20 (pc' := 47) d4_46 rfl rfl ?_
          refine Go.iconst C X20 (pc' := 48) (v := (1 : Int32)) d4_47 rfl rfl ?_
          refine Go.iadd C X20 (pc' := 49) d4_48 rfl ?_
          refine Go.iloadN C X20 (pc' := 50) d4_49 rfl rfl ?_
          refine Go.iastore C X20 (pc' := 51) (i := (ee + 1)) (x' := (Int32.ofNat (own_fb u b (u ee) bb))) G4_4 (by rw [own_iadd (by rw [h2, own_o1]; omega) (by rw [h2, own_o1]; omega), h2, own_o1]; omega) (by have := own_ilt.mp c7; rw [own_isub (by rw [hz, own_o1]; omega) (by rw [hz, own_o1]; omega), hz, own_o1, h2] at this; omega) rfl f5 d4_50 rfl (fun T21 h21 X21 W21 A21 => ?_)
          have K22 : Keep h0 h21 [t2] := K_4.wr W21 (Or.inl (List.mem_of_getElem? (i := 0) rfl))
          have E23 := G4_0.wr W21
          have F24 := G4_1.other W21 (Or.inl f6)
          have F25 := G4_2.other W21 (Or.inl f6)
          have A26 := G4_3.other W21 f7
          refine Go.iinc C X21 (pc' := 54) (Ls' := #[.val (.ref a), .val (.int (Int32.ofNat (own_fb u b (u ee) bb))), .val (.int (u2 + (1 : Int32)))]) (v' := (u2 + (1 : Int32))) d4_51 rfl rfl rfl rfl ?_
          refine Go.goto C X21 (pc' := 4) d4_54 (by decide) (by decide) ?_
          exact ih_4 T21 h21 (own_fb u b (u ee) bb) (ee + 1) (own_upn b (ee + 1) (own_fb u b (u ee) bb)) (Int32.ofNat (own_fb u b (u ee) bb)) (u2 + (1 : Int32)) (by omega) (own_n32 (by have := own_fb_le u b (u ee) bb; have := hP.2.1; omega)) (by rw [own_iadd (by rw [h2, own_o1]; omega) (by rw [h2, own_o1]; omega), h2, own_o1]; omega) (by omega) (by have := own_ilt.mp c7; rw [own_isub (by rw [hz, own_o1]; omega) (by rw [hz, own_o1]; omega), hz, own_o1, h2] at this; omega) (own_nextN hP (own_fb_spec (fun k a d => hb k a (by have := hP.2.1; omega))) c12) (own_upP hb (own_nextN hP (own_fb_spec (fun k a d => hb k a (by have := hP.2.1; omega))) c12)) X21 K22 E23 F24 F25 A26 (AI.congr A21 (own_upo rfl))
      · refine Go.icmpYes C X6 (pc' := 57) d4_9 (flt c7).2.1 (by decide) (by decide) ?_
        exact Go.retV C X6 d4_57 ⟨b, rfl, K_4, G4_4, (fun k a d => hb k a (by have := own_nilt c7; rw [own_isub (by rw [hz, own_o1]; omega) (by rw [hz, own_o1]; omega), hz, own_o1, h2] at this; omega))⟩ (by decide) (by decide)
  exact Cut4 (_) T0 h0 0 1 (fun _ => 0) (0 : Int32) (1 : Int32) (Nat.lt_succ_self _) rfl rfl (by decide) (by omega) (own_P1 u) (own_upP0 u) X0 (Keep.refl h0 [t2]) f0 f1 f2 f3 f4
theorem own_ef_rm_au (m : MethodId) (x0 : Addr) (x1 : Addr) : entryFrame m #[(.ref x0), (.ref x1)] 2 = mkF m 0 #[.val (.ref x0), .val (.ref x1)] [] := by first | (simp [entryFrame, mkF, argsToLocals, Value.category]; done) | rfl
theorem d2_0 : decode prog_3_method_1_code 0 = .ok (.aload_n 0, 1) := by decide +kernel
theorem d2_1 : decode prog_3_method_1_code 1 = .ok (.invokespecial 3, 3) := by decide +kernel
theorem d2_4 : decode prog_3_method_1_code 4 = .ok (.aload_n 1, 1) := by decide +kernel
theorem d2_5 : decode prog_3_method_1_code 5 = .ok (.arraylength, 1) := by decide +kernel
theorem d2_6 : decode prog_3_method_1_code 6 = .ok (.iconst 1, 1) := by decide +kernel
theorem d2_7 : decode prog_3_method_1_code 7 = .ok (.if_icmp .gt 13, 3) := by decide +kernel
theorem d2_20 : decode prog_3_method_1_code 20 = .ok (.aload_n 1, 1) := by decide +kernel
theorem d2_21 : decode prog_3_method_1_code 21 = .ok (.aload_n 1, 1) := by decide +kernel
theorem d2_22 : decode prog_3_method_1_code 22 = .ok (.arraylength, 1) := by decide +kernel
theorem d2_23 : decode prog_3_method_1_code 23 = .ok (.iconst 1, 1) := by decide +kernel
theorem d2_24 : decode prog_3_method_1_code 24 = .ok (.isub, 1) := by decide +kernel
theorem d2_25 : decode prog_3_method_1_code 25 = .ok (.ldc 18, 2) := by decide +kernel
theorem d2_27 : decode prog_3_method_1_code 27 = .ok (.iastore, 1) := by decide +kernel
theorem d2_28 : decode prog_3_method_1_code 28 = .ok (.aload_n 0, 1) := by decide +kernel
theorem d2_29 : decode prog_3_method_1_code 29 = .ok (.aload_n 1, 1) := by decide +kernel
theorem d2_30 : decode prog_3_method_1_code 30 = .ok (.putfield 19, 3) := by decide +kernel
theorem d2_33 : decode prog_3_method_1_code 33 = .ok (.aload_n 0, 1) := by decide +kernel
theorem d2_34 : decode prog_3_method_1_code 34 = .ok (.aload_n 1, 1) := by decide +kernel
theorem d2_35 : decode prog_3_method_1_code 35 = .ok (.arraylength, 1) := by decide +kernel
theorem d2_36 : decode prog_3_method_1_code 36 = .ok (.newarray .int, 2) := by decide +kernel
theorem d2_38 : decode prog_3_method_1_code 38 = .ok (.putfield 23, 3) := by decide +kernel
theorem d2_41 : decode prog_3_method_1_code 41 = .ok (.aload_n 0, 1) := by decide +kernel
theorem d2_42 : decode prog_3_method_1_code 42 = .ok (.invokevirtual 26, 3) := by decide +kernel
theorem own_pd2 : parseMethodDescriptor "()V" = some ⟨[], none⟩ := by decide +kernel
theorem d2_45 : decode prog_3_method_1_code 45 = .ok (.return_, 1) := by decide +kernel
set_option maxRecDepth 65536 in
set_option maxHeartbeats 40000000 in
theorem rm_au (l : Launch) (Z : State) (a0 : Array Value) (hw : ∀ d ∈ tables_1, d.before a0 Z = true) (a : Addr) (t : Addr) (m1 : Nat) (f : Nat → Int32) (z : Int32) (h0 : Heap) (n0 : Nat) (Z0 : n0 ≤ h0.size) (f0 : Exa Z h0 a "com/example/needlewright/needlewright/Automaton") (f1 : Fld Z h0 a "com/example/needlewright/needlewright/Automaton" "units" "[I" .null) (f2 : Fld Z h0 a "com/example/needlewright/needlewright/Automaton" "borders" "[I" .null) (f3 : n0 ≤ a) (f4 : n0 ≤ t) (f5 : AI Z h0 t .int m1 f) (f6 : a ≠ t) (hz : z.toInt = (m1 : Int)) (hm2 : 2 ≤ m1) (hm1 : m1 ≤ 4) :
    Con l Z (⟨"com/example/needlewright/needlewright/Automaton", "<init>", "([I)V"⟩ : MethodName) prog_3_method_1_code 2 none ({ frames := 2, cells := 1, slots := 4, locals := 28 } : Room) #[(.ref a), (.ref t)] h0 n0 (fun rv hv => ∃ t2 : Addr, ∃ b1 : Nat → Nat, rv = none ∧ h0.size ≤ t2 ∧ Keep h0 hv [a, t] ∧ Exa Z hv a "com/example/needlewright/needlewright/Automaton" ∧ Fld Z hv a "com/example/needlewright/needlewright/Automaton" "units" "[I" (.ref t) ∧ Fld Z hv a "com/example/needlewright/needlewright/Automaton" "borders" "[I" (.ref t2) ∧ AI Z hv t .int m1 (fun q => if q = (m1 - 1) then (-2147483648 : Int32) else f q) ∧ AI Z hv t2 .int m1 (own_ofn b1) ∧ t ≠ t2 ∧ a ≠ t2 ∧ (∀ k, 1 ≤ k → k < m1 → own_P (fun q => if q = (m1 - 1) then (-2147483648 : Int32) else f q) k (b1 k))) := by
  refine Con.enter (plainFor_of_name own_pn0) Z0 ?_
  intro p e s m below meth c T0 C hnm X0
  refine Go.cast (own_ef_rm_au m a t) ?_
  refine Go.aloadN C X0 (pc' := 1) d2_0 rfl rfl rfl ?_
  refine Go.initO C X0 (pc' := 4) (fun locs X eT => RoadKit.initO X C.1 C.2.1 C.2.2.2.1 (hw _ (List.mem_of_getElem? (i := 15) rfl)) (hw _ (List.mem_of_getElem? (i := 16) rfl)) (hw _ (List.mem_of_getElem? (i := 17) rfl)) eT (g := (mkF m 1 #[.val (.ref a), .val (.ref t)] [(.ref a)])) rfl (by rw [C.2.2.2.2.1]; rfl) rfl (hb C.2.2.1 d2_1) (by decide) (W := 0) (by show 2 * 0 + _ ≤ _; exact Nat.le_of_eq rfl) (by decide)) rfl (fun T27 X27 => ?_)
  refine Go.aloadN C X27 (pc' := 5) d2_4 rfl rfl rfl ?_
  refine Go.alenI C X27 (pc' := 6) (z := z) f5 hz d2_5 rfl ?_
  refine Go.iconst C X27 (pc' := 7) (v := (1 : Int32)) d2_6 rfl rfl ?_
  refine Go.icmpYes C X27 (pc' := 20) d2_7 (tlt (own_ilt.mpr (by rw [hz, own_o1]; omega))).2.2.1 (by decide) (by decide) ?_
  refine Go.aloadN C X27 (pc' := 21) d2_20 rfl rfl rfl ?_
  refine Go.aloadN C X27 (pc' := 22) d2_21 rfl rfl rfl ?_
  refine Go.alenI C X27 (pc' := 23) (z := z) f5 hz d2_22 rfl ?_
  refine Go.iconst C X27 (pc' := 24) (v := (1 : Int32)) d2_23 rfl rfl ?_
  refine Go.isub C X27 (pc' := 25) d2_24 rfl ?_
  refine Go.ldc C X27 (pc' := 27) (hw _ (List.mem_of_getElem? (i := 18) rfl)) d2_25 rfl ?_
  refine Go.iastore C X27 (pc' := 28) (i := (m1 - 1)) (x' := (-2147483648 : Int32)) f5 (by rw [own_isub (by rw [hz, own_o1]; omega) (by rw [hz, own_o1]; omega), hz, own_o1]; omega) (by omega) rfl f4 d2_27 rfl (fun T28 h28 X28 W28 A28 => ?_)
  have K29 : Keep h0 h28 [a, t] := (Keep.refl h0 [a, t]).wr W28 (Or.inl (List.mem_of_getElem? (i := 1) rfl))
  have E30 := f0.wr W28
  have F31 := f1.other W28 (Or.inl f6)
  have F32 := f2.other W28 (Or.inl f6)
  refine Go.aloadN C X28 (pc' := 29) d2_28 rfl rfl rfl ?_
  refine Go.aloadN C X28 (pc' := 30) d2_29 rfl rfl rfl ?_
  refine Go.putF C X28 (pc' := 33) (host := "") (Or.inl (hw _ (List.mem_of_getElem? (i := 19) rfl))) Via.refl F31 E30 (Or.inr ⟨(hw _ (List.mem_of_getElem? (i := 20) rfl)), rfl, hnm⟩) (hw _ (List.mem_of_getElem? (i := 10) rfl)) f3 (ty := (.array .int)) (by decide) rfl rfl d2_30 rfl (fun T33 h33 X33 W33 => ?_)
  have Fw33 := F31.same W33
  have K34 : Keep h0 h33 [a, t] := K29.wr W33 (Or.inl (List.mem_of_getElem? (i := 0) rfl))
  have E35 := E30.wr W33
  have F36 := F32.other W33 (Or.inr (slot_ne (Or.inr (hw _ (List.mem_of_getElem? (i := 22) rfl))) (Or.inr (hw _ (List.mem_of_getElem? (i := 20) rfl))) (by decide) (t := (.array .int)) (t' := (.array .int)) (by decide) (by decide)))
  have A37 := A28.other W33 (Ne.symm f6)
  refine Go.aloadN C X33 (pc' := 34) d2_33 rfl rfl rfl ?_
  refine Go.aloadN C X33 (pc' := 35) d2_34 rfl rfl rfl ?_
  refine Go.alenI C X33 (pc' := 36) (z := z) A37 hz d2_35 rfl ?_
  refine Go.newP C X33 (pc' := 38) (nn := m1) (cap := 4) (hw _ (List.mem_of_getElem? (i := 1) rfl)) d2_36 hz hm1 (by decide) (by decide) (by decide) rfl (fun T38 h38 b38 k38 X38 g38 E38 Ar38 N38 => ?_)
  have ne_a_b38 : a ≠ b38 := Nat.ne_of_lt (Nat.lt_of_lt_of_eq E35.lt g38.symm)
  have ne_t_b38 : t ≠ b38 := Nat.ne_of_lt (Nat.lt_of_lt_of_eq A37.lt g38.symm)
  have Q38 : h0.size ≤ b38 := Nat.le_trans K34.1 (Nat.le_of_eq g38.symm)
  have K39 : Keep h0 h38 [a, t] := K34.ext E38
  have E40 := E35.ext E38
  have F41 := F36.ext E38
  have A42 := A37.ext E38
  have F43 := Fw33.ext E38
  have A38 : AI Z h38 b38 .int m1 (fun _ => 0) := AI.new hz rfl Ar38
  refine Go.putF C X38 (pc' := 41) (host := "") (Or.inl (hw _ (List.mem_of_getElem? (i := 21) rfl))) Via.refl F41 E40 (Or.inr ⟨(hw _ (List.mem_of_getElem? (i := 22) rfl)), rfl, hnm⟩) (hw _ (List.mem_of_getElem? (i := 10) rfl)) f3 (ty := (.array .int)) (by decide) rfl rfl d2_38 rfl (fun T44 h44 X44 W44 => ?_)
  have Fw44 := F41.same W44
  have K45 : Keep h0 h44 [a, t] := K39.wr W44 (Or.inl (List.mem_of_getElem? (i := 0) rfl))
  have E46 := E40.wr W44
  have A47 := A42.other W44 (Ne.symm f6)
  have F48 := F43.other W44 (Or.inr (slot_ne (Or.inr (hw _ (List.mem_of_getElem? (i := 20) rfl))) (Or.inr (hw _ (List.mem_of_getElem? (i := 22) rfl))) (by decide) (t := (.array .int)) (t' := (.array .int)) (by decide) (by decide)))
  have A49 := A38.other W44 (Ne.symm ne_a_b38)
  have A50 : AI Z h44 b38 .int m1 (own_ofn (fun _ => 0)) := AI.congr A49 (fun i _ => rfl)
  refine Go.aloadN C X44 (pc' := 42) d2_41 rfl rfl rfl ?_
  refine Go.callP C X44 (pc' := 45) (W := 0) (argsL := []) (rest := []) (a := a) (rm_fl l Z a0 hw a t b38 m1 (fun q => if q = (m1 - 1) then (-2147483648 : Int32) else f q) z h44 n0 X44.sz E46 F48 Fw44 A47 A50 N38 ne_a_b38 ne_t_b38 hz hm2 (by omega)) E46 (hw _ (List.mem_of_getElem? (i := 23) rfl)) (hw _ (List.mem_of_getElem? (i := 24) rfl)) (hw _ (List.mem_of_getElem? (i := 10) rfl)) (hw _ (List.mem_of_getElem? (i := 25) rfl)) (hw _ (List.mem_of_getElem? (i := 11) rfl)) (hw _ (List.mem_of_getElem? (i := 26) rfl)) (by decide) rfl rfl (lenOf own_pd2 rfl) rfl (Nat.le_of_eq rfl) (by decide) (by decide) (by decide) (by decide) d2_42 rfl (fun _ _ q => by obtain ⟨_, _, K, _⟩ := q; exact K.1) (fun T51 h51 v51 X51 P51 => ?_)
  obtain ⟨b151, rfl, K51, O51_0, Y51_0⟩ := P51
  have K52 : Keep h0 h51 [a, t] := K45.trans K51 (allS (Or.inr Q38) all0)
  have E53 := E46.keep K51
  have A54 := A47.keep K51 (ninS ne_t_b38 nin0)
  have F55 := F48.keep K51 (ninS ne_a_b38 nin0)
  have F56 := Fw44.keep K51 (ninS ne_a_b38 nin0)
  show Go p e below s n0 _ _ _ T51 (mkF m 45 #[.val (.ref a), .val (.ref t)] [])
  exact Go.retV C X51 d2_45 ⟨b38, b151, rfl, Q38, K52, E53, F55, F56, A54, O51_0, ne_t_b38, ne_a_b38, Y51_0⟩ (by decide) (by decide)
theorem own_pn1 : plainName "com/example/needlewright/needlewright/ByteMatcher" = true := by first | (simp [plainName, overriddenIn]; done) | decide +kernel
theorem own_ef_rm_bm (m : MethodId) (x0 : Addr) (x1 : Addr) : entryFrame m #[(.ref x0), (.ref x1)] 2 = mkF m 0 #[.val (.ref x0), .val (.ref x1)] [] := by first | (simp [entryFrame, mkF, argsToLocals, Value.category]; done) | rfl
theorem d7_0 : decode prog_4_method_1_code 0 = .ok (.aload_n 0, 1) := by decide +kernel
theorem d7_1 : decode prog_4_method_1_code 1 = .ok (.invokespecial 3, 3) := by decide +kernel
theorem d7_4 : decode prog_4_method_1_code 4 = .ok (.aload_n 0, 1) := by decide +kernel
theorem d7_5 : decode prog_4_method_1_code 5 = .ok (.aload_n 1, 1) := by decide +kernel
theorem d7_6 : decode prog_4_method_1_code 6 = .ok (.putfield 9, 3) := by decide +kernel
theorem d7_9 : decode prog_4_method_1_code 9 = .ok (.aload_n 0, 1) := by decide +kernel
theorem d7_10 : decode prog_4_method_1_code 10 = .ok (.aload_n 1, 1) := by decide +kernel
theorem d7_11 : decode prog_4_method_1_code 11 = .ok (.invokevirtual 13, 3) := by decide +kernel
theorem d7_14 : decode prog_4_method_1_code 14 = .ok (.iconst 1, 1) := by decide +kernel
theorem d7_15 : decode prog_4_method_1_code 15 = .ok (.if_icmp .le 7, 3) := by decide +kernel
theorem d7_18 : decode prog_4_method_1_code 18 = .ok (.iconst 1, 1) := by decide +kernel
theorem d7_19 : decode prog_4_method_1_code 19 = .ok (.goto 4, 3) := by decide +kernel
theorem d7_23 : decode prog_4_method_1_code 23 = .ok (.putfield 19, 3) := by decide +kernel
theorem d7_26 : decode prog_4_method_1_code 26 = .ok (.aload_n 0, 1) := by decide +kernel
theorem d7_27 : decode prog_4_method_1_code 27 = .ok (.aload_n 1, 1) := by decide +kernel
theorem d7_28 : decode prog_4_method_1_code 28 = .ok (.getfield 23, 3) := by decide +kernel
theorem d7_31 : decode prog_4_method_1_code 31 = .ok (.iconst 0, 1) := by decide +kernel
theorem d7_32 : decode prog_4_method_1_code 32 = .ok (.iaload, 1) := by decide +kernel
theorem d7_33 : decode prog_4_method_1_code 33 = .ok (.i2l, 1) := by decide +kernel
theorem d7_34 : decode prog_4_method_1_code 34 = .ok (.ldc2_w 27, 3) := by decide +kernel
theorem d7_37 : decode prog_4_method_1_code 37 = .ok (.land, 1) := by decide +kernel
theorem d7_38 : decode prog_4_method_1_code 38 = .ok (.ldc2_w 29, 3) := by decide +kernel
theorem d7_41 : decode prog_4_method_1_code 41 = .ok (.lmul, 1) := by decide +kernel
theorem d7_42 : decode prog_4_method_1_code 42 = .ok (.putfield 31, 3) := by decide +kernel
theorem d7_45 : decode prog_4_method_1_code 45 = .ok (.aload_n 0, 1) := by decide +kernel
theorem d7_46 : decode prog_4_method_1_code 46 = .ok (.aload_n 0, 1) := by decide +kernel
theorem d7_47 : decode prog_4_method_1_code 47 = .ok (.getfield 19, 3) := by decide +kernel
theorem d7_50 : decode prog_4_method_1_code 50 = .ok (.ifCond .eq 21, 3) := by decide +kernel
theorem d7_53 : decode prog_4_method_1_code 53 = .ok (.aload_n 1, 1) := by decide +kernel
theorem d7_54 : decode prog_4_method_1_code 54 = .ok (.getfield 23, 3) := by decide +kernel
theorem d7_57 : decode prog_4_method_1_code 57 = .ok (.iconst 1, 1) := by decide +kernel
theorem d7_58 : decode prog_4_method_1_code 58 = .ok (.iaload, 1) := by decide +kernel
theorem d7_59 : decode prog_4_method_1_code 59 = .ok (.i2l, 1) := by decide +kernel
theorem d7_60 : decode prog_4_method_1_code 60 = .ok (.ldc2_w 27, 3) := by decide +kernel
theorem d7_63 : decode prog_4_method_1_code 63 = .ok (.land, 1) := by decide +kernel
theorem d7_64 : decode prog_4_method_1_code 64 = .ok (.ldc2_w 29, 3) := by decide +kernel
theorem d7_67 : decode prog_4_method_1_code 67 = .ok (.lmul, 1) := by decide +kernel
theorem d7_68 : decode prog_4_method_1_code 68 = .ok (.goto 4, 3) := by decide +kernel
theorem d7_72 : decode prog_4_method_1_code 72 = .ok (.putfield 35, 3) := by decide +kernel
theorem d7_75 : decode prog_4_method_1_code 75 = .ok (.return_, 1) := by decide +kernel
theorem d7_22 : decode prog_4_method_1_code 22 = .ok (.iconst 0, 1) := by decide +kernel
theorem d7_71 : decode prog_4_method_1_code 71 = .ok (.lconst 0, 1) := by decide +kernel
set_option maxRecDepth 65536 in
set_option maxHeartbeats 40000000 in
theorem rm_bm (l : Launch) (Z : State) (a0 : Array Value) (hw : ∀ d ∈ tables_1, d.before a0 Z = true) (a : Addr) (au : Addr) (t : Addr) (m1 : Nat) (u : Nat → Int32) (z : Int32) (h0 : Heap) (n0 : Nat) (Z0 : n0 ≤ h0.size) (f0 : Exa Z h0 a "com/example/needlewright/needlewright/ByteMatcher") (f1 : Fld Z h0 a "com/example/needlewright/needlewright/ByteMatcher" "automaton" "Lcom/example/needlewright/needlewright/Automaton;" .null) (f2 : Fld Z h0 a "com/example/needlewright/needlewright/ByteMatcher" "hasSecond" "Z" (.int (0 : Int32))) (f3 : Fld Z h0 a "com/example/needlewright/needlewright/ByteMatcher" "firstInEachByte" "J" (.long (0 : Int64))) (f4 : Fld Z h0 a "com/example/needlewright/needlewright/ByteMatcher" "secondInEachByte" "J" (.long (0 : Int64))) (f5 : Fld Z h0 a "com/example/needlewright/needlewright/ByteMatcher" "matched" "I" (.int (0 : Int32))) (f6 : Fld Z h0 a "com/example/needlewright/needlewright/ByteMatcher" "fed" "J" (.long (0 : Int64))) (f7 : n0 ≤ a) (f8 : Exa Z h0 au "com/example/needlewright/needlewright/Automaton") (f9 : Fld Z h0 au "com/example/needlewright/needlewright/Automaton" "units" "[I" (.ref t)) (f10 : AI Z h0 t .int m1 u) (f11 : au ≠ a) (f12 : t ≠ a) (hz : z.toInt = (m1 : Int)) (hm2 : 2 ≤ m1) (hm1 : m1 ≤ 100) :
    Con l Z (⟨"com/example/needlewright/needlewright/ByteMatcher", "<init>", "(Lcom/example/needlewright/needlewright/Automaton;)V"⟩ : MethodName) prog_4_method_1_code 2 none ({ frames := 1, cells := 0, slots := 0, locals := 13 } : Room) #[(.ref a), (.ref au)] h0 n0 (fun rv hv => rv = none ∧ Keep h0 hv [a] ∧ Exa Z hv a "com/example/needlewright/needlewright/ByteMatcher" ∧ Fld Z hv a "com/example/needlewright/needlewright/ByteMatcher" "automaton" "Lcom/example/needlewright/needlewright/Automaton;" (.ref au) ∧ Fld Z hv a "com/example/needlewright/needlewright/ByteMatcher" "matched" "I" (.int (0 : Int32)) ∧ Fld Z hv a "com/example/needlewright/needlewright/ByteMatcher" "fed" "J" (.long (0 : Int64))) := by
  refine Con.enter (plainFor_of_name own_pn1) Z0 ?_
  intro p e s m below meth c T0 C hnm X0
  refine Go.cast (own_ef_rm_bm m a au) ?_
  refine Go.aloadN C X0 (pc' := 1) d7_0 rfl rfl rfl ?_
  refine Go.initO C X0 (pc' := 4) (fun locs X eT => RoadKit.initO X C.1 C.2.1 C.2.2.2.1 (hw _ (List.mem_of_getElem? (i := 40) rfl)) (hw _ (List.mem_of_getElem? (i := 16) rfl)) (hw _ (List.mem_of_getElem? (i := 17) rfl)) eT (g := (mkF m 1 #[.val (.ref a), .val (.ref au)] [(.ref a)])) rfl (by rw [C.2.2.2.2.1]; rfl) rfl (hb C.2.2.1 d7_1) (by decide) (W := 0) (by show 2 * 0 + _ ≤ _; exact Nat.le_of_eq rfl) (by decide)) rfl (fun T57 X57 => ?_)
  refine Go.aloadN C X57 (pc' := 5) d7_4 rfl rfl rfl ?_
  refine Go.aloadN C X57 (pc' := 6) d7_5 rfl rfl rfl ?_
  refine Go.putF C X57 (pc' := 9) (host := "") (Or.inl (hw _ (List.mem_of_getElem? (i := 41) rfl))) Via.refl f1 f0 (Or.inr ⟨(hw _ (List.mem_of_getElem? (i := 42) rfl)), rfl, hnm⟩) (hw _ (List.mem_of_getElem? (i := 7) rfl)) f7 (ty := (.object "com/example/needlewright/needlewright/Automaton")) (by decide) rfl rfl d7_6 rfl (fun T58 h58 X58 W58 => ?_)
  have Fw58 := f1.same W58
  have K59 : Keep h0 h58 [a] := (Keep.refl h0 [a]).wr W58 (Or.inl (List.mem_of_getElem? (i := 0) rfl))
  have E60 := f0.wr W58
  have F61 := f2.other W58 (Or.inr (slot_ne (Or.inr (hw _ (List.mem_of_getElem? (i := 45) rfl))) (Or.inr (hw _ (List.mem_of_getElem? (i := 42) rfl))) (by decide) (t := .boolean) (t' := (.object "com/example/needlewright/needlewright/Automaton")) (by decide) (by decide)))
  have F62 := f3.other W58 (Or.inr (slot_ne (Or.inr (hw _ (List.mem_of_getElem? (i := 50) rfl))) (Or.inr (hw _ (List.mem_of_getElem? (i := 42) rfl))) (by decide) (t := .long) (t' := (.object "com/example/needlewright/needlewright/Automaton")) (by decide) (by decide)))
  have F63 := f4.other W58 (Or.inr (slot_ne (Or.inr (hw _ (List.mem_of_getElem? (i := 52) rfl))) (Or.inr (hw _ (List.mem_of_getElem? (i := 42) rfl))) (by decide) (t := .long) (t' := (.object "com/example/needlewright/needlewright/Automaton")) (by decide) (by decide)))
  have F64 := f5.other W58 (Or.inr (slot_ne (Or.inl (hw _ (List.mem_of_getElem? (i := 59) rfl))) (Or.inr (hw _ (List.mem_of_getElem? (i := 42) rfl))) (by decide) (t := .int) (t' := (.object "com/example/needlewright/needlewright/Automaton")) (by decide) (by decide)))
  have F65 := f6.other W58 (Or.inr (slot_ne (Or.inl (hw _ (List.mem_of_getElem? (i := 62) rfl))) (Or.inr (hw _ (List.mem_of_getElem? (i := 42) rfl))) (by decide) (t := .long) (t' := (.object "com/example/needlewright/needlewright/Automaton")) (by decide) (by decide)))
  have E66 := f8.wr W58
  have F67 := f9.other W58 (Or.inl f11)
  have A68 := f10.other W58 f12
  refine Go.aloadN C X58 (pc' := 10) d7_9 rfl rfl rfl ?_
  refine Go.aloadN C X58 (pc' := 11) d7_10 rfl rfl rfl ?_
  refine Go.callV C X58 (pc' := 14) (W := 1) (argsL := []) (rest := [(.ref a)]) (a := au) (rm_len l Z a0 hw au t m1 u z h58 n0 X58.sz F67 A68 hz) E66 (notFace_of_selects (args := #[]) (mvT C.2.1 (hw _ (List.mem_of_getElem? (i := 30) rfl)))) (hw _ (List.mem_of_getElem? (i := 43) rfl)) (hw _ (List.mem_of_getElem? (i := 28) rfl)) (hw _ (List.mem_of_getElem? (i := 30) rfl)) (hw _ (List.mem_of_getElem? (i := 29) rfl)) (hw _ (List.mem_of_getElem? (i := 11) rfl)) (hw _ (List.mem_of_getElem? (i := 31) rfl)) (by decide) rfl rfl (lenOf own_pd0 rfl) rfl (Nat.le_of_eq rfl) (by decide) (by decide) (by decide) (by decide) d7_11 rfl (fun _ _ q => Nat.le_of_eq (congrArg Array.size q.2)) (fun T69 h69 v69 X69 P69 => ?_)
  obtain ⟨rfl, rfl⟩ := P69
  show Go p e below s n0 _ _ _ T69 (mkF m 14 #[.val (.ref a), .val (.ref au)] [(.int (z - (1 : Int32))), (.ref a)])
  refine Go.iconst C X69 (pc' := 15) (v := (1 : Int32)) d7_14 rfl rfl ?_
  by_cases c70 : (1 : Int32) < (z - (1 : Int32))
  · refine Go.icmpNo C X69 (pc' := 18) d7_15 (tlt c70).2.2.2 rfl ?_
    refine Go.iconst C X69 (pc' := 19) (v := (1 : Int32)) d7_18 rfl rfl ?_
    refine Go.goto C X69 (pc' := 23) d7_19 (by decide) (by decide) ?_
    refine Go.putFN C X69 (pc' := 26) (hw _ (List.mem_of_getElem? (i := 44) rfl)) Via.refl F61 E60 (Or.inr ⟨(hw _ (List.mem_of_getElem? (i := 45) rfl)), rfl, hnm⟩) (hw _ (List.mem_of_getElem? (i := 7) rfl)) f7 (ty := .boolean) (v' := (.int (1 : Int32))) (by decide) (by decide) (by decide) d7_23 rfl (fun T71 h71 X71 W71 => ?_)
    have Fw71 := F61.same W71
    have K72 : Keep h0 h71 [a] := K59.wr W71 (Or.inl (List.mem_of_getElem? (i := 0) rfl))
    have E73 := E60.wr W71
    have F74 := F62.other W71 (Or.inr (slot_ne (Or.inr (hw _ (List.mem_of_getElem? (i := 50) rfl))) (Or.inr (hw _ (List.mem_of_getElem? (i := 45) rfl))) (by decide) (t := .long) (t' := .boolean) (by decide) (by decide)))
    have F75 := F63.other W71 (Or.inr (slot_ne (Or.inr (hw _ (List.mem_of_getElem? (i := 52) rfl))) (Or.inr (hw _ (List.mem_of_getElem? (i := 45) rfl))) (by decide) (t := .long) (t' := .boolean) (by decide) (by decide)))
    have F76 := F64.other W71 (Or.inr (slot_ne (Or.inl (hw _ (List.mem_of_getElem? (i := 59) rfl))) (Or.inr (hw _ (List.mem_of_getElem? (i := 45) rfl))) (by decide) (t := .int) (t' := .boolean) (by decide) (by decide)))
    have F77 := F65.other W71 (Or.inr (slot_ne (Or.inl (hw _ (List.mem_of_getElem? (i := 62) rfl))) (Or.inr (hw _ (List.mem_of_getElem? (i := 45) rfl))) (by decide) (t := .long) (t' := .boolean) (by decide) (by decide)))
    have E78 := E66.wr W71
    have F79 := F67.other W71 (Or.inl f11)
    have A80 := A68.other W71 f12
    have F81 := Fw58.other W71 (Or.inr (slot_ne (Or.inr (hw _ (List.mem_of_getElem? (i := 42) rfl))) (Or.inr (hw _ (List.mem_of_getElem? (i := 45) rfl))) (by decide) (t := (.object "com/example/needlewright/needlewright/Automaton")) (t' := .boolean) (by decide) (by decide)))
    refine Go.aloadN C X71 (pc' := 27) d7_26 rfl rfl rfl ?_
    refine Go.aloadN C X71 (pc' := 28) d7_27 rfl rfl rfl ?_
    refine Go.getF C X71 (pc' := 31) (host := "") (Or.inl (hw _ (List.mem_of_getElem? (i := 46) rfl))) Via.refl F79 d7_28 rfl (fun T82 X82 => ?_)
    refine Go.iconst C X82 (pc' := 32) (v := (0 : Int32)) d7_31 rfl rfl ?_
    refine Go.iaload C X82 (pc' := 33) (i := 0) (w := (u 0)) A80 rfl (by omega) rfl d7_32 rfl ?_
    refine Go.i2l C X82 (pc' := 34) d7_33 rfl ?_
    refine Go.ldc2 C X82 (pc' := 37) (hw _ (List.mem_of_getElem? (i := 47) rfl)) d7_34 rfl ?_
    refine Go.land C X82 (pc' := 38) d7_37 rfl ?_
    refine Go.ldc2 C X82 (pc' := 41) (hw _ (List.mem_of_getElem? (i := 48) rfl)) d7_38 rfl ?_
    refine Go.lmul C X82 (pc' := 42) d7_41 rfl ?_
    refine Go.putF C X82 (pc' := 45) (host := "") (Or.inl (hw _ (List.mem_of_getElem? (i := 49) rfl))) Via.refl F74 E73 (Or.inr ⟨(hw _ (List.mem_of_getElem? (i := 50) rfl)), rfl, hnm⟩) (hw _ (List.mem_of_getElem? (i := 7) rfl)) f7 (ty := .long) (by decide) rfl rfl d7_42 rfl (fun T83 h83 X83 W83 => ?_)
    have Fw83 := F74.same W83
    have K84 : Keep h0 h83 [a] := K72.wr W83 (Or.inl (List.mem_of_getElem? (i := 0) rfl))
    have E85 := E73.wr W83
    have F86 := F75.other W83 (Or.inr (slot_ne (Or.inr (hw _ (List.mem_of_getElem? (i := 52) rfl))) (Or.inr (hw _ (List.mem_of_getElem? (i := 50) rfl))) (by decide) (t := .long) (t' := .long) (by decide) (by decide)))
    have F87 := F76.other W83 (Or.inr (slot_ne (Or.inl (hw _ (List.mem_of_getElem? (i := 59) rfl))) (Or.inr (hw _ (List.mem_of_getElem? (i := 50) rfl))) (by decide) (t := .int) (t' := .long) (by decide) (by decide)))
    have F88 := F77.other W83 (Or.inr (slot_ne (Or.inl (hw _ (List.mem_of_getElem? (i := 62) rfl))) (Or.inr (hw _ (List.mem_of_getElem? (i := 50) rfl))) (by decide) (t := .long) (t' := .long) (by decide) (by decide)))
    have E89 := E78.wr W83
    have F90 := F79.other W83 (Or.inl f11)
    have A91 := A80.other W83 f12
    have F92 := F81.other W83 (Or.inr (slot_ne (Or.inr (hw _ (List.mem_of_getElem? (i := 42) rfl))) (Or.inr (hw _ (List.mem_of_getElem? (i := 50) rfl))) (by decide) (t := (.object "com/example/needlewright/needlewright/Automaton")) (t' := .long) (by decide) (by decide)))
    have F93 := Fw71.other W83 (Or.inr (slot_ne (Or.inr (hw _ (List.mem_of_getElem? (i := 45) rfl))) (Or.inr (hw _ (List.mem_of_getElem? (i := 50) rfl))) (by decide) (t := .boolean) (t' := .long) (by decide) (by decide)))
    refine Go.aloadN C X83 (pc' := 46) d7_45 rfl rfl rfl ?_
    refine Go.aloadN C X83 (pc' := 47) d7_46 rfl rfl rfl ?_
    refine Go.getF C X83 (pc' := 50) (host := "") (Or.inl (hw _ (List.mem_of_getElem? (i := 44) rfl))) Via.refl F93 d7_47 rfl (fun T94 X94 => ?_)
    refine Go.ifNo C X94 (pc' := 53) d7_50 ((if0 _ _).trans (feq (by decide)).1) rfl ?_
    refine Go.aloadN C X94 (pc' := 54) d7_53 rfl rfl rfl ?_
    refine Go.getF C X94 (pc' := 57) (host := "") (Or.inl (hw _ (List.mem_of_getElem? (i := 46) rfl))) Via.refl F90 d7_54 rfl (fun T95 X95 => ?_)
    refine Go.iconst C X95 (pc' := 58) (v := (1 : Int32)) d7_57 rfl rfl ?_
    refine Go.iaload C X95 (pc' := 59) (i := 1) (w := (u 1)) A91 rfl (by have := own_ilt.mp c70; rw [own_isub (by rw [hz, own_o1]; omega) (by rw [hz, own_o1]; omega), hz, own_o1] at this; omega) rfl d7_58 rfl ?_
    refine Go.i2l C X95 (pc' := 60) d7_59 rfl ?_
    refine Go.ldc2 C X95 (pc' := 63) (hw _ (List.mem_of_getElem? (i := 47) rfl)) d7_60 rfl ?_
    refine Go.land C X95 (pc' := 64) d7_63 rfl ?_
    refine Go.ldc2 C X95 (pc' := 67) (hw _ (List.mem_of_getElem? (i := 48) rfl)) d7_64 rfl ?_
    refine Go.lmul C X95 (pc' := 68) d7_67 rfl ?_
    refine Go.goto C X95 (pc' := 72) d7_68 (by decide) (by decide) ?_
    refine Go.putF C X95 (pc' := 75) (host := "") (Or.inl (hw _ (List.mem_of_getElem? (i := 51) rfl))) Via.refl F86 E85 (Or.inr ⟨(hw _ (List.mem_of_getElem? (i := 52) rfl)), rfl, hnm⟩) (hw _ (List.mem_of_getElem? (i := 7) rfl)) f7 (ty := .long) (by decide) rfl rfl d7_72 rfl (fun T96 h96 X96 W96 => ?_)
    have Fw96 := F86.same W96
    have K97 : Keep h0 h96 [a] := K84.wr W96 (Or.inl (List.mem_of_getElem? (i := 0) rfl))
    have E98 := E85.wr W96
    have F99 := F87.other W96 (Or.inr (slot_ne (Or.inl (hw _ (List.mem_of_getElem? (i := 59) rfl))) (Or.inr (hw _ (List.mem_of_getElem? (i := 52) rfl))) (by decide) (t := .int) (t' := .long) (by decide) (by decide)))
    have F100 := F88.other W96 (Or.inr (slot_ne (Or.inl (hw _ (List.mem_of_getElem? (i := 62) rfl))) (Or.inr (hw _ (List.mem_of_getElem? (i := 52) rfl))) (by decide) (t := .long) (t' := .long) (by decide) (by decide)))
    have E101 := E89.wr W96
    have F102 := F90.other W96 (Or.inl f11)
    have A103 := A91.other W96 f12
    have F104 := F92.other W96 (Or.inr (slot_ne (Or.inr (hw _ (List.mem_of_getElem? (i := 42) rfl))) (Or.inr (hw _ (List.mem_of_getElem? (i := 52) rfl))) (by decide) (t := (.object "com/example/needlewright/needlewright/Automaton")) (t' := .long) (by decide) (by decide)))
    have F105 := F93.other W96 (Or.inr (slot_ne (Or.inr (hw _ (List.mem_of_getElem? (i := 45) rfl))) (Or.inr (hw _ (List.mem_of_getElem? (i := 52) rfl))) (by decide) (t := .boolean) (t' := .long) (by decide) (by decide)))
    have F106 := Fw83.other W96 (Or.inr (slot_ne (Or.inr (hw _ (List.mem_of_getElem? (i := 50) rfl))) (Or.inr (hw _ (List.mem_of_getElem? (i := 52) rfl))) (by decide) (t := .long) (t' := .long) (by decide) (by decide)))
    exact Go.retV C X96 d7_75 ⟨rfl, K97, E98, F104, F99, F100⟩ (by decide) (by decide)
  · refine Go.icmpYes C X69 (pc' := 22) d7_15 (flt c70).2.2.2 (by decide) (by decide) ?_
    refine Go.iconst C X69 (pc' := 23) (v := (0 : Int32)) d7_22 rfl rfl ?_
    refine Go.putFN C X69 (pc' := 26) (hw _ (List.mem_of_getElem? (i := 44) rfl)) Via.refl F61 E60 (Or.inr ⟨(hw _ (List.mem_of_getElem? (i := 45) rfl)), rfl, hnm⟩) (hw _ (List.mem_of_getElem? (i := 7) rfl)) f7 (ty := .boolean) (v' := (.int (0 : Int32))) (by decide) (by decide) (by decide) d7_23 rfl (fun T107 h107 X107 W107 => ?_)
    have Fw107 := F61.same W107
    have K108 : Keep h0 h107 [a] := K59.wr W107 (Or.inl (List.mem_of_getElem? (i := 0) rfl))
    have E109 := E60.wr W107
    have F110 := F62.other W107 (Or.inr (slot_ne (Or.inr (hw _ (List.mem_of_getElem? (i := 50) rfl))) (Or.inr (hw _ (List.mem_of_getElem? (i := 45) rfl))) (by decide) (t := .long) (t' := .boolean) (by decide) (by decide)))
    have F111 := F63.other W107 (Or.inr (slot_ne (Or.inr (hw _ (List.mem_of_getElem? (i := 52) rfl))) (Or.inr (hw _ (List.mem_of_getElem? (i := 45) rfl))) (by decide) (t := .long) (t' := .boolean) (by decide) (by decide)))
    have F112 := F64.other W107 (Or.inr (slot_ne (Or.inl (hw _ (List.mem_of_getElem? (i := 59) rfl))) (Or.inr (hw _ (List.mem_of_getElem? (i := 45) rfl))) (by decide) (t := .int) (t' := .boolean) (by decide) (by decide)))
    have F113 := F65.other W107 (Or.inr (slot_ne (Or.inl (hw _ (List.mem_of_getElem? (i := 62) rfl))) (Or.inr (hw _ (List.mem_of_getElem? (i := 45) rfl))) (by decide) (t := .long) (t' := .boolean) (by decide) (by decide)))
    have E114 := E66.wr W107
    have F115 := F67.other W107 (Or.inl f11)
    have A116 := A68.other W107 f12
    have F117 := Fw58.other W107 (Or.inr (slot_ne (Or.inr (hw _ (List.mem_of_getElem? (i := 42) rfl))) (Or.inr (hw _ (List.mem_of_getElem? (i := 45) rfl))) (by decide) (t := (.object "com/example/needlewright/needlewright/Automaton")) (t' := .boolean) (by decide) (by decide)))
    refine Go.aloadN C X107 (pc' := 27) d7_26 rfl rfl rfl ?_
    refine Go.aloadN C X107 (pc' := 28) d7_27 rfl rfl rfl ?_
    refine Go.getF C X107 (pc' := 31) (host := "") (Or.inl (hw _ (List.mem_of_getElem? (i := 46) rfl))) Via.refl F115 d7_28 rfl (fun T118 X118 => ?_)
    refine Go.iconst C X118 (pc' := 32) (v := (0 : Int32)) d7_31 rfl rfl ?_
    refine Go.iaload C X118 (pc' := 33) (i := 0) (w := (u 0)) A116 rfl (by omega) rfl d7_32 rfl ?_
    refine Go.i2l C X118 (pc' := 34) d7_33 rfl ?_
    refine Go.ldc2 C X118 (pc' := 37) (hw _ (List.mem_of_getElem? (i := 47) rfl)) d7_34 rfl ?_
    refine Go.land C X118 (pc' := 38) d7_37 rfl ?_
    refine Go.ldc2 C X118 (pc' := 41) (hw _ (List.mem_of_getElem? (i := 48) rfl)) d7_38 rfl ?_
    refine Go.lmul C X118 (pc' := 42) d7_41 rfl ?_
    refine Go.putF C X118 (pc' := 45) (host := "") (Or.inl (hw _ (List.mem_of_getElem? (i := 49) rfl))) Via.refl F110 E109 (Or.inr ⟨(hw _ (List.mem_of_getElem? (i := 50) rfl)), rfl, hnm⟩) (hw _ (List.mem_of_getElem? (i := 7) rfl)) f7 (ty := .long) (by decide) rfl rfl d7_42 rfl (fun T119 h119 X119 W119 => ?_)
    have Fw119 := F110.same W119
    have K120 : Keep h0 h119 [a] := K108.wr W119 (Or.inl (List.mem_of_getElem? (i := 0) rfl))
    have E121 := E109.wr W119
    have F122 := F111.other W119 (Or.inr (slot_ne (Or.inr (hw _ (List.mem_of_getElem? (i := 52) rfl))) (Or.inr (hw _ (List.mem_of_getElem? (i := 50) rfl))) (by decide) (t := .long) (t' := .long) (by decide) (by decide)))
    have F123 := F112.other W119 (Or.inr (slot_ne (Or.inl (hw _ (List.mem_of_getElem? (i := 59) rfl))) (Or.inr (hw _ (List.mem_of_getElem? (i := 50) rfl))) (by decide) (t := .int) (t' := .long) (by decide) (by decide)))
    have F124 := F113.other W119 (Or.inr (slot_ne (Or.inl (hw _ (List.mem_of_getElem? (i := 62) rfl))) (Or.inr (hw _ (List.mem_of_getElem? (i := 50) rfl))) (by decide) (t := .long) (t' := .long) (by decide) (by decide)))
    have E125 := E114.wr W119
    have F126 := F115.other W119 (Or.inl f11)
    have A127 := A116.other W119 f12
    have F128 := F117.other W119 (Or.inr (slot_ne (Or.inr (hw _ (List.mem_of_getElem? (i := 42) rfl))) (Or.inr (hw _ (List.mem_of_getElem? (i := 50) rfl))) (by decide) (t := (.object "com/example/needlewright/needlewright/Automaton")) (t' := .long) (by decide) (by decide)))
    have F129 := Fw107.other W119 (Or.inr (slot_ne (Or.inr (hw _ (List.mem_of_getElem? (i := 45) rfl))) (Or.inr (hw _ (List.mem_of_getElem? (i := 50) rfl))) (by decide) (t := .boolean) (t' := .long) (by decide) (by decide)))
    refine Go.aloadN C X119 (pc' := 46) d7_45 rfl rfl rfl ?_
    refine Go.aloadN C X119 (pc' := 47) d7_46 rfl rfl rfl ?_
    refine Go.getF C X119 (pc' := 50) (host := "") (Or.inl (hw _ (List.mem_of_getElem? (i := 44) rfl))) Via.refl F129 d7_47 rfl (fun T130 X130 => ?_)
    refine Go.ifYes C X130 (pc' := 71) d7_50 ((if0 _ _).trans (teq (by decide)).1) (by decide) (by decide) ?_
    refine Go.lconst C X130 (pc' := 72) (v := (0 : Int64)) d7_71 rfl rfl ?_
    refine Go.putF C X130 (pc' := 75) (host := "") (Or.inl (hw _ (List.mem_of_getElem? (i := 51) rfl))) Via.refl F122 E121 (Or.inr ⟨(hw _ (List.mem_of_getElem? (i := 52) rfl)), rfl, hnm⟩) (hw _ (List.mem_of_getElem? (i := 7) rfl)) f7 (ty := .long) (by decide) rfl rfl d7_72 rfl (fun T131 h131 X131 W131 => ?_)
    have Fw131 := F122.same W131
    have K132 : Keep h0 h131 [a] := K120.wr W131 (Or.inl (List.mem_of_getElem? (i := 0) rfl))
    have E133 := E121.wr W131
    have F134 := F123.other W131 (Or.inr (slot_ne (Or.inl (hw _ (List.mem_of_getElem? (i := 59) rfl))) (Or.inr (hw _ (List.mem_of_getElem? (i := 52) rfl))) (by decide) (t := .int) (t' := .long) (by decide) (by decide)))
    have F135 := F124.other W131 (Or.inr (slot_ne (Or.inl (hw _ (List.mem_of_getElem? (i := 62) rfl))) (Or.inr (hw _ (List.mem_of_getElem? (i := 52) rfl))) (by decide) (t := .long) (t' := .long) (by decide) (by decide)))
    have E136 := E125.wr W131
    have F137 := F126.other W131 (Or.inl f11)
    have A138 := A127.other W131 f12
    have F139 := F128.other W131 (Or.inr (slot_ne (Or.inr (hw _ (List.mem_of_getElem? (i := 42) rfl))) (Or.inr (hw _ (List.mem_of_getElem? (i := 52) rfl))) (by decide) (t := (.object "com/example/needlewright/needlewright/Automaton")) (t' := .long) (by decide) (by decide)))
    have F140 := F129.other W131 (Or.inr (slot_ne (Or.inr (hw _ (List.mem_of_getElem? (i := 45) rfl))) (Or.inr (hw _ (List.mem_of_getElem? (i := 52) rfl))) (by decide) (t := .boolean) (t' := .long) (by decide) (by decide)))
    have F141 := Fw119.other W131 (Or.inr (slot_ne (Or.inr (hw _ (List.mem_of_getElem? (i := 50) rfl))) (Or.inr (hw _ (List.mem_of_getElem? (i := 52) rfl))) (by decide) (t := .long) (t' := .long) (by decide) (by decide)))
    exact Go.retV C X131 d7_75 ⟨rfl, K132, E133, F139, F134, F135⟩ (by decide) (by decide)
def own_nx (u : Nat → Int32) (b : Nat → Nat) (x : Int32) (mm : Nat) : Nat := if u (own_fb u b x mm) = x then own_fb u b x mm + 1 else own_fb u b x mm
theorem own_nxY {u : Nat → Int32} {b : Nat → Nat} {x : Int32} {mm : Nat} (h : u (own_fb u b x mm) = x) : own_nx u b x mm = own_fb u b x mm + 1 := if_pos h
theorem own_nxN {u : Nat → Int32} {b : Nat → Nat} {x : Int32} {mm : Nat} (h : ¬ u (own_fb u b x mm) = x) : own_nx u b x mm = own_fb u b x mm := if_neg h
theorem own_nx_le (u : Nat → Int32) (b : Nat → Nat) (x : Int32) (mm : Nat) : own_nx u b x mm ≤ mm + 1 := by
  have := own_fb_le u b x mm
  unfold own_nx; split <;> omega
theorem own_zm {z : Int32} {m1 n : Nat} (hz : z.toInt = (m1 : Int)) (h2 : 2 ≤ m1) (h100 : m1 ≤ 100) (hn : n < 900) : Int32.ofNat n = (z - (1 : Int32)) ↔ n = m1 - 1 := by
  rw [own_ieq, own_n32 (by omega), own_isub (by rw [hz, own_o1]; omega) (by rw [hz, own_o1]; omega), hz, own_o1]; omega
theorem own_ef_rm_fd (m : MethodId) (x0 : Addr) (x1 : Int32) : entryFrame m #[(.ref x0), (.int x1)] 3 = mkF m 0 #[.val (.ref x0), .val (.int x1), .unset] [] := by first | (simp [entryFrame, mkF, argsToLocals, Value.category]; done) | rfl
theorem d8_0 : decode prog_4_method_2_code 0 = .ok (.aload_n 0, 1) := by decide +kernel
theorem d8_1 : decode prog_4_method_2_code 1 = .ok (.getfield 9, 3) := by decide +kernel
theorem d8_4 : decode prog_4_method_2_code 4 = .ok (.aload_n 0, 1) := by decide +kernel
theorem d8_5 : decode prog_4_method_2_code 5 = .ok (.getfield 38, 3) := by decide +kernel
theorem d8_8 : decode prog_4_method_2_code 8 = .ok (.iload_n 1, 1) := by decide +kernel
theorem d8_9 : decode prog_4_method_2_code 9 = .ok (.invokevirtual 42, 3) := by decide +kernel
theorem d8_12 : decode prog_4_method_2_code 12 = .ok (.istore_n 2, 1) := by decide +kernel
theorem d8_13 : decode prog_4_method_2_code 13 = .ok (.aload_n 0, 1) := by decide +kernel
theorem d8_14 : decode prog_4_method_2_code 14 = .ok (.getfield 9, 3) := by decide +kernel
theorem d8_17 : decode prog_4_method_2_code 17 = .ok (.getfield 23, 3) := by decide +kernel
theorem d8_20 : decode prog_4_method_2_code 20 = .ok (.iload_n 2, 1) := by decide +kernel
theorem d8_21 : decode prog_4_method_2_code 21 = .ok (.iaload, 1) := by decide +kernel
theorem d8_22 : decode prog_4_method_2_code 22 = .ok (.iload_n 1, 1) := by decide +kernel
theorem d8_23 : decode prog_4_method_2_code 23 = .ok (.if_icmp .ne 6, 3) := by decide +kernel
theorem d8_26 : decode prog_4_method_2_code 26 = .ok (.iinc 2 1, 3) := by decide +kernel
theorem d8_29 : decode prog_4_method_2_code 29 = .ok (.aload_n 0, 1) := by decide +kernel
theorem d8_30 : decode prog_4_method_2_code 30 = .ok (.iload_n 2, 1) := by decide +kernel
theorem d8_31 : decode prog_4_method_2_code 31 = .ok (.putfield 38, 3) := by decide +kernel
theorem d8_34 : decode prog_4_method_2_code 34 = .ok (.aload_n 0, 1) := by decide +kernel
theorem d8_35 : decode prog_4_method_2_code 35 = .ok (.dup, 1) := by decide +kernel
theorem d8_36 : decode prog_4_method_2_code 36 = .ok (.getfield 46, 3) := by decide +kernel
theorem d8_39 : decode prog_4_method_2_code 39 = .ok (.lconst 1, 1) := by decide +kernel
theorem d8_40 : decode prog_4_method_2_code 40 = .ok (.ladd, 1) := by decide +kernel
theorem d8_41 : decode prog_4_method_2_code 41 = .ok (.putfield 46, 3) := by decide +kernel
theorem d8_44 : decode prog_4_method_2_code 44 = .ok (.iload_n 2, 1) := by decide +kernel
theorem d8_45 : decode prog_4_method_2_code 45 = .ok (.aload_n 0, 1) := by decide +kernel
theorem d8_46 : decode prog_4_method_2_code 46 = .ok (.getfield 9, 3) := by decide +kernel
theorem d8_49 : decode prog_4_method_2_code 49 = .ok (.invokevirtual 13, 3) := by decide +kernel
theorem d8_52 : decode prog_4_method_2_code 52 = .ok (.if_icmp .ne 13, 3) := by decide +kernel
theorem d8_55 : decode prog_4_method_2_code 55 = .ok (.aload_n 0, 1) := by decide +kernel
theorem d8_56 : decode prog_4_method_2_code 56 = .ok (.getfield 46, 3) := by decide +kernel
theorem d8_59 : decode prog_4_method_2_code 59 = .ok (.iload_n 2, 1) := by decide +kernel
theorem d8_60 : decode prog_4_method_2_code 60 = .ok (.i2l, 1) := by decide +kernel
theorem d8_61 : decode prog_4_method_2_code 61 = .ok (.lsub, 1) := by decide +kernel
theorem d8_62 : decode prog_4_method_2_code 62 = .ok (.goto 6, 3) := by decide +kernel
theorem d8_68 : decode prog_4_method_2_code 68 = .ok (.lreturn, 1) := by decide +kernel
theorem d8_65 : decode prog_4_method_2_code 65 = .ok (.ldc2_w 49, 3) := by decide +kernel
set_option maxRecDepth 65536 in
set_option maxHeartbeats 40000000 in
theorem rm_fd (l : Launch) (Z : State) (a0 : Array Value) (hw : ∀ d ∈ tables_1, d.before a0 Z = true) (a : Addr) (x : Int32) (au : Addr) (t : Addr) (t2 : Addr) (m1 : Nat) (u : Nat → Int32) (b : Nat → Nat) (mm : Nat) (fd : Int64) (z : Int32) (h0 : Heap) (n0 : Nat) (Z0 : n0 ≤ h0.size) (f0 : Exa Z h0 a "com/example/needlewright/needlewright/ByteMatcher") (f1 : Fld Z h0 a "com/example/needlewright/needlewright/ByteMatcher" "automaton" "Lcom/example/needlewright/needlewright/Automaton;" (.ref au)) (f2 : Fld Z h0 a "com/example/needlewright/needlewright/ByteMatcher" "matched" "I" (.int (Int32.ofNat mm))) (f3 : Fld Z h0 a "com/example/needlewright/needlewright/ByteMatcher" "fed" "J" (.long fd)) (f4 : n0 ≤ a) (f5 : Exa Z h0 au "com/example/needlewright/needlewright/Automaton") (f6 : Fld Z h0 au "com/example/needlewright/needlewright/Automaton" "units" "[I" (.ref t)) (f7 : Fld Z h0 au "com/example/needlewright/needlewright/Automaton" "borders" "[I" (.ref t2)) (f8 : AI Z h0 t .int m1 u) (f9 : AI Z h0 t2 .int m1 (own_ofn b)) (f10 : au ≠ a) (f11 : t ≠ a) (f12 : t2 ≠ a) (hz : z.toInt = (m1 : Int)) (hm2 : 2 ≤ m1) (hm1 : m1 ≤ 100) (hmm : mm < m1) (hb : ∀ k, 1 ≤ k → k < m1 → own_P u k (b k)) :
    Con l Z (⟨"com/example/needlewright/needlewright/ByteMatcher", "feed", "(B)J"⟩ : MethodName) prog_4_method_2_code 3 (some .long) ({ frames := 1, cells := 0, slots := 0, locals := 14 } : Room) #[(.ref a), (.int x)] h0 n0 (fun rv hv => rv = some (.long (if (own_nx u b x mm) = m1 - 1 then ((fd + (1 : Int64)) - (Int32.ofNat (own_nx u b x mm)).toInt64) else (-1 : Int64))) ∧ Keep h0 hv [a] ∧ Exa Z hv a "com/example/needlewright/needlewright/ByteMatcher" ∧ Fld Z hv a "com/example/needlewright/needlewright/ByteMatcher" "automaton" "Lcom/example/needlewright/needlewright/Automaton;" (.ref au) ∧ Fld Z hv a "com/example/needlewright/needlewright/ByteMatcher" "matched" "I" (.int (Int32.ofNat (own_nx u b x mm))) ∧ Fld Z hv a "com/example/needlewright/needlewright/ByteMatcher" "fed" "J" (.long (fd + (1 : Int64)))) := by
  refine Con.enter (plainFor_of_name own_pn1) Z0 ?_
  intro p e s m below meth c T0 C hnm X0
  refine Go.cast (own_ef_rm_fd m a x) ?_
  refine Go.aloadN C X0 (pc' := 1) d8_0 rfl rfl rfl ?_
  refine Go.getF C X0 (pc' := 4) (host := "") (Or.inl (hw _ (List.mem_of_getElem? (i := 41) rfl))) Via.refl f1 d8_1 rfl (fun T142 X142 => ?_)
  refine Go.aloadN C X142 (pc' := 5) d8_4 rfl rfl rfl ?_
  refine Go.getF C X142 (pc' := 8) (host := "") (Or.inl (hw _ (List.mem_of_getElem? (i := 58) rfl))) Via.refl f2 d8_5 rfl (fun T143 X143 => ?_)
  refine Go.iloadN C X143 (pc' := 9) d8_8 rfl rfl ?_
  refine Go.callV C X143 (pc' := 12) (W := 0) (argsL := [(.int (Int32.ofNat mm)), (.int x)]) (rest := []) (a := au) (rm_fb l Z a0 hw au (Int32.ofNat mm) x t t2 m1 u b mm h0 n0 X143.sz f6 f7 f8 f9 hm1 (own_n32 (by omega)) hmm (fun k q r => hb k q (by omega))) f5 (notFace_of_selects (args := #[]) (mvT C.2.1 (hw _ (List.mem_of_getElem? (i := 35) rfl)))) (hw _ (List.mem_of_getElem? (i := 60) rfl)) (hw _ (List.mem_of_getElem? (i := 33) rfl)) (hw _ (List.mem_of_getElem? (i := 35) rfl)) (hw _ (List.mem_of_getElem? (i := 34) rfl)) (hw _ (List.mem_of_getElem? (i := 11) rfl)) (hw _ (List.mem_of_getElem? (i := 36) rfl)) (by decide) rfl rfl (lenOf own_pd1 rfl) rfl (Nat.le_of_eq rfl) (by decide) (by decide) (by decide) (by decide) d8_9 rfl (fun _ _ q => Nat.le_of_eq (congrArg Array.size q.2)) (fun T144 h144 v144 X144 P144 => ?_)
  obtain ⟨rfl, rfl⟩ := P144
  show Go p e below s n0 _ _ _ T144 (mkF m 12 #[.val (.ref a), .val (.int x), .unset] [(.int (Int32.ofNat (own_fb u b x mm)))])
  refine Go.istoreN C X144 (pc' := 13) (Ls' := #[.val (.ref a), .val (.int x), .val (.int (Int32.ofNat (own_fb u b x mm)))]) d8_12 rfl rfl ?_
  refine Go.aloadN C X144 (pc' := 14) d8_13 rfl rfl rfl ?_
  refine Go.getF C X144 (pc' := 17) (host := "") (Or.inl (hw _ (List.mem_of_getElem? (i := 41) rfl))) Via.refl f1 d8_14 rfl (fun T145 X145 => ?_)
  refine Go.getF C X145 (pc' := 20) (host := "") (Or.inl (hw _ (List.mem_of_getElem? (i := 46) rfl))) Via.refl f6 d8_17 rfl (fun T146 X146 => ?_)
  refine Go.iloadN C X146 (pc' := 21) d8_20 rfl rfl ?_
  refine Go.iaload C X146 (pc' := 22) (i := (own_fb u b x mm)) (w := (u (own_fb u b x mm))) f8 (own_n32 (by have := own_fb_le u b x mm; omega)) (by have := own_fb_le u b x mm; omega) rfl d8_21 rfl ?_
  refine Go.iloadN C X146 (pc' := 23) d8_22 rfl rfl ?_
  by_cases c147 : (u (own_fb u b x mm)) = x
  · refine Go.icmpNo C X146 (pc' := 26) d8_23 (teq c147).2 rfl ?_
    refine Go.iinc C X146 (pc' := 29) (Ls' := #[.val (.ref a), .val (.int x), .val (.int ((Int32.ofNat (own_fb u b x mm)) + (1 : Int32)))]) (v' := ((Int32.ofNat (own_fb u b x mm)) + (1 : Int32))) d8_26 rfl rfl rfl rfl ?_
    rw [show ((Int32.ofNat (own_fb u b x mm)) + (1 : Int32)) = Int32.ofNat (own_nx u b x mm) from (own_add1 (by have := own_fb_le u b x mm; omega)).trans (congrArg Int32.ofNat (own_nxY c147).symm)]
    refine Go.aloadN C X146 (pc' := 30) d8_29 rfl rfl rfl ?_
    refine Go.iloadN C X146 (pc' := 31) d8_30 rfl rfl ?_
    refine Go.putF C X146 (pc' := 34) (host := "") (Or.inl (hw _ (List.mem_of_getElem? (i := 58) rfl))) Via.refl f2 f0 (Or.inl (hw _ (List.mem_of_getElem? (i := 59) rfl))) (hw _ (List.mem_of_getElem? (i := 7) rfl)) f4 (ty := .int) (by decide) rfl rfl d8_31 rfl (fun T148 h148 X148 W148 => ?_)
    have Fw148 := f2.same W148
    have K149 : Keep h0 h148 [a] := (Keep.refl h0 [a]).wr W148 (Or.inl (List.mem_of_getElem? (i := 0) rfl))
    have E150 := f0.wr W148
    have F151 := f1.other W148 (Or.inr (slot_ne (Or.inr (hw _ (List.mem_of_getElem? (i := 42) rfl))) (Or.inl (hw _ (List.mem_of_getElem? (i := 59) rfl))) (by decide) (t := (.object "com/example/needlewright/needlewright/Automaton")) (t' := .int) (by decide) (by decide)))
    have F152 := f3.other W148 (Or.inr (slot_ne (Or.inl (hw _ (List.mem_of_getElem? (i := 62) rfl))) (Or.inl (hw _ (List.mem_of_getElem? (i := 59) rfl))) (by decide) (t := .long) (t' := .int) (by decide) (by decide)))
    have E153 := f5.wr W148
    have F154 := f6.other W148 (Or.inl f10)
    have F155 := f7.other W148 (Or.inl f10)
    have A156 := f8.other W148 f11
    have A157 := f9.other W148 f12
    refine Go.aloadN C X148 (pc' := 35) d8_34 rfl rfl rfl ?_
    refine Go.dup C X148 (pc' := 36) d8_35 rfl rfl ?_
    refine Go.getF C X148 (pc' := 39) (host := "") (Or.inl (hw _ (List.mem_of_getElem? (i := 61) rfl))) Via.refl F152 d8_36 rfl (fun T158 X158 => ?_)
    refine Go.lconst C X158 (pc' := 40) (v := (1 : Int64)) d8_39 rfl rfl ?_
    refine Go.ladd C X158 (pc' := 41) d8_40 rfl ?_
    refine Go.putF C X158 (pc' := 44) (host := "") (Or.inl (hw _ (List.mem_of_getElem? (i := 61) rfl))) Via.refl F152 E150 (Or.inl (hw _ (List.mem_of_getElem? (i := 62) rfl))) (hw _ (List.mem_of_getElem? (i := 7) rfl)) f4 (ty := .long) (by decide) rfl rfl d8_41 rfl (fun T159 h159 X159 W159 => ?_)
    have Fw159 := F152.same W159
    have K160 : Keep h0 h159 [a] := K149.wr W159 (Or.inl (List.mem_of_getElem? (i := 0) rfl))
    have E161 := E150.wr W159
    have F162 := F151.other W159 (Or.inr (slot_ne (Or.inr (hw _ (List.mem_of_getElem? (i := 42) rfl))) (Or.inl (hw _ (List.mem_of_getElem? (i := 62) rfl))) (by decide) (t := (.object "com/example/needlewright/needlewright/Automaton")) (t' := .long) (by decide) (by decide)))
    have E163 := E153.wr W159
    have F164 := F154.other W159 (Or.inl f10)
    have F165 := F155.other W159 (Or.inl f10)
    have A166 := A156.other W159 f11
    have A167 := A157.other W159 f12
    have F168 := Fw148.other W159 (Or.inr (slot_ne (Or.inl (hw _ (List.mem_of_getElem? (i := 59) rfl))) (Or.inl (hw _ (List.mem_of_getElem? (i := 62) rfl))) (by decide) (t := .int) (t' := .long) (by decide) (by decide)))
    refine Go.iloadN C X159 (pc' := 45) d8_44 rfl rfl ?_
    refine Go.aloadN C X159 (pc' := 46) d8_45 rfl rfl rfl ?_
    refine Go.getF C X159 (pc' := 49) (host := "") (Or.inl (hw _ (List.mem_of_getElem? (i := 41) rfl))) Via.refl F162 d8_46 rfl (fun T169 X169 => ?_)
    refine Go.callV C X169 (pc' := 52) (W := 1) (argsL := []) (rest := [(.int (Int32.ofNat (own_nx u b x mm)))]) (a := au) (rm_len l Z a0 hw au t m1 u z h159 n0 X169.sz F164 A166 hz) E163 (notFace_of_selects (args := #[]) (mvT C.2.1 (hw _ (List.mem_of_getElem? (i := 30) rfl)))) (hw _ (List.mem_of_getElem? (i := 43) rfl)) (hw _ (List.mem_of_getElem? (i := 28) rfl)) (hw _ (List.mem_of_getElem? (i := 30) rfl)) (hw _ (List.mem_of_getElem? (i := 29) rfl)) (hw _ (List.mem_of_getElem? (i := 11) rfl)) (hw _ (List.mem_of_getElem? (i := 31) rfl)) (by decide) rfl rfl (lenOf own_pd0 rfl) rfl (Nat.le_of_eq rfl) (by decide) (by decide) (by decide) (by decide) d8_49 rfl (fun _ _ q => Nat.le_of_eq (congrArg Array.size q.2)) (fun T170 h170 v170 X170 P170 => ?_)
    obtain ⟨rfl, rfl⟩ := P170
    show Go p e below s n0 _ _ _ T170 (mkF m 52 #[.val (.ref a), .val (.int x), .val (.int (Int32.ofNat (own_nx u b x mm)))] [(.int (z - (1 : Int32))), (.int (Int32.ofNat (own_nx u b x mm)))])
    by_cases c171 : (Int32.ofNat (own_nx u b x mm)) = (z - (1 : Int32))
    · refine Go.icmpNo C X170 (pc' := 55) d8_52 (teq c171).2 rfl ?_
      refine Go.aloadN C X170 (pc' := 56) d8_55 rfl rfl rfl ?_
      refine Go.getF C X170 (pc' := 59) (host := "") (Or.inl (hw _ (List.mem_of_getElem? (i := 61) rfl))) Via.refl Fw159 d8_56 rfl (fun T172 X172 => ?_)
      refine Go.iloadN C X172 (pc' := 60) d8_59 rfl rfl ?_
      refine Go.i2l C X172 (pc' := 61) d8_60 rfl ?_
      refine Go.lsub C X172 (pc' := 62) d8_61 rfl ?_
      refine Go.goto C X172 (pc' := 68) d8_62 (by decide) (by decide) ?_
      exact Go.retL C X172 d8_68 ⟨(by rw [if_pos ((own_zm hz hm2 hm1 (by have := own_nx_le u b x mm; omega)).mp c171)]), K160, E161, F162, F168, Fw159⟩ (by decide) (by decide)
    · refine Go.icmpYes C X170 (pc' := 65) d8_52 (feq c171).2 (by decide) (by decide) ?_
      refine Go.ldc2 C X170 (pc' := 68) (hw _ (List.mem_of_getElem? (i := 63) rfl)) d8_65 rfl ?_
      exact Go.retL C X170 d8_68 ⟨(by rw [if_neg (fun q => c171 ((own_zm hz hm2 hm1 (by have := own_nx_le u b x mm; omega)).mpr q))]), K160, E161, F162, F168, Fw159⟩ (by decide) (by decide)
  · refine Go.icmpYes C X146 (pc' := 29) d8_23 (feq c147).2 (by decide) (by decide) ?_
    rw [show (Int32.ofNat (own_fb u b x mm)) = Int32.ofNat (own_nx u b x mm) from congrArg Int32.ofNat (own_nxN c147).symm]
    refine Go.aloadN C X146 (pc' := 30) d8_29 rfl rfl rfl ?_
    refine Go.iloadN C X146 (pc' := 31) d8_30 rfl rfl ?_
    refine Go.putF C X146 (pc' := 34) (host := "") (Or.inl (hw _ (List.mem_of_getElem? (i := 58) rfl))) Via.refl f2 f0 (Or.inl (hw _ (List.mem_of_getElem? (i := 59) rfl))) (hw _ (List.mem_of_getElem? (i := 7) rfl)) f4 (ty := .int) (by decide) rfl rfl d8_31 rfl (fun T173 h173 X173 W173 => ?_)
    have Fw173 := f2.same W173
    have K174 : Keep h0 h173 [a] := (Keep.refl h0 [a]).wr W173 (Or.inl (List.mem_of_getElem? (i := 0) rfl))
    have E175 := f0.wr W173
    have F176 := f1.other W173 (Or.inr (slot_ne (Or.inr (hw _ (List.mem_of_getElem? (i := 42) rfl))) (Or.inl (hw _ (List.mem_of_getElem? (i := 59) rfl))) (by decide) (t := (.object "com/example/needlewright/needlewright/Automaton")) (t' := .int) (by decide) (by decide)))
    have F177 := f3.other W173 (Or.inr (slot_ne (Or.inl (hw _ (List.mem_of_getElem? (i := 62) rfl))) (Or.inl (hw _ (List.mem_of_getElem? (i := 59) rfl))) (by decide) (t := .long) (t' := .int) (by decide) (by decide)))
    have E178 := f5.wr W173
    have F179 := f6.other W173 (Or.inl f10)
    have F180 := f7.other W173 (Or.inl f10)
    have A181 := f8.other W173 f11
    have A182 := f9.other W173 f12
    refine Go.aloadN C X173 (pc' := 35) d8_34 rfl rfl rfl ?_
    refine Go.dup C X173 (pc' := 36) d8_35 rfl rfl ?_
    refine Go.getF C X173 (pc' := 39) (host := "") (Or.inl (hw _ (List.mem_of_getElem? (i := 61) rfl))) Via.refl F177 d8_36 rfl (fun T183 X183 => ?_)
    refine Go.lconst C X183 (pc' := 40) (v := (1 : Int64)) d8_39 rfl rfl ?_
    refine Go.ladd C X183 (pc' := 41) d8_40 rfl ?_
    refine Go.putF C X183 (pc' := 44) (host := "") (Or.inl (hw _ (List.mem_of_getElem? (i := 61) rfl))) Via.refl F177 E175 (Or.inl (hw _ (List.mem_of_getElem? (i := 62) rfl))) (hw _ (List.mem_of_getElem? (i := 7) rfl)) f4 (ty := .long) (by decide) rfl rfl d8_41 rfl (fun T184 h184 X184 W184 => ?_)
    have Fw184 := F177.same W184
    have K185 : Keep h0 h184 [a] := K174.wr W184 (Or.inl (List.mem_of_getElem? (i := 0) rfl))
    have E186 := E175.wr W184
    have F187 := F176.other W184 (Or.inr (slot_ne (Or.inr (hw _ (List.mem_of_getElem? (i := 42) rfl))) (Or.inl (hw _ (List.mem_of_getElem? (i := 62) rfl))) (by decide) (t := (.object "com/example/needlewright/needlewright/Automaton")) (t' := .long) (by decide) (by decide)))
    have E188 := E178.wr W184
    have F189 := F179.other W184 (Or.inl f10)
    have F190 := F180.other W184 (Or.inl f10)
    have A191 := A181.other W184 f11
    have A192 := A182.other W184 f12
    have F193 := Fw173.other W184 (Or.inr (slot_ne (Or.inl (hw _ (List.mem_of_getElem? (i := 59) rfl))) (Or.inl (hw _ (List.mem_of_getElem? (i := 62) rfl))) (by decide) (t := .int) (t' := .long) (by decide) (by decide)))
    refine Go.iloadN C X184 (pc' := 45) d8_44 rfl rfl ?_
    refine Go.aloadN C X184 (pc' := 46) d8_45 rfl rfl rfl ?_
    refine Go.getF C X184 (pc' := 49) (host := "") (Or.inl (hw _ (List.mem_of_getElem? (i := 41) rfl))) Via.refl F187 d8_46 rfl (fun T194 X194 => ?_)
    refine Go.callV C X194 (pc' := 52) (W := 1) (argsL := []) (rest := [(.int (Int32.ofNat (own_nx u b x mm)))]) (a := au) (rm_len l Z a0 hw au t m1 u z h184 n0 X194.sz F189 A191 hz) E188 (notFace_of_selects (args := #[]) (mvT C.2.1 (hw _ (List.mem_of_getElem? (i := 30) rfl)))) (hw _ (List.mem_of_getElem? (i := 43) rfl)) (hw _ (List.mem_of_getElem? (i := 28) rfl)) (hw _ (List.mem_of_getElem? (i := 30) rfl)) (hw _ (List.mem_of_getElem? (i := 29) rfl)) (hw _ (List.mem_of_getElem? (i := 11) rfl)) (hw _ (List.mem_of_getElem? (i := 31) rfl)) (by decide) rfl rfl (lenOf own_pd0 rfl) rfl (Nat.le_of_eq rfl) (by decide) (by decide) (by decide) (by decide) d8_49 rfl (fun _ _ q => Nat.le_of_eq (congrArg Array.size q.2)) (fun T195 h195 v195 X195 P195 => ?_)
    obtain ⟨rfl, rfl⟩ := P195
    show Go p e below s n0 _ _ _ T195 (mkF m 52 #[.val (.ref a), .val (.int x), .val (.int (Int32.ofNat (own_nx u b x mm)))] [(.int (z - (1 : Int32))), (.int (Int32.ofNat (own_nx u b x mm)))])
    by_cases c196 : (Int32.ofNat (own_nx u b x mm)) = (z - (1 : Int32))
    · refine Go.icmpNo C X195 (pc' := 55) d8_52 (teq c196).2 rfl ?_
      refine Go.aloadN C X195 (pc' := 56) d8_55 rfl rfl rfl ?_
      refine Go.getF C X195 (pc' := 59) (host := "") (Or.inl (hw _ (List.mem_of_getElem? (i := 61) rfl))) Via.refl Fw184 d8_56 rfl (fun T197 X197 => ?_)
      refine Go.iloadN C X197 (pc' := 60) d8_59 rfl rfl ?_
      refine Go.i2l C X197 (pc' := 61) d8_60 rfl ?_
      refine Go.lsub C X197 (pc' := 62) d8_61 rfl ?_
      refine Go.goto C X197 (pc' := 68) d8_62 (by decide) (by decide) ?_
      exact Go.retL C X197 d8_68 ⟨(by rw [if_pos ((own_zm hz hm2 hm1 (by have := own_nx_le u b x mm; omega)).mp c196)]), K185, E186, F187, F193, Fw184⟩ (by decide) (by decide)
    · refine Go.icmpYes C X195 (pc' := 65) d8_52 (feq c196).2 (by decide) (by decide) ?_
      refine Go.ldc2 C X195 (pc' := 68) (hw _ (List.mem_of_getElem? (i := 63) rfl)) d8_65 rfl ?_
      exact Go.retL C X195 d8_68 ⟨(by rw [if_neg (fun q => c196 ((own_zm hz hm2 hm1 (by have := own_nx_le u b x mm; omega)).mpr q))]), K185, E186, F187, F193, Fw184⟩ (by decide) (by decide)
theorem own_ef_rm_fed (m : MethodId) (x0 : Addr) : entryFrame m #[(.ref x0)] 1 = mkF m 0 #[.val (.ref x0)] [] := by first | (simp [entryFrame, mkF, argsToLocals, Value.category]; done) | rfl
theorem d10_0 : decode prog_4_method_5_code 0 = .ok (.aload_n 0, 1) := by decide +kernel
theorem d10_1 : decode prog_4_method_5_code 1 = .ok (.getfield 46, 3) := by decide +kernel
theorem d10_4 : decode prog_4_method_5_code 4 = .ok (.lreturn, 1) := by decide +kernel
set_option maxRecDepth 65536 in
set_option maxHeartbeats 40000000 in
theorem rm_fed (l : Launch) (Z : State) (a0 : Array Value) (hw : ∀ d ∈ tables_1, d.before a0 Z = true) (a : Addr) (fd : Int64) (h0 : Heap) (n0 : Nat) (Z0 : n0 ≤ h0.size) (f0 : Fld Z h0 a "com/example/needlewright/needlewright/ByteMatcher" "fed" "J" (.long fd)) :
    Con l Z (⟨"com/example/needlewright/needlewright/ByteMatcher", "fed", "()J"⟩ : MethodName) prog_4_method_5_code 1 (some .long) ({ frames := 0, cells := 0, slots := 0, locals := 0 } : Room) #[(.ref a)] h0 n0 (fun rv hv => rv = some (.long fd) ∧ h0 = hv) := by
  refine Con.enter (plainFor_of_name own_pn1) Z0 ?_
  intro p e s m below meth c T0 C hnm X0
  refine Go.cast (own_ef_rm_fed m a) ?_
  refine Go.aloadN C X0 (pc' := 1) d10_0 rfl rfl rfl ?_
  refine Go.getF C X0 (pc' := 4) (host := "") (Or.inl (hw _ (List.mem_of_getElem? (i := 61) rfl))) Via.refl f0 d10_1 rfl (fun T198 X198 => ?_)
  exact Go.retL C X198 d10_4 ⟨rfl, rfl⟩ (by decide) (by decide)
theorem own_sp (x : Int32) : (x &&& (3 : Int32)).toInt = (((x &&& (3 : Int32)).toInt.toNat : Nat) : Int) := by
  rcases own_and3 x with q | q | q | q <;> rw [q] <;> decide
theorem own_pn2 : plainName "com/example/needlewright/needlewright/ByteMatcherFeedPinLaw" = true := by first | (simp [plainName, overriddenIn]; done) | decide +kernel
theorem own_ef_rm_pk (m : MethodId) (x0 : Int32) (x1 : Int32) (x2 : Addr) (x3 : Int32) (x4 : Int64) : entryFrame m #[(.int x0), (.int x1), (.ref x2), (.int x3), (.long x4)] 7 = mkF m 0 #[.val (.int x0), .val (.int x1), .val (.ref x2), .val (.int x3), .val (.long x4), .second, .unset] [] := by first | (simp [entryFrame, mkF, argsToLocals, Value.category]; done) | rfl
theorem d1_0 : decode method_3_code 0 = .ok (.iload_n 0, 1) := by decide +kernel
theorem d1_1 : decode method_3_code 1 = .ok (.iconst 2, 1) := by decide +kernel
theorem d1_2 : decode method_3_code 2 = .ok (.iload_n 1, 1) := by decide +kernel
theorem d1_3 : decode method_3_code 3 = .ok (.imul, 1) := by decide +kernel
theorem d1_4 : decode method_3_code 4 = .ok (.iushr, 1) := by decide +kernel
theorem d1_5 : decode method_3_code 5 = .ok (.iconst 3, 1) := by decide +kernel
theorem d1_6 : decode method_3_code 6 = .ok (.iand, 1) := by decide +kernel
theorem d1_7 : decode method_3_code 7 = .ok (.istore 6, 2) := by decide +kernel
theorem d1_9 : decode method_3_code 9 = .ok (.iload 6, 2) := by decide +kernel
theorem d1_11 : decode method_3_code 11 = .ok (.iload_n 3, 1) := by decide +kernel
theorem d1_12 : decode method_3_code 12 = .ok (.if_icmp .ge 8, 3) := by decide +kernel
theorem d1_15 : decode method_3_code 15 = .ok (.aload_n 2, 1) := by decide +kernel
theorem d1_16 : decode method_3_code 16 = .ok (.iload 6, 2) := by decide +kernel
theorem d1_18 : decode method_3_code 18 = .ok (.baload, 1) := by decide +kernel
theorem d1_19 : decode method_3_code 19 = .ok (.ireturn, 1) := by decide +kernel
theorem d1_20 : decode method_3_code 20 = .ok (.lload 4, 2) := by decide +kernel
theorem d1_22 : decode method_3_code 22 = .ok (.bipush 8, 2) := by decide +kernel
theorem d1_24 : decode method_3_code 24 = .ok (.iload_n 1, 1) := by decide +kernel
theorem d1_25 : decode method_3_code 25 = .ok (.imul, 1) := by decide +kernel
theorem d1_26 : decode method_3_code 26 = .ok (.lushr, 1) := by decide +kernel
theorem d1_27 : decode method_3_code 27 = .ok (.l2i, 1) := by decide +kernel
theorem d1_28 : decode method_3_code 28 = .ok (.i2b, 1) := by decide +kernel
theorem d1_29 : decode method_3_code 29 = .ok (.ireturn, 1) := by decide +kernel
set_option maxRecDepth 65536 in
set_option maxHeartbeats 40000000 in
theorem rm_pk (l : Launch) (Z : State) (a0 : Array Value) (hw : ∀ d ∈ tables_1, d.before a0 Z = true) (y0 : Int32) (y1 : Int32) (nd : Addr) (y3 : Int32) (y4 : Int64) (nf : Nat → Int32) (ll : Nat) (h0 : Heap) (n0 : Nat) (Z0 : n0 ≤ h0.size) (f0 : AI Z h0 nd .byte 3 nf) (hl : y3.toInt = (ll : Int)) (hl3 : ll ≤ 3) :
    Con l Z (⟨"com/example/needlewright/needlewright/ByteMatcherFeedPinLaw", "pick", "(II[BIJ)B"⟩ : MethodName) method_3_code 7 (some .byte) ({ frames := 0, cells := 0, slots := 0, locals := 0 } : Room) #[(.int y0), (.int y1), (.ref nd), (.int y3), (.long y4)] h0 n0 (fun rv hv => ∃ r : Int32, rv = some (.int r) ∧ Keep h0 hv [] ∧ (-128 ≤ (r).toInt ∧ (r).toInt ≤ 127)) := by
  refine Con.enter (plainFor_of_name own_pn2) Z0 ?_
  intro p e s m below meth c T0 C hnm X0
  refine Go.cast (own_ef_rm_pk m y0 y1 nd y3 y4) ?_
  refine Go.iloadN C X0 (pc' := 1) d1_0 rfl rfl ?_
  refine Go.iconst C X0 (pc' := 2) (v := (2 : Int32)) d1_1 rfl rfl ?_
  refine Go.iloadN C X0 (pc' := 3) d1_2 rfl rfl ?_
  refine Go.imul C X0 (pc' := 4) d1_3 rfl ?_
  refine Go.iushr C X0 (pc' := 5) d1_4 rfl ?_
  refine Go.iconst C X0 (pc' := 6) (v := (3 : Int32)) d1_5 rfl rfl ?_
  refine Go.iand C X0 (pc' := 7) d1_6 rfl ?_
  refine Go.istore C X0 (pc' := 9) (Ls' := #[.val (.int y0), .val (.int y1), .val (.ref nd), .val (.int y3), .val (.long y4), .second, .val (.int (((y0).toUInt32 >>> (((2 : Int32) * y1) &&& 31).toUInt32).toInt32 &&& (3 : Int32)))]) d1_7 rfl rfl ?_
  refine Go.iload C X0 (pc' := 11) d1_9 rfl rfl ?_
  refine Go.iloadN C X0 (pc' := 12) d1_11 rfl rfl ?_
  by_cases c199 : (((y0).toUInt32 >>> (((2 : Int32) * y1) &&& 31).toUInt32).toInt32 &&& (3 : Int32)) < y3
  · refine Go.icmpNo C X0 (pc' := 15) d1_12 (tlt c199).2.1 rfl ?_
    refine Go.aloadN C X0 (pc' := 16) d1_15 rfl rfl rfl ?_
    refine Go.iload C X0 (pc' := 18) d1_16 rfl rfl ?_
    refine Go.baload C X0 (pc' := 19) (i := (((y0).toUInt32 >>> (((2 : Int32) * y1) &&& 31).toUInt32).toInt32 &&& (3 : Int32)).toInt.toNat) (w := (nf (((y0).toUInt32 >>> (((2 : Int32) * y1) &&& 31).toUInt32).toInt32 &&& (3 : Int32)).toInt.toNat)) f0 (own_sp _) (by have := own_ilt.mp c199; rw [own_sp, hl] at this; omega) rfl d1_18 rfl ?_
    exact Go.retZ (t := .byte) C X0 (z' := ((nf (((y0).toUInt32 >>> (((2 : Int32) * y1) &&& 31).toUInt32).toInt32 &&& (3 : Int32)).toInt.toNat)).toInt8.toInt32) rfl d1_19 ⟨((nf (((y0).toUInt32 >>> (((2 : Int32) * y1) &&& 31).toUInt32).toInt32 &&& (3 : Int32)).toInt.toNat)).toInt8.toInt32, rfl, (Keep.refl h0 []), (own_i2b _)⟩ (by decide) (by decide)
  · refine Go.icmpYes C X0 (pc' := 20) d1_12 (flt c199).2.1 (by decide) (by decide) ?_
    refine Go.lload C X0 (pc' := 22) d1_20 rfl rfl ?_
    refine Go.bipush C X0 (pc' := 24) (v := (8 : Int32)) d1_22 rfl rfl ?_
    refine Go.iloadN C X0 (pc' := 25) d1_24 rfl rfl ?_
    refine Go.imul C X0 (pc' := 26) d1_25 rfl ?_
    refine Go.lushr C X0 (pc' := 27) d1_26 rfl ?_
    refine Go.l2i C X0 (pc' := 28) d1_27 rfl ?_
    refine Go.i2b C X0 (pc' := 29) d1_28 rfl ?_
    exact Go.retZ (t := .byte) C X0 (z' := (((((y4).toUInt64 >>> (((8 : Int32) * y1) &&& 0x3f).toInt64.toUInt64).toInt64).toInt32).toInt8.toInt32).toInt8.toInt32) rfl d1_29 ⟨(((((y4).toUInt64 >>> (((8 : Int32) * y1) &&& 0x3f).toInt64.toUInt64).toInt64).toInt32).toInt8.toInt32).toInt8.toInt32, rfl, (Keep.refl h0 []), (own_i2b _)⟩ (by decide) (by decide)
abbrev own_S (u tf : Nat → Int32) (k q : Nat) : Prop := q ≤ k ∧ ∀ j, j < q → tf (k - q + j) = u j
def own_M (u tf : Nat → Int32) (len k m : Nat) : Prop := m ≤ len ∧ own_S u tf k m ∧ ∀ q, q ≤ len → own_S u tf k q → q ≤ m
theorem own_S_zero (u tf : Nat → Int32) (k : Nat) : own_S u tf k 0 := ⟨Nat.zero_le _, fun j h => absurd h (Nat.not_lt_zero _)⟩
theorem own_S_of {u tf : Nat → Int32} {k m q : Nat} (h : own_S u tf k m) (hB : own_B u m q) : own_S u tf k q := by
  have a := h.1; have c := hB.1
  refine ⟨by omega, fun j hj => ?_⟩
  rw [show k - q + j = k - m + (m - q + j) by omega, h.2 _ (by omega)]; exact hB.2 j hj
theorem own_S_to {u tf : Nat → Int32} {k m q : Nat} (h : own_S u tf k m) (h2 : own_S u tf k q) (hq : q ≤ m) : own_B u m q := by
  have a := h.1; have c := h2.1
  refine ⟨hq, fun j hj => ?_⟩
  rw [← h.2 _ (by omega : m - q + j < m), show k - m + (m - q + j) = k - q + j by omega]; exact h2.2 j hj
theorem own_S_succ {u tf : Nat → Int32} {k q : Nat} (h : own_S u tf k q) (e : u q = tf k) : own_S u tf (k + 1) (q + 1) := by
  have a := h.1
  refine ⟨by omega, fun j hj => ?_⟩
  by_cases z : j = q
  · subst z; rw [show k + 1 - (j + 1) + j = k by omega]; exact e.symm
  · rw [show k + 1 - (q + 1) + j = k - q + j by omega]; exact h.2 j (by omega)
theorem own_S_pred {u tf : Nat → Int32} {k q : Nat} (h : own_S u tf (k + 1) (q + 1)) : own_S u tf k q ∧ u q = tf k := by
  have a := h.1
  refine ⟨⟨by omega, fun j hj => ?_⟩, ?_⟩
  · rw [← h.2 j (by omega)]; congr 1; omega
  · rw [← h.2 q (by omega)]; congr 1; omega
theorem own_M0 (u tf : Nat → Int32) (len : Nat) : own_M u tf len 0 0 := ⟨Nat.zero_le _, own_S_zero _ _ _, fun q _ h => h.1⟩
theorem own_Mstep {u tf : Nat → Int32} {b : Nat → Nat} {len k m : Nat} (hb : ∀ q, 1 ≤ q → q ≤ len → own_P u q (b q)) (hM : own_M u tf len k m) (hx : ¬ u len = tf k) : own_M u tf len (k + 1) (own_nx u b (tf k) m) := by
  have hF : own_F u m (tf k) (own_fb u b (tf k) m) := own_fb_spec (fun q a d => hb q a (by have := hM.1; omega))
  have hc := hF.1.1
  have hm := hM.1
  have low : ∀ q, q + 1 ≤ len → own_S u tf (k + 1) (q + 1) → q ≤ own_fb u b (tf k) m ∧ u q = tf k := fun q hq d => by
    obtain ⟨d1, d2⟩ := own_S_pred d
    have d3 := hM.2.2 q (by omega) d1
    exact ⟨Nat.le_of_not_lt fun z => hF.2.2 q z (own_S_to hM.2.1 d1 d3) d2, d2⟩
  by_cases h : u (own_fb u b (tf k) m) = tf k
  · rw [own_nxY h]
    have hne : own_fb u b (tf k) m ≠ len := fun e => hx (e ▸ h)
    refine ⟨by omega, own_S_succ (own_S_of hM.2.1 hF.1) h, fun q hq d => ?_⟩
    cases q with
    | zero => omega
    | succ q => exact Nat.succ_le_succ (low q hq d).1
  · rw [own_nxN h]
    have c0 := hF.2.1.resolve_right h
    rw [c0] at h low ⊢
    refine ⟨Nat.zero_le _, own_S_zero _ _ _, fun q hq d => ?_⟩
    cases q with
    | zero => omega
    | succ q =>
      obtain ⟨d1, d2⟩ := low q hq d
      obtain rfl : q = 0 := by omega
      exact absurd d2 h
theorem own_Mlen {u tf : Nat → Int32} {len k m : Nat} (hM : own_M u tf len k m) : m = len ↔ own_S u tf k len :=
  ⟨fun e => e ▸ hM.2.1, fun h => Nat.le_antisymm hM.1 (hM.2.2 len (Nat.le_refl _) h)⟩
theorem own_Sc {u v tf : Nat → Int32} {k q : Nat} (h : ∀ j, j < q → u j = v j) : own_S u tf k q ↔ own_S v tf k q :=
  ⟨fun d => ⟨d.1, fun j hj => (d.2 j hj).trans (h j hj)⟩, fun d => ⟨d.1, fun j hj => (d.2 j hj).trans (h j hj).symm⟩⟩
theorem own_e1 {k0 : Int32} {kk : Nat} (hk : k0.toInt = (kk : Int)) (h6 : kk ≤ 6) (hl : 1 ≤ kk) (d : Int32) (j : Nat) (hd : d.toInt = (j : Int)) (hj : j < 1) : ((k0 - (1 : Int32)) + d).toInt = ((kk - 1 + j : Nat) : Int) ∧ (k0 - (1 : Int32)).toInt = ((kk - 1 + 0 : Nat) : Int) := by
  have e : (1 : Int32).toInt = 1 := rfl
  have h1 : (k0 - (1 : Int32)).toInt = (kk : Int) - 1 := by rw [own_isub (by omega) (by omega), hk, e]
  exact ⟨by rw [own_iadd (by omega) (by omega), h1, hd]; omega, by rw [h1]; omega⟩
theorem own_mkS1 {u tf : Nat → Int32} {kk : Nat} (hl : 1 ≤ kk) (c0 : tf (kk - 1 + 0) = u 0) : own_S u tf kk 1 := ⟨hl, fun j hj => by
  rcases (by omega : j = 0) with q
  · subst q; exact c0⟩
theorem own_v1 {k0 : Int32} {kk : Nat} (hk : k0.toInt = (kk : Int)) (h6 : kk ≤ 6) (hl : 1 ≤ kk) : (k0 - (1 : Int32)).toInt64 = Int64.ofNat (kk - 1) := by
  have h := (own_e1 hk h6 hl 0 0 rfl (by decide)).2
  apply Int64.toInt_inj.mp
  rw [c_i2l, h, Int64.toInt_ofNat_of_lt (by omega)]; omega
theorem own_ef_rm_ex1 (m : MethodId) (x0 : Addr) (x1 : Int32) (x2 : Addr) (x3 : Int32) : entryFrame m #[(.ref x0), (.int x1), (.ref x2), (.int x3)] 5 = mkF m 0 #[.val (.ref x0), .val (.int x1), .val (.ref x2), .val (.int x3), .unset] [] := by first | (simp [entryFrame, mkF, argsToLocals, Value.category]; done) | rfl
theorem d9_0 : decode method_4_code 0 = .ok (.iload_n 1, 1) := by decide +kernel
theorem d9_1 : decode method_4_code 1 = .ok (.iload_n 3, 1) := by decide +kernel
theorem d9_2 : decode method_4_code 2 = .ok (.if_icmp .lt 7, 3) := by decide +kernel
theorem d9_9 : decode method_4_code 9 = .ok (.iconst 0, 1) := by decide +kernel
theorem d9_10 : decode method_4_code 10 = .ok (.istore 4, 2) := by decide +kernel
theorem d9_12 : decode method_4_code 12 = .ok (.iload 4, 2) := by decide +kernel
theorem d9_14 : decode method_4_code 14 = .ok (.ifCond .eq 21, 3) := by decide +kernel
theorem d9_35 : decode method_4_code 35 = .ok (.iload 4, 2) := by decide +kernel
theorem d9_37 : decode method_4_code 37 = .ok (.ifCond .eq 28, 3) := by decide +kernel
theorem d9_65 : decode method_4_code 65 = .ok (.iload 4, 2) := by decide +kernel
theorem d9_67 : decode method_4_code 67 = .ok (.ifCond .eq 28, 3) := by decide +kernel
theorem d9_95 : decode method_4_code 95 = .ok (.iload 4, 2) := by decide +kernel
theorem d9_97 : decode method_4_code 97 = .ok (.ifCond .eq 10, 3) := by decide +kernel
theorem d9_107 : decode method_4_code 107 = .ok (.ldc2_w 37, 3) := by decide +kernel
theorem d9_110 : decode method_4_code 110 = .ok (.lreturn, 1) := by decide +kernel
theorem d9_5 : decode method_4_code 5 = .ok (.iconst 1, 1) := by decide +kernel
theorem d9_6 : decode method_4_code 6 = .ok (.goto 4, 3) := by decide +kernel
theorem d9_17 : decode method_4_code 17 = .ok (.aload_n 0, 1) := by decide +kernel
theorem d9_18 : decode method_4_code 18 = .ok (.iload_n 1, 1) := by decide +kernel
theorem d9_19 : decode method_4_code 19 = .ok (.iload_n 3, 1) := by decide +kernel
theorem d9_20 : decode method_4_code 20 = .ok (.isub, 1) := by decide +kernel
theorem d9_21 : decode method_4_code 21 = .ok (.baload, 1) := by decide +kernel
theorem d9_22 : decode method_4_code 22 = .ok (.aload_n 2, 1) := by decide +kernel
theorem d9_23 : decode method_4_code 23 = .ok (.iconst 0, 1) := by decide +kernel
theorem d9_24 : decode method_4_code 24 = .ok (.baload, 1) := by decide +kernel
theorem d9_25 : decode method_4_code 25 = .ok (.if_icmp .ne 7, 3) := by decide +kernel
theorem d9_28 : decode method_4_code 28 = .ok (.iconst 1, 1) := by decide +kernel
theorem d9_29 : decode method_4_code 29 = .ok (.goto 4, 3) := by decide +kernel
theorem d9_33 : decode method_4_code 33 = .ok (.istore 4, 2) := by decide +kernel
theorem d9_40 : decode method_4_code 40 = .ok (.iload_n 3, 1) := by decide +kernel
theorem d9_41 : decode method_4_code 41 = .ok (.iconst 2, 1) := by decide +kernel
theorem d9_42 : decode method_4_code 42 = .ok (.if_icmp .lt 23, 3) := by decide +kernel
theorem d9_70 : decode method_4_code 70 = .ok (.iload_n 3, 1) := by decide +kernel
theorem d9_71 : decode method_4_code 71 = .ok (.iconst 3, 1) := by decide +kernel
theorem d9_72 : decode method_4_code 72 = .ok (.if_icmp .lt 23, 3) := by decide +kernel
theorem d9_100 : decode method_4_code 100 = .ok (.iload_n 1, 1) := by decide +kernel
theorem d9_101 : decode method_4_code 101 = .ok (.iload_n 3, 1) := by decide +kernel
theorem d9_102 : decode method_4_code 102 = .ok (.isub, 1) := by decide +kernel
theorem d9_103 : decode method_4_code 103 = .ok (.i2l, 1) := by decide +kernel
theorem d9_104 : decode method_4_code 104 = .ok (.goto 6, 3) := by decide +kernel
theorem d9_32 : decode method_4_code 32 = .ok (.iconst 0, 1) := by decide +kernel
set_option maxRecDepth 65536 in
set_option maxHeartbeats 40000000 in
theorem rm_ex1 (l : Launch) (Z : State) (a0 : Array Value) (hw : ∀ d ∈ tables_1, d.before a0 Z = true) (tt : Addr) (k0 : Int32) (nd : Addr) (lp : Int32) (tf : Nat → Int32) (nf : Nat → Int32) (kk : Nat) (h0 : Heap) (n0 : Nat) (Z0 : n0 ≤ h0.size) (f0 : AI Z h0 tt .byte 6 tf) (f1 : AI Z h0 nd .byte 3 nf) (hll : lp = (1 : Int32)) (hk : k0.toInt = (kk : Int)) (h6 : kk ≤ 6) :
    Con l Z (⟨"com/example/needlewright/needlewright/ByteMatcherFeedPinLaw", "expected", "([BI[BI)J"⟩ : MethodName) method_4_code 5 (some .long) ({ frames := 0, cells := 0, slots := 0, locals := 0 } : Room) #[(.ref tt), (.int k0), (.ref nd), (.int lp)] h0 n0 (fun rv hv => rv = some (.long (if own_S nf tf kk 1 then Int64.ofNat (kk - 1) else (-1 : Int64))) ∧ h0 = hv) := by
  refine Con.enter (plainFor_of_name own_pn2) Z0 ?_
  intro p e s m below meth c T0 C hnm X0
  refine Go.cast (own_ef_rm_ex1 m tt k0 nd lp) ?_
  subst hll
  refine Go.iloadN C X0 (pc' := 1) d9_0 rfl rfl ?_
  refine Go.iloadN C X0 (pc' := 2) d9_1 rfl rfl ?_
  by_cases c200 : k0 < (1 : Int32)
  · refine Go.icmpYes C X0 (pc' := 9) d9_2 (tlt c200).1 (by decide) (by decide) ?_
    refine Go.iconst C X0 (pc' := 10) (v := (0 : Int32)) d9_9 rfl rfl ?_
    refine Go.istore C X0 (pc' := 12) (Ls' := #[.val (.ref tt), .val (.int k0), .val (.ref nd), .val (.int (1 : Int32)), .val (.int (0 : Int32))]) d9_10 rfl rfl ?_
    refine Go.iload C X0 (pc' := 14) d9_12 rfl rfl ?_
    refine Go.ifYes C X0 (pc' := 35) d9_14 ((if0 _ _).trans (teq (by decide)).1) (by decide) (by decide) ?_
    refine Go.iload C X0 (pc' := 37) d9_35 rfl rfl ?_
    refine Go.ifYes C X0 (pc' := 65) d9_37 ((if0 _ _).trans (teq (by decide)).1) (by decide) (by decide) ?_
    refine Go.iload C X0 (pc' := 67) d9_65 rfl rfl ?_
    refine Go.ifYes C X0 (pc' := 95) d9_67 ((if0 _ _).trans (teq (by decide)).1) (by decide) (by decide) ?_
    refine Go.iload C X0 (pc' := 97) d9_95 rfl rfl ?_
    refine Go.ifYes C X0 (pc' := 107) d9_97 ((if0 _ _).trans (teq (by decide)).1) (by decide) (by decide) ?_
    refine Go.ldc2 C X0 (pc' := 110) (hw _ (List.mem_of_getElem? (i := 67) rfl)) d9_107 rfl ?_
    exact Go.retL C X0 d9_110 ⟨(by rw [if_neg (fun q => by have := own_ilt.mp c200; have e : (1 : Int32).toInt = 1 := rfl; rw [hk, e] at this; have := q.1; omega)]), rfl⟩ (by decide) (by decide)
  · refine Go.icmpNo C X0 (pc' := 5) d9_2 (flt c200).1 rfl ?_
    refine Go.iconst C X0 (pc' := 6) (v := (1 : Int32)) d9_5 rfl rfl ?_
    refine Go.goto C X0 (pc' := 10) d9_6 (by decide) (by decide) ?_
    refine Go.istore C X0 (pc' := 12) (Ls' := #[.val (.ref tt), .val (.int k0), .val (.ref nd), .val (.int (1 : Int32)), .val (.int (1 : Int32))]) d9_10 rfl rfl ?_
    refine Go.iload C X0 (pc' := 14) d9_12 rfl rfl ?_
    refine Go.ifNo C X0 (pc' := 17) d9_14 ((if0 _ _).trans (feq (by decide)).1) rfl ?_
    refine Go.aloadN C X0 (pc' := 18) d9_17 rfl rfl rfl ?_
    refine Go.iloadN C X0 (pc' := 19) d9_18 rfl rfl ?_
    refine Go.iloadN C X0 (pc' := 20) d9_19 rfl rfl ?_
    refine Go.isub C X0 (pc' := 21) d9_20 rfl ?_
    refine Go.baload C X0 (pc' := 22) (i := (kk - 1 + 0)) (w := (tf (kk - 1 + 0))) f0 (own_e1 hk h6 (by have := own_nilt c200; have e : (1 : Int32).toInt = 1 := rfl; rw [hk, e] at this; omega) 0 0 rfl (by decide)).2 (by have := (by have := own_nilt c200; have e : (1 : Int32).toInt = 1 := rfl; rw [hk, e] at this; omega); omega) rfl d9_21 rfl ?_
    refine Go.aloadN C X0 (pc' := 23) d9_22 rfl rfl rfl ?_
    refine Go.iconst C X0 (pc' := 24) (v := (0 : Int32)) d9_23 rfl rfl ?_
    refine Go.baload C X0 (pc' := 25) (i := 0) (w := (nf 0)) f1 rfl (by decide) rfl d9_24 rfl ?_
    by_cases c201 : (tf (kk - 1 + 0)) = (nf 0)
    · refine Go.icmpNo C X0 (pc' := 28) d9_25 (teq c201).2 rfl ?_
      refine Go.iconst C X0 (pc' := 29) (v := (1 : Int32)) d9_28 rfl rfl ?_
      refine Go.goto C X0 (pc' := 33) d9_29 (by decide) (by decide) ?_
      refine Go.istore C X0 (pc' := 35) (Ls' := #[.val (.ref tt), .val (.int k0), .val (.ref nd), .val (.int (1 : Int32)), .val (.int (1 : Int32))]) d9_33 rfl rfl ?_
      refine Go.iload C X0 (pc' := 37) d9_35 rfl rfl ?_
      refine Go.ifNo C X0 (pc' := 40) d9_37 ((if0 _ _).trans (feq (by decide)).1) rfl ?_
      refine Go.iloadN C X0 (pc' := 41) d9_40 rfl rfl ?_
      refine Go.iconst C X0 (pc' := 42) (v := (2 : Int32)) d9_41 rfl rfl ?_
      refine Go.icmpYes C X0 (pc' := 65) d9_42 (tlt (by decide)).1 (by decide) (by decide) ?_
      refine Go.iload C X0 (pc' := 67) d9_65 rfl rfl ?_
      refine Go.ifNo C X0 (pc' := 70) d9_67 ((if0 _ _).trans (feq (by decide)).1) rfl ?_
      refine Go.iloadN C X0 (pc' := 71) d9_70 rfl rfl ?_
      refine Go.iconst C X0 (pc' := 72) (v := (3 : Int32)) d9_71 rfl rfl ?_
      refine Go.icmpYes C X0 (pc' := 95) d9_72 (tlt (by decide)).1 (by decide) (by decide) ?_
      refine Go.iload C X0 (pc' := 97) d9_95 rfl rfl ?_
      refine Go.ifNo C X0 (pc' := 100) d9_97 ((if0 _ _).trans (feq (by decide)).1) rfl ?_
      refine Go.iloadN C X0 (pc' := 101) d9_100 rfl rfl ?_
      refine Go.iloadN C X0 (pc' := 102) d9_101 rfl rfl ?_
      refine Go.isub C X0 (pc' := 103) d9_102 rfl ?_
      refine Go.i2l C X0 (pc' := 104) d9_103 rfl ?_
      refine Go.goto C X0 (pc' := 110) d9_104 (by decide) (by decide) ?_
      exact Go.retL C X0 d9_110 ⟨(by rw [if_pos (own_mkS1 (by have := own_nilt c200; have e : (1 : Int32).toInt = 1 := rfl; rw [hk, e] at this; omega) c201), own_v1 hk h6 (by have := own_nilt c200; have e : (1 : Int32).toInt = 1 := rfl; rw [hk, e] at this; omega)]), rfl⟩ (by decide) (by decide)
    · refine Go.icmpYes C X0 (pc' := 32) d9_25 (feq c201).2 (by decide) (by decide) ?_
      refine Go.iconst C X0 (pc' := 33) (v := (0 : Int32)) d9_32 rfl rfl ?_
      refine Go.istore C X0 (pc' := 35) (Ls' := #[.val (.ref tt), .val (.int k0), .val (.ref nd), .val (.int (1 : Int32)), .val (.int (0 : Int32))]) d9_33 rfl rfl ?_
      refine Go.iload C X0 (pc' := 37) d9_35 rfl rfl ?_
      refine Go.ifYes C X0 (pc' := 65) d9_37 ((if0 _ _).trans (teq (by decide)).1) (by decide) (by decide) ?_
      refine Go.iload C X0 (pc' := 67) d9_65 rfl rfl ?_
      refine Go.ifYes C X0 (pc' := 95) d9_67 ((if0 _ _).trans (teq (by decide)).1) (by decide) (by decide) ?_
      refine Go.iload C X0 (pc' := 97) d9_95 rfl rfl ?_
      refine Go.ifYes C X0 (pc' := 107) d9_97 ((if0 _ _).trans (teq (by decide)).1) (by decide) (by decide) ?_
      refine Go.ldc2 C X0 (pc' := 110) (hw _ (List.mem_of_getElem? (i := 67) rfl)) d9_107 rfl ?_
      exact Go.retL C X0 d9_110 ⟨(by rw [if_neg (fun q => c201 (q.2 0 (by decide)))]), rfl⟩ (by decide) (by decide)
theorem own_e2 {k0 : Int32} {kk : Nat} (hk : k0.toInt = (kk : Int)) (h6 : kk ≤ 6) (hl : 2 ≤ kk) (d : Int32) (j : Nat) (hd : d.toInt = (j : Int)) (hj : j < 2) : ((k0 - (2 : Int32)) + d).toInt = ((kk - 2 + j : Nat) : Int) ∧ (k0 - (2 : Int32)).toInt = ((kk - 2 + 0 : Nat) : Int) := by
  have e : (2 : Int32).toInt = 2 := rfl
  have h1 : (k0 - (2 : Int32)).toInt = (kk : Int) - 2 := by rw [own_isub (by omega) (by omega), hk, e]
  exact ⟨by rw [own_iadd (by omega) (by omega), h1, hd]; omega, by rw [h1]; omega⟩
theorem own_mkS2 {u tf : Nat → Int32} {kk : Nat} (hl : 2 ≤ kk) (c0 : tf (kk - 2 + 0) = u 0) (c1 : tf (kk - 2 + 1) = u 1) : own_S u tf kk 2 := ⟨hl, fun j hj => by
  rcases (by omega : j = 0 ∨ j = 1) with q | q
  · subst q; exact c0
  · subst q; exact c1⟩
theorem own_v2 {k0 : Int32} {kk : Nat} (hk : k0.toInt = (kk : Int)) (h6 : kk ≤ 6) (hl : 2 ≤ kk) : (k0 - (2 : Int32)).toInt64 = Int64.ofNat (kk - 2) := by
  have h := (own_e2 hk h6 hl 0 0 rfl (by decide)).2
  apply Int64.toInt_inj.mp
  rw [c_i2l, h, Int64.toInt_ofNat_of_lt (by omega)]; omega
theorem own_ef_rm_ex2 (m : MethodId) (x0 : Addr) (x1 : Int32) (x2 : Addr) (x3 : Int32) : entryFrame m #[(.ref x0), (.int x1), (.ref x2), (.int x3)] 5 = mkF m 0 #[.val (.ref x0), .val (.int x1), .val (.ref x2), .val (.int x3), .unset] [] := by first | (simp [entryFrame, mkF, argsToLocals, Value.category]; done) | rfl
theorem d9_45 : decode method_4_code 45 = .ok (.aload_n 0, 1) := by decide +kernel
theorem d9_46 : decode method_4_code 46 = .ok (.iload_n 1, 1) := by decide +kernel
theorem d9_47 : decode method_4_code 47 = .ok (.iload_n 3, 1) := by decide +kernel
theorem d9_48 : decode method_4_code 48 = .ok (.isub, 1) := by decide +kernel
theorem d9_49 : decode method_4_code 49 = .ok (.iconst 1, 1) := by decide +kernel
theorem d9_50 : decode method_4_code 50 = .ok (.iadd, 1) := by decide +kernel
theorem d9_51 : decode method_4_code 51 = .ok (.baload, 1) := by decide +kernel
theorem d9_52 : decode method_4_code 52 = .ok (.aload_n 2, 1) := by decide +kernel
theorem d9_53 : decode method_4_code 53 = .ok (.iconst 1, 1) := by decide +kernel
theorem d9_54 : decode method_4_code 54 = .ok (.baload, 1) := by decide +kernel
theorem d9_55 : decode method_4_code 55 = .ok (.if_icmp .ne 7, 3) := by decide +kernel
theorem d9_58 : decode method_4_code 58 = .ok (.iconst 1, 1) := by decide +kernel
theorem d9_59 : decode method_4_code 59 = .ok (.goto 4, 3) := by decide +kernel
theorem d9_63 : decode method_4_code 63 = .ok (.istore 4, 2) := by decide +kernel
theorem d9_62 : decode method_4_code 62 = .ok (.iconst 0, 1) := by decide +kernel
set_option maxRecDepth 65536 in
set_option maxHeartbeats 40000000 in
theorem rm_ex2 (l : Launch) (Z : State) (a0 : Array Value) (hw : ∀ d ∈ tables_1, d.before a0 Z = true) (tt : Addr) (k0 : Int32) (nd : Addr) (lp : Int32) (tf : Nat → Int32) (nf : Nat → Int32) (kk : Nat) (h0 : Heap) (n0 : Nat) (Z0 : n0 ≤ h0.size) (f0 : AI Z h0 tt .byte 6 tf) (f1 : AI Z h0 nd .byte 3 nf) (hll : lp = (2 : Int32)) (hk : k0.toInt = (kk : Int)) (h6 : kk ≤ 6) :
    Con l Z (⟨"com/example/needlewright/needlewright/ByteMatcherFeedPinLaw", "expected", "([BI[BI)J"⟩ : MethodName) method_4_code 5 (some .long) ({ frames := 0, cells := 0, slots := 0, locals := 0 } : Room) #[(.ref tt), (.int k0), (.ref nd), (.int lp)] h0 n0 (fun rv hv => rv = some (.long (if own_S nf tf kk 2 then Int64.ofNat (kk - 2) else (-1 : Int64))) ∧ h0 = hv) := by
  refine Con.enter (plainFor_of_name own_pn2) Z0 ?_
  intro p e s m below meth c T0 C hnm X0
  refine Go.cast (own_ef_rm_ex2 m tt k0 nd lp) ?_
  subst hll
  refine Go.iloadN C X0 (pc' := 1) d9_0 rfl rfl ?_
  refine Go.iloadN C X0 (pc' := 2) d9_1 rfl rfl ?_
  by_cases c202 : k0 < (2 : Int32)
  · refine Go.icmpYes C X0 (pc' := 9) d9_2 (tlt c202).1 (by decide) (by decide) ?_
    refine Go.iconst C X0 (pc' := 10) (v := (0 : Int32)) d9_9 rfl rfl ?_
    refine Go.istore C X0 (pc' := 12) (Ls' := #[.val (.ref tt), .val (.int k0), .val (.ref nd), .val (.int (2 : Int32)), .val (.int (0 : Int32))]) d9_10 rfl rfl ?_
    refine Go.iload C X0 (pc' := 14) d9_12 rfl rfl ?_
    refine Go.ifYes C X0 (pc' := 35) d9_14 ((if0 _ _).trans (teq (by decide)).1) (by decide) (by decide) ?_
    refine Go.iload C X0 (pc' := 37) d9_35 rfl rfl ?_
    refine Go.ifYes C X0 (pc' := 65) d9_37 ((if0 _ _).trans (teq (by decide)).1) (by decide) (by decide) ?_
    refine Go.iload C X0 (pc' := 67) d9_65 rfl rfl ?_
    refine Go.ifYes C X0 (pc' := 95) d9_67 ((if0 _ _).trans (teq (by decide)).1) (by decide) (by decide) ?_
    refine Go.iload C X0 (pc' := 97) d9_95 rfl rfl ?_
    refine Go.ifYes C X0 (pc' := 107) d9_97 ((if0 _ _).trans (teq (by decide)).1) (by decide) (by decide) ?_
    refine Go.ldc2 C X0 (pc' := 110) (hw _ (List.mem_of_getElem? (i := 67) rfl)) d9_107 rfl ?_
    exact Go.retL C X0 d9_110 ⟨(by rw [if_neg (fun q => by have := own_ilt.mp c202; have e : (2 : Int32).toInt = 2 := rfl; rw [hk, e] at this; have := q.1; omega)]), rfl⟩ (by decide) (by decide)
  · refine Go.icmpNo C X0 (pc' := 5) d9_2 (flt c202).1 rfl ?_
    refine Go.iconst C X0 (pc' := 6) (v := (1 : Int32)) d9_5 rfl rfl ?_
    refine Go.goto C X0 (pc' := 10) d9_6 (by decide) (by decide) ?_
    refine Go.istore C X0 (pc' := 12) (Ls' := #[.val (.ref tt), .val (.int k0), .val (.ref nd), .val (.int (2 : Int32)), .val (.int (1 : Int32))]) d9_10 rfl rfl ?_
    refine Go.iload C X0 (pc' := 14) d9_12 rfl rfl ?_
    refine Go.ifNo C X0 (pc' := 17) d9_14 ((if0 _ _).trans (feq (by decide)).1) rfl ?_
    refine Go.aloadN C X0 (pc' := 18) d9_17 rfl rfl rfl ?_
    refine Go.iloadN C X0 (pc' := 19) d9_18 rfl rfl ?_
    refine Go.iloadN C X0 (pc' := 20) d9_19 rfl rfl ?_
    refine Go.isub C X0 (pc' := 21) d9_20 rfl ?_
    refine Go.baload C X0 (pc' := 22) (i := (kk - 2 + 0)) (w := (tf (kk - 2 + 0))) f0 (own_e2 hk h6 (by have := own_nilt c202; have e : (2 : Int32).toInt = 2 := rfl; rw [hk, e] at this; omega) 0 0 rfl (by decide)).2 (by have := (by have := own_nilt c202; have e : (2 : Int32).toInt = 2 := rfl; rw [hk, e] at this; omega); omega) rfl d9_21 rfl ?_
    refine Go.aloadN C X0 (pc' := 23) d9_22 rfl rfl rfl ?_
    refine Go.iconst C X0 (pc' := 24) (v := (0 : Int32)) d9_23 rfl rfl ?_
    refine Go.baload C X0 (pc' := 25) (i := 0) (w := (nf 0)) f1 rfl (by decide) rfl d9_24 rfl ?_
    by_cases c203 : (tf (kk - 2 + 0)) = (nf 0)
    · refine Go.icmpNo C X0 (pc' := 28) d9_25 (teq c203).2 rfl ?_
      refine Go.iconst C X0 (pc' := 29) (v := (1 : Int32)) d9_28 rfl rfl ?_
      refine Go.goto C X0 (pc' := 33) d9_29 (by decide) (by decide) ?_
      refine Go.istore C X0 (pc' := 35) (Ls' := #[.val (.ref tt), .val (.int k0), .val (.ref nd), .val (.int (2 : Int32)), .val (.int (1 : Int32))]) d9_33 rfl rfl ?_
      refine Go.iload C X0 (pc' := 37) d9_35 rfl rfl ?_
      refine Go.ifNo C X0 (pc' := 40) d9_37 ((if0 _ _).trans (feq (by decide)).1) rfl ?_
      refine Go.iloadN C X0 (pc' := 41) d9_40 rfl rfl ?_
      refine Go.iconst C X0 (pc' := 42) (v := (2 : Int32)) d9_41 rfl rfl ?_
      refine Go.icmpNo C X0 (pc' := 45) d9_42 (flt (by decide)).1 rfl ?_
      refine Go.aloadN C X0 (pc' := 46) d9_45 rfl rfl rfl ?_
      refine Go.iloadN C X0 (pc' := 47) d9_46 rfl rfl ?_
      refine Go.iloadN C X0 (pc' := 48) d9_47 rfl rfl ?_
      refine Go.isub C X0 (pc' := 49) d9_48 rfl ?_
      refine Go.iconst C X0 (pc' := 50) (v := (1 : Int32)) d9_49 rfl rfl ?_
      refine Go.iadd C X0 (pc' := 51) d9_50 rfl ?_
      refine Go.baload C X0 (pc' := 52) (i := (kk - 2 + 1)) (w := (tf (kk - 2 + 1))) f0 (own_e2 hk h6 (by have := own_nilt c202; have e : (2 : Int32).toInt = 2 := rfl; rw [hk, e] at this; omega) 1 1 rfl (by decide)).1 (by have := (by have := own_nilt c202; have e : (2 : Int32).toInt = 2 := rfl; rw [hk, e] at this; omega); omega) rfl d9_51 rfl ?_
      refine Go.aloadN C X0 (pc' := 53) d9_52 rfl rfl rfl ?_
      refine Go.iconst C X0 (pc' := 54) (v := (1 : Int32)) d9_53 rfl rfl ?_
      refine Go.baload C X0 (pc' := 55) (i := 1) (w := (nf 1)) f1 rfl (by decide) rfl d9_54 rfl ?_
      by_cases c204 : (tf (kk - 2 + 1)) = (nf 1)
      · refine Go.icmpNo C X0 (pc' := 58) d9_55 (teq c204).2 rfl ?_
        refine Go.iconst C X0 (pc' := 59) (v := (1 : Int32)) d9_58 rfl rfl ?_
        refine Go.goto C X0 (pc' := 63) d9_59 (by decide) (by decide) ?_
        refine Go.istore C X0 (pc' := 65) (Ls' := #[.val (.ref tt), .val (.int k0), .val (.ref nd), .val (.int (2 : Int32)), .val (.int (1 : Int32))]) d9_63 rfl rfl ?_
        refine Go.iload C X0 (pc' := 67) d9_65 rfl rfl ?_
        refine Go.ifNo C X0 (pc' := 70) d9_67 ((if0 _ _).trans (feq (by decide)).1) rfl ?_
        refine Go.iloadN C X0 (pc' := 71) d9_70 rfl rfl ?_
        refine Go.iconst C X0 (pc' := 72) (v := (3 : Int32)) d9_71 rfl rfl ?_
        refine Go.icmpYes C X0 (pc' := 95) d9_72 (tlt (by decide)).1 (by decide) (by decide) ?_
        refine Go.iload C X0 (pc' := 97) d9_95 rfl rfl ?_
        refine Go.ifNo C X0 (pc' := 100) d9_97 ((if0 _ _).trans (feq (by decide)).1) rfl ?_
        refine Go.iloadN C X0 (pc' := 101) d9_100 rfl rfl ?_
        refine Go.iloadN C X0 (pc' := 102) d9_101 rfl rfl ?_
        refine Go.isub C X0 (pc' := 103) d9_102 rfl ?_
        refine Go.i2l C X0 (pc' := 104) d9_103 rfl ?_
        refine Go.goto C X0 (pc' := 110) d9_104 (by decide) (by decide) ?_
        exact Go.retL C X0 d9_110 ⟨(by rw [if_pos (own_mkS2 (by have := own_nilt c202; have e : (2 : Int32).toInt = 2 := rfl; rw [hk, e] at this; omega) c203 c204), own_v2 hk h6 (by have := own_nilt c202; have e : (2 : Int32).toInt = 2 := rfl; rw [hk, e] at this; omega)]), rfl⟩ (by decide) (by decide)
      · refine Go.icmpYes C X0 (pc' := 62) d9_55 (feq c204).2 (by decide) (by decide) ?_
        refine Go.iconst C X0 (pc' := 63) (v := (0 : Int32)) d9_62 rfl rfl ?_
        refine Go.istore C X0 (pc' := 65) (Ls' := #[.val (.ref tt), .val (.int k0), .val (.ref nd), .val (.int (2 : Int32)), .val (.int (0 : Int32))]) d9_63 rfl rfl ?_
        refine Go.iload C X0 (pc' := 67) d9_65 rfl rfl ?_
        refine Go.ifYes C X0 (pc' := 95) d9_67 ((if0 _ _).trans (teq (by decide)).1) (by decide) (by decide) ?_
        refine Go.iload C X0 (pc' := 97) d9_95 rfl rfl ?_
        refine Go.ifYes C X0 (pc' := 107) d9_97 ((if0 _ _).trans (teq (by decide)).1) (by decide) (by decide) ?_
        refine Go.ldc2 C X0 (pc' := 110) (hw _ (List.mem_of_getElem? (i := 67) rfl)) d9_107 rfl ?_
        exact Go.retL C X0 d9_110 ⟨(by rw [if_neg (fun q => c204 (q.2 1 (by decide)))]), rfl⟩ (by decide) (by decide)
    · refine Go.icmpYes C X0 (pc' := 32) d9_25 (feq c203).2 (by decide) (by decide) ?_
      refine Go.iconst C X0 (pc' := 33) (v := (0 : Int32)) d9_32 rfl rfl ?_
      refine Go.istore C X0 (pc' := 35) (Ls' := #[.val (.ref tt), .val (.int k0), .val (.ref nd), .val (.int (2 : Int32)), .val (.int (0 : Int32))]) d9_33 rfl rfl ?_
      refine Go.iload C X0 (pc' := 37) d9_35 rfl rfl ?_
      refine Go.ifYes C X0 (pc' := 65) d9_37 ((if0 _ _).trans (teq (by decide)).1) (by decide) (by decide) ?_
      refine Go.iload C X0 (pc' := 67) d9_65 rfl rfl ?_
      refine Go.ifYes C X0 (pc' := 95) d9_67 ((if0 _ _).trans (teq (by decide)).1) (by decide) (by decide) ?_
      refine Go.iload C X0 (pc' := 97) d9_95 rfl rfl ?_
      refine Go.ifYes C X0 (pc' := 107) d9_97 ((if0 _ _).trans (teq (by decide)).1) (by decide) (by decide) ?_
      refine Go.ldc2 C X0 (pc' := 110) (hw _ (List.mem_of_getElem? (i := 67) rfl)) d9_107 rfl ?_
      exact Go.retL C X0 d9_110 ⟨(by rw [if_neg (fun q => c203 (q.2 0 (by decide)))]), rfl⟩ (by decide) (by decide)
theorem own_e3 {k0 : Int32} {kk : Nat} (hk : k0.toInt = (kk : Int)) (h6 : kk ≤ 6) (hl : 3 ≤ kk) (d : Int32) (j : Nat) (hd : d.toInt = (j : Int)) (hj : j < 3) : ((k0 - (3 : Int32)) + d).toInt = ((kk - 3 + j : Nat) : Int) ∧ (k0 - (3 : Int32)).toInt = ((kk - 3 + 0 : Nat) : Int) := by
  have e : (3 : Int32).toInt = 3 := rfl
  have h1 : (k0 - (3 : Int32)).toInt = (kk : Int) - 3 := by rw [own_isub (by omega) (by omega), hk, e]
  exact ⟨by rw [own_iadd (by omega) (by omega), h1, hd]; omega, by rw [h1]; omega⟩
theorem own_mkS3 {u tf : Nat → Int32} {kk : Nat} (hl : 3 ≤ kk) (c0 : tf (kk - 3 + 0) = u 0) (c1 : tf (kk - 3 + 1) = u 1) (c2 : tf (kk - 3 + 2) = u 2) : own_S u tf kk 3 := ⟨hl, fun j hj => by
  rcases (by omega : j = 0 ∨ j = 1 ∨ j = 2) with q | q | q
  · subst q; exact c0
  · subst q; exact c1
  · subst q; exact c2⟩
theorem own_v3 {k0 : Int32} {kk : Nat} (hk : k0.toInt = (kk : Int)) (h6 : kk ≤ 6) (hl : 3 ≤ kk) : (k0 - (3 : Int32)).toInt64 = Int64.ofNat (kk - 3) := by
  have h := (own_e3 hk h6 hl 0 0 rfl (by decide)).2
  apply Int64.toInt_inj.mp
  rw [c_i2l, h, Int64.toInt_ofNat_of_lt (by omega)]; omega
theorem own_ef_rm_ex3 (m : MethodId) (x0 : Addr) (x1 : Int32) (x2 : Addr) (x3 : Int32) : entryFrame m #[(.ref x0), (.int x1), (.ref x2), (.int x3)] 5 = mkF m 0 #[.val (.ref x0), .val (.int x1), .val (.ref x2), .val (.int x3), .unset] [] := by first | (simp [entryFrame, mkF, argsToLocals, Value.category]; done) | rfl
theorem d9_75 : decode method_4_code 75 = .ok (.aload_n 0, 1) := by decide +kernel
theorem d9_76 : decode method_4_code 76 = .ok (.iload_n 1, 1) := by decide +kernel
theorem d9_77 : decode method_4_code 77 = .ok (.iload_n 3, 1) := by decide +kernel
theorem d9_78 : decode method_4_code 78 = .ok (.isub, 1) := by decide +kernel
theorem d9_79 : decode method_4_code 79 = .ok (.iconst 2, 1) := by decide +kernel
theorem d9_80 : decode method_4_code 80 = .ok (.iadd, 1) := by decide +kernel
theorem d9_81 : decode method_4_code 81 = .ok (.baload, 1) := by decide +kernel
theorem d9_82 : decode method_4_code 82 = .ok (.aload_n 2, 1) := by decide +kernel
theorem d9_83 : decode method_4_code 83 = .ok (.iconst 2, 1) := by decide +kernel
theorem d9_84 : decode method_4_code 84 = .ok (.baload, 1) := by decide +kernel
theorem d9_85 : decode method_4_code 85 = .ok (.if_icmp .ne 7, 3) := by decide +kernel
theorem d9_88 : decode method_4_code 88 = .ok (.iconst 1, 1) := by decide +kernel
theorem d9_89 : decode method_4_code 89 = .ok (.goto 4, 3) := by decide +kernel
theorem d9_93 : decode method_4_code 93 = .ok (.istore 4, 2) := by decide +kernel
theorem d9_92 : decode method_4_code 92 = .ok (.iconst 0, 1) := by decide +kernel
set_option maxRecDepth 65536 in
set_option maxHeartbeats 40000000 in
theorem rm_ex3 (l : Launch) (Z : State) (a0 : Array Value) (hw : ∀ d ∈ tables_1, d.before a0 Z = true) (tt : Addr) (k0 : Int32) (nd : Addr) (lp : Int32) (tf : Nat → Int32) (nf : Nat → Int32) (kk : Nat) (h0 : Heap) (n0 : Nat) (Z0 : n0 ≤ h0.size) (f0 : AI Z h0 tt .byte 6 tf) (f1 : AI Z h0 nd .byte 3 nf) (hll : lp = (3 : Int32)) (hk : k0.toInt = (kk : Int)) (h6 : kk ≤ 6) :
    Con l Z (⟨"com/example/needlewright/needlewright/ByteMatcherFeedPinLaw", "expected", "([BI[BI)J"⟩ : MethodName) method_4_code 5 (some .long) ({ frames := 0, cells := 0, slots := 0, locals := 0 } : Room) #[(.ref tt), (.int k0), (.ref nd), (.int lp)] h0 n0 (fun rv hv => rv = some (.long (if own_S nf tf kk 3 then Int64.ofNat (kk - 3) else (-1 : Int64))) ∧ h0 = hv) := by
  refine Con.enter (plainFor_of_name own_pn2) Z0 ?_
  intro p e s m below meth c T0 C hnm X0
  refine Go.cast (own_ef_rm_ex3 m tt k0 nd lp) ?_
  subst hll
  refine Go.iloadN C X0 (pc' := 1) d9_0 rfl rfl ?_
  refine Go.iloadN C X0 (pc' := 2) d9_1 rfl rfl ?_
  by_cases c205 : k0 < (3 : Int32)
  · refine Go.icmpYes C X0 (pc' := 9) d9_2 (tlt c205).1 (by decide) (by decide) ?_
    refine Go.iconst C X0 (pc' := 10) (v := (0 : Int32)) d9_9 rfl rfl ?_
    refine Go.istore C X0 (pc' := 12) (Ls' := #[.val (.ref tt), .val (.int k0), .val (.ref nd), .val (.int (3 : Int32)), .val (.int (0 : Int32))]) d9_10 rfl rfl ?_
    refine Go.iload C X0 (pc' := 14) d9_12 rfl rfl ?_
    refine Go.ifYes C X0 (pc' := 35) d9_14 ((if0 _ _).trans (teq (by decide)).1) (by decide) (by decide) ?_
    refine Go.iload C X0 (pc' := 37) d9_35 rfl rfl ?_
    refine Go.ifYes C X0 (pc' := 65) d9_37 ((if0 _ _).trans (teq (by decide)).1) (by decide) (by decide) ?_
    refine Go.iload C X0 (pc' := 67) d9_65 rfl rfl ?_
    refine Go.ifYes C X0 (pc' := 95) d9_67 ((if0 _ _).trans (teq (by decide)).1) (by decide) (by decide) ?_
    refine Go.iload C X0 (pc' := 97) d9_95 rfl rfl ?_
    refine Go.ifYes C X0 (pc' := 107) d9_97 ((if0 _ _).trans (teq (by decide)).1) (by decide) (by decide) ?_
    refine Go.ldc2 C X0 (pc' := 110) (hw _ (List.mem_of_getElem? (i := 67) rfl)) d9_107 rfl ?_
    exact Go.retL C X0 d9_110 ⟨(by rw [if_neg (fun q => by have := own_ilt.mp c205; have e : (3 : Int32).toInt = 3 := rfl; rw [hk, e] at this; have := q.1; omega)]), rfl⟩ (by decide) (by decide)
  · refine Go.icmpNo C X0 (pc' := 5) d9_2 (flt c205).1 rfl ?_
    refine Go.iconst C X0 (pc' := 6) (v := (1 : Int32)) d9_5 rfl rfl ?_
    refine Go.goto C X0 (pc' := 10) d9_6 (by decide) (by decide) ?_
    refine Go.istore C X0 (pc' := 12) (Ls' := #[.val (.ref tt), .val (.int k0), .val (.ref nd), .val (.int (3 : Int32)), .val (.int (1 : Int32))]) d9_10 rfl rfl ?_
    refine Go.iload C X0 (pc' := 14) d9_12 rfl rfl ?_
    refine Go.ifNo C X0 (pc' := 17) d9_14 ((if0 _ _).trans (feq (by decide)).1) rfl ?_
    refine Go.aloadN C X0 (pc' := 18) d9_17 rfl rfl rfl ?_
    refine Go.iloadN C X0 (pc' := 19) d9_18 rfl rfl ?_
    refine Go.iloadN C X0 (pc' := 20) d9_19 rfl rfl ?_
    refine Go.isub C X0 (pc' := 21) d9_20 rfl ?_
    refine Go.baload C X0 (pc' := 22) (i := (kk - 3 + 0)) (w := (tf (kk - 3 + 0))) f0 (own_e3 hk h6 (by have := own_nilt c205; have e : (3 : Int32).toInt = 3 := rfl; rw [hk, e] at this; omega) 0 0 rfl (by decide)).2 (by have := (by have := own_nilt c205; have e : (3 : Int32).toInt = 3 := rfl; rw [hk, e] at this; omega); omega) rfl d9_21 rfl ?_
    refine Go.aloadN C X0 (pc' := 23) d9_22 rfl rfl rfl ?_
    refine Go.iconst C X0 (pc' := 24) (v := (0 : Int32)) d9_23 rfl rfl ?_
    refine Go.baload C X0 (pc' := 25) (i := 0) (w := (nf 0)) f1 rfl (by decide) rfl d9_24 rfl ?_
    by_cases c206 : (tf (kk - 3 + 0)) = (nf 0)
    · refine Go.icmpNo C X0 (pc' := 28) d9_25 (teq c206).2 rfl ?_
      refine Go.iconst C X0 (pc' := 29) (v := (1 : Int32)) d9_28 rfl rfl ?_
      refine Go.goto C X0 (pc' := 33) d9_29 (by decide) (by decide) ?_
      refine Go.istore C X0 (pc' := 35) (Ls' := #[.val (.ref tt), .val (.int k0), .val (.ref nd), .val (.int (3 : Int32)), .val (.int (1 : Int32))]) d9_33 rfl rfl ?_
      refine Go.iload C X0 (pc' := 37) d9_35 rfl rfl ?_
      refine Go.ifNo C X0 (pc' := 40) d9_37 ((if0 _ _).trans (feq (by decide)).1) rfl ?_
      refine Go.iloadN C X0 (pc' := 41) d9_40 rfl rfl ?_
      refine Go.iconst C X0 (pc' := 42) (v := (2 : Int32)) d9_41 rfl rfl ?_
      refine Go.icmpNo C X0 (pc' := 45) d9_42 (flt (by decide)).1 rfl ?_
      refine Go.aloadN C X0 (pc' := 46) d9_45 rfl rfl rfl ?_
      refine Go.iloadN C X0 (pc' := 47) d9_46 rfl rfl ?_
      refine Go.iloadN C X0 (pc' := 48) d9_47 rfl rfl ?_
      refine Go.isub C X0 (pc' := 49) d9_48 rfl ?_
      refine Go.iconst C X0 (pc' := 50) (v := (1 : Int32)) d9_49 rfl rfl ?_
      refine Go.iadd C X0 (pc' := 51) d9_50 rfl ?_
      refine Go.baload C X0 (pc' := 52) (i := (kk - 3 + 1)) (w := (tf (kk - 3 + 1))) f0 (own_e3 hk h6 (by have := own_nilt c205; have e : (3 : Int32).toInt = 3 := rfl; rw [hk, e] at this; omega) 1 1 rfl (by decide)).1 (by have := (by have := own_nilt c205; have e : (3 : Int32).toInt = 3 := rfl; rw [hk, e] at this; omega); omega) rfl d9_51 rfl ?_
      refine Go.aloadN C X0 (pc' := 53) d9_52 rfl rfl rfl ?_
      refine Go.iconst C X0 (pc' := 54) (v := (1 : Int32)) d9_53 rfl rfl ?_
      refine Go.baload C X0 (pc' := 55) (i := 1) (w := (nf 1)) f1 rfl (by decide) rfl d9_54 rfl ?_
      by_cases c207 : (tf (kk - 3 + 1)) = (nf 1)
      · refine Go.icmpNo C X0 (pc' := 58) d9_55 (teq c207).2 rfl ?_
        refine Go.iconst C X0 (pc' := 59) (v := (1 : Int32)) d9_58 rfl rfl ?_
        refine Go.goto C X0 (pc' := 63) d9_59 (by decide) (by decide) ?_
        refine Go.istore C X0 (pc' := 65) (Ls' := #[.val (.ref tt), .val (.int k0), .val (.ref nd), .val (.int (3 : Int32)), .val (.int (1 : Int32))]) d9_63 rfl rfl ?_
        refine Go.iload C X0 (pc' := 67) d9_65 rfl rfl ?_
        refine Go.ifNo C X0 (pc' := 70) d9_67 ((if0 _ _).trans (feq (by decide)).1) rfl ?_
        refine Go.iloadN C X0 (pc' := 71) d9_70 rfl rfl ?_
        refine Go.iconst C X0 (pc' := 72) (v := (3 : Int32)) d9_71 rfl rfl ?_
        refine Go.icmpNo C X0 (pc' := 75) d9_72 (flt (by decide)).1 rfl ?_
        refine Go.aloadN C X0 (pc' := 76) d9_75 rfl rfl rfl ?_
        refine Go.iloadN C X0 (pc' := 77) d9_76 rfl rfl ?_
        refine Go.iloadN C X0 (pc' := 78) d9_77 rfl rfl ?_
        refine Go.isub C X0 (pc' := 79) d9_78 rfl ?_
        refine Go.iconst C X0 (pc' := 80) (v := (2 : Int32)) d9_79 rfl rfl ?_
        refine Go.iadd C X0 (pc' := 81) d9_80 rfl ?_
        refine Go.baload C X0 (pc' := 82) (i := (kk - 3 + 2)) (w := (tf (kk - 3 + 2))) f0 (own_e3 hk h6 (by have := own_nilt c205; have e : (3 : Int32).toInt = 3 := rfl; rw [hk, e] at this; omega) 2 2 rfl (by decide)).1 (by have := (by have := own_nilt c205; have e : (3 : Int32).toInt = 3 := rfl; rw [hk, e] at this; omega); omega) rfl d9_81 rfl ?_
        refine Go.aloadN C X0 (pc' := 83) d9_82 rfl rfl rfl ?_
        refine Go.iconst C X0 (pc' := 84) (v := (2 : Int32)) d9_83 rfl rfl ?_
        refine Go.baload C X0 (pc' := 85) (i := 2) (w := (nf 2)) f1 rfl (by decide) rfl d9_84 rfl ?_
        by_cases c208 : (tf (kk - 3 + 2)) = (nf 2)
        · refine Go.icmpNo C X0 (pc' := 88) d9_85 (teq c208).2 rfl ?_
          refine Go.iconst C X0 (pc' := 89) (v := (1 : Int32)) d9_88 rfl rfl ?_
          refine Go.goto C X0 (pc' := 93) d9_89 (by decide) (by decide) ?_
          refine Go.istore C X0 (pc' := 95) (Ls' := #[.val (.ref tt), .val (.int k0), .val (.ref nd), .val (.int (3 : Int32)), .val (.int (1 : Int32))]) d9_93 rfl rfl ?_
          refine Go.iload C X0 (pc' := 97) d9_95 rfl rfl ?_
          refine Go.ifNo C X0 (pc' := 100) d9_97 ((if0 _ _).trans (feq (by decide)).1) rfl ?_
          refine Go.iloadN C X0 (pc' := 101) d9_100 rfl rfl ?_
          refine Go.iloadN C X0 (pc' := 102) d9_101 rfl rfl ?_
          refine Go.isub C X0 (pc' := 103) d9_102 rfl ?_
          refine Go.i2l C X0 (pc' := 104) d9_103 rfl ?_
          refine Go.goto C X0 (pc' := 110) d9_104 (by decide) (by decide) ?_
          exact Go.retL C X0 d9_110 ⟨(by rw [if_pos (own_mkS3 (by have := own_nilt c205; have e : (3 : Int32).toInt = 3 := rfl; rw [hk, e] at this; omega) c206 c207 c208), own_v3 hk h6 (by have := own_nilt c205; have e : (3 : Int32).toInt = 3 := rfl; rw [hk, e] at this; omega)]), rfl⟩ (by decide) (by decide)
        · refine Go.icmpYes C X0 (pc' := 92) d9_85 (feq c208).2 (by decide) (by decide) ?_
          refine Go.iconst C X0 (pc' := 93) (v := (0 : Int32)) d9_92 rfl rfl ?_
          refine Go.istore C X0 (pc' := 95) (Ls' := #[.val (.ref tt), .val (.int k0), .val (.ref nd), .val (.int (3 : Int32)), .val (.int (0 : Int32))]) d9_93 rfl rfl ?_
          refine Go.iload C X0 (pc' := 97) d9_95 rfl rfl ?_
          refine Go.ifYes C X0 (pc' := 107) d9_97 ((if0 _ _).trans (teq (by decide)).1) (by decide) (by decide) ?_
          refine Go.ldc2 C X0 (pc' := 110) (hw _ (List.mem_of_getElem? (i := 67) rfl)) d9_107 rfl ?_
          exact Go.retL C X0 d9_110 ⟨(by rw [if_neg (fun q => c208 (q.2 2 (by decide)))]), rfl⟩ (by decide) (by decide)
      · refine Go.icmpYes C X0 (pc' := 62) d9_55 (feq c207).2 (by decide) (by decide) ?_
        refine Go.iconst C X0 (pc' := 63) (v := (0 : Int32)) d9_62 rfl rfl ?_
        refine Go.istore C X0 (pc' := 65) (Ls' := #[.val (.ref tt), .val (.int k0), .val (.ref nd), .val (.int (3 : Int32)), .val (.int (0 : Int32))]) d9_63 rfl rfl ?_
        refine Go.iload C X0 (pc' := 67) d9_65 rfl rfl ?_
        refine Go.ifYes C X0 (pc' := 95) d9_67 ((if0 _ _).trans (teq (by decide)).1) (by decide) (by decide) ?_
        refine Go.iload C X0 (pc' := 97) d9_95 rfl rfl ?_
        refine Go.ifYes C X0 (pc' := 107) d9_97 ((if0 _ _).trans (teq (by decide)).1) (by decide) (by decide) ?_
        refine Go.ldc2 C X0 (pc' := 110) (hw _ (List.mem_of_getElem? (i := 67) rfl)) d9_107 rfl ?_
        exact Go.retL C X0 d9_110 ⟨(by rw [if_neg (fun q => c207 (q.2 1 (by decide)))]), rfl⟩ (by decide) (by decide)
    · refine Go.icmpYes C X0 (pc' := 32) d9_25 (feq c206).2 (by decide) (by decide) ?_
      refine Go.iconst C X0 (pc' := 33) (v := (0 : Int32)) d9_32 rfl rfl ?_
      refine Go.istore C X0 (pc' := 35) (Ls' := #[.val (.ref tt), .val (.int k0), .val (.ref nd), .val (.int (3 : Int32)), .val (.int (0 : Int32))]) d9_33 rfl rfl ?_
      refine Go.iload C X0 (pc' := 37) d9_35 rfl rfl ?_
      refine Go.ifYes C X0 (pc' := 65) d9_37 ((if0 _ _).trans (teq (by decide)).1) (by decide) (by decide) ?_
      refine Go.iload C X0 (pc' := 67) d9_65 rfl rfl ?_
      refine Go.ifYes C X0 (pc' := 95) d9_67 ((if0 _ _).trans (teq (by decide)).1) (by decide) (by decide) ?_
      refine Go.iload C X0 (pc' := 97) d9_95 rfl rfl ?_
      refine Go.ifYes C X0 (pc' := 107) d9_97 ((if0 _ _).trans (teq (by decide)).1) (by decide) (by decide) ?_
      refine Go.ldc2 C X0 (pc' := 110) (hw _ (List.mem_of_getElem? (i := 67) rfl)) d9_107 rfl ?_
      exact Go.retL C X0 d9_110 ⟨(by rw [if_neg (fun q => c206 (q.2 0 (by decide)))]), rfl⟩ (by decide) (by decide)
theorem own_ag1 (nf : Nat → Int32) : (∀ q, q < 1 → (fun q => if q = (2 - 1) then (-2147483648 : Int32) else (fun q => if q = 0 then (nf 0) else (fun _ => 0) q) q) q = nf q) ∧ (fun q => if q = (2 - 1) then (-2147483648 : Int32) else (fun q => if q = 0 then (nf 0) else (fun _ => 0) q) q) 1 = (-2147483648 : Int32) := ⟨fun q hq => by
  rcases (by omega : q = 0) with h <;> subst h <;> rfl, rfl⟩
theorem own_ag2 (nf : Nat → Int32) : (∀ q, q < 2 → (fun q => if q = (3 - 1) then (-2147483648 : Int32) else (fun q => if q = 1 then (nf 1) else (fun q => if q = 0 then (nf 0) else (fun _ => 0) q) q) q) q = nf q) ∧ (fun q => if q = (3 - 1) then (-2147483648 : Int32) else (fun q => if q = 1 then (nf 1) else (fun q => if q = 0 then (nf 0) else (fun _ => 0) q) q) q) 2 = (-2147483648 : Int32) := ⟨fun q hq => by
  rcases (by omega : q = 0 ∨ q = 1) with h | h <;> subst h <;> rfl, rfl⟩
theorem own_ag3 (nf : Nat → Int32) : (∀ q, q < 3 → (fun q => if q = (4 - 1) then (-2147483648 : Int32) else (fun q => if q = 2 then (nf 2) else (fun q => if q = 1 then (nf 1) else (fun q => if q = 0 then (nf 0) else (fun _ => 0) q) q) q) q) q = nf q) ∧ (fun q => if q = (4 - 1) then (-2147483648 : Int32) else (fun q => if q = 2 then (nf 2) else (fun q => if q = 1 then (nf 1) else (fun q => if q = 0 then (nf 0) else (fun _ => 0) q) q) q) q) 3 = (-2147483648 : Int32) := ⟨fun q hq => by
  rcases (by omega : q = 0 ∨ q = 1 ∨ q = 2) with h | h | h <;> subst h <;> rfl, rfl⟩
theorem own_notmin {x : Int32} (h : -128 ≤ x.toInt ∧ x.toInt ≤ 127) {y : Int32} (hy : y = (-2147483648 : Int32)) : ¬ y = x := fun q => by
  have e : (-2147483648 : Int32).toInt = -2147483648 := rfl
  rw [← q, hy, e] at h; omega
theorem own_ans {u v tf : Nat → Int32} {L k m : Nat} {F : Int64} (hM : own_M u tf L k m) (hL : L < 100) (hag : ∀ j, j < L → u j = v j) (hF : F.toInt = (k : Int)) (hk : k < 100) : (if m = (L + 1) - 1 then (F - (Int32.ofNat m).toInt64) else (-1 : Int64)) = (if own_S v tf k L then Int64.ofNat (k - L) else (-1 : Int64)) := by
  rw [Nat.add_sub_cancel]
  by_cases h : m = L
  · have hS := (own_Mlen hM).mp h
    rw [if_pos h, if_pos ((own_Sc hag).mp hS)]
    have h1 := hS.1
    have hmm := own_n32 (n := m) (by omega)
    apply Int64.toInt_inj.mp
    rw [own_lsub (by rw [hF, c_i2l, hmm]; omega) (by rw [hF, c_i2l, hmm]; omega), hF, c_i2l, hmm, Int64.toInt_ofNat_of_lt (by omega)]; omega
  · rw [if_neg h, if_neg (fun q => h ((own_Mlen hM).mpr ((own_Sc hag).mpr q)))]
theorem own_ef_rm0 (m : MethodId) (x0 : Int64) (x1 : Int32) (x2 : Int64) (x3 : Int32) : entryFrame m #[(.long x0), (.int x1), (.long x2), (.int x3)] maxLocals = mkF m 0 #[.val (.long x0), .second, .val (.int x1), .val (.long x2), .second, .val (.int x3), .unset, .unset, .unset, .unset, .unset, .unset, .unset] [] := by first | (simp [entryFrame, mkF, argsToLocals, Value.category, maxLocals]; done) | rfl
theorem own_pd3 : parseMethodDescriptor "(II[BIJ)B" = some ⟨[.int, .int, (.array .byte), .int, .long], some .byte⟩ := by decide +kernel
theorem own_pd4 : parseMethodDescriptor "([I)V" = some ⟨[(.array .int)], none⟩ := by decide +kernel
theorem own_pd5 : parseMethodDescriptor "(Lcom/example/needlewright/needlewright/Automaton;)V" = some ⟨[(.object "com/example/needlewright/needlewright/Automaton")], none⟩ := by decide +kernel
theorem own_pd6 : parseMethodDescriptor "(B)J" = some ⟨[.byte], some .long⟩ := by decide +kernel
theorem own_pd7 : parseMethodDescriptor "([BI[BI)J" = some ⟨[(.array .byte), .int, (.array .byte), .int], some .long⟩ := by decide +kernel
theorem own_pd8 : parseMethodDescriptor "()J" = some ⟨[], some .long⟩ := by decide +kernel
set_option maxRecDepth 65536 in
set_option maxHeartbeats 40000000 in
theorem rm0 (l : Launch) (Z : State) (a0 : Array Value) (hw : ∀ d ∈ tables_1, d.before a0 Z = true) (x0 : Int64) (x1 : Int32) (x2 : Int64) (x3 : Int32) (h0 : Heap) (n0 : Nat) (Z0 : n0 ≤ h0.size)  :
    Con l Z x code maxLocals ret room_1 #[(.long x0), (.int x1), (.long x2), (.int x3)] h0 n0 (fun rv hv => rv = some (.int 1)) := by
  refine Con.enter (plainFor_of_name own_pn2) Z0 ?_
  intro p e s m below meth c T0 C hnm X0
  refine Go.cast (own_ef_rm0 m x0 x1 x2 x3) ?_
  refine Go.iloadN C X0 (pc' := 1) at_0 rfl rfl ?_
  refine Go.iconst C X0 (pc' := 2) (v := (3 : Int32)) at_1 rfl rfl ?_
  refine Go.iand C X0 (pc' := 3) at_2 rfl ?_
  refine Go.istore C X0 (pc' := 5) (Ls' := #[.val (.long x0), .second, .val (.int x1), .val (.long x2), .second, .val (.int x3), .val (.int (x1 &&& (3 : Int32))), .unset, .unset, .unset, .unset, .unset, .unset]) at_3 rfl rfl ?_
  rcases own_and3 x1 with q209 | q209 | q209 | q209
  · rw [q209]
    refine Go.iload C X0 (pc' := 7) at_5 rfl rfl ?_
    refine Go.ifNo C X0 (pc' := 10) at_7 ((if0 _ _).trans (teq (by decide)).2) rfl ?_
    refine Go.iconst C X0 (pc' := 11) (v := (3 : Int32)) at_10 rfl rfl ?_
    refine Go.goto C X0 (pc' := 16) at_11 (by decide) (by decide) ?_
    refine Go.istore C X0 (pc' := 18) (Ls' := #[.val (.long x0), .second, .val (.int x1), .val (.long x2), .second, .val (.int x3), .val (.int (0 : Int32)), .val (.int (3 : Int32)), .unset, .unset, .unset, .unset, .unset]) at_16 rfl rfl ?_
    refine Go.iconst C X0 (pc' := 19) (v := (3 : Int32)) at_18 rfl rfl ?_
    refine Go.newP C X0 (pc' := 21) (nn := 3) (cap := 3) (hw _ (List.mem_of_getElem? (i := 0) rfl)) at_19 rfl (by decide) (by decide) (by decide) (by decide) rfl (fun T210 h210 b210 k210 X210 g210 E210 Ar210 N210 => ?_)
    have A210 : AI Z h210 b210 .byte 3 (fun _ => 0) := AI.new rfl rfl Ar210
    refine Go.astore C X210 (pc' := 23) (Ls' := #[.val (.long x0), .second, .val (.int x1), .val (.long x2), .second, .val (.int x3), .val (.int (0 : Int32)), .val (.int (3 : Int32)), .val (.ref b210), .unset, .unset, .unset, .unset]) at_21 rfl rfl rfl ?_
    refine Go.aload C X210 (pc' := 25) at_23 rfl rfl rfl ?_
    refine Go.iconst C X210 (pc' := 26) (v := (0 : Int32)) at_25 rfl rfl ?_
    refine Go.lloadN C X210 (pc' := 27) at_26 rfl rfl ?_
    refine Go.l2i C X210 (pc' := 28) at_27 rfl ?_
    refine Go.i2b C X210 (pc' := 29) at_28 rfl ?_
    refine Go.bastore C X210 (pc' := 30) (i := 0) (x' := ((x0).toInt32).toInt8.toInt32) A210 rfl (by decide) (own_b2 _) N210 at_29 rfl (fun T211 h211 X211 W211 A211 => ?_)
    refine Go.aload C X211 (pc' := 32) at_30 rfl rfl rfl ?_
    refine Go.iconst C X211 (pc' := 33) (v := (1 : Int32)) at_32 rfl rfl ?_
    refine Go.lloadN C X211 (pc' := 34) at_33 rfl rfl ?_
    refine Go.bipush C X211 (pc' := 36) (v := (8 : Int32)) at_34 rfl rfl ?_
    refine Go.lushr C X211 (pc' := 37) at_36 rfl ?_
    refine Go.l2i C X211 (pc' := 38) at_37 rfl ?_
    refine Go.i2b C X211 (pc' := 39) at_38 rfl ?_
    refine Go.bastore C X211 (pc' := 40) (i := 1) (x' := ((((x0).toUInt64 >>> ((8 : Int32) &&& 0x3f).toInt64.toUInt64).toInt64).toInt32).toInt8.toInt32) A211 rfl (by decide) (own_b2 _) N210 at_39 rfl (fun T212 h212 X212 W212 A212 => ?_)
    refine Go.aload C X212 (pc' := 42) at_40 rfl rfl rfl ?_
    refine Go.iconst C X212 (pc' := 43) (v := (2 : Int32)) at_42 rfl rfl ?_
    refine Go.lloadN C X212 (pc' := 44) at_43 rfl rfl ?_
    refine Go.bipush C X212 (pc' := 46) (v := (16 : Int32)) at_44 rfl rfl ?_
    refine Go.lushr C X212 (pc' := 47) at_46 rfl ?_
    refine Go.l2i C X212 (pc' := 48) at_47 rfl ?_
    refine Go.i2b C X212 (pc' := 49) at_48 rfl ?_
    refine Go.bastore C X212 (pc' := 50) (i := 2) (x' := ((((x0).toUInt64 >>> ((16 : Int32) &&& 0x3f).toInt64.toUInt64).toInt64).toInt32).toInt8.toInt32) A212 rfl (by decide) (own_b2 _) N210 at_49 rfl (fun T213 h213 X213 W213 A213 => ?_)
    obtain ⟨nf, hnf, A50⟩ : ∃ f : Nat → Int32, (∀ q, -128 ≤ (f q).toInt ∧ (f q).toInt ≤ 127) ∧ AI Z h213 b210 .byte 3 f := ⟨_, (own_upd (R := fun z => -128 ≤ z.toInt ∧ z.toInt ≤ 127) (own_upd (R := fun z => -128 ≤ z.toInt ∧ z.toInt ≤ 127) (own_upd (R := fun z => -128 ≤ z.toInt ∧ z.toInt ≤ 127) (fun _ => by decide) (own_i2b _)) (own_i2b _)) (own_i2b _)), A213⟩
    refine Go.iload C X213 (pc' := 52) at_50 rfl rfl ?_
    refine Go.iconst C X213 (pc' := 53) (v := (1 : Int32)) at_52 rfl rfl ?_
    refine Go.icmpYes C X213 (pc' := 62) at_53 (feq (by decide)).2 (by decide) (by decide) ?_
    refine Go.iload C X213 (pc' := 64) at_62 rfl rfl ?_
    refine Go.iconst C X213 (pc' := 65) (v := (2 : Int32)) at_64 rfl rfl ?_
    refine Go.icmpYes C X213 (pc' := 74) at_65 (feq (by decide)).2 (by decide) (by decide) ?_
    refine Go.iconst C X213 (pc' := 75) (v := (4 : Int32)) at_74 rfl rfl ?_
    refine Go.newP C X213 (pc' := 77) (nn := 4) (cap := 4) (hw _ (List.mem_of_getElem? (i := 1) rfl)) at_75 rfl (by decide) (by decide) (by decide) (by decide) rfl (fun T214 h214 b214 k214 X214 g214 E214 Ar214 N214 => ?_)
    have ne_b210_b214 : b210 ≠ b214 := Nat.ne_of_lt (Nat.lt_of_lt_of_eq A50.lt g214.symm)
    have A215 := A50.ext E214
    have A214 : AI Z h214 b214 .int 4 (fun _ => 0) := AI.new rfl rfl Ar214
    refine Go.astore C X214 (pc' := 79) (Ls' := #[.val (.long x0), .second, .val (.int x1), .val (.long x2), .second, .val (.int x3), .val (.int (0 : Int32)), .val (.int (3 : Int32)), .val (.ref b210), .val (.ref b214), .unset, .unset, .unset]) at_77 rfl rfl rfl ?_
    refine Go.aload C X214 (pc' := 81) at_79 rfl rfl rfl ?_
    refine Go.iconst C X214 (pc' := 82) (v := (0 : Int32)) at_81 rfl rfl ?_
    refine Go.aload C X214 (pc' := 84) at_82 rfl rfl rfl ?_
    refine Go.iconst C X214 (pc' := 85) (v := (0 : Int32)) at_84 rfl rfl ?_
    refine Go.baload C X214 (pc' := 86) (i := 0) (w := (nf 0)) A215 rfl (by decide) rfl at_85 rfl ?_
    refine Go.iastore C X214 (pc' := 87) (i := 0) (x' := (nf 0)) A214 rfl (by decide) rfl N214 at_86 rfl (fun T216 h216 X216 W216 A216 => ?_)
    have A217 := A215.other W216 ne_b210_b214
    refine Go.iload C X216 (pc' := 89) at_87 rfl rfl ?_
    refine Go.iconst C X216 (pc' := 90) (v := (2 : Int32)) at_89 rfl rfl ?_
    refine Go.icmpNo C X216 (pc' := 93) at_90 (flt (by decide)).1 rfl ?_
    refine Go.aload C X216 (pc' := 95) at_93 rfl rfl rfl ?_
    refine Go.iconst C X216 (pc' := 96) (v := (1 : Int32)) at_95 rfl rfl ?_
    refine Go.aload C X216 (pc' := 98) at_96 rfl rfl rfl ?_
    refine Go.iconst C X216 (pc' := 99) (v := (1 : Int32)) at_98 rfl rfl ?_
    refine Go.baload C X216 (pc' := 100) (i := 1) (w := (nf 1)) A217 rfl (by decide) rfl at_99 rfl ?_
    refine Go.iastore C X216 (pc' := 101) (i := 1) (x' := (nf 1)) A216 rfl (by decide) rfl N214 at_100 rfl (fun T218 h218 X218 W218 A218 => ?_)
    have A219 := A217.other W218 ne_b210_b214
    refine Go.iload C X218 (pc' := 103) at_101 rfl rfl ?_
    refine Go.iconst C X218 (pc' := 104) (v := (3 : Int32)) at_103 rfl rfl ?_
    refine Go.icmpNo C X218 (pc' := 107) at_104 (flt (by decide)).1 rfl ?_
    refine Go.aload C X218 (pc' := 109) at_107 rfl rfl rfl ?_
    refine Go.iconst C X218 (pc' := 110) (v := (2 : Int32)) at_109 rfl rfl ?_
    refine Go.aload C X218 (pc' := 112) at_110 rfl rfl rfl ?_
    refine Go.iconst C X218 (pc' := 113) (v := (2 : Int32)) at_112 rfl rfl ?_
    refine Go.baload C X218 (pc' := 114) (i := 2) (w := (nf 2)) A219 rfl (by decide) rfl at_113 rfl ?_
    refine Go.iastore C X218 (pc' := 115) (i := 2) (x' := (nf 2)) A218 rfl (by decide) rfl N214 at_114 rfl (fun T220 h220 X220 W220 A220 => ?_)
    have A221 := A219.other W220 ne_b210_b214
    refine Go.bipush C X220 (pc' := 117) (v := (6 : Int32)) at_115 rfl rfl ?_
    refine Go.newP C X220 (pc' := 119) (nn := 6) (cap := 6) (hw _ (List.mem_of_getElem? (i := 0) rfl)) at_117 rfl (by decide) (by decide) (by decide) (by decide) rfl (fun T222 h222 b222 k222 X222 g222 E222 Ar222 N222 => ?_)
    have ne_b210_b222 : b210 ≠ b222 := Nat.ne_of_lt (Nat.lt_of_lt_of_eq A221.lt g222.symm)
    have ne_b214_b222 : b214 ≠ b222 := Nat.ne_of_lt (Nat.lt_of_lt_of_eq A220.lt g222.symm)
    have A223 := A221.ext E222
    have A224 := A220.ext E222
    have A222 : AI Z h222 b222 .byte 6 (fun _ => 0) := AI.new rfl rfl Ar222
    refine Go.astore C X222 (pc' := 121) (Ls' := #[.val (.long x0), .second, .val (.int x1), .val (.long x2), .second, .val (.int x3), .val (.int (0 : Int32)), .val (.int (3 : Int32)), .val (.ref b210), .val (.ref b214), .val (.ref b222), .unset, .unset]) at_119 rfl rfl rfl ?_
    refine Go.aload C X222 (pc' := 123) at_121 rfl rfl rfl ?_
    refine Go.iconst C X222 (pc' := 124) (v := (0 : Int32)) at_123 rfl rfl ?_
    refine Go.iload C X222 (pc' := 126) at_124 rfl rfl ?_
    refine Go.iconst C X222 (pc' := 127) (v := (0 : Int32)) at_126 rfl rfl ?_
    refine Go.aload C X222 (pc' := 129) at_127 rfl rfl rfl ?_
    refine Go.iload C X222 (pc' := 131) at_129 rfl rfl ?_
    refine Go.lloadN C X222 (pc' := 132) at_131 rfl rfl ?_
    refine Go.callS C X222 (pc' := 135) (W := 2) (argsL := [(.int x3), (.int (0 : Int32)), (.ref b210), (.int (3 : Int32)), (.long x2)]) (rest := [(.int (0 : Int32)), (.ref b222)]) (rm_pk l Z a0 hw x3 (0 : Int32) b210 (3 : Int32) x2 nf 3 h222 n0 X222.sz A223 rfl (by decide)) (hw _ (List.mem_of_getElem? (i := 2) rfl)) (hw _ (List.mem_of_getElem? (i := 3) rfl)) (hw _ (List.mem_of_getElem? (i := 4) rfl)) (hw _ (List.mem_of_getElem? (i := 5) rfl)) (by decide) rfl rfl (lenOf own_pd3 rfl) rfl (Nat.le_of_eq rfl) (by decide) (by decide) (by decide) (by decide) at_132 rfl (fun _ _ q => by obtain ⟨_, _, K, _⟩ := q; exact K.1) (fun T225 h225 v225 X225 P225 => ?_)
    obtain ⟨r225, rfl, K225, Y225_0⟩ := P225
    have A226 := A223.keep K225 nin0
    have A227 := A224.keep K225 nin0
    have A228 := A222.keep K225 nin0
    show Go p e below s n0 _ _ _ T225 (mkF m 135 #[.val (.long x0), .second, .val (.int x1), .val (.long x2), .second, .val (.int x3), .val (.int (0 : Int32)), .val (.int (3 : Int32)), .val (.ref b210), .val (.ref b214), .val (.ref b222), .unset, .unset] [(.int r225), (.int (0 : Int32)), (.ref b222)])
    refine Go.bastore C X225 (pc' := 136) (i := 0) (x' := (nar .byte r225)) A228 rfl (by decide) rfl N222 at_135 rfl (fun T229 h229 X229 W229 A229 => ?_)
    have A230 := A226.other W229 ne_b210_b222
    have A231 := A227.other W229 ne_b214_b222
    refine Go.aload C X229 (pc' := 138) at_136 rfl rfl rfl ?_
    refine Go.iconst C X229 (pc' := 139) (v := (1 : Int32)) at_138 rfl rfl ?_
    refine Go.iload C X229 (pc' := 141) at_139 rfl rfl ?_
    refine Go.iconst C X229 (pc' := 142) (v := (1 : Int32)) at_141 rfl rfl ?_
    refine Go.aload C X229 (pc' := 144) at_142 rfl rfl rfl ?_
    refine Go.iload C X229 (pc' := 146) at_144 rfl rfl ?_
    refine Go.lloadN C X229 (pc' := 147) at_146 rfl rfl ?_
    refine Go.callS C X229 (pc' := 150) (W := 2) (argsL := [(.int x3), (.int (1 : Int32)), (.ref b210), (.int (3 : Int32)), (.long x2)]) (rest := [(.int (1 : Int32)), (.ref b222)]) (rm_pk l Z a0 hw x3 (1 : Int32) b210 (3 : Int32) x2 nf 3 h229 n0 X229.sz A230 rfl (by decide)) (hw _ (List.mem_of_getElem? (i := 2) rfl)) (hw _ (List.mem_of_getElem? (i := 3) rfl)) (hw _ (List.mem_of_getElem? (i := 4) rfl)) (hw _ (List.mem_of_getElem? (i := 5) rfl)) (by decide) rfl rfl (lenOf own_pd3 rfl) rfl (Nat.le_of_eq rfl) (by decide) (by decide) (by decide) (by decide) at_147 rfl (fun _ _ q => by obtain ⟨_, _, K, _⟩ := q; exact K.1) (fun T232 h232 v232 X232 P232 => ?_)
    obtain ⟨r232, rfl, K232, Y232_0⟩ := P232
    have A233 := A230.keep K232 nin0
    have A234 := A231.keep K232 nin0
    have A235 := A229.keep K232 nin0
    show Go p e below s n0 _ _ _ T232 (mkF m 150 #[.val (.long x0), .second, .val (.int x1), .val (.long x2), .second, .val (.int x3), .val (.int (0 : Int32)), .val (.int (3 : Int32)), .val (.ref b210), .val (.ref b214), .val (.ref b222), .unset, .unset] [(.int r232), (.int (1 : Int32)), (.ref b222)])
    refine Go.bastore C X232 (pc' := 151) (i := 1) (x' := (nar .byte r232)) A235 rfl (by decide) rfl N222 at_150 rfl (fun T236 h236 X236 W236 A236 => ?_)
    have A237 := A233.other W236 ne_b210_b222
    have A238 := A234.other W236 ne_b214_b222
    refine Go.aload C X236 (pc' := 153) at_151 rfl rfl rfl ?_
    refine Go.iconst C X236 (pc' := 154) (v := (2 : Int32)) at_153 rfl rfl ?_
    refine Go.iload C X236 (pc' := 156) at_154 rfl rfl ?_
    refine Go.iconst C X236 (pc' := 157) (v := (2 : Int32)) at_156 rfl rfl ?_
    refine Go.aload C X236 (pc' := 159) at_157 rfl rfl rfl ?_
    refine Go.iload C X236 (pc' := 161) at_159 rfl rfl ?_
    refine Go.lloadN C X236 (pc' := 162) at_161 rfl rfl ?_
    refine Go.callS C X236 (pc' := 165) (W := 2) (argsL := [(.int x3), (.int (2 : Int32)), (.ref b210), (.int (3 : Int32)), (.long x2)]) (rest := [(.int (2 : Int32)), (.ref b222)]) (rm_pk l Z a0 hw x3 (2 : Int32) b210 (3 : Int32) x2 nf 3 h236 n0 X236.sz A237 rfl (by decide)) (hw _ (List.mem_of_getElem? (i := 2) rfl)) (hw _ (List.mem_of_getElem? (i := 3) rfl)) (hw _ (List.mem_of_getElem? (i := 4) rfl)) (hw _ (List.mem_of_getElem? (i := 5) rfl)) (by decide) rfl rfl (lenOf own_pd3 rfl) rfl (Nat.le_of_eq rfl) (by decide) (by decide) (by decide) (by decide) at_162 rfl (fun _ _ q => by obtain ⟨_, _, K, _⟩ := q; exact K.1) (fun T239 h239 v239 X239 P239 => ?_)
    obtain ⟨r239, rfl, K239, Y239_0⟩ := P239
    have A240 := A237.keep K239 nin0
    have A241 := A238.keep K239 nin0
    have A242 := A236.keep K239 nin0
    show Go p e below s n0 _ _ _ T239 (mkF m 165 #[.val (.long x0), .second, .val (.int x1), .val (.long x2), .second, .val (.int x3), .val (.int (0 : Int32)), .val (.int (3 : Int32)), .val (.ref b210), .val (.ref b214), .val (.ref b222), .unset, .unset] [(.int r239), (.int (2 : Int32)), (.ref b222)])
    refine Go.bastore C X239 (pc' := 166) (i := 2) (x' := (nar .byte r239)) A242 rfl (by decide) rfl N222 at_165 rfl (fun T243 h243 X243 W243 A243 => ?_)
    have A244 := A240.other W243 ne_b210_b222
    have A245 := A241.other W243 ne_b214_b222
    refine Go.aload C X243 (pc' := 168) at_166 rfl rfl rfl ?_
    refine Go.iconst C X243 (pc' := 169) (v := (3 : Int32)) at_168 rfl rfl ?_
    refine Go.iload C X243 (pc' := 171) at_169 rfl rfl ?_
    refine Go.iconst C X243 (pc' := 172) (v := (3 : Int32)) at_171 rfl rfl ?_
    refine Go.aload C X243 (pc' := 174) at_172 rfl rfl rfl ?_
    refine Go.iload C X243 (pc' := 176) at_174 rfl rfl ?_
    refine Go.lloadN C X243 (pc' := 177) at_176 rfl rfl ?_
    refine Go.callS C X243 (pc' := 180) (W := 2) (argsL := [(.int x3), (.int (3 : Int32)), (.ref b210), (.int (3 : Int32)), (.long x2)]) (rest := [(.int (3 : Int32)), (.ref b222)]) (rm_pk l Z a0 hw x3 (3 : Int32) b210 (3 : Int32) x2 nf 3 h243 n0 X243.sz A244 rfl (by decide)) (hw _ (List.mem_of_getElem? (i := 2) rfl)) (hw _ (List.mem_of_getElem? (i := 3) rfl)) (hw _ (List.mem_of_getElem? (i := 4) rfl)) (hw _ (List.mem_of_getElem? (i := 5) rfl)) (by decide) rfl rfl (lenOf own_pd3 rfl) rfl (Nat.le_of_eq rfl) (by decide) (by decide) (by decide) (by decide) at_177 rfl (fun _ _ q => by obtain ⟨_, _, K, _⟩ := q; exact K.1) (fun T246 h246 v246 X246 P246 => ?_)
    obtain ⟨r246, rfl, K246, Y246_0⟩ := P246
    have A247 := A244.keep K246 nin0
    have A248 := A245.keep K246 nin0
    have A249 := A243.keep K246 nin0
    show Go p e below s n0 _ _ _ T246 (mkF m 180 #[.val (.long x0), .second, .val (.int x1), .val (.long x2), .second, .val (.int x3), .val (.int (0 : Int32)), .val (.int (3 : Int32)), .val (.ref b210), .val (.ref b214), .val (.ref b222), .unset, .unset] [(.int r246), (.int (3 : Int32)), (.ref b222)])
    refine Go.bastore C X246 (pc' := 181) (i := 3) (x' := (nar .byte r246)) A249 rfl (by decide) rfl N222 at_180 rfl (fun T250 h250 X250 W250 A250 => ?_)
    have A251 := A247.other W250 ne_b210_b222
    have A252 := A248.other W250 ne_b214_b222
    refine Go.aload C X250 (pc' := 183) at_181 rfl rfl rfl ?_
    refine Go.iconst C X250 (pc' := 184) (v := (4 : Int32)) at_183 rfl rfl ?_
    refine Go.iload C X250 (pc' := 186) at_184 rfl rfl ?_
    refine Go.iconst C X250 (pc' := 187) (v := (4 : Int32)) at_186 rfl rfl ?_
    refine Go.aload C X250 (pc' := 189) at_187 rfl rfl rfl ?_
    refine Go.iload C X250 (pc' := 191) at_189 rfl rfl ?_
    refine Go.lloadN C X250 (pc' := 192) at_191 rfl rfl ?_
    refine Go.callS C X250 (pc' := 195) (W := 2) (argsL := [(.int x3), (.int (4 : Int32)), (.ref b210), (.int (3 : Int32)), (.long x2)]) (rest := [(.int (4 : Int32)), (.ref b222)]) (rm_pk l Z a0 hw x3 (4 : Int32) b210 (3 : Int32) x2 nf 3 h250 n0 X250.sz A251 rfl (by decide)) (hw _ (List.mem_of_getElem? (i := 2) rfl)) (hw _ (List.mem_of_getElem? (i := 3) rfl)) (hw _ (List.mem_of_getElem? (i := 4) rfl)) (hw _ (List.mem_of_getElem? (i := 5) rfl)) (by decide) rfl rfl (lenOf own_pd3 rfl) rfl (Nat.le_of_eq rfl) (by decide) (by decide) (by decide) (by decide) at_192 rfl (fun _ _ q => by obtain ⟨_, _, K, _⟩ := q; exact K.1) (fun T253 h253 v253 X253 P253 => ?_)
    obtain ⟨r253, rfl, K253, Y253_0⟩ := P253
    have A254 := A251.keep K253 nin0
    have A255 := A252.keep K253 nin0
    have A256 := A250.keep K253 nin0
    show Go p e below s n0 _ _ _ T253 (mkF m 195 #[.val (.long x0), .second, .val (.int x1), .val (.long x2), .second, .val (.int x3), .val (.int (0 : Int32)), .val (.int (3 : Int32)), .val (.ref b210), .val (.ref b214), .val (.ref b222), .unset, .unset] [(.int r253), (.int (4 : Int32)), (.ref b222)])
    refine Go.bastore C X253 (pc' := 196) (i := 4) (x' := (nar .byte r253)) A256 rfl (by decide) rfl N222 at_195 rfl (fun T257 h257 X257 W257 A257 => ?_)
    have A258 := A254.other W257 ne_b210_b222
    have A259 := A255.other W257 ne_b214_b222
    refine Go.aload C X257 (pc' := 198) at_196 rfl rfl rfl ?_
    refine Go.iconst C X257 (pc' := 199) (v := (5 : Int32)) at_198 rfl rfl ?_
    refine Go.iload C X257 (pc' := 201) at_199 rfl rfl ?_
    refine Go.iconst C X257 (pc' := 202) (v := (5 : Int32)) at_201 rfl rfl ?_
    refine Go.aload C X257 (pc' := 204) at_202 rfl rfl rfl ?_
    refine Go.iload C X257 (pc' := 206) at_204 rfl rfl ?_
    refine Go.lloadN C X257 (pc' := 207) at_206 rfl rfl ?_
    refine Go.callS C X257 (pc' := 210) (W := 2) (argsL := [(.int x3), (.int (5 : Int32)), (.ref b210), (.int (3 : Int32)), (.long x2)]) (rest := [(.int (5 : Int32)), (.ref b222)]) (rm_pk l Z a0 hw x3 (5 : Int32) b210 (3 : Int32) x2 nf 3 h257 n0 X257.sz A258 rfl (by decide)) (hw _ (List.mem_of_getElem? (i := 2) rfl)) (hw _ (List.mem_of_getElem? (i := 3) rfl)) (hw _ (List.mem_of_getElem? (i := 4) rfl)) (hw _ (List.mem_of_getElem? (i := 5) rfl)) (by decide) rfl rfl (lenOf own_pd3 rfl) rfl (Nat.le_of_eq rfl) (by decide) (by decide) (by decide) (by decide) at_207 rfl (fun _ _ q => by obtain ⟨_, _, K, _⟩ := q; exact K.1) (fun T260 h260 v260 X260 P260 => ?_)
    obtain ⟨r260, rfl, K260, Y260_0⟩ := P260
    have A261 := A258.keep K260 nin0
    have A262 := A259.keep K260 nin0
    have A263 := A257.keep K260 nin0
    show Go p e below s n0 _ _ _ T260 (mkF m 210 #[.val (.long x0), .second, .val (.int x1), .val (.long x2), .second, .val (.int x3), .val (.int (0 : Int32)), .val (.int (3 : Int32)), .val (.ref b210), .val (.ref b214), .val (.ref b222), .unset, .unset] [(.int r260), (.int (5 : Int32)), (.ref b222)])
    refine Go.bastore C X260 (pc' := 211) (i := 5) (x' := (nar .byte r260)) A263 rfl (by decide) rfl N222 at_210 rfl (fun T264 h264 X264 W264 A264 => ?_)
    have A265 := A261.other W264 ne_b210_b222
    have A266 := A262.other W264 ne_b214_b222
    obtain ⟨tf, htf, A211⟩ : ∃ f : Nat → Int32, (∀ q, -128 ≤ (f q).toInt ∧ (f q).toInt ≤ 127) ∧ AI Z h264 b222 .byte 6 f := ⟨_, (own_upd (R := fun z => -128 ≤ z.toInt ∧ z.toInt ≤ 127) (own_upd (R := fun z => -128 ≤ z.toInt ∧ z.toInt ≤ 127) (own_upd (R := fun z => -128 ≤ z.toInt ∧ z.toInt ≤ 127) (own_upd (R := fun z => -128 ≤ z.toInt ∧ z.toInt ≤ 127) (own_upd (R := fun z => -128 ≤ z.toInt ∧ z.toInt ≤ 127) (own_upd (R := fun z => -128 ≤ z.toInt ∧ z.toInt ≤ 127) (fun _ => by decide) (own_i2b _)) (own_i2b _)) (own_i2b _)) (own_i2b _)) (own_i2b _)) (own_i2b _)), A264⟩
    refine Go.newO C X264 (pc' := 214) (hw _ (List.mem_of_getElem? (i := 6) rfl)) (hw _ (List.mem_of_getElem? (i := 7) rfl)) (hw _ (List.mem_of_getElem? (i := 8) rfl)) at_211 (by decide) (by decide) rfl (fun T267 h267 b267 X267 g267 E267 Ex267 D267 N267 => ?_)
    have ne_b210_b267 : b210 ≠ b267 := Nat.ne_of_lt (Nat.lt_of_lt_of_eq A265.lt g267.symm)
    have ne_b214_b267 : b214 ≠ b267 := Nat.ne_of_lt (Nat.lt_of_lt_of_eq A266.lt g267.symm)
    have ne_b222_b267 : b222 ≠ b267 := Nat.ne_of_lt (Nat.lt_of_lt_of_eq A211.lt g267.symm)
    have A268 := A265.ext E267
    have A269 := A266.ext E267
    have A270 := A211.ext E267
    have F271 : Fld Z h267 b267 "com/example/needlewright/needlewright/ByteMatcher" "automaton" "Lcom/example/needlewright/needlewright/Automaton;" .null := D267 (Or.inr (hw _ (List.mem_of_getElem? (i := 42) rfl))) (ty := (.object "com/example/needlewright/needlewright/Automaton")) (by decide)
    have F272 : Fld Z h267 b267 "com/example/needlewright/needlewright/ByteMatcher" "hasSecond" "Z" (.int (0 : Int32)) := D267 (Or.inr (hw _ (List.mem_of_getElem? (i := 45) rfl))) (ty := .boolean) (by decide)
    have F273 : Fld Z h267 b267 "com/example/needlewright/needlewright/ByteMatcher" "firstInEachByte" "J" (.long (0 : Int64)) := D267 (Or.inr (hw _ (List.mem_of_getElem? (i := 50) rfl))) (ty := .long) (by decide)
    have F274 : Fld Z h267 b267 "com/example/needlewright/needlewright/ByteMatcher" "secondInEachByte" "J" (.long (0 : Int64)) := D267 (Or.inr (hw _ (List.mem_of_getElem? (i := 52) rfl))) (ty := .long) (by decide)
    have F275 : Fld Z h267 b267 "com/example/needlewright/needlewright/ByteMatcher" "matched" "I" (.int (0 : Int32)) := D267 (Or.inl (hw _ (List.mem_of_getElem? (i := 59) rfl))) (ty := .int) (by decide)
    have F276 : Fld Z h267 b267 "com/example/needlewright/needlewright/ByteMatcher" "fed" "J" (.long (0 : Int64)) := D267 (Or.inl (hw _ (List.mem_of_getElem? (i := 62) rfl))) (ty := .long) (by decide)
    refine Go.dup C X267 (pc' := 215) at_214 rfl rfl ?_
    refine Go.newO C X267 (pc' := 218) (hw _ (List.mem_of_getElem? (i := 9) rfl)) (hw _ (List.mem_of_getElem? (i := 10) rfl)) (hw _ (List.mem_of_getElem? (i := 11) rfl)) at_215 (by decide) (by decide) rfl (fun T277 h277 b277 X277 g277 E277 Ex277 D277 N277 => ?_)
    have ne_b210_b277 : b210 ≠ b277 := Nat.ne_of_lt (Nat.lt_of_lt_of_eq A268.lt g277.symm)
    have ne_b214_b277 : b214 ≠ b277 := Nat.ne_of_lt (Nat.lt_of_lt_of_eq A269.lt g277.symm)
    have ne_b222_b277 : b222 ≠ b277 := Nat.ne_of_lt (Nat.lt_of_lt_of_eq A270.lt g277.symm)
    have ne_b267_b277 : b267 ≠ b277 := Nat.ne_of_lt (Nat.lt_of_lt_of_eq Ex267.lt g277.symm)
    have A278 := A268.ext E277
    have A279 := A269.ext E277
    have A280 := A270.ext E277
    have E281 := Ex267.ext E277
    have F282 := F271.ext E277
    have F283 := F272.ext E277
    have F284 := F273.ext E277
    have F285 := F274.ext E277
    have F286 := F275.ext E277
    have F287 := F276.ext E277
    have F288 : Fld Z h277 b277 "com/example/needlewright/needlewright/Automaton" "units" "[I" .null := D277 (Or.inr (hw _ (List.mem_of_getElem? (i := 20) rfl))) (ty := (.array .int)) (by decide)
    have F289 : Fld Z h277 b277 "com/example/needlewright/needlewright/Automaton" "borders" "[I" .null := D277 (Or.inr (hw _ (List.mem_of_getElem? (i := 22) rfl))) (ty := (.array .int)) (by decide)
    refine Go.dup C X277 (pc' := 219) at_218 rfl rfl ?_
    refine Go.aload C X277 (pc' := 221) at_219 rfl rfl rfl ?_
    refine Go.callI C X277 (pc' := 224) (W := 3) (argsL := [(.ref b214)]) (rest := [(.ref b277), (.ref b267), (.ref b267)]) (a := b277) (rm_au l Z a0 hw b277 b214 4 (fun q => if q = 2 then (nf 2) else (fun q => if q = 1 then (nf 1) else (fun q => if q = 0 then (nf 0) else (fun _ => 0) q) q) q) (4 : Int32) h277 n0 X277.sz Ex277 F288 F289 N277 N214 A279 (Ne.symm ne_b214_b277) rfl (by decide) (by decide)) rfl rfl (hw _ (List.mem_of_getElem? (i := 12) rfl)) (hw _ (List.mem_of_getElem? (i := 13) rfl)) (hw _ (List.mem_of_getElem? (i := 11) rfl)) (hw _ (List.mem_of_getElem? (i := 14) rfl)) (by decide) rfl rfl (lenOf own_pd4 rfl) rfl (Nat.le_of_eq rfl) (by decide) (by decide) (by decide) (by decide) at_221 rfl (fun _ _ q => by obtain ⟨_, _, _, _, K, _⟩ := q; exact K.1) (fun T290 h290 v290 X290 P290 => ?_)
    obtain ⟨t2290, b1290, rfl, D290_t2, K290, O290_0, O290_1, O290_2, O290_3, O290_4, O290_5, O290_6, Y290_0⟩ := P290
    have ne_b210_t2290 : b210 ≠ t2290 := Nat.ne_of_lt (Nat.lt_of_lt_of_le A278.lt D290_t2)
    have ne_b214_t2290 : b214 ≠ t2290 := Nat.ne_of_lt (Nat.lt_of_lt_of_le A279.lt D290_t2)
    have ne_b222_t2290 : b222 ≠ t2290 := Nat.ne_of_lt (Nat.lt_of_lt_of_le A280.lt D290_t2)
    have ne_b267_t2290 : b267 ≠ t2290 := Nat.ne_of_lt (Nat.lt_of_lt_of_le E281.lt D290_t2)
    have ne_b277_t2290 : b277 ≠ t2290 := Nat.ne_of_lt (Nat.lt_of_lt_of_le Ex277.lt D290_t2)
    have N_t2290 : n0 ≤ t2290 := Nat.le_trans X277.sz D290_t2
    have A291 := A278.keep K290 (ninS ne_b210_b277 (ninS ne_b210_b214 nin0))
    have A292 := A280.keep K290 (ninS ne_b222_b277 (ninS (Ne.symm ne_b214_b222) nin0))
    have E293 := E281.keep K290
    have F294 := F282.keep K290 (ninS ne_b267_b277 (ninS (Ne.symm ne_b214_b267) nin0))
    have F295 := F283.keep K290 (ninS ne_b267_b277 (ninS (Ne.symm ne_b214_b267) nin0))
    have F296 := F284.keep K290 (ninS ne_b267_b277 (ninS (Ne.symm ne_b214_b267) nin0))
    have F297 := F285.keep K290 (ninS ne_b267_b277 (ninS (Ne.symm ne_b214_b267) nin0))
    have F298 := F286.keep K290 (ninS ne_b267_b277 (ninS (Ne.symm ne_b214_b267) nin0))
    have F299 := F287.keep K290 (ninS ne_b267_b277 (ninS (Ne.symm ne_b214_b267) nin0))
    have E300 := Ex277.keep K290
    show Go p e below s n0 _ _ _ T290 (mkF m 224 #[.val (.long x0), .second, .val (.int x1), .val (.long x2), .second, .val (.int x3), .val (.int (0 : Int32)), .val (.int (3 : Int32)), .val (.ref b210), .val (.ref b214), .val (.ref b222), .unset, .unset] [(.ref b277), (.ref b267), (.ref b267)])
    refine Go.callI C X290 (pc' := 227) (W := 1) (argsL := [(.ref b277)]) (rest := [(.ref b267)]) (a := b267) (rm_bm l Z a0 hw b267 b277 b214 4 (fun q => if q = (4 - 1) then (-2147483648 : Int32) else (fun q => if q = 2 then (nf 2) else (fun q => if q = 1 then (nf 1) else (fun q => if q = 0 then (nf 0) else (fun _ => 0) q) q) q) q) (4 : Int32) h290 n0 X290.sz E293 F294 F295 F296 F297 F298 F299 N267 O290_0 O290_1 O290_3 (Ne.symm ne_b267_b277) ne_b214_b267 rfl (by decide) (by decide)) rfl rfl (hw _ (List.mem_of_getElem? (i := 37) rfl)) (hw _ (List.mem_of_getElem? (i := 38) rfl)) (hw _ (List.mem_of_getElem? (i := 8) rfl)) (hw _ (List.mem_of_getElem? (i := 39) rfl)) (by decide) rfl rfl (lenOf own_pd5 rfl) rfl (Nat.le_of_eq rfl) (by decide) (by decide) (by decide) (by decide) at_224 rfl (fun _ _ q => by obtain ⟨_, K, _⟩ := q; exact K.1) (fun T301 h301 v301 X301 P301 => ?_)
    obtain ⟨rfl, K301, O301_0, O301_1, O301_2, O301_3⟩ := P301
    have A302 := A291.keep K301 (ninS ne_b210_b267 nin0)
    have A303 := A292.keep K301 (ninS ne_b222_b267 nin0)
    have E304 := E293.keep K301
    have E305 := O290_0.keep K301
    have F306 := O290_1.keep K301 (ninS (Ne.symm ne_b267_b277) nin0)
    have F307 := O290_2.keep K301 (ninS (Ne.symm ne_b267_b277) nin0)
    have A308 := O290_3.keep K301 (ninS ne_b214_b267 nin0)
    have A309 := O290_4.keep K301 (ninS (Ne.symm ne_b267_t2290) nin0)
    show Go p e below s n0 _ _ _ T301 (mkF m 227 #[.val (.long x0), .second, .val (.int x1), .val (.long x2), .second, .val (.int x3), .val (.int (0 : Int32)), .val (.int (3 : Int32)), .val (.ref b210), .val (.ref b214), .val (.ref b222), .unset, .unset] [(.ref b267)])
    refine Go.astore C X301 (pc' := 229) (Ls' := #[.val (.long x0), .second, .val (.int x1), .val (.long x2), .second, .val (.int x3), .val (.int (0 : Int32)), .val (.int (3 : Int32)), .val (.ref b210), .val (.ref b214), .val (.ref b222), .val (.ref b267), .unset]) at_227 rfl rfl rfl ?_
    refine Go.iconst C X301 (pc' := 230) (v := (1 : Int32)) at_229 rfl rfl ?_
    refine Go.istore C X301 (pc' := 232) (Ls' := #[.val (.long x0), .second, .val (.int x1), .val (.long x2), .second, .val (.int x3), .val (.int (0 : Int32)), .val (.int (3 : Int32)), .val (.ref b210), .val (.ref b214), .val (.ref b222), .val (.ref b267), .val (.int (1 : Int32))]) at_230 rfl rfl ?_
    have M0 : own_M (fun q => if q = (4 - 1) then (-2147483648 : Int32) else (fun q => if q = 2 then (nf 2) else (fun q => if q = 1 then (nf 1) else (fun q => if q = 0 then (nf 0) else (fun _ => 0) q) q) q) q) tf 3 0 0 := own_M0 _ _ _
    refine Go.iload C X301 (pc' := 234) at_232 rfl rfl ?_
    refine Go.aload C X301 (pc' := 236) at_234 rfl rfl rfl ?_
    refine Go.aload C X301 (pc' := 238) at_236 rfl rfl rfl ?_
    refine Go.iconst C X301 (pc' := 239) (v := (0 : Int32)) at_238 rfl rfl ?_
    refine Go.baload C X301 (pc' := 240) (i := 0) (w := (tf 0)) A303 rfl (by decide) rfl at_239 rfl ?_
    refine Go.callV C X301 (pc' := 243) (W := 1) (argsL := [(.int (tf 0))]) (rest := [(.int (1 : Int32))]) (a := b267) (rm_fd l Z a0 hw b267 (tf 0) b277 b214 t2290 4 (fun q => if q = (4 - 1) then (-2147483648 : Int32) else (fun q => if q = 2 then (nf 2) else (fun q => if q = 1 then (nf 1) else (fun q => if q = 0 then (nf 0) else (fun _ => 0) q) q) q) q) b1290 0 (0 : Int64) (4 : Int32) h301 n0 X301.sz O301_0 O301_1 O301_2 O301_3 N267 E305 F306 F307 A308 A309 (Ne.symm ne_b267_b277) ne_b214_b267 (Ne.symm ne_b267_t2290) rfl (by decide) (by decide) (by have := M0.1; omega) Y290_0) O301_0 (notFace_of_selects (args := #[]) (mvT C.2.1 (hw _ (List.mem_of_getElem? (i := 56) rfl)))) (hw _ (List.mem_of_getElem? (i := 53) rfl)) (hw _ (List.mem_of_getElem? (i := 54) rfl)) (hw _ (List.mem_of_getElem? (i := 56) rfl)) (hw _ (List.mem_of_getElem? (i := 55) rfl)) (hw _ (List.mem_of_getElem? (i := 8) rfl)) (hw _ (List.mem_of_getElem? (i := 57) rfl)) (by decide) rfl rfl (lenOf own_pd6 rfl) rfl (Nat.le_of_eq rfl) (by decide) (by decide) (by decide) (by decide) at_240 rfl (fun _ _ q => by obtain ⟨_, K, _⟩ := q; exact K.1) (fun T310 h310 v310 X310 P310 => ?_)
    obtain ⟨rfl, K310, O310_0, O310_1, O310_2, O310_3⟩ := P310
    have A311 := A302.keep K310 (ninS ne_b210_b267 nin0)
    have A312 := A303.keep K310 (ninS ne_b222_b267 nin0)
    have E313 := O301_0.keep K310
    have E314 := E305.keep K310
    have F315 := F306.keep K310 (ninS (Ne.symm ne_b267_b277) nin0)
    have F316 := F307.keep K310 (ninS (Ne.symm ne_b267_b277) nin0)
    have A317 := A308.keep K310 (ninS ne_b214_b267 nin0)
    have A318 := A309.keep K310 (ninS (Ne.symm ne_b267_t2290) nin0)
    have M1 : own_M (fun q => if q = (4 - 1) then (-2147483648 : Int32) else (fun q => if q = 2 then (nf 2) else (fun q => if q = 1 then (nf 1) else (fun q => if q = 0 then (nf 0) else (fun _ => 0) q) q) q) q) tf 3 1 (own_nx (fun q => if q = (4 - 1) then (-2147483648 : Int32) else (fun q => if q = 2 then (nf 2) else (fun q => if q = 1 then (nf 1) else (fun q => if q = 0 then (nf 0) else (fun _ => 0) q) q) q) q) b1290 (tf 0) 0) := own_Mstep (fun q a d => Y290_0 q a (by omega)) M0 (own_notmin (htf 0) (own_ag3 nf).2)
    show Go p e below s n0 _ _ _ T310 (mkF m 243 #[.val (.long x0), .second, .val (.int x1), .val (.long x2), .second, .val (.int x3), .val (.int (0 : Int32)), .val (.int (3 : Int32)), .val (.ref b210), .val (.ref b214), .val (.ref b222), .val (.ref b267), .val (.int (1 : Int32))] [(.long (if (own_nx (fun q => if q = (4 - 1) then (-2147483648 : Int32) else (fun q => if q = 2 then (nf 2) else (fun q => if q = 1 then (nf 1) else (fun q => if q = 0 then (nf 0) else (fun _ => 0) q) q) q) q) b1290 (tf 0) 0) = 4 - 1 then (((0 : Int64) + (1 : Int64)) - (Int32.ofNat (own_nx (fun q => if q = (4 - 1) then (-2147483648 : Int32) else (fun q => if q = 2 then (nf 2) else (fun q => if q = 1 then (nf 1) else (fun q => if q = 0 then (nf 0) else (fun _ => 0) q) q) q) q) b1290 (tf 0) 0)).toInt64) else (-1 : Int64))), (.int (1 : Int32))])
    refine Go.aload C X310 (pc' := 245) at_243 rfl rfl rfl ?_
    refine Go.iconst C X310 (pc' := 246) (v := (1 : Int32)) at_245 rfl rfl ?_
    refine Go.aload C X310 (pc' := 248) at_246 rfl rfl rfl ?_
    refine Go.iload C X310 (pc' := 250) at_248 rfl rfl ?_
    refine Go.callS C X310 (pc' := 253) (W := 3) (argsL := [(.ref b222), (.int (1 : Int32)), (.ref b210), (.int (3 : Int32))]) (rest := [(.long (if (own_nx (fun q => if q = (4 - 1) then (-2147483648 : Int32) else (fun q => if q = 2 then (nf 2) else (fun q => if q = 1 then (nf 1) else (fun q => if q = 0 then (nf 0) else (fun _ => 0) q) q) q) q) b1290 (tf 0) 0) = 4 - 1 then (((0 : Int64) + (1 : Int64)) - (Int32.ofNat (own_nx (fun q => if q = (4 - 1) then (-2147483648 : Int32) else (fun q => if q = 2 then (nf 2) else (fun q => if q = 1 then (nf 1) else (fun q => if q = 0 then (nf 0) else (fun _ => 0) q) q) q) q) b1290 (tf 0) 0)).toInt64) else (-1 : Int64))), (.int (1 : Int32))]) (rm_ex3 l Z a0 hw b222 (1 : Int32) b210 (3 : Int32) tf nf 1 h310 n0 X310.sz A312 A311 rfl rfl (by decide)) (hw _ (List.mem_of_getElem? (i := 64) rfl)) (hw _ (List.mem_of_getElem? (i := 65) rfl)) (hw _ (List.mem_of_getElem? (i := 4) rfl)) (hw _ (List.mem_of_getElem? (i := 66) rfl)) (by decide) rfl rfl (lenOf own_pd7 rfl) rfl (Nat.le_of_eq rfl) (by decide) (by decide) (by decide) (by decide) at_250 rfl (fun _ _ q => Nat.le_of_eq (congrArg Array.size q.2)) (fun T319 h319 v319 X319 P319 => ?_)
    obtain ⟨rfl, rfl⟩ := P319
    show Go p e below s n0 _ _ _ T319 (mkF m 253 #[.val (.long x0), .second, .val (.int x1), .val (.long x2), .second, .val (.int x3), .val (.int (0 : Int32)), .val (.int (3 : Int32)), .val (.ref b210), .val (.ref b214), .val (.ref b222), .val (.ref b267), .val (.int (1 : Int32))] [(.long (if own_S nf tf 1 3 then Int64.ofNat (1 - 3) else (-1 : Int64))), (.long (if (own_nx (fun q => if q = (4 - 1) then (-2147483648 : Int32) else (fun q => if q = 2 then (nf 2) else (fun q => if q = 1 then (nf 1) else (fun q => if q = 0 then (nf 0) else (fun _ => 0) q) q) q) q) b1290 (tf 0) 0) = 4 - 1 then (((0 : Int64) + (1 : Int64)) - (Int32.ofNat (own_nx (fun q => if q = (4 - 1) then (-2147483648 : Int32) else (fun q => if q = 2 then (nf 2) else (fun q => if q = 1 then (nf 1) else (fun q => if q = 0 then (nf 0) else (fun _ => 0) q) q) q) q) b1290 (tf 0) 0)).toInt64) else (-1 : Int64))), (.int (1 : Int32))])
    refine Go.lcmp C X319 (pc' := 254) at_253 rfl ?_
    refine Go.ifNo C X319 (pc' := 257) at_254 ((if0 _ _).trans (teq ((lw_eq _ _).mpr (own_ans M1 (by decide) (own_ag3 nf).1 rfl (by decide)))).2) rfl ?_
    refine Go.iconst C X319 (pc' := 258) (v := (1 : Int32)) at_257 rfl rfl ?_
    refine Go.goto C X319 (pc' := 262) at_258 (by decide) (by decide) ?_
    refine Go.iand C X319 (pc' := 263) at_262 rfl ?_
    refine Go.istore C X319 (pc' := 265) (Ls' := #[.val (.long x0), .second, .val (.int x1), .val (.long x2), .second, .val (.int x3), .val (.int (0 : Int32)), .val (.int (3 : Int32)), .val (.ref b210), .val (.ref b214), .val (.ref b222), .val (.ref b267), .val (.int ((1 : Int32) &&& (1 : Int32)))]) at_263 rfl rfl ?_
    refine Go.iload C X319 (pc' := 267) at_265 rfl rfl ?_
    refine Go.aload C X319 (pc' := 269) at_267 rfl rfl rfl ?_
    refine Go.aload C X319 (pc' := 271) at_269 rfl rfl rfl ?_
    refine Go.iconst C X319 (pc' := 272) (v := (1 : Int32)) at_271 rfl rfl ?_
    refine Go.baload C X319 (pc' := 273) (i := 1) (w := (tf 1)) A312 rfl (by decide) rfl at_272 rfl ?_
    refine Go.callV C X319 (pc' := 276) (W := 1) (argsL := [(.int (tf 1))]) (rest := [(.int ((1 : Int32) &&& (1 : Int32)))]) (a := b267) (rm_fd l Z a0 hw b267 (tf 1) b277 b214 t2290 4 (fun q => if q = (4 - 1) then (-2147483648 : Int32) else (fun q => if q = 2 then (nf 2) else (fun q => if q = 1 then (nf 1) else (fun q => if q = 0 then (nf 0) else (fun _ => 0) q) q) q) q) b1290 (own_nx (fun q => if q = (4 - 1) then (-2147483648 : Int32) else (fun q => if q = 2 then (nf 2) else (fun q => if q = 1 then (nf 1) else (fun q => if q = 0 then (nf 0) else (fun _ => 0) q) q) q) q) b1290 (tf 0) 0) ((0 : Int64) + (1 : Int64)) (4 : Int32) h310 n0 X319.sz O310_0 O310_1 O310_2 O310_3 N267 E314 F315 F316 A317 A318 (Ne.symm ne_b267_b277) ne_b214_b267 (Ne.symm ne_b267_t2290) rfl (by decide) (by decide) (by have := M1.1; omega) Y290_0) O310_0 (notFace_of_selects (args := #[]) (mvT C.2.1 (hw _ (List.mem_of_getElem? (i := 56) rfl)))) (hw _ (List.mem_of_getElem? (i := 53) rfl)) (hw _ (List.mem_of_getElem? (i := 54) rfl)) (hw _ (List.mem_of_getElem? (i := 56) rfl)) (hw _ (List.mem_of_getElem? (i := 55) rfl)) (hw _ (List.mem_of_getElem? (i := 8) rfl)) (hw _ (List.mem_of_getElem? (i := 57) rfl)) (by decide) rfl rfl (lenOf own_pd6 rfl) rfl (Nat.le_of_eq rfl) (by decide) (by decide) (by decide) (by decide) at_273 rfl (fun _ _ q => by obtain ⟨_, K, _⟩ := q; exact K.1) (fun T320 h320 v320 X320 P320 => ?_)
    obtain ⟨rfl, K320, O320_0, O320_1, O320_2, O320_3⟩ := P320
    have A321 := A311.keep K320 (ninS ne_b210_b267 nin0)
    have A322 := A312.keep K320 (ninS ne_b222_b267 nin0)
    have E323 := O310_0.keep K320
    have E324 := E314.keep K320
    have F325 := F315.keep K320 (ninS (Ne.symm ne_b267_b277) nin0)
    have F326 := F316.keep K320 (ninS (Ne.symm ne_b267_b277) nin0)
    have A327 := A317.keep K320 (ninS ne_b214_b267 nin0)
    have A328 := A318.keep K320 (ninS (Ne.symm ne_b267_t2290) nin0)
    have M2 : own_M (fun q => if q = (4 - 1) then (-2147483648 : Int32) else (fun q => if q = 2 then (nf 2) else (fun q => if q = 1 then (nf 1) else (fun q => if q = 0 then (nf 0) else (fun _ => 0) q) q) q) q) tf 3 2 (own_nx (fun q => if q = (4 - 1) then (-2147483648 : Int32) else (fun q => if q = 2 then (nf 2) else (fun q => if q = 1 then (nf 1) else (fun q => if q = 0 then (nf 0) else (fun _ => 0) q) q) q) q) b1290 (tf 1) (own_nx (fun q => if q = (4 - 1) then (-2147483648 : Int32) else (fun q => if q = 2 then (nf 2) else (fun q => if q = 1 then (nf 1) else (fun q => if q = 0 then (nf 0) else (fun _ => 0) q) q) q) q) b1290 (tf 0) 0)) := own_Mstep (fun q a d => Y290_0 q a (by omega)) M1 (own_notmin (htf 1) (own_ag3 nf).2)
    show Go p e below s n0 _ _ _ T320 (mkF m 276 #[.val (.long x0), .second, .val (.int x1), .val (.long x2), .second, .val (.int x3), .val (.int (0 : Int32)), .val (.int (3 : Int32)), .val (.ref b210), .val (.ref b214), .val (.ref b222), .val (.ref b267), .val (.int ((1 : Int32) &&& (1 : Int32)))] [(.long (if (own_nx (fun q => if q = (4 - 1) then (-2147483648 : Int32) else (fun q => if q = 2 then (nf 2) else (fun q => if q = 1 then (nf 1) else (fun q => if q = 0 then (nf 0) else (fun _ => 0) q) q) q) q) b1290 (tf 1) (own_nx (fun q => if q = (4 - 1) then (-2147483648 : Int32) else (fun q => if q = 2 then (nf 2) else (fun q => if q = 1 then (nf 1) else (fun q => if q = 0 then (nf 0) else (fun _ => 0) q) q) q) q) b1290 (tf 0) 0)) = 4 - 1 then ((((0 : Int64) + (1 : Int64)) + (1 : Int64)) - (Int32.ofNat (own_nx (fun q => if q = (4 - 1) then (-2147483648 : Int32) else (fun q => if q = 2 then (nf 2) else (fun q => if q = 1 then (nf 1) else (fun q => if q = 0 then (nf 0) else (fun _ => 0) q) q) q) q) b1290 (tf 1) (own_nx (fun q => if q = (4 - 1) then (-2147483648 : Int32) else (fun q => if q = 2 then (nf 2) else (fun q => if q = 1 then (nf 1) else (fun q => if q = 0 then (nf 0) else (fun _ => 0) q) q) q) q) b1290 (tf 0) 0))).toInt64) else (-1 : Int64))), (.int ((1 : Int32) &&& (1 : Int32)))])
    refine Go.aload C X320 (pc' := 278) at_276 rfl rfl rfl ?_
    refine Go.iconst C X320 (pc' := 279) (v := (2 : Int32)) at_278 rfl rfl ?_
    refine Go.aload C X320 (pc' := 281) at_279 rfl rfl rfl ?_
    refine Go.iload C X320 (pc' := 283) at_281 rfl rfl ?_
    refine Go.callS C X320 (pc' := 286) (W := 3) (argsL := [(.ref b222), (.int (2 : Int32)), (.ref b210), (.int (3 : Int32))]) (rest := [(.long (if (own_nx (fun q => if q = (4 - 1) then (-2147483648 : Int32) else (fun q => if q = 2 then (nf 2) else (fun q => if q = 1 then (nf 1) else (fun q => if q = 0 then (nf 0) else (fun _ => 0) q) q) q) q) b1290 (tf 1) (own_nx (fun q => if q = (4 - 1) then (-2147483648 : Int32) else (fun q => if q = 2 then (nf 2) else (fun q => if q = 1 then (nf 1) else (fun q => if q = 0 then (nf 0) else (fun _ => 0) q) q) q) q) b1290 (tf 0) 0)) = 4 - 1 then ((((0 : Int64) + (1 : Int64)) + (1 : Int64)) - (Int32.ofNat (own_nx (fun q => if q = (4 - 1) then (-2147483648 : Int32) else (fun q => if q = 2 then (nf 2) else (fun q => if q = 1 then (nf 1) else (fun q => if q = 0 then (nf 0) else (fun _ => 0) q) q) q) q) b1290 (tf 1) (own_nx (fun q => if q = (4 - 1) then (-2147483648 : Int32) else (fun q => if q = 2 then (nf 2) else (fun q => if q = 1 then (nf 1) else (fun q => if q = 0 then (nf 0) else (fun _ => 0) q) q) q) q) b1290 (tf 0) 0))).toInt64) else (-1 : Int64))), (.int ((1 : Int32) &&& (1 : Int32)))]) (rm_ex3 l Z a0 hw b222 (2 : Int32) b210 (3 : Int32) tf nf 2 h320 n0 X320.sz A322 A321 rfl rfl (by decide)) (hw _ (List.mem_of_getElem? (i := 64) rfl)) (hw _ (List.mem_of_getElem? (i := 65) rfl)) (hw _ (List.mem_of_getElem? (i := 4) rfl)) (hw _ (List.mem_of_getElem? (i := 66) rfl)) (by decide) rfl rfl (lenOf own_pd7 rfl) rfl (Nat.le_of_eq rfl) (by decide) (by decide) (by decide) (by decide) at_283 rfl (fun _ _ q => Nat.le_of_eq (congrArg Array.size q.2)) (fun T329 h329 v329 X329 P329 => ?_)
    obtain ⟨rfl, rfl⟩ := P329
    show Go p e below s n0 _ _ _ T329 (mkF m 286 #[.val (.long x0), .second, .val (.int x1), .val (.long x2), .second, .val (.int x3), .val (.int (0 : Int32)), .val (.int (3 : Int32)), .val (.ref b210), .val (.ref b214), .val (.ref b222), .val (.ref b267), .val (.int ((1 : Int32) &&& (1 : Int32)))] [(.long (if own_S nf tf 2 3 then Int64.ofNat (2 - 3) else (-1 : Int64))), (.long (if (own_nx (fun q => if q = (4 - 1) then (-2147483648 : Int32) else (fun q => if q = 2 then (nf 2) else (fun q => if q = 1 then (nf 1) else (fun q => if q = 0 then (nf 0) else (fun _ => 0) q) q) q) q) b1290 (tf 1) (own_nx (fun q => if q = (4 - 1) then (-2147483648 : Int32) else (fun q => if q = 2 then (nf 2) else (fun q => if q = 1 then (nf 1) else (fun q => if q = 0 then (nf 0) else (fun _ => 0) q) q) q) q) b1290 (tf 0) 0)) = 4 - 1 then ((((0 : Int64) + (1 : Int64)) + (1 : Int64)) - (Int32.ofNat (own_nx (fun q => if q = (4 - 1) then (-2147483648 : Int32) else (fun q => if q = 2 then (nf 2) else (fun q => if q = 1 then (nf 1) else (fun q => if q = 0 then (nf 0) else (fun _ => 0) q) q) q) q) b1290 (tf 1) (own_nx (fun q => if q = (4 - 1) then (-2147483648 : Int32) else (fun q => if q = 2 then (nf 2) else (fun q => if q = 1 then (nf 1) else (fun q => if q = 0 then (nf 0) else (fun _ => 0) q) q) q) q) b1290 (tf 0) 0))).toInt64) else (-1 : Int64))), (.int ((1 : Int32) &&& (1 : Int32)))])
    refine Go.lcmp C X329 (pc' := 287) at_286 rfl ?_
    refine Go.ifNo C X329 (pc' := 290) at_287 ((if0 _ _).trans (teq ((lw_eq _ _).mpr (own_ans M2 (by decide) (own_ag3 nf).1 rfl (by decide)))).2) rfl ?_
    refine Go.iconst C X329 (pc' := 291) (v := (1 : Int32)) at_290 rfl rfl ?_
    refine Go.goto C X329 (pc' := 295) at_291 (by decide) (by decide) ?_
    refine Go.iand C X329 (pc' := 296) at_295 rfl ?_
    refine Go.istore C X329 (pc' := 298) (Ls' := #[.val (.long x0), .second, .val (.int x1), .val (.long x2), .second, .val (.int x3), .val (.int (0 : Int32)), .val (.int (3 : Int32)), .val (.ref b210), .val (.ref b214), .val (.ref b222), .val (.ref b267), .val (.int (((1 : Int32) &&& (1 : Int32)) &&& (1 : Int32)))]) at_296 rfl rfl ?_
    refine Go.iload C X329 (pc' := 300) at_298 rfl rfl ?_
    refine Go.aload C X329 (pc' := 302) at_300 rfl rfl rfl ?_
    refine Go.aload C X329 (pc' := 304) at_302 rfl rfl rfl ?_
    refine Go.iconst C X329 (pc' := 305) (v := (2 : Int32)) at_304 rfl rfl ?_
    refine Go.baload C X329 (pc' := 306) (i := 2) (w := (tf 2)) A322 rfl (by decide) rfl at_305 rfl ?_
    refine Go.callV C X329 (pc' := 309) (W := 1) (argsL := [(.int (tf 2))]) (rest := [(.int (((1 : Int32) &&& (1 : Int32)) &&& (1 : Int32)))]) (a := b267) (rm_fd l Z a0 hw b267 (tf 2) b277 b214 t2290 4 (fun q => if q = (4 - 1) then (-2147483648 : Int32) else (fun q => if q = 2 then (nf 2) else (fun q => if q = 1 then (nf 1) else (fun q => if q = 0 then (nf 0) else (fun _ => 0) q) q) q) q) b1290 (own_nx (fun q => if q = (4 - 1) then (-2147483648 : Int32) else (fun q => if q = 2 then (nf 2) else (fun q => if q = 1 then (nf 1) else (fun q => if q = 0 then (nf 0) else (fun _ => 0) q) q) q) q) b1290 (tf 1) (own_nx (fun q => if q = (4 - 1) then (-2147483648 : Int32) else (fun q => if q = 2 then (nf 2) else (fun q => if q = 1 then (nf 1) else (fun q => if q = 0 then (nf 0) else (fun _ => 0) q) q) q) q) b1290 (tf 0) 0)) (((0 : Int64) + (1 : Int64)) + (1 : Int64)) (4 : Int32) h320 n0 X329.sz O320_0 O320_1 O320_2 O320_3 N267 E324 F325 F326 A327 A328 (Ne.symm ne_b267_b277) ne_b214_b267 (Ne.symm ne_b267_t2290) rfl (by decide) (by decide) (by have := M2.1; omega) Y290_0) O320_0 (notFace_of_selects (args := #[]) (mvT C.2.1 (hw _ (List.mem_of_getElem? (i := 56) rfl)))) (hw _ (List.mem_of_getElem? (i := 53) rfl)) (hw _ (List.mem_of_getElem? (i := 54) rfl)) (hw _ (List.mem_of_getElem? (i := 56) rfl)) (hw _ (List.mem_of_getElem? (i := 55) rfl)) (hw _ (List.mem_of_getElem? (i := 8) rfl)) (hw _ (List.mem_of_getElem? (i := 57) rfl)) (by decide) rfl rfl (lenOf own_pd6 rfl) rfl (Nat.le_of_eq rfl) (by decide) (by decide) (by decide) (by decide) at_306 rfl (fun _ _ q => by obtain ⟨_, K, _⟩ := q; exact K.1) (fun T330 h330 v330 X330 P330 => ?_)
    obtain ⟨rfl, K330, O330_0, O330_1, O330_2, O330_3⟩ := P330
    have A331 := A321.keep K330 (ninS ne_b210_b267 nin0)
    have A332 := A322.keep K330 (ninS ne_b222_b267 nin0)
    have E333 := O320_0.keep K330
    have E334 := E324.keep K330
    have F335 := F325.keep K330 (ninS (Ne.symm ne_b267_b277) nin0)
    have F336 := F326.keep K330 (ninS (Ne.symm ne_b267_b277) nin0)
    have A337 := A327.keep K330 (ninS ne_b214_b267 nin0)
    have A338 := A328.keep K330 (ninS (Ne.symm ne_b267_t2290) nin0)
    have M3 : own_M (fun q => if q = (4 - 1) then (-2147483648 : Int32) else (fun q => if q = 2 then (nf 2) else (fun q => if q = 1 then (nf 1) else (fun q => if q = 0 then (nf 0) else (fun _ => 0) q) q) q) q) tf 3 3 (own_nx (fun q => if q = (4 - 1) then (-2147483648 : Int32) else (fun q => if q = 2 then (nf 2) else (fun q => if q = 1 then (nf 1) else (fun q => if q = 0 then (nf 0) else (fun _ => 0) q) q) q) q) b1290 (tf 2) (own_nx (fun q => if q = (4 - 1) then (-2147483648 : Int32) else (fun q => if q = 2 then (nf 2) else (fun q => if q = 1 then (nf 1) else (fun q => if q = 0 then (nf 0) else (fun _ => 0) q) q) q) q) b1290 (tf 1) (own_nx (fun q => if q = (4 - 1) then (-2147483648 : Int32) else (fun q => if q = 2 then (nf 2) else (fun q => if q = 1 then (nf 1) else (fun q => if q = 0 then (nf 0) else (fun _ => 0) q) q) q) q) b1290 (tf 0) 0))) := own_Mstep (fun q a d => Y290_0 q a (by omega)) M2 (own_notmin (htf 2) (own_ag3 nf).2)
    show Go p e below s n0 _ _ _ T330 (mkF m 309 #[.val (.long x0), .second, .val (.int x1), .val (.long x2), .second, .val (.int x3), .val (.int (0 : Int32)), .val (.int (3 : Int32)), .val (.ref b210), .val (.ref b214), .val (.ref b222), .val (.ref b267), .val (.int (((1 : Int32) &&& (1 : Int32)) &&& (1 : Int32)))] [(.long (if (own_nx (fun q => if q = (4 - 1) then (-2147483648 : Int32) else (fun q => if q = 2 then (nf 2) else (fun q => if q = 1 then (nf 1) else (fun q => if q = 0 then (nf 0) else (fun _ => 0) q) q) q) q) b1290 (tf 2) (own_nx (fun q => if q = (4 - 1) then (-2147483648 : Int32) else (fun q => if q = 2 then (nf 2) else (fun q => if q = 1 then (nf 1) else (fun q => if q = 0 then (nf 0) else (fun _ => 0) q) q) q) q) b1290 (tf 1) (own_nx (fun q => if q = (4 - 1) then (-2147483648 : Int32) else (fun q => if q = 2 then (nf 2) else (fun q => if q = 1 then (nf 1) else (fun q => if q = 0 then (nf 0) else (fun _ => 0) q) q) q) q) b1290 (tf 0) 0))) = 4 - 1 then (((((0 : Int64) + (1 : Int64)) + (1 : Int64)) + (1 : Int64)) - (Int32.ofNat (own_nx (fun q => if q = (4 - 1) then (-2147483648 : Int32) else (fun q => if q = 2 then (nf 2) else (fun q => if q = 1 then (nf 1) else (fun q => if q = 0 then (nf 0) else (fun _ => 0) q) q) q) q) b1290 (tf 2) (own_nx (fun q => if q = (4 - 1) then (-2147483648 : Int32) else (fun q => if q = 2 then (nf 2) else (fun q => if q = 1 then (nf 1) else (fun q => if q = 0 then (nf 0) else (fun _ => 0) q) q) q) q) b1290 (tf 1) (own_nx (fun q => if q = (4 - 1) then (-2147483648 : Int32) else (fun q => if q = 2 then (nf 2) else (fun q => if q = 1 then (nf 1) else (fun q => if q = 0 then (nf 0) else (fun _ => 0) q) q) q) q) b1290 (tf 0) 0)))).toInt64) else (-1 : Int64))), (.int (((1 : Int32) &&& (1 : Int32)) &&& (1 : Int32)))])
    refine Go.aload C X330 (pc' := 311) at_309 rfl rfl rfl ?_
    refine Go.iconst C X330 (pc' := 312) (v := (3 : Int32)) at_311 rfl rfl ?_
    refine Go.aload C X330 (pc' := 314) at_312 rfl rfl rfl ?_
    refine Go.iload C X330 (pc' := 316) at_314 rfl rfl ?_
    refine Go.callS C X330 (pc' := 319) (W := 3) (argsL := [(.ref b222), (.int (3 : Int32)), (.ref b210), (.int (3 : Int32))]) (rest := [(.long (if (own_nx (fun q => if q = (4 - 1) then (-2147483648 : Int32) else (fun q => if q = 2 then (nf 2) else (fun q => if q = 1 then (nf 1) else (fun q => if q = 0 then (nf 0) else (fun _ => 0) q) q) q) q) b1290 (tf 2) (own_nx (fun q => if q = (4 - 1) then (-2147483648 : Int32) else (fun q => if q = 2 then (nf 2) else (fun q => if q = 1 then (nf 1) else (fun q => if q = 0 then (nf 0) else (fun _ => 0) q) q) q) q) b1290 (tf 1) (own_nx (fun q => if q = (4 - 1) then (-2147483648 : Int32) else (fun q => if q = 2 then (nf 2) else (fun q => if q = 1 then (nf 1) else (fun q => if q = 0 then (nf 0) else (fun _ => 0) q) q) q) q) b1290 (tf 0) 0))) = 4 - 1 then (((((0 : Int64) + (1 : Int64)) + (1 : Int64)) + (1 : Int64)) - (Int32.ofNat (own_nx (fun q => if q = (4 - 1) then (-2147483648 : Int32) else (fun q => if q = 2 then (nf 2) else (fun q => if q = 1 then (nf 1) else (fun q => if q = 0 then (nf 0) else (fun _ => 0) q) q) q) q) b1290 (tf 2) (own_nx (fun q => if q = (4 - 1) then (-2147483648 : Int32) else (fun q => if q = 2 then (nf 2) else (fun q => if q = 1 then (nf 1) else (fun q => if q = 0 then (nf 0) else (fun _ => 0) q) q) q) q) b1290 (tf 1) (own_nx (fun q => if q = (4 - 1) then (-2147483648 : Int32) else (fun q => if q = 2 then (nf 2) else (fun q => if q = 1 then (nf 1) else (fun q => if q = 0 then (nf 0) else (fun _ => 0) q) q) q) q) b1290 (tf 0) 0)))).toInt64) else (-1 : Int64))), (.int (((1 : Int32) &&& (1 : Int32)) &&& (1 : Int32)))]) (rm_ex3 l Z a0 hw b222 (3 : Int32) b210 (3 : Int32) tf nf 3 h330 n0 X330.sz A332 A331 rfl rfl (by decide)) (hw _ (List.mem_of_getElem? (i := 64) rfl)) (hw _ (List.mem_of_getElem? (i := 65) rfl)) (hw _ (List.mem_of_getElem? (i := 4) rfl)) (hw _ (List.mem_of_getElem? (i := 66) rfl)) (by decide) rfl rfl (lenOf own_pd7 rfl) rfl (Nat.le_of_eq rfl) (by decide) (by decide) (by decide) (by decide) at_316 rfl (fun _ _ q => Nat.le_of_eq (congrArg Array.size q.2)) (fun T339 h339 v339 X339 P339 => ?_)
    obtain ⟨rfl, rfl⟩ := P339
    show Go p e below s n0 _ _ _ T339 (mkF m 319 #[.val (.long x0), .second, .val (.int x1), .val (.long x2), .second, .val (.int x3), .val (.int (0 : Int32)), .val (.int (3 : Int32)), .val (.ref b210), .val (.ref b214), .val (.ref b222), .val (.ref b267), .val (.int (((1 : Int32) &&& (1 : Int32)) &&& (1 : Int32)))] [(.long (if own_S nf tf 3 3 then Int64.ofNat (3 - 3) else (-1 : Int64))), (.long (if (own_nx (fun q => if q = (4 - 1) then (-2147483648 : Int32) else (fun q => if q = 2 then (nf 2) else (fun q => if q = 1 then (nf 1) else (fun q => if q = 0 then (nf 0) else (fun _ => 0) q) q) q) q) b1290 (tf 2) (own_nx (fun q => if q = (4 - 1) then (-2147483648 : Int32) else (fun q => if q = 2 then (nf 2) else (fun q => if q = 1 then (nf 1) else (fun q => if q = 0 then (nf 0) else (fun _ => 0) q) q) q) q) b1290 (tf 1) (own_nx (fun q => if q = (4 - 1) then (-2147483648 : Int32) else (fun q => if q = 2 then (nf 2) else (fun q => if q = 1 then (nf 1) else (fun q => if q = 0 then (nf 0) else (fun _ => 0) q) q) q) q) b1290 (tf 0) 0))) = 4 - 1 then (((((0 : Int64) + (1 : Int64)) + (1 : Int64)) + (1 : Int64)) - (Int32.ofNat (own_nx (fun q => if q = (4 - 1) then (-2147483648 : Int32) else (fun q => if q = 2 then (nf 2) else (fun q => if q = 1 then (nf 1) else (fun q => if q = 0 then (nf 0) else (fun _ => 0) q) q) q) q) b1290 (tf 2) (own_nx (fun q => if q = (4 - 1) then (-2147483648 : Int32) else (fun q => if q = 2 then (nf 2) else (fun q => if q = 1 then (nf 1) else (fun q => if q = 0 then (nf 0) else (fun _ => 0) q) q) q) q) b1290 (tf 1) (own_nx (fun q => if q = (4 - 1) then (-2147483648 : Int32) else (fun q => if q = 2 then (nf 2) else (fun q => if q = 1 then (nf 1) else (fun q => if q = 0 then (nf 0) else (fun _ => 0) q) q) q) q) b1290 (tf 0) 0)))).toInt64) else (-1 : Int64))), (.int (((1 : Int32) &&& (1 : Int32)) &&& (1 : Int32)))])
    refine Go.lcmp C X339 (pc' := 320) at_319 rfl ?_
    refine Go.ifNo C X339 (pc' := 323) at_320 ((if0 _ _).trans (teq ((lw_eq _ _).mpr (own_ans M3 (by decide) (own_ag3 nf).1 rfl (by decide)))).2) rfl ?_
    refine Go.iconst C X339 (pc' := 324) (v := (1 : Int32)) at_323 rfl rfl ?_
    refine Go.goto C X339 (pc' := 328) at_324 (by decide) (by decide) ?_
    refine Go.iand C X339 (pc' := 329) at_328 rfl ?_
    refine Go.istore C X339 (pc' := 331) (Ls' := #[.val (.long x0), .second, .val (.int x1), .val (.long x2), .second, .val (.int x3), .val (.int (0 : Int32)), .val (.int (3 : Int32)), .val (.ref b210), .val (.ref b214), .val (.ref b222), .val (.ref b267), .val (.int ((((1 : Int32) &&& (1 : Int32)) &&& (1 : Int32)) &&& (1 : Int32)))]) at_329 rfl rfl ?_
    refine Go.iload C X339 (pc' := 333) at_331 rfl rfl ?_
    refine Go.aload C X339 (pc' := 335) at_333 rfl rfl rfl ?_
    refine Go.aload C X339 (pc' := 337) at_335 rfl rfl rfl ?_
    refine Go.iconst C X339 (pc' := 338) (v := (3 : Int32)) at_337 rfl rfl ?_
    refine Go.baload C X339 (pc' := 339) (i := 3) (w := (tf 3)) A332 rfl (by decide) rfl at_338 rfl ?_
    refine Go.callV C X339 (pc' := 342) (W := 1) (argsL := [(.int (tf 3))]) (rest := [(.int ((((1 : Int32) &&& (1 : Int32)) &&& (1 : Int32)) &&& (1 : Int32)))]) (a := b267) (rm_fd l Z a0 hw b267 (tf 3) b277 b214 t2290 4 (fun q => if q = (4 - 1) then (-2147483648 : Int32) else (fun q => if q = 2 then (nf 2) else (fun q => if q = 1 then (nf 1) else (fun q => if q = 0 then (nf 0) else (fun _ => 0) q) q) q) q) b1290 (own_nx (fun q => if q = (4 - 1) then (-2147483648 : Int32) else (fun q => if q = 2 then (nf 2) else (fun q => if q = 1 then (nf 1) else (fun q => if q = 0 then (nf 0) else (fun _ => 0) q) q) q) q) b1290 (tf 2) (own_nx (fun q => if q = (4 - 1) then (-2147483648 : Int32) else (fun q => if q = 2 then (nf 2) else (fun q => if q = 1 then (nf 1) else (fun q => if q = 0 then (nf 0) else (fun _ => 0) q) q) q) q) b1290 (tf 1) (own_nx (fun q => if q = (4 - 1) then (-2147483648 : Int32) else (fun q => if q = 2 then (nf 2) else (fun q => if q = 1 then (nf 1) else (fun q => if q = 0 then (nf 0) else (fun _ => 0) q) q) q) q) b1290 (tf 0) 0))) ((((0 : Int64) + (1 : Int64)) + (1 : Int64)) + (1 : Int64)) (4 : Int32) h330 n0 X339.sz O330_0 O330_1 O330_2 O330_3 N267 E334 F335 F336 A337 A338 (Ne.symm ne_b267_b277) ne_b214_b267 (Ne.symm ne_b267_t2290) rfl (by decide) (by decide) (by have := M3.1; omega) Y290_0) O330_0 (notFace_of_selects (args := #[]) (mvT C.2.1 (hw _ (List.mem_of_getElem? (i := 56) rfl)))) (hw _ (List.mem_of_getElem? (i := 53) rfl)) (hw _ (List.mem_of_getElem? (i := 54) rfl)) (hw _ (List.mem_of_getElem? (i := 56) rfl)) (hw _ (List.mem_of_getElem? (i := 55) rfl)) (hw _ (List.mem_of_getElem? (i := 8) rfl)) (hw _ (List.mem_of_getElem? (i := 57) rfl)) (by decide) rfl rfl (lenOf own_pd6 rfl) rfl (Nat.le_of_eq rfl) (by decide) (by decide) (by decide) (by decide) at_339 rfl (fun _ _ q => by obtain ⟨_, K, _⟩ := q; exact K.1) (fun T340 h340 v340 X340 P340 => ?_)
    obtain ⟨rfl, K340, O340_0, O340_1, O340_2, O340_3⟩ := P340
    have A341 := A331.keep K340 (ninS ne_b210_b267 nin0)
    have A342 := A332.keep K340 (ninS ne_b222_b267 nin0)
    have E343 := O330_0.keep K340
    have E344 := E334.keep K340
    have F345 := F335.keep K340 (ninS (Ne.symm ne_b267_b277) nin0)
    have F346 := F336.keep K340 (ninS (Ne.symm ne_b267_b277) nin0)
    have A347 := A337.keep K340 (ninS ne_b214_b267 nin0)
    have A348 := A338.keep K340 (ninS (Ne.symm ne_b267_t2290) nin0)
    have M4 : own_M (fun q => if q = (4 - 1) then (-2147483648 : Int32) else (fun q => if q = 2 then (nf 2) else (fun q => if q = 1 then (nf 1) else (fun q => if q = 0 then (nf 0) else (fun _ => 0) q) q) q) q) tf 3 4 (own_nx (fun q => if q = (4 - 1) then (-2147483648 : Int32) else (fun q => if q = 2 then (nf 2) else (fun q => if q = 1 then (nf 1) else (fun q => if q = 0 then (nf 0) else (fun _ => 0) q) q) q) q) b1290 (tf 3) (own_nx (fun q => if q = (4 - 1) then (-2147483648 : Int32) else (fun q => if q = 2 then (nf 2) else (fun q => if q = 1 then (nf 1) else (fun q => if q = 0 then (nf 0) else (fun _ => 0) q) q) q) q) b1290 (tf 2) (own_nx (fun q => if q = (4 - 1) then (-2147483648 : Int32) else (fun q => if q = 2 then (nf 2) else (fun q => if q = 1 then (nf 1) else (fun q => if q = 0 then (nf 0) else (fun _ => 0) q) q) q) q) b1290 (tf 1) (own_nx (fun q => if q = (4 - 1) then (-2147483648 : Int32) else (fun q => if q = 2 then (nf 2) else (fun q => if q = 1 then (nf 1) else (fun q => if q = 0 then (nf 0) else (fun _ => 0) q) q) q) q) b1290 (tf 0) 0)))) := own_Mstep (fun q a d => Y290_0 q a (by omega)) M3 (own_notmin (htf 3) (own_ag3 nf).2)
    show Go p e below s n0 _ _ _ T340 (mkF m 342 #[.val (.long x0), .second, .val (.int x1), .val (.long x2), .second, .val (.int x3), .val (.int (0 : Int32)), .val (.int (3 : Int32)), .val (.ref b210), .val (.ref b214), .val (.ref b222), .val (.ref b267), .val (.int ((((1 : Int32) &&& (1 : Int32)) &&& (1 : Int32)) &&& (1 : Int32)))] [(.long (if (own_nx (fun q => if q = (4 - 1) then (-2147483648 : Int32) else (fun q => if q = 2 then (nf 2) else (fun q => if q = 1 then (nf 1) else (fun q => if q = 0 then (nf 0) else (fun _ => 0) q) q) q) q) b1290 (tf 3) (own_nx (fun q => if q = (4 - 1) then (-2147483648 : Int32) else (fun q => if q = 2 then (nf 2) else (fun q => if q = 1 then (nf 1) else (fun q => if q = 0 then (nf 0) else (fun _ => 0) q) q) q) q) b1290 (tf 2) (own_nx (fun q => if q = (4 - 1) then (-2147483648 : Int32) else (fun q => if q = 2 then (nf 2) else (fun q => if q = 1 then (nf 1) else (fun q => if q = 0 then (nf 0) else (fun _ => 0) q) q) q) q) b1290 (tf 1) (own_nx (fun q => if q = (4 - 1) then (-2147483648 : Int32) else (fun q => if q = 2 then (nf 2) else (fun q => if q = 1 then (nf 1) else (fun q => if q = 0 then (nf 0) else (fun _ => 0) q) q) q) q) b1290 (tf 0) 0)))) = 4 - 1 then ((((((0 : Int64) + (1 : Int64)) + (1 : Int64)) + (1 : Int64)) + (1 : Int64)) - (Int32.ofNat (own_nx (fun q => if q = (4 - 1) then (-2147483648 : Int32) else (fun q => if q = 2 then (nf 2) else (fun q => if q = 1 then (nf 1) else (fun q => if q = 0 then (nf 0) else (fun _ => 0) q) q) q) q) b1290 (tf 3) (own_nx (fun q => if q = (4 - 1) then (-2147483648 : Int32) else (fun q => if q = 2 then (nf 2) else (fun q => if q = 1 then (nf 1) else (fun q => if q = 0 then (nf 0) else (fun _ => 0) q) q) q) q) b1290 (tf 2) (own_nx (fun q => if q = (4 - 1) then (-2147483648 : Int32) else (fun q => if q = 2 then (nf 2) else (fun q => if q = 1 then (nf 1) else (fun q => if q = 0 then (nf 0) else (fun _ => 0) q) q) q) q) b1290 (tf 1) (own_nx (fun q => if q = (4 - 1) then (-2147483648 : Int32) else (fun q => if q = 2 then (nf 2) else (fun q => if q = 1 then (nf 1) else (fun q => if q = 0 then (nf 0) else (fun _ => 0) q) q) q) q) b1290 (tf 0) 0))))).toInt64) else (-1 : Int64))), (.int ((((1 : Int32) &&& (1 : Int32)) &&& (1 : Int32)) &&& (1 : Int32)))])
    refine Go.aload C X340 (pc' := 344) at_342 rfl rfl rfl ?_
    refine Go.iconst C X340 (pc' := 345) (v := (4 : Int32)) at_344 rfl rfl ?_
    refine Go.aload C X340 (pc' := 347) at_345 rfl rfl rfl ?_
    refine Go.iload C X340 (pc' := 349) at_347 rfl rfl ?_
    refine Go.callS C X340 (pc' := 352) (W := 3) (argsL := [(.ref b222), (.int (4 : Int32)), (.ref b210), (.int (3 : Int32))]) (rest := [(.long (if (own_nx (fun q => if q = (4 - 1) then (-2147483648 : Int32) else (fun q => if q = 2 then (nf 2) else (fun q => if q = 1 then (nf 1) else (fun q => if q = 0 then (nf 0) else (fun _ => 0) q) q) q) q) b1290 (tf 3) (own_nx (fun q => if q = (4 - 1) then (-2147483648 : Int32) else (fun q => if q = 2 then (nf 2) else (fun q => if q = 1 then (nf 1) else (fun q => if q = 0 then (nf 0) else (fun _ => 0) q) q) q) q) b1290 (tf 2) (own_nx (fun q => if q = (4 - 1) then (-2147483648 : Int32) else (fun q => if q = 2 then (nf 2) else (fun q => if q = 1 then (nf 1) else (fun q => if q = 0 then (nf 0) else (fun _ => 0) q) q) q) q) b1290 (tf 1) (own_nx (fun q => if q = (4 - 1) then (-2147483648 : Int32) else (fun q => if q = 2 then (nf 2) else (fun q => if q = 1 then (nf 1) else (fun q => if q = 0 then (nf 0) else (fun _ => 0) q) q) q) q) b1290 (tf 0) 0)))) = 4 - 1 then ((((((0 : Int64) + (1 : Int64)) + (1 : Int64)) + (1 : Int64)) + (1 : Int64)) - (Int32.ofNat (own_nx (fun q => if q = (4 - 1) then (-2147483648 : Int32) else (fun q => if q = 2 then (nf 2) else (fun q => if q = 1 then (nf 1) else (fun q => if q = 0 then (nf 0) else (fun _ => 0) q) q) q) q) b1290 (tf 3) (own_nx (fun q => if q = (4 - 1) then (-2147483648 : Int32) else (fun q => if q = 2 then (nf 2) else (fun q => if q = 1 then (nf 1) else (fun q => if q = 0 then (nf 0) else (fun _ => 0) q) q) q) q) b1290 (tf 2) (own_nx (fun q => if q = (4 - 1) then (-2147483648 : Int32) else (fun q => if q = 2 then (nf 2) else (fun q => if q = 1 then (nf 1) else (fun q => if q = 0 then (nf 0) else (fun _ => 0) q) q) q) q) b1290 (tf 1) (own_nx (fun q => if q = (4 - 1) then (-2147483648 : Int32) else (fun q => if q = 2 then (nf 2) else (fun q => if q = 1 then (nf 1) else (fun q => if q = 0 then (nf 0) else (fun _ => 0) q) q) q) q) b1290 (tf 0) 0))))).toInt64) else (-1 : Int64))), (.int ((((1 : Int32) &&& (1 : Int32)) &&& (1 : Int32)) &&& (1 : Int32)))]) (rm_ex3 l Z a0 hw b222 (4 : Int32) b210 (3 : Int32) tf nf 4 h340 n0 X340.sz A342 A341 rfl rfl (by decide)) (hw _ (List.mem_of_getElem? (i := 64) rfl)) (hw _ (List.mem_of_getElem? (i := 65) rfl)) (hw _ (List.mem_of_getElem? (i := 4) rfl)) (hw _ (List.mem_of_getElem? (i := 66) rfl)) (by decide) rfl rfl (lenOf own_pd7 rfl) rfl (Nat.le_of_eq rfl) (by decide) (by decide) (by decide) (by decide) at_349 rfl (fun _ _ q => Nat.le_of_eq (congrArg Array.size q.2)) (fun T349 h349 v349 X349 P349 => ?_)
    obtain ⟨rfl, rfl⟩ := P349
    show Go p e below s n0 _ _ _ T349 (mkF m 352 #[.val (.long x0), .second, .val (.int x1), .val (.long x2), .second, .val (.int x3), .val (.int (0 : Int32)), .val (.int (3 : Int32)), .val (.ref b210), .val (.ref b214), .val (.ref b222), .val (.ref b267), .val (.int ((((1 : Int32) &&& (1 : Int32)) &&& (1 : Int32)) &&& (1 : Int32)))] [(.long (if own_S nf tf 4 3 then Int64.ofNat (4 - 3) else (-1 : Int64))), (.long (if (own_nx (fun q => if q = (4 - 1) then (-2147483648 : Int32) else (fun q => if q = 2 then (nf 2) else (fun q => if q = 1 then (nf 1) else (fun q => if q = 0 then (nf 0) else (fun _ => 0) q) q) q) q) b1290 (tf 3) (own_nx (fun q => if q = (4 - 1) then (-2147483648 : Int32) else (fun q => if q = 2 then (nf 2) else (fun q => if q = 1 then (nf 1) else (fun q => if q = 0 then (nf 0) else (fun _ => 0) q) q) q) q) b1290 (tf 2) (own_nx (fun q => if q = (4 - 1) then (-2147483648 : Int32) else (fun q => if q = 2 then (nf 2) else (fun q => if q = 1 then (nf 1) else (fun q => if q = 0 then (nf 0) else (fun _ => 0) q) q) q) q) b1290 (tf 1) (own_nx (fun q => if q = (4 - 1) then (-2147483648 : Int32) else (fun q => if q = 2 then (nf 2) else (fun q => if q = 1 then (nf 1) else (fun q => if q = 0 then (nf 0) else (fun _ => 0) q) q) q) q) b1290 (tf 0) 0)))) = 4 - 1 then ((((((0 : Int64) + (1 : Int64)) + (1 : Int64)) + (1 : Int64)) + (1 : Int64)) - (Int32.ofNat (own_nx (fun q => if q = (4 - 1) then (-2147483648 : Int32) else (fun q => if q = 2 then (nf 2) else (fun q => if q = 1 then (nf 1) else (fun q => if q = 0 then (nf 0) else (fun _ => 0) q) q) q) q) b1290 (tf 3) (own_nx (fun q => if q = (4 - 1) then (-2147483648 : Int32) else (fun q => if q = 2 then (nf 2) else (fun q => if q = 1 then (nf 1) else (fun q => if q = 0 then (nf 0) else (fun _ => 0) q) q) q) q) b1290 (tf 2) (own_nx (fun q => if q = (4 - 1) then (-2147483648 : Int32) else (fun q => if q = 2 then (nf 2) else (fun q => if q = 1 then (nf 1) else (fun q => if q = 0 then (nf 0) else (fun _ => 0) q) q) q) q) b1290 (tf 1) (own_nx (fun q => if q = (4 - 1) then (-2147483648 : Int32) else (fun q => if q = 2 then (nf 2) else (fun q => if q = 1 then (nf 1) else (fun q => if q = 0 then (nf 0) else (fun _ => 0) q) q) q) q) b1290 (tf 0) 0))))).toInt64) else (-1 : Int64))), (.int ((((1 : Int32) &&& (1 : Int32)) &&& (1 : Int32)) &&& (1 : Int32)))])
    refine Go.lcmp C X349 (pc' := 353) at_352 rfl ?_
    refine Go.ifNo C X349 (pc' := 356) at_353 ((if0 _ _).trans (teq ((lw_eq _ _).mpr (own_ans M4 (by decide) (own_ag3 nf).1 rfl (by decide)))).2) rfl ?_
    refine Go.iconst C X349 (pc' := 357) (v := (1 : Int32)) at_356 rfl rfl ?_
    refine Go.goto C X349 (pc' := 361) at_357 (by decide) (by decide) ?_
    refine Go.iand C X349 (pc' := 362) at_361 rfl ?_
    refine Go.istore C X349 (pc' := 364) (Ls' := #[.val (.long x0), .second, .val (.int x1), .val (.long x2), .second, .val (.int x3), .val (.int (0 : Int32)), .val (.int (3 : Int32)), .val (.ref b210), .val (.ref b214), .val (.ref b222), .val (.ref b267), .val (.int (((((1 : Int32) &&& (1 : Int32)) &&& (1 : Int32)) &&& (1 : Int32)) &&& (1 : Int32)))]) at_362 rfl rfl ?_
    refine Go.iload C X349 (pc' := 366) at_364 rfl rfl ?_
    refine Go.aload C X349 (pc' := 368) at_366 rfl rfl rfl ?_
    refine Go.aload C X349 (pc' := 370) at_368 rfl rfl rfl ?_
    refine Go.iconst C X349 (pc' := 371) (v := (4 : Int32)) at_370 rfl rfl ?_
    refine Go.baload C X349 (pc' := 372) (i := 4) (w := (tf 4)) A342 rfl (by decide) rfl at_371 rfl ?_
    refine Go.callV C X349 (pc' := 375) (W := 1) (argsL := [(.int (tf 4))]) (rest := [(.int (((((1 : Int32) &&& (1 : Int32)) &&& (1 : Int32)) &&& (1 : Int32)) &&& (1 : Int32)))]) (a := b267) (rm_fd l Z a0 hw b267 (tf 4) b277 b214 t2290 4 (fun q => if q = (4 - 1) then (-2147483648 : Int32) else (fun q => if q = 2 then (nf 2) else (fun q => if q = 1 then (nf 1) else (fun q => if q = 0 then (nf 0) else (fun _ => 0) q) q) q) q) b1290 (own_nx (fun q => if q = (4 - 1) then (-2147483648 : Int32) else (fun q => if q = 2 then (nf 2) else (fun q => if q = 1 then (nf 1) else (fun q => if q = 0 then (nf 0) else (fun _ => 0) q) q) q) q) b1290 (tf 3) (own_nx (fun q => if q = (4 - 1) then (-2147483648 : Int32) else (fun q => if q = 2 then (nf 2) else (fun q => if q = 1 then (nf 1) else (fun q => if q = 0 then (nf 0) else (fun _ => 0) q) q) q) q) b1290 (tf 2) (own_nx (fun q => if q = (4 - 1) then (-2147483648 : Int32) else (fun q => if q = 2 then (nf 2) else (fun q => if q = 1 then (nf 1) else (fun q => if q = 0 then (nf 0) else (fun _ => 0) q) q) q) q) b1290 (tf 1) (own_nx (fun q => if q = (4 - 1) then (-2147483648 : Int32) else (fun q => if q = 2 then (nf 2) else (fun q => if q = 1 then (nf 1) else (fun q => if q = 0 then (nf 0) else (fun _ => 0) q) q) q) q) b1290 (tf 0) 0)))) (((((0 : Int64) + (1 : Int64)) + (1 : Int64)) + (1 : Int64)) + (1 : Int64)) (4 : Int32) h340 n0 X349.sz O340_0 O340_1 O340_2 O340_3 N267 E344 F345 F346 A347 A348 (Ne.symm ne_b267_b277) ne_b214_b267 (Ne.symm ne_b267_t2290) rfl (by decide) (by decide) (by have := M4.1; omega) Y290_0) O340_0 (notFace_of_selects (args := #[]) (mvT C.2.1 (hw _ (List.mem_of_getElem? (i := 56) rfl)))) (hw _ (List.mem_of_getElem? (i := 53) rfl)) (hw _ (List.mem_of_getElem? (i := 54) rfl)) (hw _ (List.mem_of_getElem? (i := 56) rfl)) (hw _ (List.mem_of_getElem? (i := 55) rfl)) (hw _ (List.mem_of_getElem? (i := 8) rfl)) (hw _ (List.mem_of_getElem? (i := 57) rfl)) (by decide) rfl rfl (lenOf own_pd6 rfl) rfl (Nat.le_of_eq rfl) (by decide) (by decide) (by decide) (by decide) at_372 rfl (fun _ _ q => by obtain ⟨_, K, _⟩ := q; exact K.1) (fun T350 h350 v350 X350 P350 => ?_)
    obtain ⟨rfl, K350, O350_0, O350_1, O350_2, O350_3⟩ := P350
    have A351 := A341.keep K350 (ninS ne_b210_b267 nin0)
    have A352 := A342.keep K350 (ninS ne_b222_b267 nin0)
    have E353 := O340_0.keep K350
    have E354 := E344.keep K350
    have F355 := F345.keep K350 (ninS (Ne.symm ne_b267_b277) nin0)
    have F356 := F346.keep K350 (ninS (Ne.symm ne_b267_b277) nin0)
    have A357 := A347.keep K350 (ninS ne_b214_b267 nin0)
    have A358 := A348.keep K350 (ninS (Ne.symm ne_b267_t2290) nin0)
    have M5 : own_M (fun q => if q = (4 - 1) then (-2147483648 : Int32) else (fun q => if q = 2 then (nf 2) else (fun q => if q = 1 then (nf 1) else (fun q => if q = 0 then (nf 0) else (fun _ => 0) q) q) q) q) tf 3 5 (own_nx (fun q => if q = (4 - 1) then (-2147483648 : Int32) else (fun q => if q = 2 then (nf 2) else (fun q => if q = 1 then (nf 1) else (fun q => if q = 0 then (nf 0) else (fun _ => 0) q) q) q) q) b1290 (tf 4) (own_nx (fun q => if q = (4 - 1) then (-2147483648 : Int32) else (fun q => if q = 2 then (nf 2) else (fun q => if q = 1 then (nf 1) else (fun q => if q = 0 then (nf 0) else (fun _ => 0) q) q) q) q) b1290 (tf 3) (own_nx (fun q => if q = (4 - 1) then (-2147483648 : Int32) else (fun q => if q = 2 then (nf 2) else (fun q => if q = 1 then (nf 1) else (fun q => if q = 0 then (nf 0) else (fun _ => 0) q) q) q) q) b1290 (tf 2) (own_nx (fun q => if q = (4 - 1) then (-2147483648 : Int32) else (fun q => if q = 2 then (nf 2) else (fun q => if q = 1 then (nf 1) else (fun q => if q = 0 then (nf 0) else (fun _ => 0) q) q) q) q) b1290 (tf 1) (own_nx (fun q => if q = (4 - 1) then (-2147483648 : Int32) else (fun q => if q = 2 then (nf 2) else (fun q => if q = 1 then (nf 1) else (fun q => if q = 0 then (nf 0) else (fun _ => 0) q) q) q) q) b1290 (tf 0) 0))))) := own_Mstep (fun q a d => Y290_0 q a (by omega)) M4 (own_notmin (htf 4) (own_ag3 nf).2)
    show Go p e below s n0 _ _ _ T350 (mkF m 375 #[.val (.long x0), .second, .val (.int x1), .val (.long x2), .second, .val (.int x3), .val (.int (0 : Int32)), .val (.int (3 : Int32)), .val (.ref b210), .val (.ref b214), .val (.ref b222), .val (.ref b267), .val (.int (((((1 : Int32) &&& (1 : Int32)) &&& (1 : Int32)) &&& (1 : Int32)) &&& (1 : Int32)))] [(.long (if (own_nx (fun q => if q = (4 - 1) then (-2147483648 : Int32) else (fun q => if q = 2 then (nf 2) else (fun q => if q = 1 then (nf 1) else (fun q => if q = 0 then (nf 0) else (fun _ => 0) q) q) q) q) b1290 (tf 4) (own_nx (fun q => if q = (4 - 1) then (-2147483648 : Int32) else (fun q => if q = 2 then (nf 2) else (fun q => if q = 1 then (nf 1) else (fun q => if q = 0 then (nf 0) else (fun _ => 0) q) q) q) q) b1290 (tf 3) (own_nx (fun q => if q = (4 - 1) then (-2147483648 : Int32) else (fun q => if q = 2 then (nf 2) else (fun q => if q = 1 then (nf 1) else (fun q => if q = 0 then (nf 0) else (fun _ => 0) q) q) q) q) b1290 (tf 2) (own_nx (fun q => if q = (4 - 1) then (-2147483648 : Int32) else (fun q => if q = 2 then (nf 2) else (fun q => if q = 1 then (nf 1) else (fun q => if q = 0 then (nf 0) else (fun _ => 0) q) q) q) q) b1290 (tf 1) (own_nx (fun q => if q = (4 - 1) then (-2147483648 : Int32) else (fun q => if q = 2 then (nf 2) else (fun q => if q = 1 then (nf 1) else (fun q => if q = 0 then (nf 0) else (fun _ => 0) q) q) q) q) b1290 (tf 0) 0))))) = 4 - 1 then (((((((0 : Int64) + (1 : Int64)) + (1 : Int64)) + (1 : Int64)) + (1 : Int64)) + (1 : Int64)) - (Int32.ofNat (own_nx (fun q => if q = (4 - 1) then (-2147483648 : Int32) else (fun q => if q = 2 then (nf 2) else (fun q => if q = 1 then (nf 1) else (fun q => if q = 0 then (nf 0) else (fun _ => 0) q) q) q) q) b1290 (tf 4) (own_nx (fun q => if q = (4 - 1) then (-2147483648 : Int32) else (fun q => if q = 2 then (nf 2) else (fun q => if q = 1 then (nf 1) else (fun q => if q = 0 then (nf 0) else (fun _ => 0) q) q) q) q) b1290 (tf 3) (own_nx (fun q => if q = (4 - 1) then (-2147483648 : Int32) else (fun q => if q = 2 then (nf 2) else (fun q => if q = 1 then (nf 1) else (fun q => if q = 0 then (nf 0) else (fun _ => 0) q) q) q) q) b1290 (tf 2) (own_nx (fun q => if q = (4 - 1) then (-2147483648 : Int32) else (fun q => if q = 2 then (nf 2) else (fun q => if q = 1 then (nf 1) else (fun q => if q = 0 then (nf 0) else (fun _ => 0) q) q) q) q) b1290 (tf 1) (own_nx (fun q => if q = (4 - 1) then (-2147483648 : Int32) else (fun q => if q = 2 then (nf 2) else (fun q => if q = 1 then (nf 1) else (fun q => if q = 0 then (nf 0) else (fun _ => 0) q) q) q) q) b1290 (tf 0) 0)))))).toInt64) else (-1 : Int64))), (.int (((((1 : Int32) &&& (1 : Int32)) &&& (1 : Int32)) &&& (1 : Int32)) &&& (1 : Int32)))])
    refine Go.aload C X350 (pc' := 377) at_375 rfl rfl rfl ?_
    refine Go.iconst C X350 (pc' := 378) (v := (5 : Int32)) at_377 rfl rfl ?_
    refine Go.aload C X350 (pc' := 380) at_378 rfl rfl rfl ?_
    refine Go.iload C X350 (pc' := 382) at_380 rfl rfl ?_
    refine Go.callS C X350 (pc' := 385) (W := 3) (argsL := [(.ref b222), (.int (5 : Int32)), (.ref b210), (.int (3 : Int32))]) (rest := [(.long (if (own_nx (fun q => if q = (4 - 1) then (-2147483648 : Int32) else (fun q => if q = 2 then (nf 2) else (fun q => if q = 1 then (nf 1) else (fun q => if q = 0 then (nf 0) else (fun _ => 0) q) q) q) q) b1290 (tf 4) (own_nx (fun q => if q = (4 - 1) then (-2147483648 : Int32) else (fun q => if q = 2 then (nf 2) else (fun q => if q = 1 then (nf 1) else (fun q => if q = 0 then (nf 0) else (fun _ => 0) q) q) q) q) b1290 (tf 3) (own_nx (fun q => if q = (4 - 1) then (-2147483648 : Int32) else (fun q => if q = 2 then (nf 2) else (fun q => if q = 1 then (nf 1) else (fun q => if q = 0 then (nf 0) else (fun _ => 0) q) q) q) q) b1290 (tf 2) (own_nx (fun q => if q = (4 - 1) then (-2147483648 : Int32) else (fun q => if q = 2 then (nf 2) else (fun q => if q = 1 then (nf 1) else (fun q => if q = 0 then (nf 0) else (fun _ => 0) q) q) q) q) b1290 (tf 1) (own_nx (fun q => if q = (4 - 1) then (-2147483648 : Int32) else (fun q => if q = 2 then (nf 2) else (fun q => if q = 1 then (nf 1) else (fun q => if q = 0 then (nf 0) else (fun _ => 0) q) q) q) q) b1290 (tf 0) 0))))) = 4 - 1 then (((((((0 : Int64) + (1 : Int64)) + (1 : Int64)) + (1 : Int64)) + (1 : Int64)) + (1 : Int64)) - (Int32.ofNat (own_nx (fun q => if q = (4 - 1) then (-2147483648 : Int32) else (fun q => if q = 2 then (nf 2) else (fun q => if q = 1 then (nf 1) else (fun q => if q = 0 then (nf 0) else (fun _ => 0) q) q) q) q) b1290 (tf 4) (own_nx (fun q => if q = (4 - 1) then (-2147483648 : Int32) else (fun q => if q = 2 then (nf 2) else (fun q => if q = 1 then (nf 1) else (fun q => if q = 0 then (nf 0) else (fun _ => 0) q) q) q) q) b1290 (tf 3) (own_nx (fun q => if q = (4 - 1) then (-2147483648 : Int32) else (fun q => if q = 2 then (nf 2) else (fun q => if q = 1 then (nf 1) else (fun q => if q = 0 then (nf 0) else (fun _ => 0) q) q) q) q) b1290 (tf 2) (own_nx (fun q => if q = (4 - 1) then (-2147483648 : Int32) else (fun q => if q = 2 then (nf 2) else (fun q => if q = 1 then (nf 1) else (fun q => if q = 0 then (nf 0) else (fun _ => 0) q) q) q) q) b1290 (tf 1) (own_nx (fun q => if q = (4 - 1) then (-2147483648 : Int32) else (fun q => if q = 2 then (nf 2) else (fun q => if q = 1 then (nf 1) else (fun q => if q = 0 then (nf 0) else (fun _ => 0) q) q) q) q) b1290 (tf 0) 0)))))).toInt64) else (-1 : Int64))), (.int (((((1 : Int32) &&& (1 : Int32)) &&& (1 : Int32)) &&& (1 : Int32)) &&& (1 : Int32)))]) (rm_ex3 l Z a0 hw b222 (5 : Int32) b210 (3 : Int32) tf nf 5 h350 n0 X350.sz A352 A351 rfl rfl (by decide)) (hw _ (List.mem_of_getElem? (i := 64) rfl)) (hw _ (List.mem_of_getElem? (i := 65) rfl)) (hw _ (List.mem_of_getElem? (i := 4) rfl)) (hw _ (List.mem_of_getElem? (i := 66) rfl)) (by decide) rfl rfl (lenOf own_pd7 rfl) rfl (Nat.le_of_eq rfl) (by decide) (by decide) (by decide) (by decide) at_382 rfl (fun _ _ q => Nat.le_of_eq (congrArg Array.size q.2)) (fun T359 h359 v359 X359 P359 => ?_)
    obtain ⟨rfl, rfl⟩ := P359
    show Go p e below s n0 _ _ _ T359 (mkF m 385 #[.val (.long x0), .second, .val (.int x1), .val (.long x2), .second, .val (.int x3), .val (.int (0 : Int32)), .val (.int (3 : Int32)), .val (.ref b210), .val (.ref b214), .val (.ref b222), .val (.ref b267), .val (.int (((((1 : Int32) &&& (1 : Int32)) &&& (1 : Int32)) &&& (1 : Int32)) &&& (1 : Int32)))] [(.long (if own_S nf tf 5 3 then Int64.ofNat (5 - 3) else (-1 : Int64))), (.long (if (own_nx (fun q => if q = (4 - 1) then (-2147483648 : Int32) else (fun q => if q = 2 then (nf 2) else (fun q => if q = 1 then (nf 1) else (fun q => if q = 0 then (nf 0) else (fun _ => 0) q) q) q) q) b1290 (tf 4) (own_nx (fun q => if q = (4 - 1) then (-2147483648 : Int32) else (fun q => if q = 2 then (nf 2) else (fun q => if q = 1 then (nf 1) else (fun q => if q = 0 then (nf 0) else (fun _ => 0) q) q) q) q) b1290 (tf 3) (own_nx (fun q => if q = (4 - 1) then (-2147483648 : Int32) else (fun q => if q = 2 then (nf 2) else (fun q => if q = 1 then (nf 1) else (fun q => if q = 0 then (nf 0) else (fun _ => 0) q) q) q) q) b1290 (tf 2) (own_nx (fun q => if q = (4 - 1) then (-2147483648 : Int32) else (fun q => if q = 2 then (nf 2) else (fun q => if q = 1 then (nf 1) else (fun q => if q = 0 then (nf 0) else (fun _ => 0) q) q) q) q) b1290 (tf 1) (own_nx (fun q => if q = (4 - 1) then (-2147483648 : Int32) else (fun q => if q = 2 then (nf 2) else (fun q => if q = 1 then (nf 1) else (fun q => if q = 0 then (nf 0) else (fun _ => 0) q) q) q) q) b1290 (tf 0) 0))))) = 4 - 1 then (((((((0 : Int64) + (1 : Int64)) + (1 : Int64)) + (1 : Int64)) + (1 : Int64)) + (1 : Int64)) - (Int32.ofNat (own_nx (fun q => if q = (4 - 1) then (-2147483648 : Int32) else (fun q => if q = 2 then (nf 2) else (fun q => if q = 1 then (nf 1) else (fun q => if q = 0 then (nf 0) else (fun _ => 0) q) q) q) q) b1290 (tf 4) (own_nx (fun q => if q = (4 - 1) then (-2147483648 : Int32) else (fun q => if q = 2 then (nf 2) else (fun q => if q = 1 then (nf 1) else (fun q => if q = 0 then (nf 0) else (fun _ => 0) q) q) q) q) b1290 (tf 3) (own_nx (fun q => if q = (4 - 1) then (-2147483648 : Int32) else (fun q => if q = 2 then (nf 2) else (fun q => if q = 1 then (nf 1) else (fun q => if q = 0 then (nf 0) else (fun _ => 0) q) q) q) q) b1290 (tf 2) (own_nx (fun q => if q = (4 - 1) then (-2147483648 : Int32) else (fun q => if q = 2 then (nf 2) else (fun q => if q = 1 then (nf 1) else (fun q => if q = 0 then (nf 0) else (fun _ => 0) q) q) q) q) b1290 (tf 1) (own_nx (fun q => if q = (4 - 1) then (-2147483648 : Int32) else (fun q => if q = 2 then (nf 2) else (fun q => if q = 1 then (nf 1) else (fun q => if q = 0 then (nf 0) else (fun _ => 0) q) q) q) q) b1290 (tf 0) 0)))))).toInt64) else (-1 : Int64))), (.int (((((1 : Int32) &&& (1 : Int32)) &&& (1 : Int32)) &&& (1 : Int32)) &&& (1 : Int32)))])
    refine Go.lcmp C X359 (pc' := 386) at_385 rfl ?_
    refine Go.ifNo C X359 (pc' := 389) at_386 ((if0 _ _).trans (teq ((lw_eq _ _).mpr (own_ans M5 (by decide) (own_ag3 nf).1 rfl (by decide)))).2) rfl ?_
    refine Go.iconst C X359 (pc' := 390) (v := (1 : Int32)) at_389 rfl rfl ?_
    refine Go.goto C X359 (pc' := 394) at_390 (by decide) (by decide) ?_
    refine Go.iand C X359 (pc' := 395) at_394 rfl ?_
    refine Go.istore C X359 (pc' := 397) (Ls' := #[.val (.long x0), .second, .val (.int x1), .val (.long x2), .second, .val (.int x3), .val (.int (0 : Int32)), .val (.int (3 : Int32)), .val (.ref b210), .val (.ref b214), .val (.ref b222), .val (.ref b267), .val (.int ((((((1 : Int32) &&& (1 : Int32)) &&& (1 : Int32)) &&& (1 : Int32)) &&& (1 : Int32)) &&& (1 : Int32)))]) at_395 rfl rfl ?_
    refine Go.iload C X359 (pc' := 399) at_397 rfl rfl ?_
    refine Go.aload C X359 (pc' := 401) at_399 rfl rfl rfl ?_
    refine Go.aload C X359 (pc' := 403) at_401 rfl rfl rfl ?_
    refine Go.iconst C X359 (pc' := 404) (v := (5 : Int32)) at_403 rfl rfl ?_
    refine Go.baload C X359 (pc' := 405) (i := 5) (w := (tf 5)) A352 rfl (by decide) rfl at_404 rfl ?_
    refine Go.callV C X359 (pc' := 408) (W := 1) (argsL := [(.int (tf 5))]) (rest := [(.int ((((((1 : Int32) &&& (1 : Int32)) &&& (1 : Int32)) &&& (1 : Int32)) &&& (1 : Int32)) &&& (1 : Int32)))]) (a := b267) (rm_fd l Z a0 hw b267 (tf 5) b277 b214 t2290 4 (fun q => if q = (4 - 1) then (-2147483648 : Int32) else (fun q => if q = 2 then (nf 2) else (fun q => if q = 1 then (nf 1) else (fun q => if q = 0 then (nf 0) else (fun _ => 0) q) q) q) q) b1290 (own_nx (fun q => if q = (4 - 1) then (-2147483648 : Int32) else (fun q => if q = 2 then (nf 2) else (fun q => if q = 1 then (nf 1) else (fun q => if q = 0 then (nf 0) else (fun _ => 0) q) q) q) q) b1290 (tf 4) (own_nx (fun q => if q = (4 - 1) then (-2147483648 : Int32) else (fun q => if q = 2 then (nf 2) else (fun q => if q = 1 then (nf 1) else (fun q => if q = 0 then (nf 0) else (fun _ => 0) q) q) q) q) b1290 (tf 3) (own_nx (fun q => if q = (4 - 1) then (-2147483648 : Int32) else (fun q => if q = 2 then (nf 2) else (fun q => if q = 1 then (nf 1) else (fun q => if q = 0 then (nf 0) else (fun _ => 0) q) q) q) q) b1290 (tf 2) (own_nx (fun q => if q = (4 - 1) then (-2147483648 : Int32) else (fun q => if q = 2 then (nf 2) else (fun q => if q = 1 then (nf 1) else (fun q => if q = 0 then (nf 0) else (fun _ => 0) q) q) q) q) b1290 (tf 1) (own_nx (fun q => if q = (4 - 1) then (-2147483648 : Int32) else (fun q => if q = 2 then (nf 2) else (fun q => if q = 1 then (nf 1) else (fun q => if q = 0 then (nf 0) else (fun _ => 0) q) q) q) q) b1290 (tf 0) 0))))) ((((((0 : Int64) + (1 : Int64)) + (1 : Int64)) + (1 : Int64)) + (1 : Int64)) + (1 : Int64)) (4 : Int32) h350 n0 X359.sz O350_0 O350_1 O350_2 O350_3 N267 E354 F355 F356 A357 A358 (Ne.symm ne_b267_b277) ne_b214_b267 (Ne.symm ne_b267_t2290) rfl (by decide) (by decide) (by have := M5.1; omega) Y290_0) O350_0 (notFace_of_selects (args := #[]) (mvT C.2.1 (hw _ (List.mem_of_getElem? (i := 56) rfl)))) (hw _ (List.mem_of_getElem? (i := 53) rfl)) (hw _ (List.mem_of_getElem? (i := 54) rfl)) (hw _ (List.mem_of_getElem? (i := 56) rfl)) (hw _ (List.mem_of_getElem? (i := 55) rfl)) (hw _ (List.mem_of_getElem? (i := 8) rfl)) (hw _ (List.mem_of_getElem? (i := 57) rfl)) (by decide) rfl rfl (lenOf own_pd6 rfl) rfl (Nat.le_of_eq rfl) (by decide) (by decide) (by decide) (by decide) at_405 rfl (fun _ _ q => by obtain ⟨_, K, _⟩ := q; exact K.1) (fun T360 h360 v360 X360 P360 => ?_)
    obtain ⟨rfl, K360, O360_0, O360_1, O360_2, O360_3⟩ := P360
    have A361 := A351.keep K360 (ninS ne_b210_b267 nin0)
    have A362 := A352.keep K360 (ninS ne_b222_b267 nin0)
    have E363 := O350_0.keep K360
    have E364 := E354.keep K360
    have F365 := F355.keep K360 (ninS (Ne.symm ne_b267_b277) nin0)
    have F366 := F356.keep K360 (ninS (Ne.symm ne_b267_b277) nin0)
    have A367 := A357.keep K360 (ninS ne_b214_b267 nin0)
    have A368 := A358.keep K360 (ninS (Ne.symm ne_b267_t2290) nin0)
    have M6 : own_M (fun q => if q = (4 - 1) then (-2147483648 : Int32) else (fun q => if q = 2 then (nf 2) else (fun q => if q = 1 then (nf 1) else (fun q => if q = 0 then (nf 0) else (fun _ => 0) q) q) q) q) tf 3 6 (own_nx (fun q => if q = (4 - 1) then (-2147483648 : Int32) else (fun q => if q = 2 then (nf 2) else (fun q => if q = 1 then (nf 1) else (fun q => if q = 0 then (nf 0) else (fun _ => 0) q) q) q) q) b1290 (tf 5) (own_nx (fun q => if q = (4 - 1) then (-2147483648 : Int32) else (fun q => if q = 2 then (nf 2) else (fun q => if q = 1 then (nf 1) else (fun q => if q = 0 then (nf 0) else (fun _ => 0) q) q) q) q) b1290 (tf 4) (own_nx (fun q => if q = (4 - 1) then (-2147483648 : Int32) else (fun q => if q = 2 then (nf 2) else (fun q => if q = 1 then (nf 1) else (fun q => if q = 0 then (nf 0) else (fun _ => 0) q) q) q) q) b1290 (tf 3) (own_nx (fun q => if q = (4 - 1) then (-2147483648 : Int32) else (fun q => if q = 2 then (nf 2) else (fun q => if q = 1 then (nf 1) else (fun q => if q = 0 then (nf 0) else (fun _ => 0) q) q) q) q) b1290 (tf 2) (own_nx (fun q => if q = (4 - 1) then (-2147483648 : Int32) else (fun q => if q = 2 then (nf 2) else (fun q => if q = 1 then (nf 1) else (fun q => if q = 0 then (nf 0) else (fun _ => 0) q) q) q) q) b1290 (tf 1) (own_nx (fun q => if q = (4 - 1) then (-2147483648 : Int32) else (fun q => if q = 2 then (nf 2) else (fun q => if q = 1 then (nf 1) else (fun q => if q = 0 then (nf 0) else (fun _ => 0) q) q) q) q) b1290 (tf 0) 0)))))) := own_Mstep (fun q a d => Y290_0 q a (by omega)) M5 (own_notmin (htf 5) (own_ag3 nf).2)
    show Go p e below s n0 _ _ _ T360 (mkF m 408 #[.val (.long x0), .second, .val (.int x1), .val (.long x2), .second, .val (.int x3), .val (.int (0 : Int32)), .val (.int (3 : Int32)), .val (.ref b210), .val (.ref b214), .val (.ref b222), .val (.ref b267), .val (.int ((((((1 : Int32) &&& (1 : Int32)) &&& (1 : Int32)) &&& (1 : Int32)) &&& (1 : Int32)) &&& (1 : Int32)))] [(.long (if (own_nx (fun q => if q = (4 - 1) then (-2147483648 : Int32) else (fun q => if q = 2 then (nf 2) else (fun q => if q = 1 then (nf 1) else (fun q => if q = 0 then (nf 0) else (fun _ => 0) q) q) q) q) b1290 (tf 5) (own_nx (fun q => if q = (4 - 1) then (-2147483648 : Int32) else (fun q => if q = 2 then (nf 2) else (fun q => if q = 1 then (nf 1) else (fun q => if q = 0 then (nf 0) else (fun _ => 0) q) q) q) q) b1290 (tf 4) (own_nx (fun q => if q = (4 - 1) then (-2147483648 : Int32) else (fun q => if q = 2 then (nf 2) else (fun q => if q = 1 then (nf 1) else (fun q => if q = 0 then (nf 0) else (fun _ => 0) q) q) q) q) b1290 (tf 3) (own_nx (fun q => if q = (4 - 1) then (-2147483648 : Int32) else (fun q => if q = 2 then (nf 2) else (fun q => if q = 1 then (nf 1) else (fun q => if q = 0 then (nf 0) else (fun _ => 0) q) q) q) q) b1290 (tf 2) (own_nx (fun q => if q = (4 - 1) then (-2147483648 : Int32) else (fun q => if q = 2 then (nf 2) else (fun q => if q = 1 then (nf 1) else (fun q => if q = 0 then (nf 0) else (fun _ => 0) q) q) q) q) b1290 (tf 1) (own_nx (fun q => if q = (4 - 1) then (-2147483648 : Int32) else (fun q => if q = 2 then (nf 2) else (fun q => if q = 1 then (nf 1) else (fun q => if q = 0 then (nf 0) else (fun _ => 0) q) q) q) q) b1290 (tf 0) 0)))))) = 4 - 1 then ((((((((0 : Int64) + (1 : Int64)) + (1 : Int64)) + (1 : Int64)) + (1 : Int64)) + (1 : Int64)) + (1 : Int64)) - (Int32.ofNat (own_nx (fun q => if q = (4 - 1) then (-2147483648 : Int32) else (fun q => if q = 2 then (nf 2) else (fun q => if q = 1 then (nf 1) else (fun q => if q = 0 then (nf 0) else (fun _ => 0) q) q) q) q) b1290 (tf 5) (own_nx (fun q => if q = (4 - 1) then (-2147483648 : Int32) else (fun q => if q = 2 then (nf 2) else (fun q => if q = 1 then (nf 1) else (fun q => if q = 0 then (nf 0) else (fun _ => 0) q) q) q) q) b1290 (tf 4) (own_nx (fun q => if q = (4 - 1) then (-2147483648 : Int32) else (fun q => if q = 2 then (nf 2) else (fun q => if q = 1 then (nf 1) else (fun q => if q = 0 then (nf 0) else (fun _ => 0) q) q) q) q) b1290 (tf 3) (own_nx (fun q => if q = (4 - 1) then (-2147483648 : Int32) else (fun q => if q = 2 then (nf 2) else (fun q => if q = 1 then (nf 1) else (fun q => if q = 0 then (nf 0) else (fun _ => 0) q) q) q) q) b1290 (tf 2) (own_nx (fun q => if q = (4 - 1) then (-2147483648 : Int32) else (fun q => if q = 2 then (nf 2) else (fun q => if q = 1 then (nf 1) else (fun q => if q = 0 then (nf 0) else (fun _ => 0) q) q) q) q) b1290 (tf 1) (own_nx (fun q => if q = (4 - 1) then (-2147483648 : Int32) else (fun q => if q = 2 then (nf 2) else (fun q => if q = 1 then (nf 1) else (fun q => if q = 0 then (nf 0) else (fun _ => 0) q) q) q) q) b1290 (tf 0) 0))))))).toInt64) else (-1 : Int64))), (.int ((((((1 : Int32) &&& (1 : Int32)) &&& (1 : Int32)) &&& (1 : Int32)) &&& (1 : Int32)) &&& (1 : Int32)))])
    refine Go.aload C X360 (pc' := 410) at_408 rfl rfl rfl ?_
    refine Go.bipush C X360 (pc' := 412) (v := (6 : Int32)) at_410 rfl rfl ?_
    refine Go.aload C X360 (pc' := 414) at_412 rfl rfl rfl ?_
    refine Go.iload C X360 (pc' := 416) at_414 rfl rfl ?_
    refine Go.callS C X360 (pc' := 419) (W := 3) (argsL := [(.ref b222), (.int (6 : Int32)), (.ref b210), (.int (3 : Int32))]) (rest := [(.long (if (own_nx (fun q => if q = (4 - 1) then (-2147483648 : Int32) else (fun q => if q = 2 then (nf 2) else (fun q => if q = 1 then (nf 1) else (fun q => if q = 0 then (nf 0) else (fun _ => 0) q) q) q) q) b1290 (tf 5) (own_nx (fun q => if q = (4 - 1) then (-2147483648 : Int32) else (fun q => if q = 2 then (nf 2) else (fun q => if q = 1 then (nf 1) else (fun q => if q = 0 then (nf 0) else (fun _ => 0) q) q) q) q) b1290 (tf 4) (own_nx (fun q => if q = (4 - 1) then (-2147483648 : Int32) else (fun q => if q = 2 then (nf 2) else (fun q => if q = 1 then (nf 1) else (fun q => if q = 0 then (nf 0) else (fun _ => 0) q) q) q) q) b1290 (tf 3) (own_nx (fun q => if q = (4 - 1) then (-2147483648 : Int32) else (fun q => if q = 2 then (nf 2) else (fun q => if q = 1 then (nf 1) else (fun q => if q = 0 then (nf 0) else (fun _ => 0) q) q) q) q) b1290 (tf 2) (own_nx (fun q => if q = (4 - 1) then (-2147483648 : Int32) else (fun q => if q = 2 then (nf 2) else (fun q => if q = 1 then (nf 1) else (fun q => if q = 0 then (nf 0) else (fun _ => 0) q) q) q) q) b1290 (tf 1) (own_nx (fun q => if q = (4 - 1) then (-2147483648 : Int32) else (fun q => if q = 2 then (nf 2) else (fun q => if q = 1 then (nf 1) else (fun q => if q = 0 then (nf 0) else (fun _ => 0) q) q) q) q) b1290 (tf 0) 0)))))) = 4 - 1 then ((((((((0 : Int64) + (1 : Int64)) + (1 : Int64)) + (1 : Int64)) + (1 : Int64)) + (1 : Int64)) + (1 : Int64)) - (Int32.ofNat (own_nx (fun q => if q = (4 - 1) then (-2147483648 : Int32) else (fun q => if q = 2 then (nf 2) else (fun q => if q = 1 then (nf 1) else (fun q => if q = 0 then (nf 0) else (fun _ => 0) q) q) q) q) b1290 (tf 5) (own_nx (fun q => if q = (4 - 1) then (-2147483648 : Int32) else (fun q => if q = 2 then (nf 2) else (fun q => if q = 1 then (nf 1) else (fun q => if q = 0 then (nf 0) else (fun _ => 0) q) q) q) q) b1290 (tf 4) (own_nx (fun q => if q = (4 - 1) then (-2147483648 : Int32) else (fun q => if q = 2 then (nf 2) else (fun q => if q = 1 then (nf 1) else (fun q => if q = 0 then (nf 0) else (fun _ => 0) q) q) q) q) b1290 (tf 3) (own_nx (fun q => if q = (4 - 1) then (-2147483648 : Int32) else (fun q => if q = 2 then (nf 2) else (fun q => if q = 1 then (nf 1) else (fun q => if q = 0 then (nf 0) else (fun _ => 0) q) q) q) q) b1290 (tf 2) (own_nx (fun q => if q = (4 - 1) then (-2147483648 : Int32) else (fun q => if q = 2 then (nf 2) else (fun q => if q = 1 then (nf 1) else (fun q => if q = 0 then (nf 0) else (fun _ => 0) q) q) q) q) b1290 (tf 1) (own_nx (fun q => if q = (4 - 1) then (-2147483648 : Int32) else (fun q => if q = 2 then (nf 2) else (fun q => if q = 1 then (nf 1) else (fun q => if q = 0 then (nf 0) else (fun _ => 0) q) q) q) q) b1290 (tf 0) 0))))))).toInt64) else (-1 : Int64))), (.int ((((((1 : Int32) &&& (1 : Int32)) &&& (1 : Int32)) &&& (1 : Int32)) &&& (1 : Int32)) &&& (1 : Int32)))]) (rm_ex3 l Z a0 hw b222 (6 : Int32) b210 (3 : Int32) tf nf 6 h360 n0 X360.sz A362 A361 rfl rfl (by decide)) (hw _ (List.mem_of_getElem? (i := 64) rfl)) (hw _ (List.mem_of_getElem? (i := 65) rfl)) (hw _ (List.mem_of_getElem? (i := 4) rfl)) (hw _ (List.mem_of_getElem? (i := 66) rfl)) (by decide) rfl rfl (lenOf own_pd7 rfl) rfl (Nat.le_of_eq rfl) (by decide) (by decide) (by decide) (by decide) at_416 rfl (fun _ _ q => Nat.le_of_eq (congrArg Array.size q.2)) (fun T369 h369 v369 X369 P369 => ?_)
    obtain ⟨rfl, rfl⟩ := P369
    show Go p e below s n0 _ _ _ T369 (mkF m 419 #[.val (.long x0), .second, .val (.int x1), .val (.long x2), .second, .val (.int x3), .val (.int (0 : Int32)), .val (.int (3 : Int32)), .val (.ref b210), .val (.ref b214), .val (.ref b222), .val (.ref b267), .val (.int ((((((1 : Int32) &&& (1 : Int32)) &&& (1 : Int32)) &&& (1 : Int32)) &&& (1 : Int32)) &&& (1 : Int32)))] [(.long (if own_S nf tf 6 3 then Int64.ofNat (6 - 3) else (-1 : Int64))), (.long (if (own_nx (fun q => if q = (4 - 1) then (-2147483648 : Int32) else (fun q => if q = 2 then (nf 2) else (fun q => if q = 1 then (nf 1) else (fun q => if q = 0 then (nf 0) else (fun _ => 0) q) q) q) q) b1290 (tf 5) (own_nx (fun q => if q = (4 - 1) then (-2147483648 : Int32) else (fun q => if q = 2 then (nf 2) else (fun q => if q = 1 then (nf 1) else (fun q => if q = 0 then (nf 0) else (fun _ => 0) q) q) q) q) b1290 (tf 4) (own_nx (fun q => if q = (4 - 1) then (-2147483648 : Int32) else (fun q => if q = 2 then (nf 2) else (fun q => if q = 1 then (nf 1) else (fun q => if q = 0 then (nf 0) else (fun _ => 0) q) q) q) q) b1290 (tf 3) (own_nx (fun q => if q = (4 - 1) then (-2147483648 : Int32) else (fun q => if q = 2 then (nf 2) else (fun q => if q = 1 then (nf 1) else (fun q => if q = 0 then (nf 0) else (fun _ => 0) q) q) q) q) b1290 (tf 2) (own_nx (fun q => if q = (4 - 1) then (-2147483648 : Int32) else (fun q => if q = 2 then (nf 2) else (fun q => if q = 1 then (nf 1) else (fun q => if q = 0 then (nf 0) else (fun _ => 0) q) q) q) q) b1290 (tf 1) (own_nx (fun q => if q = (4 - 1) then (-2147483648 : Int32) else (fun q => if q = 2 then (nf 2) else (fun q => if q = 1 then (nf 1) else (fun q => if q = 0 then (nf 0) else (fun _ => 0) q) q) q) q) b1290 (tf 0) 0)))))) = 4 - 1 then ((((((((0 : Int64) + (1 : Int64)) + (1 : Int64)) + (1 : Int64)) + (1 : Int64)) + (1 : Int64)) + (1 : Int64)) - (Int32.ofNat (own_nx (fun q => if q = (4 - 1) then (-2147483648 : Int32) else (fun q => if q = 2 then (nf 2) else (fun q => if q = 1 then (nf 1) else (fun q => if q = 0 then (nf 0) else (fun _ => 0) q) q) q) q) b1290 (tf 5) (own_nx (fun q => if q = (4 - 1) then (-2147483648 : Int32) else (fun q => if q = 2 then (nf 2) else (fun q => if q = 1 then (nf 1) else (fun q => if q = 0 then (nf 0) else (fun _ => 0) q) q) q) q) b1290 (tf 4) (own_nx (fun q => if q = (4 - 1) then (-2147483648 : Int32) else (fun q => if q = 2 then (nf 2) else (fun q => if q = 1 then (nf 1) else (fun q => if q = 0 then (nf 0) else (fun _ => 0) q) q) q) q) b1290 (tf 3) (own_nx (fun q => if q = (4 - 1) then (-2147483648 : Int32) else (fun q => if q = 2 then (nf 2) else (fun q => if q = 1 then (nf 1) else (fun q => if q = 0 then (nf 0) else (fun _ => 0) q) q) q) q) b1290 (tf 2) (own_nx (fun q => if q = (4 - 1) then (-2147483648 : Int32) else (fun q => if q = 2 then (nf 2) else (fun q => if q = 1 then (nf 1) else (fun q => if q = 0 then (nf 0) else (fun _ => 0) q) q) q) q) b1290 (tf 1) (own_nx (fun q => if q = (4 - 1) then (-2147483648 : Int32) else (fun q => if q = 2 then (nf 2) else (fun q => if q = 1 then (nf 1) else (fun q => if q = 0 then (nf 0) else (fun _ => 0) q) q) q) q) b1290 (tf 0) 0))))))).toInt64) else (-1 : Int64))), (.int ((((((1 : Int32) &&& (1 : Int32)) &&& (1 : Int32)) &&& (1 : Int32)) &&& (1 : Int32)) &&& (1 : Int32)))])
    refine Go.lcmp C X369 (pc' := 420) at_419 rfl ?_
    refine Go.ifNo C X369 (pc' := 423) at_420 ((if0 _ _).trans (teq ((lw_eq _ _).mpr (own_ans M6 (by decide) (own_ag3 nf).1 rfl (by decide)))).2) rfl ?_
    refine Go.iconst C X369 (pc' := 424) (v := (1 : Int32)) at_423 rfl rfl ?_
    refine Go.goto C X369 (pc' := 428) at_424 (by decide) (by decide) ?_
    refine Go.iand C X369 (pc' := 429) at_428 rfl ?_
    refine Go.istore C X369 (pc' := 431) (Ls' := #[.val (.long x0), .second, .val (.int x1), .val (.long x2), .second, .val (.int x3), .val (.int (0 : Int32)), .val (.int (3 : Int32)), .val (.ref b210), .val (.ref b214), .val (.ref b222), .val (.ref b267), .val (.int (((((((1 : Int32) &&& (1 : Int32)) &&& (1 : Int32)) &&& (1 : Int32)) &&& (1 : Int32)) &&& (1 : Int32)) &&& (1 : Int32)))]) at_429 rfl rfl ?_
    refine Go.iload C X369 (pc' := 433) at_431 rfl rfl ?_
    refine Go.aload C X369 (pc' := 435) at_433 rfl rfl rfl ?_
    refine Go.callV C X369 (pc' := 438) (W := 1) (argsL := []) (rest := [(.int (((((((1 : Int32) &&& (1 : Int32)) &&& (1 : Int32)) &&& (1 : Int32)) &&& (1 : Int32)) &&& (1 : Int32)) &&& (1 : Int32)))]) (a := b267) (rm_fed l Z a0 hw b267 (((((((0 : Int64) + (1 : Int64)) + (1 : Int64)) + (1 : Int64)) + (1 : Int64)) + (1 : Int64)) + (1 : Int64)) h360 n0 X369.sz O360_3) O360_0 (notFace_of_selects (args := #[]) (mvT C.2.1 (hw _ (List.mem_of_getElem? (i := 71) rfl)))) (hw _ (List.mem_of_getElem? (i := 68) rfl)) (hw _ (List.mem_of_getElem? (i := 69) rfl)) (hw _ (List.mem_of_getElem? (i := 71) rfl)) (hw _ (List.mem_of_getElem? (i := 70) rfl)) (hw _ (List.mem_of_getElem? (i := 8) rfl)) (hw _ (List.mem_of_getElem? (i := 72) rfl)) (by decide) rfl rfl (lenOf own_pd8 rfl) rfl (Nat.le_of_eq rfl) (by decide) (by decide) (by decide) (by decide) at_435 rfl (fun _ _ q => Nat.le_of_eq (congrArg Array.size q.2)) (fun T370 h370 v370 X370 P370 => ?_)
    obtain ⟨rfl, rfl⟩ := P370
    show Go p e below s n0 _ _ _ T370 (mkF m 438 #[.val (.long x0), .second, .val (.int x1), .val (.long x2), .second, .val (.int x3), .val (.int (0 : Int32)), .val (.int (3 : Int32)), .val (.ref b210), .val (.ref b214), .val (.ref b222), .val (.ref b267), .val (.int (((((((1 : Int32) &&& (1 : Int32)) &&& (1 : Int32)) &&& (1 : Int32)) &&& (1 : Int32)) &&& (1 : Int32)) &&& (1 : Int32)))] [(.long (((((((0 : Int64) + (1 : Int64)) + (1 : Int64)) + (1 : Int64)) + (1 : Int64)) + (1 : Int64)) + (1 : Int64))), (.int (((((((1 : Int32) &&& (1 : Int32)) &&& (1 : Int32)) &&& (1 : Int32)) &&& (1 : Int32)) &&& (1 : Int32)) &&& (1 : Int32)))])
    refine Go.ldc2 C X370 (pc' := 441) (hw _ (List.mem_of_getElem? (i := 73) rfl)) at_438 rfl ?_
    refine Go.lcmp C X370 (pc' := 442) at_441 rfl ?_
    refine Go.ifNo C X370 (pc' := 445) at_442 ((if0 _ _).trans (teq ((lw_eq _ _).mpr rfl)).2) rfl ?_
    refine Go.iconst C X370 (pc' := 446) (v := (1 : Int32)) at_445 rfl rfl ?_
    refine Go.goto C X370 (pc' := 450) at_446 (by decide) (by decide) ?_
    refine Go.iand C X370 (pc' := 451) at_450 rfl ?_
    refine Go.istore C X370 (pc' := 453) (Ls' := #[.val (.long x0), .second, .val (.int x1), .val (.long x2), .second, .val (.int x3), .val (.int (0 : Int32)), .val (.int (3 : Int32)), .val (.ref b210), .val (.ref b214), .val (.ref b222), .val (.ref b267), .val (.int ((((((((1 : Int32) &&& (1 : Int32)) &&& (1 : Int32)) &&& (1 : Int32)) &&& (1 : Int32)) &&& (1 : Int32)) &&& (1 : Int32)) &&& (1 : Int32)))]) at_451 rfl rfl ?_
    refine Go.iload C X370 (pc' := 455) at_453 rfl rfl ?_
    exact Go.retZ (t := .boolean) C X370 (z' := ((((((((1 : Int32) &&& (1 : Int32)) &&& (1 : Int32)) &&& (1 : Int32)) &&& (1 : Int32)) &&& (1 : Int32)) &&& (1 : Int32)) &&& (1 : Int32))) (by decide) at_455 rfl (by decide) (by decide)
  · rw [q209]
    refine Go.iload C X0 (pc' := 7) at_5 rfl rfl ?_
    refine Go.ifYes C X0 (pc' := 14) at_7 ((if0 _ _).trans (feq (by decide)).2) (by decide) (by decide) ?_
    refine Go.iload C X0 (pc' := 16) at_14 rfl rfl ?_
    refine Go.istore C X0 (pc' := 18) (Ls' := #[.val (.long x0), .second, .val (.int x1), .val (.long x2), .second, .val (.int x3), .val (.int (1 : Int32)), .val (.int (1 : Int32)), .unset, .unset, .unset, .unset, .unset]) at_16 rfl rfl ?_
    refine Go.iconst C X0 (pc' := 19) (v := (3 : Int32)) at_18 rfl rfl ?_
    refine Go.newP C X0 (pc' := 21) (nn := 3) (cap := 3) (hw _ (List.mem_of_getElem? (i := 0) rfl)) at_19 rfl (by decide) (by decide) (by decide) (by decide) rfl (fun T371 h371 b371 k371 X371 g371 E371 Ar371 N371 => ?_)
    have A371 : AI Z h371 b371 .byte 3 (fun _ => 0) := AI.new rfl rfl Ar371
    refine Go.astore C X371 (pc' := 23) (Ls' := #[.val (.long x0), .second, .val (.int x1), .val (.long x2), .second, .val (.int x3), .val (.int (1 : Int32)), .val (.int (1 : Int32)), .val (.ref b371), .unset, .unset, .unset, .unset]) at_21 rfl rfl rfl ?_
    refine Go.aload C X371 (pc' := 25) at_23 rfl rfl rfl ?_
    refine Go.iconst C X371 (pc' := 26) (v := (0 : Int32)) at_25 rfl rfl ?_
    refine Go.lloadN C X371 (pc' := 27) at_26 rfl rfl ?_
    refine Go.l2i C X371 (pc' := 28) at_27 rfl ?_
    refine Go.i2b C X371 (pc' := 29) at_28 rfl ?_
    refine Go.bastore C X371 (pc' := 30) (i := 0) (x' := ((x0).toInt32).toInt8.toInt32) A371 rfl (by decide) (own_b2 _) N371 at_29 rfl (fun T372 h372 X372 W372 A372 => ?_)
    refine Go.aload C X372 (pc' := 32) at_30 rfl rfl rfl ?_
    refine Go.iconst C X372 (pc' := 33) (v := (1 : Int32)) at_32 rfl rfl ?_
    refine Go.lloadN C X372 (pc' := 34) at_33 rfl rfl ?_
    refine Go.bipush C X372 (pc' := 36) (v := (8 : Int32)) at_34 rfl rfl ?_
    refine Go.lushr C X372 (pc' := 37) at_36 rfl ?_
    refine Go.l2i C X372 (pc' := 38) at_37 rfl ?_
    refine Go.i2b C X372 (pc' := 39) at_38 rfl ?_
    refine Go.bastore C X372 (pc' := 40) (i := 1) (x' := ((((x0).toUInt64 >>> ((8 : Int32) &&& 0x3f).toInt64.toUInt64).toInt64).toInt32).toInt8.toInt32) A372 rfl (by decide) (own_b2 _) N371 at_39 rfl (fun T373 h373 X373 W373 A373 => ?_)
    refine Go.aload C X373 (pc' := 42) at_40 rfl rfl rfl ?_
    refine Go.iconst C X373 (pc' := 43) (v := (2 : Int32)) at_42 rfl rfl ?_
    refine Go.lloadN C X373 (pc' := 44) at_43 rfl rfl ?_
    refine Go.bipush C X373 (pc' := 46) (v := (16 : Int32)) at_44 rfl rfl ?_
    refine Go.lushr C X373 (pc' := 47) at_46 rfl ?_
    refine Go.l2i C X373 (pc' := 48) at_47 rfl ?_
    refine Go.i2b C X373 (pc' := 49) at_48 rfl ?_
    refine Go.bastore C X373 (pc' := 50) (i := 2) (x' := ((((x0).toUInt64 >>> ((16 : Int32) &&& 0x3f).toInt64.toUInt64).toInt64).toInt32).toInt8.toInt32) A373 rfl (by decide) (own_b2 _) N371 at_49 rfl (fun T374 h374 X374 W374 A374 => ?_)
    obtain ⟨nf, hnf, A50⟩ : ∃ f : Nat → Int32, (∀ q, -128 ≤ (f q).toInt ∧ (f q).toInt ≤ 127) ∧ AI Z h374 b371 .byte 3 f := ⟨_, (own_upd (R := fun z => -128 ≤ z.toInt ∧ z.toInt ≤ 127) (own_upd (R := fun z => -128 ≤ z.toInt ∧ z.toInt ≤ 127) (own_upd (R := fun z => -128 ≤ z.toInt ∧ z.toInt ≤ 127) (fun _ => by decide) (own_i2b _)) (own_i2b _)) (own_i2b _)), A374⟩
    refine Go.iload C X374 (pc' := 52) at_50 rfl rfl ?_
    refine Go.iconst C X374 (pc' := 53) (v := (1 : Int32)) at_52 rfl rfl ?_
    refine Go.icmpNo C X374 (pc' := 56) at_53 (teq (by decide)).2 rfl ?_
    refine Go.iconst C X374 (pc' := 57) (v := (2 : Int32)) at_56 rfl rfl ?_
    refine Go.newP C X374 (pc' := 59) (nn := 2) (cap := 2) (hw _ (List.mem_of_getElem? (i := 1) rfl)) at_57 rfl (by decide) (by decide) (by decide) (by decide) rfl (fun T375 h375 b375 k375 X375 g375 E375 Ar375 N375 => ?_)
    have ne_b371_b375 : b371 ≠ b375 := Nat.ne_of_lt (Nat.lt_of_lt_of_eq A50.lt g375.symm)
    have A376 := A50.ext E375
    have A375 : AI Z h375 b375 .int 2 (fun _ => 0) := AI.new rfl rfl Ar375
    refine Go.goto C X375 (pc' := 77) at_59 (by decide) (by decide) ?_
    refine Go.astore C X375 (pc' := 79) (Ls' := #[.val (.long x0), .second, .val (.int x1), .val (.long x2), .second, .val (.int x3), .val (.int (1 : Int32)), .val (.int (1 : Int32)), .val (.ref b371), .val (.ref b375), .unset, .unset, .unset]) at_77 rfl rfl rfl ?_
    refine Go.aload C X375 (pc' := 81) at_79 rfl rfl rfl ?_
    refine Go.iconst C X375 (pc' := 82) (v := (0 : Int32)) at_81 rfl rfl ?_
    refine Go.aload C X375 (pc' := 84) at_82 rfl rfl rfl ?_
    refine Go.iconst C X375 (pc' := 85) (v := (0 : Int32)) at_84 rfl rfl ?_
    refine Go.baload C X375 (pc' := 86) (i := 0) (w := (nf 0)) A376 rfl (by decide) rfl at_85 rfl ?_
    refine Go.iastore C X375 (pc' := 87) (i := 0) (x' := (nf 0)) A375 rfl (by decide) rfl N375 at_86 rfl (fun T377 h377 X377 W377 A377 => ?_)
    have A378 := A376.other W377 ne_b371_b375
    refine Go.iload C X377 (pc' := 89) at_87 rfl rfl ?_
    refine Go.iconst C X377 (pc' := 90) (v := (2 : Int32)) at_89 rfl rfl ?_
    refine Go.icmpYes C X377 (pc' := 101) at_90 (tlt (by decide)).1 (by decide) (by decide) ?_
    refine Go.iload C X377 (pc' := 103) at_101 rfl rfl ?_
    refine Go.iconst C X377 (pc' := 104) (v := (3 : Int32)) at_103 rfl rfl ?_
    refine Go.icmpYes C X377 (pc' := 115) at_104 (tlt (by decide)).1 (by decide) (by decide) ?_
    refine Go.bipush C X377 (pc' := 117) (v := (6 : Int32)) at_115 rfl rfl ?_
    refine Go.newP C X377 (pc' := 119) (nn := 6) (cap := 6) (hw _ (List.mem_of_getElem? (i := 0) rfl)) at_117 rfl (by decide) (by decide) (by decide) (by decide) rfl (fun T379 h379 b379 k379 X379 g379 E379 Ar379 N379 => ?_)
    have ne_b371_b379 : b371 ≠ b379 := Nat.ne_of_lt (Nat.lt_of_lt_of_eq A378.lt g379.symm)
    have ne_b375_b379 : b375 ≠ b379 := Nat.ne_of_lt (Nat.lt_of_lt_of_eq A377.lt g379.symm)
    have A380 := A378.ext E379
    have A381 := A377.ext E379
    have A379 : AI Z h379 b379 .byte 6 (fun _ => 0) := AI.new rfl rfl Ar379
    refine Go.astore C X379 (pc' := 121) (Ls' := #[.val (.long x0), .second, .val (.int x1), .val (.long x2), .second, .val (.int x3), .val (.int (1 : Int32)), .val (.int (1 : Int32)), .val (.ref b371), .val (.ref b375), .val (.ref b379), .unset, .unset]) at_119 rfl rfl rfl ?_
    refine Go.aload C X379 (pc' := 123) at_121 rfl rfl rfl ?_
    refine Go.iconst C X379 (pc' := 124) (v := (0 : Int32)) at_123 rfl rfl ?_
    refine Go.iload C X379 (pc' := 126) at_124 rfl rfl ?_
    refine Go.iconst C X379 (pc' := 127) (v := (0 : Int32)) at_126 rfl rfl ?_
    refine Go.aload C X379 (pc' := 129) at_127 rfl rfl rfl ?_
    refine Go.iload C X379 (pc' := 131) at_129 rfl rfl ?_
    refine Go.lloadN C X379 (pc' := 132) at_131 rfl rfl ?_
    refine Go.callS C X379 (pc' := 135) (W := 2) (argsL := [(.int x3), (.int (0 : Int32)), (.ref b371), (.int (1 : Int32)), (.long x2)]) (rest := [(.int (0 : Int32)), (.ref b379)]) (rm_pk l Z a0 hw x3 (0 : Int32) b371 (1 : Int32) x2 nf 1 h379 n0 X379.sz A380 rfl (by decide)) (hw _ (List.mem_of_getElem? (i := 2) rfl)) (hw _ (List.mem_of_getElem? (i := 3) rfl)) (hw _ (List.mem_of_getElem? (i := 4) rfl)) (hw _ (List.mem_of_getElem? (i := 5) rfl)) (by decide) rfl rfl (lenOf own_pd3 rfl) rfl (Nat.le_of_eq rfl) (by decide) (by decide) (by decide) (by decide) at_132 rfl (fun _ _ q => by obtain ⟨_, _, K, _⟩ := q; exact K.1) (fun T382 h382 v382 X382 P382 => ?_)
    obtain ⟨r382, rfl, K382, Y382_0⟩ := P382
    have A383 := A380.keep K382 nin0
    have A384 := A381.keep K382 nin0
    have A385 := A379.keep K382 nin0
    show Go p e below s n0 _ _ _ T382 (mkF m 135 #[.val (.long x0), .second, .val (.int x1), .val (.long x2), .second, .val (.int x3), .val (.int (1 : Int32)), .val (.int (1 : Int32)), .val (.ref b371), .val (.ref b375), .val (.ref b379), .unset, .unset] [(.int r382), (.int (0 : Int32)), (.ref b379)])
    refine Go.bastore C X382 (pc' := 136) (i := 0) (x' := (nar .byte r382)) A385 rfl (by decide) rfl N379 at_135 rfl (fun T386 h386 X386 W386 A386 => ?_)
    have A387 := A383.other W386 ne_b371_b379
    have A388 := A384.other W386 ne_b375_b379
    refine Go.aload C X386 (pc' := 138) at_136 rfl rfl rfl ?_
    refine Go.iconst C X386 (pc' := 139) (v := (1 : Int32)) at_138 rfl rfl ?_
    refine Go.iload C X386 (pc' := 141) at_139 rfl rfl ?_
    refine Go.iconst C X386 (pc' := 142) (v := (1 : Int32)) at_141 rfl rfl ?_
    refine Go.aload C X386 (pc' := 144) at_142 rfl rfl rfl ?_
    refine Go.iload C X386 (pc' := 146) at_144 rfl rfl ?_
    refine Go.lloadN C X386 (pc' := 147) at_146 rfl rfl ?_
    refine Go.callS C X386 (pc' := 150) (W := 2) (argsL := [(.int x3), (.int (1 : Int32)), (.ref b371), (.int (1 : Int32)), (.long x2)]) (rest := [(.int (1 : Int32)), (.ref b379)]) (rm_pk l Z a0 hw x3 (1 : Int32) b371 (1 : Int32) x2 nf 1 h386 n0 X386.sz A387 rfl (by decide)) (hw _ (List.mem_of_getElem? (i := 2) rfl)) (hw _ (List.mem_of_getElem? (i := 3) rfl)) (hw _ (List.mem_of_getElem? (i := 4) rfl)) (hw _ (List.mem_of_getElem? (i := 5) rfl)) (by decide) rfl rfl (lenOf own_pd3 rfl) rfl (Nat.le_of_eq rfl) (by decide) (by decide) (by decide) (by decide) at_147 rfl (fun _ _ q => by obtain ⟨_, _, K, _⟩ := q; exact K.1) (fun T389 h389 v389 X389 P389 => ?_)
    obtain ⟨r389, rfl, K389, Y389_0⟩ := P389
    have A390 := A387.keep K389 nin0
    have A391 := A388.keep K389 nin0
    have A392 := A386.keep K389 nin0
    show Go p e below s n0 _ _ _ T389 (mkF m 150 #[.val (.long x0), .second, .val (.int x1), .val (.long x2), .second, .val (.int x3), .val (.int (1 : Int32)), .val (.int (1 : Int32)), .val (.ref b371), .val (.ref b375), .val (.ref b379), .unset, .unset] [(.int r389), (.int (1 : Int32)), (.ref b379)])
    refine Go.bastore C X389 (pc' := 151) (i := 1) (x' := (nar .byte r389)) A392 rfl (by decide) rfl N379 at_150 rfl (fun T393 h393 X393 W393 A393 => ?_)
    have A394 := A390.other W393 ne_b371_b379
    have A395 := A391.other W393 ne_b375_b379
    refine Go.aload C X393 (pc' := 153) at_151 rfl rfl rfl ?_
    refine Go.iconst C X393 (pc' := 154) (v := (2 : Int32)) at_153 rfl rfl ?_
    refine Go.iload C X393 (pc' := 156) at_154 rfl rfl ?_
    refine Go.iconst C X393 (pc' := 157) (v := (2 : Int32)) at_156 rfl rfl ?_
    refine Go.aload C X393 (pc' := 159) at_157 rfl rfl rfl ?_
    refine Go.iload C X393 (pc' := 161) at_159 rfl rfl ?_
    refine Go.lloadN C X393 (pc' := 162) at_161 rfl rfl ?_
    refine Go.callS C X393 (pc' := 165) (W := 2) (argsL := [(.int x3), (.int (2 : Int32)), (.ref b371), (.int (1 : Int32)), (.long x2)]) (rest := [(.int (2 : Int32)), (.ref b379)]) (rm_pk l Z a0 hw x3 (2 : Int32) b371 (1 : Int32) x2 nf 1 h393 n0 X393.sz A394 rfl (by decide)) (hw _ (List.mem_of_getElem? (i := 2) rfl)) (hw _ (List.mem_of_getElem? (i := 3) rfl)) (hw _ (List.mem_of_getElem? (i := 4) rfl)) (hw _ (List.mem_of_getElem? (i := 5) rfl)) (by decide) rfl rfl (lenOf own_pd3 rfl) rfl (Nat.le_of_eq rfl) (by decide) (by decide) (by decide) (by decide) at_162 rfl (fun _ _ q => by obtain ⟨_, _, K, _⟩ := q; exact K.1) (fun T396 h396 v396 X396 P396 => ?_)
    obtain ⟨r396, rfl, K396, Y396_0⟩ := P396
    have A397 := A394.keep K396 nin0
    have A398 := A395.keep K396 nin0
    have A399 := A393.keep K396 nin0
    show Go p e below s n0 _ _ _ T396 (mkF m 165 #[.val (.long x0), .second, .val (.int x1), .val (.long x2), .second, .val (.int x3), .val (.int (1 : Int32)), .val (.int (1 : Int32)), .val (.ref b371), .val (.ref b375), .val (.ref b379), .unset, .unset] [(.int r396), (.int (2 : Int32)), (.ref b379)])
    refine Go.bastore C X396 (pc' := 166) (i := 2) (x' := (nar .byte r396)) A399 rfl (by decide) rfl N379 at_165 rfl (fun T400 h400 X400 W400 A400 => ?_)
    have A401 := A397.other W400 ne_b371_b379
    have A402 := A398.other W400 ne_b375_b379
    refine Go.aload C X400 (pc' := 168) at_166 rfl rfl rfl ?_
    refine Go.iconst C X400 (pc' := 169) (v := (3 : Int32)) at_168 rfl rfl ?_
    refine Go.iload C X400 (pc' := 171) at_169 rfl rfl ?_
    refine Go.iconst C X400 (pc' := 172) (v := (3 : Int32)) at_171 rfl rfl ?_
    refine Go.aload C X400 (pc' := 174) at_172 rfl rfl rfl ?_
    refine Go.iload C X400 (pc' := 176) at_174 rfl rfl ?_
    refine Go.lloadN C X400 (pc' := 177) at_176 rfl rfl ?_
    refine Go.callS C X400 (pc' := 180) (W := 2) (argsL := [(.int x3), (.int (3 : Int32)), (.ref b371), (.int (1 : Int32)), (.long x2)]) (rest := [(.int (3 : Int32)), (.ref b379)]) (rm_pk l Z a0 hw x3 (3 : Int32) b371 (1 : Int32) x2 nf 1 h400 n0 X400.sz A401 rfl (by decide)) (hw _ (List.mem_of_getElem? (i := 2) rfl)) (hw _ (List.mem_of_getElem? (i := 3) rfl)) (hw _ (List.mem_of_getElem? (i := 4) rfl)) (hw _ (List.mem_of_getElem? (i := 5) rfl)) (by decide) rfl rfl (lenOf own_pd3 rfl) rfl (Nat.le_of_eq rfl) (by decide) (by decide) (by decide) (by decide) at_177 rfl (fun _ _ q => by obtain ⟨_, _, K, _⟩ := q; exact K.1) (fun T403 h403 v403 X403 P403 => ?_)
    obtain ⟨r403, rfl, K403, Y403_0⟩ := P403
    have A404 := A401.keep K403 nin0
    have A405 := A402.keep K403 nin0
    have A406 := A400.keep K403 nin0
    show Go p e below s n0 _ _ _ T403 (mkF m 180 #[.val (.long x0), .second, .val (.int x1), .val (.long x2), .second, .val (.int x3), .val (.int (1 : Int32)), .val (.int (1 : Int32)), .val (.ref b371), .val (.ref b375), .val (.ref b379), .unset, .unset] [(.int r403), (.int (3 : Int32)), (.ref b379)])
    refine Go.bastore C X403 (pc' := 181) (i := 3) (x' := (nar .byte r403)) A406 rfl (by decide) rfl N379 at_180 rfl (fun T407 h407 X407 W407 A407 => ?_)
    have A408 := A404.other W407 ne_b371_b379
    have A409 := A405.other W407 ne_b375_b379
    refine Go.aload C X407 (pc' := 183) at_181 rfl rfl rfl ?_
    refine Go.iconst C X407 (pc' := 184) (v := (4 : Int32)) at_183 rfl rfl ?_
    refine Go.iload C X407 (pc' := 186) at_184 rfl rfl ?_
    refine Go.iconst C X407 (pc' := 187) (v := (4 : Int32)) at_186 rfl rfl ?_
    refine Go.aload C X407 (pc' := 189) at_187 rfl rfl rfl ?_
    refine Go.iload C X407 (pc' := 191) at_189 rfl rfl ?_
    refine Go.lloadN C X407 (pc' := 192) at_191 rfl rfl ?_
    refine Go.callS C X407 (pc' := 195) (W := 2) (argsL := [(.int x3), (.int (4 : Int32)), (.ref b371), (.int (1 : Int32)), (.long x2)]) (rest := [(.int (4 : Int32)), (.ref b379)]) (rm_pk l Z a0 hw x3 (4 : Int32) b371 (1 : Int32) x2 nf 1 h407 n0 X407.sz A408 rfl (by decide)) (hw _ (List.mem_of_getElem? (i := 2) rfl)) (hw _ (List.mem_of_getElem? (i := 3) rfl)) (hw _ (List.mem_of_getElem? (i := 4) rfl)) (hw _ (List.mem_of_getElem? (i := 5) rfl)) (by decide) rfl rfl (lenOf own_pd3 rfl) rfl (Nat.le_of_eq rfl) (by decide) (by decide) (by decide) (by decide) at_192 rfl (fun _ _ q => by obtain ⟨_, _, K, _⟩ := q; exact K.1) (fun T410 h410 v410 X410 P410 => ?_)
    obtain ⟨r410, rfl, K410, Y410_0⟩ := P410
    have A411 := A408.keep K410 nin0
    have A412 := A409.keep K410 nin0
    have A413 := A407.keep K410 nin0
    show Go p e below s n0 _ _ _ T410 (mkF m 195 #[.val (.long x0), .second, .val (.int x1), .val (.long x2), .second, .val (.int x3), .val (.int (1 : Int32)), .val (.int (1 : Int32)), .val (.ref b371), .val (.ref b375), .val (.ref b379), .unset, .unset] [(.int r410), (.int (4 : Int32)), (.ref b379)])
    refine Go.bastore C X410 (pc' := 196) (i := 4) (x' := (nar .byte r410)) A413 rfl (by decide) rfl N379 at_195 rfl (fun T414 h414 X414 W414 A414 => ?_)
    have A415 := A411.other W414 ne_b371_b379
    have A416 := A412.other W414 ne_b375_b379
    refine Go.aload C X414 (pc' := 198) at_196 rfl rfl rfl ?_
    refine Go.iconst C X414 (pc' := 199) (v := (5 : Int32)) at_198 rfl rfl ?_
    refine Go.iload C X414 (pc' := 201) at_199 rfl rfl ?_
    refine Go.iconst C X414 (pc' := 202) (v := (5 : Int32)) at_201 rfl rfl ?_
    refine Go.aload C X414 (pc' := 204) at_202 rfl rfl rfl ?_
    refine Go.iload C X414 (pc' := 206) at_204 rfl rfl ?_
    refine Go.lloadN C X414 (pc' := 207) at_206 rfl rfl ?_
    refine Go.callS C X414 (pc' := 210) (W := 2) (argsL := [(.int x3), (.int (5 : Int32)), (.ref b371), (.int (1 : Int32)), (.long x2)]) (rest := [(.int (5 : Int32)), (.ref b379)]) (rm_pk l Z a0 hw x3 (5 : Int32) b371 (1 : Int32) x2 nf 1 h414 n0 X414.sz A415 rfl (by decide)) (hw _ (List.mem_of_getElem? (i := 2) rfl)) (hw _ (List.mem_of_getElem? (i := 3) rfl)) (hw _ (List.mem_of_getElem? (i := 4) rfl)) (hw _ (List.mem_of_getElem? (i := 5) rfl)) (by decide) rfl rfl (lenOf own_pd3 rfl) rfl (Nat.le_of_eq rfl) (by decide) (by decide) (by decide) (by decide) at_207 rfl (fun _ _ q => by obtain ⟨_, _, K, _⟩ := q; exact K.1) (fun T417 h417 v417 X417 P417 => ?_)
    obtain ⟨r417, rfl, K417, Y417_0⟩ := P417
    have A418 := A415.keep K417 nin0
    have A419 := A416.keep K417 nin0
    have A420 := A414.keep K417 nin0
    show Go p e below s n0 _ _ _ T417 (mkF m 210 #[.val (.long x0), .second, .val (.int x1), .val (.long x2), .second, .val (.int x3), .val (.int (1 : Int32)), .val (.int (1 : Int32)), .val (.ref b371), .val (.ref b375), .val (.ref b379), .unset, .unset] [(.int r417), (.int (5 : Int32)), (.ref b379)])
    refine Go.bastore C X417 (pc' := 211) (i := 5) (x' := (nar .byte r417)) A420 rfl (by decide) rfl N379 at_210 rfl (fun T421 h421 X421 W421 A421 => ?_)
    have A422 := A418.other W421 ne_b371_b379
    have A423 := A419.other W421 ne_b375_b379
    obtain ⟨tf, htf, A211⟩ : ∃ f : Nat → Int32, (∀ q, -128 ≤ (f q).toInt ∧ (f q).toInt ≤ 127) ∧ AI Z h421 b379 .byte 6 f := ⟨_, (own_upd (R := fun z => -128 ≤ z.toInt ∧ z.toInt ≤ 127) (own_upd (R := fun z => -128 ≤ z.toInt ∧ z.toInt ≤ 127) (own_upd (R := fun z => -128 ≤ z.toInt ∧ z.toInt ≤ 127) (own_upd (R := fun z => -128 ≤ z.toInt ∧ z.toInt ≤ 127) (own_upd (R := fun z => -128 ≤ z.toInt ∧ z.toInt ≤ 127) (own_upd (R := fun z => -128 ≤ z.toInt ∧ z.toInt ≤ 127) (fun _ => by decide) (own_i2b _)) (own_i2b _)) (own_i2b _)) (own_i2b _)) (own_i2b _)) (own_i2b _)), A421⟩
    refine Go.newO C X421 (pc' := 214) (hw _ (List.mem_of_getElem? (i := 6) rfl)) (hw _ (List.mem_of_getElem? (i := 7) rfl)) (hw _ (List.mem_of_getElem? (i := 8) rfl)) at_211 (by decide) (by decide) rfl (fun T424 h424 b424 X424 g424 E424 Ex424 D424 N424 => ?_)
    have ne_b371_b424 : b371 ≠ b424 := Nat.ne_of_lt (Nat.lt_of_lt_of_eq A422.lt g424.symm)
    have ne_b375_b424 : b375 ≠ b424 := Nat.ne_of_lt (Nat.lt_of_lt_of_eq A423.lt g424.symm)
    have ne_b379_b424 : b379 ≠ b424 := Nat.ne_of_lt (Nat.lt_of_lt_of_eq A211.lt g424.symm)
    have A425 := A422.ext E424
    have A426 := A423.ext E424
    have A427 := A211.ext E424
    have F428 : Fld Z h424 b424 "com/example/needlewright/needlewright/ByteMatcher" "automaton" "Lcom/example/needlewright/needlewright/Automaton;" .null := D424 (Or.inr (hw _ (List.mem_of_getElem? (i := 42) rfl))) (ty := (.object "com/example/needlewright/needlewright/Automaton")) (by decide)
    have F429 : Fld Z h424 b424 "com/example/needlewright/needlewright/ByteMatcher" "hasSecond" "Z" (.int (0 : Int32)) := D424 (Or.inr (hw _ (List.mem_of_getElem? (i := 45) rfl))) (ty := .boolean) (by decide)
    have F430 : Fld Z h424 b424 "com/example/needlewright/needlewright/ByteMatcher" "firstInEachByte" "J" (.long (0 : Int64)) := D424 (Or.inr (hw _ (List.mem_of_getElem? (i := 50) rfl))) (ty := .long) (by decide)
    have F431 : Fld Z h424 b424 "com/example/needlewright/needlewright/ByteMatcher" "secondInEachByte" "J" (.long (0 : Int64)) := D424 (Or.inr (hw _ (List.mem_of_getElem? (i := 52) rfl))) (ty := .long) (by decide)
    have F432 : Fld Z h424 b424 "com/example/needlewright/needlewright/ByteMatcher" "matched" "I" (.int (0 : Int32)) := D424 (Or.inl (hw _ (List.mem_of_getElem? (i := 59) rfl))) (ty := .int) (by decide)
    have F433 : Fld Z h424 b424 "com/example/needlewright/needlewright/ByteMatcher" "fed" "J" (.long (0 : Int64)) := D424 (Or.inl (hw _ (List.mem_of_getElem? (i := 62) rfl))) (ty := .long) (by decide)
    refine Go.dup C X424 (pc' := 215) at_214 rfl rfl ?_
    refine Go.newO C X424 (pc' := 218) (hw _ (List.mem_of_getElem? (i := 9) rfl)) (hw _ (List.mem_of_getElem? (i := 10) rfl)) (hw _ (List.mem_of_getElem? (i := 11) rfl)) at_215 (by decide) (by decide) rfl (fun T434 h434 b434 X434 g434 E434 Ex434 D434 N434 => ?_)
    have ne_b371_b434 : b371 ≠ b434 := Nat.ne_of_lt (Nat.lt_of_lt_of_eq A425.lt g434.symm)
    have ne_b375_b434 : b375 ≠ b434 := Nat.ne_of_lt (Nat.lt_of_lt_of_eq A426.lt g434.symm)
    have ne_b379_b434 : b379 ≠ b434 := Nat.ne_of_lt (Nat.lt_of_lt_of_eq A427.lt g434.symm)
    have ne_b424_b434 : b424 ≠ b434 := Nat.ne_of_lt (Nat.lt_of_lt_of_eq Ex424.lt g434.symm)
    have A435 := A425.ext E434
    have A436 := A426.ext E434
    have A437 := A427.ext E434
    have E438 := Ex424.ext E434
    have F439 := F428.ext E434
    have F440 := F429.ext E434
    have F441 := F430.ext E434
    have F442 := F431.ext E434
    have F443 := F432.ext E434
    have F444 := F433.ext E434
    have F445 : Fld Z h434 b434 "com/example/needlewright/needlewright/Automaton" "units" "[I" .null := D434 (Or.inr (hw _ (List.mem_of_getElem? (i := 20) rfl))) (ty := (.array .int)) (by decide)
    have F446 : Fld Z h434 b434 "com/example/needlewright/needlewright/Automaton" "borders" "[I" .null := D434 (Or.inr (hw _ (List.mem_of_getElem? (i := 22) rfl))) (ty := (.array .int)) (by decide)
    refine Go.dup C X434 (pc' := 219) at_218 rfl rfl ?_
    refine Go.aload C X434 (pc' := 221) at_219 rfl rfl rfl ?_
    refine Go.callI C X434 (pc' := 224) (W := 3) (argsL := [(.ref b375)]) (rest := [(.ref b434), (.ref b424), (.ref b424)]) (a := b434) (rm_au l Z a0 hw b434 b375 2 (fun q => if q = 0 then (nf 0) else (fun _ => 0) q) (2 : Int32) h434 n0 X434.sz Ex434 F445 F446 N434 N375 A436 (Ne.symm ne_b375_b434) rfl (by decide) (by decide)) rfl rfl (hw _ (List.mem_of_getElem? (i := 12) rfl)) (hw _ (List.mem_of_getElem? (i := 13) rfl)) (hw _ (List.mem_of_getElem? (i := 11) rfl)) (hw _ (List.mem_of_getElem? (i := 14) rfl)) (by decide) rfl rfl (lenOf own_pd4 rfl) rfl (Nat.le_of_eq rfl) (by decide) (by decide) (by decide) (by decide) at_221 rfl (fun _ _ q => by obtain ⟨_, _, _, _, K, _⟩ := q; exact K.1) (fun T447 h447 v447 X447 P447 => ?_)
    obtain ⟨t2447, b1447, rfl, D447_t2, K447, O447_0, O447_1, O447_2, O447_3, O447_4, O447_5, O447_6, Y447_0⟩ := P447
    have ne_b371_t2447 : b371 ≠ t2447 := Nat.ne_of_lt (Nat.lt_of_lt_of_le A435.lt D447_t2)
    have ne_b375_t2447 : b375 ≠ t2447 := Nat.ne_of_lt (Nat.lt_of_lt_of_le A436.lt D447_t2)
    have ne_b379_t2447 : b379 ≠ t2447 := Nat.ne_of_lt (Nat.lt_of_lt_of_le A437.lt D447_t2)
    have ne_b424_t2447 : b424 ≠ t2447 := Nat.ne_of_lt (Nat.lt_of_lt_of_le E438.lt D447_t2)
    have ne_b434_t2447 : b434 ≠ t2447 := Nat.ne_of_lt (Nat.lt_of_lt_of_le Ex434.lt D447_t2)
    have N_t2447 : n0 ≤ t2447 := Nat.le_trans X434.sz D447_t2
    have A448 := A435.keep K447 (ninS ne_b371_b434 (ninS ne_b371_b375 nin0))
    have A449 := A437.keep K447 (ninS ne_b379_b434 (ninS (Ne.symm ne_b375_b379) nin0))
    have E450 := E438.keep K447
    have F451 := F439.keep K447 (ninS ne_b424_b434 (ninS (Ne.symm ne_b375_b424) nin0))
    have F452 := F440.keep K447 (ninS ne_b424_b434 (ninS (Ne.symm ne_b375_b424) nin0))
    have F453 := F441.keep K447 (ninS ne_b424_b434 (ninS (Ne.symm ne_b375_b424) nin0))
    have F454 := F442.keep K447 (ninS ne_b424_b434 (ninS (Ne.symm ne_b375_b424) nin0))
    have F455 := F443.keep K447 (ninS ne_b424_b434 (ninS (Ne.symm ne_b375_b424) nin0))
    have F456 := F444.keep K447 (ninS ne_b424_b434 (ninS (Ne.symm ne_b375_b424) nin0))
    have E457 := Ex434.keep K447
    show Go p e below s n0 _ _ _ T447 (mkF m 224 #[.val (.long x0), .second, .val (.int x1), .val (.long x2), .second, .val (.int x3), .val (.int (1 : Int32)), .val (.int (1 : Int32)), .val (.ref b371), .val (.ref b375), .val (.ref b379), .unset, .unset] [(.ref b434), (.ref b424), (.ref b424)])
    refine Go.callI C X447 (pc' := 227) (W := 1) (argsL := [(.ref b434)]) (rest := [(.ref b424)]) (a := b424) (rm_bm l Z a0 hw b424 b434 b375 2 (fun q => if q = (2 - 1) then (-2147483648 : Int32) else (fun q => if q = 0 then (nf 0) else (fun _ => 0) q) q) (2 : Int32) h447 n0 X447.sz E450 F451 F452 F453 F454 F455 F456 N424 O447_0 O447_1 O447_3 (Ne.symm ne_b424_b434) ne_b375_b424 rfl (by decide) (by decide)) rfl rfl (hw _ (List.mem_of_getElem? (i := 37) rfl)) (hw _ (List.mem_of_getElem? (i := 38) rfl)) (hw _ (List.mem_of_getElem? (i := 8) rfl)) (hw _ (List.mem_of_getElem? (i := 39) rfl)) (by decide) rfl rfl (lenOf own_pd5 rfl) rfl (Nat.le_of_eq rfl) (by decide) (by decide) (by decide) (by decide) at_224 rfl (fun _ _ q => by obtain ⟨_, K, _⟩ := q; exact K.1) (fun T458 h458 v458 X458 P458 => ?_)
    obtain ⟨rfl, K458, O458_0, O458_1, O458_2, O458_3⟩ := P458
    have A459 := A448.keep K458 (ninS ne_b371_b424 nin0)
    have A460 := A449.keep K458 (ninS ne_b379_b424 nin0)
    have E461 := E450.keep K458
    have E462 := O447_0.keep K458
    have F463 := O447_1.keep K458 (ninS (Ne.symm ne_b424_b434) nin0)
    have F464 := O447_2.keep K458 (ninS (Ne.symm ne_b424_b434) nin0)
    have A465 := O447_3.keep K458 (ninS ne_b375_b424 nin0)
    have A466 := O447_4.keep K458 (ninS (Ne.symm ne_b424_t2447) nin0)
    show Go p e below s n0 _ _ _ T458 (mkF m 227 #[.val (.long x0), .second, .val (.int x1), .val (.long x2), .second, .val (.int x3), .val (.int (1 : Int32)), .val (.int (1 : Int32)), .val (.ref b371), .val (.ref b375), .val (.ref b379), .unset, .unset] [(.ref b424)])
    refine Go.astore C X458 (pc' := 229) (Ls' := #[.val (.long x0), .second, .val (.int x1), .val (.long x2), .second, .val (.int x3), .val (.int (1 : Int32)), .val (.int (1 : Int32)), .val (.ref b371), .val (.ref b375), .val (.ref b379), .val (.ref b424), .unset]) at_227 rfl rfl rfl ?_
    refine Go.iconst C X458 (pc' := 230) (v := (1 : Int32)) at_229 rfl rfl ?_
    refine Go.istore C X458 (pc' := 232) (Ls' := #[.val (.long x0), .second, .val (.int x1), .val (.long x2), .second, .val (.int x3), .val (.int (1 : Int32)), .val (.int (1 : Int32)), .val (.ref b371), .val (.ref b375), .val (.ref b379), .val (.ref b424), .val (.int (1 : Int32))]) at_230 rfl rfl ?_
    have M0 : own_M (fun q => if q = (2 - 1) then (-2147483648 : Int32) else (fun q => if q = 0 then (nf 0) else (fun _ => 0) q) q) tf 1 0 0 := own_M0 _ _ _
    refine Go.iload C X458 (pc' := 234) at_232 rfl rfl ?_
    refine Go.aload C X458 (pc' := 236) at_234 rfl rfl rfl ?_
    refine Go.aload C X458 (pc' := 238) at_236 rfl rfl rfl ?_
    refine Go.iconst C X458 (pc' := 239) (v := (0 : Int32)) at_238 rfl rfl ?_
    refine Go.baload C X458 (pc' := 240) (i := 0) (w := (tf 0)) A460 rfl (by decide) rfl at_239 rfl ?_
    refine Go.callV C X458 (pc' := 243) (W := 1) (argsL := [(.int (tf 0))]) (rest := [(.int (1 : Int32))]) (a := b424) (rm_fd l Z a0 hw b424 (tf 0) b434 b375 t2447 2 (fun q => if q = (2 - 1) then (-2147483648 : Int32) else (fun q => if q = 0 then (nf 0) else (fun _ => 0) q) q) b1447 0 (0 : Int64) (2 : Int32) h458 n0 X458.sz O458_0 O458_1 O458_2 O458_3 N424 E462 F463 F464 A465 A466 (Ne.symm ne_b424_b434) ne_b375_b424 (Ne.symm ne_b424_t2447) rfl (by decide) (by decide) (by have := M0.1; omega) Y447_0) O458_0 (notFace_of_selects (args := #[]) (mvT C.2.1 (hw _ (List.mem_of_getElem? (i := 56) rfl)))) (hw _ (List.mem_of_getElem? (i := 53) rfl)) (hw _ (List.mem_of_getElem? (i := 54) rfl)) (hw _ (List.mem_of_getElem? (i := 56) rfl)) (hw _ (List.mem_of_getElem? (i := 55) rfl)) (hw _ (List.mem_of_getElem? (i := 8) rfl)) (hw _ (List.mem_of_getElem? (i := 57) rfl)) (by decide) rfl rfl (lenOf own_pd6 rfl) rfl (Nat.le_of_eq rfl) (by decide) (by decide) (by decide) (by decide) at_240 rfl (fun _ _ q => by obtain ⟨_, K, _⟩ := q; exact K.1) (fun T467 h467 v467 X467 P467 => ?_)
    obtain ⟨rfl, K467, O467_0, O467_1, O467_2, O467_3⟩ := P467
    have A468 := A459.keep K467 (ninS ne_b371_b424 nin0)
    have A469 := A460.keep K467 (ninS ne_b379_b424 nin0)
    have E470 := O458_0.keep K467
    have E471 := E462.keep K467
    have F472 := F463.keep K467 (ninS (Ne.symm ne_b424_b434) nin0)
    have F473 := F464.keep K467 (ninS (Ne.symm ne_b424_b434) nin0)
    have A474 := A465.keep K467 (ninS ne_b375_b424 nin0)
    have A475 := A466.keep K467 (ninS (Ne.symm ne_b424_t2447) nin0)
    have M1 : own_M (fun q => if q = (2 - 1) then (-2147483648 : Int32) else (fun q => if q = 0 then (nf 0) else (fun _ => 0) q) q) tf 1 1 (own_nx (fun q => if q = (2 - 1) then (-2147483648 : Int32) else (fun q => if q = 0 then (nf 0) else (fun _ => 0) q) q) b1447 (tf 0) 0) := own_Mstep (fun q a d => Y447_0 q a (by omega)) M0 (own_notmin (htf 0) (own_ag1 nf).2)
    show Go p e below s n0 _ _ _ T467 (mkF m 243 #[.val (.long x0), .second, .val (.int x1), .val (.long x2), .second, .val (.int x3), .val (.int (1 : Int32)), .val (.int (1 : Int32)), .val (.ref b371), .val (.ref b375), .val (.ref b379), .val (.ref b424), .val (.int (1 : Int32))] [(.long (if (own_nx (fun q => if q = (2 - 1) then (-2147483648 : Int32) else (fun q => if q = 0 then (nf 0) else (fun _ => 0) q) q) b1447 (tf 0) 0) = 2 - 1 then (((0 : Int64) + (1 : Int64)) - (Int32.ofNat (own_nx (fun q => if q = (2 - 1) then (-2147483648 : Int32) else (fun q => if q = 0 then (nf 0) else (fun _ => 0) q) q) b1447 (tf 0) 0)).toInt64) else (-1 : Int64))), (.int (1 : Int32))])
    refine Go.aload C X467 (pc' := 245) at_243 rfl rfl rfl ?_
    refine Go.iconst C X467 (pc' := 246) (v := (1 : Int32)) at_245 rfl rfl ?_
    refine Go.aload C X467 (pc' := 248) at_246 rfl rfl rfl ?_
    refine Go.iload C X467 (pc' := 250) at_248 rfl rfl ?_
    refine Go.callS C X467 (pc' := 253) (W := 3) (argsL := [(.ref b379), (.int (1 : Int32)), (.ref b371), (.int (1 : Int32))]) (rest := [(.long (if (own_nx (fun q => if q = (2 - 1) then (-2147483648 : Int32) else (fun q => if q = 0 then (nf 0) else (fun _ => 0) q) q) b1447 (tf 0) 0) = 2 - 1 then (((0 : Int64) + (1 : Int64)) - (Int32.ofNat (own_nx (fun q => if q = (2 - 1) then (-2147483648 : Int32) else (fun q => if q = 0 then (nf 0) else (fun _ => 0) q) q) b1447 (tf 0) 0)).toInt64) else (-1 : Int64))), (.int (1 : Int32))]) (rm_ex1 l Z a0 hw b379 (1 : Int32) b371 (1 : Int32) tf nf 1 h467 n0 X467.sz A469 A468 rfl rfl (by decide)) (hw _ (List.mem_of_getElem? (i := 64) rfl)) (hw _ (List.mem_of_getElem? (i := 65) rfl)) (hw _ (List.mem_of_getElem? (i := 4) rfl)) (hw _ (List.mem_of_getElem? (i := 66) rfl)) (by decide) rfl rfl (lenOf own_pd7 rfl) rfl (Nat.le_of_eq rfl) (by decide) (by decide) (by decide) (by decide) at_250 rfl (fun _ _ q => Nat.le_of_eq (congrArg Array.size q.2)) (fun T476 h476 v476 X476 P476 => ?_)
    obtain ⟨rfl, rfl⟩ := P476
    show Go p e below s n0 _ _ _ T476 (mkF m 253 #[.val (.long x0), .second, .val (.int x1), .val (.long x2), .second, .val (.int x3), .val (.int (1 : Int32)), .val (.int (1 : Int32)), .val (.ref b371), .val (.ref b375), .val (.ref b379), .val (.ref b424), .val (.int (1 : Int32))] [(.long (if own_S nf tf 1 1 then Int64.ofNat (1 - 1) else (-1 : Int64))), (.long (if (own_nx (fun q => if q = (2 - 1) then (-2147483648 : Int32) else (fun q => if q = 0 then (nf 0) else (fun _ => 0) q) q) b1447 (tf 0) 0) = 2 - 1 then (((0 : Int64) + (1 : Int64)) - (Int32.ofNat (own_nx (fun q => if q = (2 - 1) then (-2147483648 : Int32) else (fun q => if q = 0 then (nf 0) else (fun _ => 0) q) q) b1447 (tf 0) 0)).toInt64) else (-1 : Int64))), (.int (1 : Int32))])
    refine Go.lcmp C X476 (pc' := 254) at_253 rfl ?_
    refine Go.ifNo C X476 (pc' := 257) at_254 ((if0 _ _).trans (teq ((lw_eq _ _).mpr (own_ans M1 (by decide) (own_ag1 nf).1 rfl (by decide)))).2) rfl ?_
    refine Go.iconst C X476 (pc' := 258) (v := (1 : Int32)) at_257 rfl rfl ?_
    refine Go.goto C X476 (pc' := 262) at_258 (by decide) (by decide) ?_
    refine Go.iand C X476 (pc' := 263) at_262 rfl ?_
    refine Go.istore C X476 (pc' := 265) (Ls' := #[.val (.long x0), .second, .val (.int x1), .val (.long x2), .second, .val (.int x3), .val (.int (1 : Int32)), .val (.int (1 : Int32)), .val (.ref b371), .val (.ref b375), .val (.ref b379), .val (.ref b424), .val (.int ((1 : Int32) &&& (1 : Int32)))]) at_263 rfl rfl ?_
    refine Go.iload C X476 (pc' := 267) at_265 rfl rfl ?_
    refine Go.aload C X476 (pc' := 269) at_267 rfl rfl rfl ?_
    refine Go.aload C X476 (pc' := 271) at_269 rfl rfl rfl ?_
    refine Go.iconst C X476 (pc' := 272) (v := (1 : Int32)) at_271 rfl rfl ?_
    refine Go.baload C X476 (pc' := 273) (i := 1) (w := (tf 1)) A469 rfl (by decide) rfl at_272 rfl ?_
    refine Go.callV C X476 (pc' := 276) (W := 1) (argsL := [(.int (tf 1))]) (rest := [(.int ((1 : Int32) &&& (1 : Int32)))]) (a := b424) (rm_fd l Z a0 hw b424 (tf 1) b434 b375 t2447 2 (fun q => if q = (2 - 1) then (-2147483648 : Int32) else (fun q => if q = 0 then (nf 0) else (fun _ => 0) q) q) b1447 (own_nx (fun q => if q = (2 - 1) then (-2147483648 : Int32) else (fun q => if q = 0 then (nf 0) else (fun _ => 0) q) q) b1447 (tf 0) 0) ((0 : Int64) + (1 : Int64)) (2 : Int32) h467 n0 X476.sz O467_0 O467_1 O467_2 O467_3 N424 E471 F472 F473 A474 A475 (Ne.symm ne_b424_b434) ne_b375_b424 (Ne.symm ne_b424_t2447) rfl (by decide) (by decide) (by have := M1.1; omega) Y447_0) O467_0 (notFace_of_selects (args := #[]) (mvT C.2.1 (hw _ (List.mem_of_getElem? (i := 56) rfl)))) (hw _ (List.mem_of_getElem? (i := 53) rfl)) (hw _ (List.mem_of_getElem? (i := 54) rfl)) (hw _ (List.mem_of_getElem? (i := 56) rfl)) (hw _ (List.mem_of_getElem? (i := 55) rfl)) (hw _ (List.mem_of_getElem? (i := 8) rfl)) (hw _ (List.mem_of_getElem? (i := 57) rfl)) (by decide) rfl rfl (lenOf own_pd6 rfl) rfl (Nat.le_of_eq rfl) (by decide) (by decide) (by decide) (by decide) at_273 rfl (fun _ _ q => by obtain ⟨_, K, _⟩ := q; exact K.1) (fun T477 h477 v477 X477 P477 => ?_)
    obtain ⟨rfl, K477, O477_0, O477_1, O477_2, O477_3⟩ := P477
    have A478 := A468.keep K477 (ninS ne_b371_b424 nin0)
    have A479 := A469.keep K477 (ninS ne_b379_b424 nin0)
    have E480 := O467_0.keep K477
    have E481 := E471.keep K477
    have F482 := F472.keep K477 (ninS (Ne.symm ne_b424_b434) nin0)
    have F483 := F473.keep K477 (ninS (Ne.symm ne_b424_b434) nin0)
    have A484 := A474.keep K477 (ninS ne_b375_b424 nin0)
    have A485 := A475.keep K477 (ninS (Ne.symm ne_b424_t2447) nin0)
    have M2 : own_M (fun q => if q = (2 - 1) then (-2147483648 : Int32) else (fun q => if q = 0 then (nf 0) else (fun _ => 0) q) q) tf 1 2 (own_nx (fun q => if q = (2 - 1) then (-2147483648 : Int32) else (fun q => if q = 0 then (nf 0) else (fun _ => 0) q) q) b1447 (tf 1) (own_nx (fun q => if q = (2 - 1) then (-2147483648 : Int32) else (fun q => if q = 0 then (nf 0) else (fun _ => 0) q) q) b1447 (tf 0) 0)) := own_Mstep (fun q a d => Y447_0 q a (by omega)) M1 (own_notmin (htf 1) (own_ag1 nf).2)
    show Go p e below s n0 _ _ _ T477 (mkF m 276 #[.val (.long x0), .second, .val (.int x1), .val (.long x2), .second, .val (.int x3), .val (.int (1 : Int32)), .val (.int (1 : Int32)), .val (.ref b371), .val (.ref b375), .val (.ref b379), .val (.ref b424), .val (.int ((1 : Int32) &&& (1 : Int32)))] [(.long (if (own_nx (fun q => if q = (2 - 1) then (-2147483648 : Int32) else (fun q => if q = 0 then (nf 0) else (fun _ => 0) q) q) b1447 (tf 1) (own_nx (fun q => if q = (2 - 1) then (-2147483648 : Int32) else (fun q => if q = 0 then (nf 0) else (fun _ => 0) q) q) b1447 (tf 0) 0)) = 2 - 1 then ((((0 : Int64) + (1 : Int64)) + (1 : Int64)) - (Int32.ofNat (own_nx (fun q => if q = (2 - 1) then (-2147483648 : Int32) else (fun q => if q = 0 then (nf 0) else (fun _ => 0) q) q) b1447 (tf 1) (own_nx (fun q => if q = (2 - 1) then (-2147483648 : Int32) else (fun q => if q = 0 then (nf 0) else (fun _ => 0) q) q) b1447 (tf 0) 0))).toInt64) else (-1 : Int64))), (.int ((1 : Int32) &&& (1 : Int32)))])
    refine Go.aload C X477 (pc' := 278) at_276 rfl rfl rfl ?_
    refine Go.iconst C X477 (pc' := 279) (v := (2 : Int32)) at_278 rfl rfl ?_
    refine Go.aload C X477 (pc' := 281) at_279 rfl rfl rfl ?_
    refine Go.iload C X477 (pc' := 283) at_281 rfl rfl ?_
    refine Go.callS C X477 (pc' := 286) (W := 3) (argsL := [(.ref b379), (.int (2 : Int32)), (.ref b371), (.int (1 : Int32))]) (rest := [(.long (if (own_nx (fun q => if q = (2 - 1) then (-2147483648 : Int32) else (fun q => if q = 0 then (nf 0) else (fun _ => 0) q) q) b1447 (tf 1) (own_nx (fun q => if q = (2 - 1) then (-2147483648 : Int32) else (fun q => if q = 0 then (nf 0) else (fun _ => 0) q) q) b1447 (tf 0) 0)) = 2 - 1 then ((((0 : Int64) + (1 : Int64)) + (1 : Int64)) - (Int32.ofNat (own_nx (fun q => if q = (2 - 1) then (-2147483648 : Int32) else (fun q => if q = 0 then (nf 0) else (fun _ => 0) q) q) b1447 (tf 1) (own_nx (fun q => if q = (2 - 1) then (-2147483648 : Int32) else (fun q => if q = 0 then (nf 0) else (fun _ => 0) q) q) b1447 (tf 0) 0))).toInt64) else (-1 : Int64))), (.int ((1 : Int32) &&& (1 : Int32)))]) (rm_ex1 l Z a0 hw b379 (2 : Int32) b371 (1 : Int32) tf nf 2 h477 n0 X477.sz A479 A478 rfl rfl (by decide)) (hw _ (List.mem_of_getElem? (i := 64) rfl)) (hw _ (List.mem_of_getElem? (i := 65) rfl)) (hw _ (List.mem_of_getElem? (i := 4) rfl)) (hw _ (List.mem_of_getElem? (i := 66) rfl)) (by decide) rfl rfl (lenOf own_pd7 rfl) rfl (Nat.le_of_eq rfl) (by decide) (by decide) (by decide) (by decide) at_283 rfl (fun _ _ q => Nat.le_of_eq (congrArg Array.size q.2)) (fun T486 h486 v486 X486 P486 => ?_)
    obtain ⟨rfl, rfl⟩ := P486
    show Go p e below s n0 _ _ _ T486 (mkF m 286 #[.val (.long x0), .second, .val (.int x1), .val (.long x2), .second, .val (.int x3), .val (.int (1 : Int32)), .val (.int (1 : Int32)), .val (.ref b371), .val (.ref b375), .val (.ref b379), .val (.ref b424), .val (.int ((1 : Int32) &&& (1 : Int32)))] [(.long (if own_S nf tf 2 1 then Int64.ofNat (2 - 1) else (-1 : Int64))), (.long (if (own_nx (fun q => if q = (2 - 1) then (-2147483648 : Int32) else (fun q => if q = 0 then (nf 0) else (fun _ => 0) q) q) b1447 (tf 1) (own_nx (fun q => if q = (2 - 1) then (-2147483648 : Int32) else (fun q => if q = 0 then (nf 0) else (fun _ => 0) q) q) b1447 (tf 0) 0)) = 2 - 1 then ((((0 : Int64) + (1 : Int64)) + (1 : Int64)) - (Int32.ofNat (own_nx (fun q => if q = (2 - 1) then (-2147483648 : Int32) else (fun q => if q = 0 then (nf 0) else (fun _ => 0) q) q) b1447 (tf 1) (own_nx (fun q => if q = (2 - 1) then (-2147483648 : Int32) else (fun q => if q = 0 then (nf 0) else (fun _ => 0) q) q) b1447 (tf 0) 0))).toInt64) else (-1 : Int64))), (.int ((1 : Int32) &&& (1 : Int32)))])
    refine Go.lcmp C X486 (pc' := 287) at_286 rfl ?_
    refine Go.ifNo C X486 (pc' := 290) at_287 ((if0 _ _).trans (teq ((lw_eq _ _).mpr (own_ans M2 (by decide) (own_ag1 nf).1 rfl (by decide)))).2) rfl ?_
    refine Go.iconst C X486 (pc' := 291) (v := (1 : Int32)) at_290 rfl rfl ?_
    refine Go.goto C X486 (pc' := 295) at_291 (by decide) (by decide) ?_
    refine Go.iand C X486 (pc' := 296) at_295 rfl ?_
    refine Go.istore C X486 (pc' := 298) (Ls' := #[.val (.long x0), .second, .val (.int x1), .val (.long x2), .second, .val (.int x3), .val (.int (1 : Int32)), .val (.int (1 : Int32)), .val (.ref b371), .val (.ref b375), .val (.ref b379), .val (.ref b424), .val (.int (((1 : Int32) &&& (1 : Int32)) &&& (1 : Int32)))]) at_296 rfl rfl ?_
    refine Go.iload C X486 (pc' := 300) at_298 rfl rfl ?_
    refine Go.aload C X486 (pc' := 302) at_300 rfl rfl rfl ?_
    refine Go.aload C X486 (pc' := 304) at_302 rfl rfl rfl ?_
    refine Go.iconst C X486 (pc' := 305) (v := (2 : Int32)) at_304 rfl rfl ?_
    refine Go.baload C X486 (pc' := 306) (i := 2) (w := (tf 2)) A479 rfl (by decide) rfl at_305 rfl ?_
    refine Go.callV C X486 (pc' := 309) (W := 1) (argsL := [(.int (tf 2))]) (rest := [(.int (((1 : Int32) &&& (1 : Int32)) &&& (1 : Int32)))]) (a := b424) (rm_fd l Z a0 hw b424 (tf 2) b434 b375 t2447 2 (fun q => if q = (2 - 1) then (-2147483648 : Int32) else (fun q => if q = 0 then (nf 0) else (fun _ => 0) q) q) b1447 (own_nx (fun q => if q = (2 - 1) then (-2147483648 : Int32) else (fun q => if q = 0 then (nf 0) else (fun _ => 0) q) q) b1447 (tf 1) (own_nx (fun q => if q = (2 - 1) then (-2147483648 : Int32) else (fun q => if q = 0 then (nf 0) else (fun _ => 0) q) q) b1447 (tf 0) 0)) (((0 : Int64) + (1 : Int64)) + (1 : Int64)) (2 : Int32) h477 n0 X486.sz O477_0 O477_1 O477_2 O477_3 N424 E481 F482 F483 A484 A485 (Ne.symm ne_b424_b434) ne_b375_b424 (Ne.symm ne_b424_t2447) rfl (by decide) (by decide) (by have := M2.1; omega) Y447_0) O477_0 (notFace_of_selects (args := #[]) (mvT C.2.1 (hw _ (List.mem_of_getElem? (i := 56) rfl)))) (hw _ (List.mem_of_getElem? (i := 53) rfl)) (hw _ (List.mem_of_getElem? (i := 54) rfl)) (hw _ (List.mem_of_getElem? (i := 56) rfl)) (hw _ (List.mem_of_getElem? (i := 55) rfl)) (hw _ (List.mem_of_getElem? (i := 8) rfl)) (hw _ (List.mem_of_getElem? (i := 57) rfl)) (by decide) rfl rfl (lenOf own_pd6 rfl) rfl (Nat.le_of_eq rfl) (by decide) (by decide) (by decide) (by decide) at_306 rfl (fun _ _ q => by obtain ⟨_, K, _⟩ := q; exact K.1) (fun T487 h487 v487 X487 P487 => ?_)
    obtain ⟨rfl, K487, O487_0, O487_1, O487_2, O487_3⟩ := P487
    have A488 := A478.keep K487 (ninS ne_b371_b424 nin0)
    have A489 := A479.keep K487 (ninS ne_b379_b424 nin0)
    have E490 := O477_0.keep K487
    have E491 := E481.keep K487
    have F492 := F482.keep K487 (ninS (Ne.symm ne_b424_b434) nin0)
    have F493 := F483.keep K487 (ninS (Ne.symm ne_b424_b434) nin0)
    have A494 := A484.keep K487 (ninS ne_b375_b424 nin0)
    have A495 := A485.keep K487 (ninS (Ne.symm ne_b424_t2447) nin0)
    have M3 : own_M (fun q => if q = (2 - 1) then (-2147483648 : Int32) else (fun q => if q = 0 then (nf 0) else (fun _ => 0) q) q) tf 1 3 (own_nx (fun q => if q = (2 - 1) then (-2147483648 : Int32) else (fun q => if q = 0 then (nf 0) else (fun _ => 0) q) q) b1447 (tf 2) (own_nx (fun q => if q = (2 - 1) then (-2147483648 : Int32) else (fun q => if q = 0 then (nf 0) else (fun _ => 0) q) q) b1447 (tf 1) (own_nx (fun q => if q = (2 - 1) then (-2147483648 : Int32) else (fun q => if q = 0 then (nf 0) else (fun _ => 0) q) q) b1447 (tf 0) 0))) := own_Mstep (fun q a d => Y447_0 q a (by omega)) M2 (own_notmin (htf 2) (own_ag1 nf).2)
    show Go p e below s n0 _ _ _ T487 (mkF m 309 #[.val (.long x0), .second, .val (.int x1), .val (.long x2), .second, .val (.int x3), .val (.int (1 : Int32)), .val (.int (1 : Int32)), .val (.ref b371), .val (.ref b375), .val (.ref b379), .val (.ref b424), .val (.int (((1 : Int32) &&& (1 : Int32)) &&& (1 : Int32)))] [(.long (if (own_nx (fun q => if q = (2 - 1) then (-2147483648 : Int32) else (fun q => if q = 0 then (nf 0) else (fun _ => 0) q) q) b1447 (tf 2) (own_nx (fun q => if q = (2 - 1) then (-2147483648 : Int32) else (fun q => if q = 0 then (nf 0) else (fun _ => 0) q) q) b1447 (tf 1) (own_nx (fun q => if q = (2 - 1) then (-2147483648 : Int32) else (fun q => if q = 0 then (nf 0) else (fun _ => 0) q) q) b1447 (tf 0) 0))) = 2 - 1 then (((((0 : Int64) + (1 : Int64)) + (1 : Int64)) + (1 : Int64)) - (Int32.ofNat (own_nx (fun q => if q = (2 - 1) then (-2147483648 : Int32) else (fun q => if q = 0 then (nf 0) else (fun _ => 0) q) q) b1447 (tf 2) (own_nx (fun q => if q = (2 - 1) then (-2147483648 : Int32) else (fun q => if q = 0 then (nf 0) else (fun _ => 0) q) q) b1447 (tf 1) (own_nx (fun q => if q = (2 - 1) then (-2147483648 : Int32) else (fun q => if q = 0 then (nf 0) else (fun _ => 0) q) q) b1447 (tf 0) 0)))).toInt64) else (-1 : Int64))), (.int (((1 : Int32) &&& (1 : Int32)) &&& (1 : Int32)))])
    refine Go.aload C X487 (pc' := 311) at_309 rfl rfl rfl ?_
    refine Go.iconst C X487 (pc' := 312) (v := (3 : Int32)) at_311 rfl rfl ?_
    refine Go.aload C X487 (pc' := 314) at_312 rfl rfl rfl ?_
    refine Go.iload C X487 (pc' := 316) at_314 rfl rfl ?_
    refine Go.callS C X487 (pc' := 319) (W := 3) (argsL := [(.ref b379), (.int (3 : Int32)), (.ref b371), (.int (1 : Int32))]) (rest := [(.long (if (own_nx (fun q => if q = (2 - 1) then (-2147483648 : Int32) else (fun q => if q = 0 then (nf 0) else (fun _ => 0) q) q) b1447 (tf 2) (own_nx (fun q => if q = (2 - 1) then (-2147483648 : Int32) else (fun q => if q = 0 then (nf 0) else (fun _ => 0) q) q) b1447 (tf 1) (own_nx (fun q => if q = (2 - 1) then (-2147483648 : Int32) else (fun q => if q = 0 then (nf 0) else (fun _ => 0) q) q) b1447 (tf 0) 0))) = 2 - 1 then (((((0 : Int64) + (1 : Int64)) + (1 : Int64)) + (1 : Int64)) - (Int32.ofNat (own_nx (fun q => if q = (2 - 1) then (-2147483648 : Int32) else (fun q => if q = 0 then (nf 0) else (fun _ => 0) q) q) b1447 (tf 2) (own_nx (fun q => if q = (2 - 1) then (-2147483648 : Int32) else (fun q => if q = 0 then (nf 0) else (fun _ => 0) q) q) b1447 (tf 1) (own_nx (fun q => if q = (2 - 1) then (-2147483648 : Int32) else (fun q => if q = 0 then (nf 0) else (fun _ => 0) q) q) b1447 (tf 0) 0)))).toInt64) else (-1 : Int64))), (.int (((1 : Int32) &&& (1 : Int32)) &&& (1 : Int32)))]) (rm_ex1 l Z a0 hw b379 (3 : Int32) b371 (1 : Int32) tf nf 3 h487 n0 X487.sz A489 A488 rfl rfl (by decide)) (hw _ (List.mem_of_getElem? (i := 64) rfl)) (hw _ (List.mem_of_getElem? (i := 65) rfl)) (hw _ (List.mem_of_getElem? (i := 4) rfl)) (hw _ (List.mem_of_getElem? (i := 66) rfl)) (by decide) rfl rfl (lenOf own_pd7 rfl) rfl (Nat.le_of_eq rfl) (by decide) (by decide) (by decide) (by decide) at_316 rfl (fun _ _ q => Nat.le_of_eq (congrArg Array.size q.2)) (fun T496 h496 v496 X496 P496 => ?_)
    obtain ⟨rfl, rfl⟩ := P496
    show Go p e below s n0 _ _ _ T496 (mkF m 319 #[.val (.long x0), .second, .val (.int x1), .val (.long x2), .second, .val (.int x3), .val (.int (1 : Int32)), .val (.int (1 : Int32)), .val (.ref b371), .val (.ref b375), .val (.ref b379), .val (.ref b424), .val (.int (((1 : Int32) &&& (1 : Int32)) &&& (1 : Int32)))] [(.long (if own_S nf tf 3 1 then Int64.ofNat (3 - 1) else (-1 : Int64))), (.long (if (own_nx (fun q => if q = (2 - 1) then (-2147483648 : Int32) else (fun q => if q = 0 then (nf 0) else (fun _ => 0) q) q) b1447 (tf 2) (own_nx (fun q => if q = (2 - 1) then (-2147483648 : Int32) else (fun q => if q = 0 then (nf 0) else (fun _ => 0) q) q) b1447 (tf 1) (own_nx (fun q => if q = (2 - 1) then (-2147483648 : Int32) else (fun q => if q = 0 then (nf 0) else (fun _ => 0) q) q) b1447 (tf 0) 0))) = 2 - 1 then (((((0 : Int64) + (1 : Int64)) + (1 : Int64)) + (1 : Int64)) - (Int32.ofNat (own_nx (fun q => if q = (2 - 1) then (-2147483648 : Int32) else (fun q => if q = 0 then (nf 0) else (fun _ => 0) q) q) b1447 (tf 2) (own_nx (fun q => if q = (2 - 1) then (-2147483648 : Int32) else (fun q => if q = 0 then (nf 0) else (fun _ => 0) q) q) b1447 (tf 1) (own_nx (fun q => if q = (2 - 1) then (-2147483648 : Int32) else (fun q => if q = 0 then (nf 0) else (fun _ => 0) q) q) b1447 (tf 0) 0)))).toInt64) else (-1 : Int64))), (.int (((1 : Int32) &&& (1 : Int32)) &&& (1 : Int32)))])
    refine Go.lcmp C X496 (pc' := 320) at_319 rfl ?_
    refine Go.ifNo C X496 (pc' := 323) at_320 ((if0 _ _).trans (teq ((lw_eq _ _).mpr (own_ans M3 (by decide) (own_ag1 nf).1 rfl (by decide)))).2) rfl ?_
    refine Go.iconst C X496 (pc' := 324) (v := (1 : Int32)) at_323 rfl rfl ?_
    refine Go.goto C X496 (pc' := 328) at_324 (by decide) (by decide) ?_
    refine Go.iand C X496 (pc' := 329) at_328 rfl ?_
    refine Go.istore C X496 (pc' := 331) (Ls' := #[.val (.long x0), .second, .val (.int x1), .val (.long x2), .second, .val (.int x3), .val (.int (1 : Int32)), .val (.int (1 : Int32)), .val (.ref b371), .val (.ref b375), .val (.ref b379), .val (.ref b424), .val (.int ((((1 : Int32) &&& (1 : Int32)) &&& (1 : Int32)) &&& (1 : Int32)))]) at_329 rfl rfl ?_
    refine Go.iload C X496 (pc' := 333) at_331 rfl rfl ?_
    refine Go.aload C X496 (pc' := 335) at_333 rfl rfl rfl ?_
    refine Go.aload C X496 (pc' := 337) at_335 rfl rfl rfl ?_
    refine Go.iconst C X496 (pc' := 338) (v := (3 : Int32)) at_337 rfl rfl ?_
    refine Go.baload C X496 (pc' := 339) (i := 3) (w := (tf 3)) A489 rfl (by decide) rfl at_338 rfl ?_
    refine Go.callV C X496 (pc' := 342) (W := 1) (argsL := [(.int (tf 3))]) (rest := [(.int ((((1 : Int32) &&& (1 : Int32)) &&& (1 : Int32)) &&& (1 : Int32)))]) (a := b424) (rm_fd l Z a0 hw b424 (tf 3) b434 b375 t2447 2 (fun q => if q = (2 - 1) then (-2147483648 : Int32) else (fun q => if q = 0 then (nf 0) else (fun _ => 0) q) q) b1447 (own_nx (fun q => if q = (2 - 1) then (-2147483648 : Int32) else (fun q => if q = 0 then (nf 0) else (fun _ => 0) q) q) b1447 (tf 2) (own_nx (fun q => if q = (2 - 1) then (-2147483648 : Int32) else (fun q => if q = 0 then (nf 0) else (fun _ => 0) q) q) b1447 (tf 1) (own_nx (fun q => if q = (2 - 1) then (-2147483648 : Int32) else (fun q => if q = 0 then (nf 0) else (fun _ => 0) q) q) b1447 (tf 0) 0))) ((((0 : Int64) + (1 : Int64)) + (1 : Int64)) + (1 : Int64)) (2 : Int32) h487 n0 X496.sz O487_0 O487_1 O487_2 O487_3 N424 E491 F492 F493 A494 A495 (Ne.symm ne_b424_b434) ne_b375_b424 (Ne.symm ne_b424_t2447) rfl (by decide) (by decide) (by have := M3.1; omega) Y447_0) O487_0 (notFace_of_selects (args := #[]) (mvT C.2.1 (hw _ (List.mem_of_getElem? (i := 56) rfl)))) (hw _ (List.mem_of_getElem? (i := 53) rfl)) (hw _ (List.mem_of_getElem? (i := 54) rfl)) (hw _ (List.mem_of_getElem? (i := 56) rfl)) (hw _ (List.mem_of_getElem? (i := 55) rfl)) (hw _ (List.mem_of_getElem? (i := 8) rfl)) (hw _ (List.mem_of_getElem? (i := 57) rfl)) (by decide) rfl rfl (lenOf own_pd6 rfl) rfl (Nat.le_of_eq rfl) (by decide) (by decide) (by decide) (by decide) at_339 rfl (fun _ _ q => by obtain ⟨_, K, _⟩ := q; exact K.1) (fun T497 h497 v497 X497 P497 => ?_)
    obtain ⟨rfl, K497, O497_0, O497_1, O497_2, O497_3⟩ := P497
    have A498 := A488.keep K497 (ninS ne_b371_b424 nin0)
    have A499 := A489.keep K497 (ninS ne_b379_b424 nin0)
    have E500 := O487_0.keep K497
    have E501 := E491.keep K497
    have F502 := F492.keep K497 (ninS (Ne.symm ne_b424_b434) nin0)
    have F503 := F493.keep K497 (ninS (Ne.symm ne_b424_b434) nin0)
    have A504 := A494.keep K497 (ninS ne_b375_b424 nin0)
    have A505 := A495.keep K497 (ninS (Ne.symm ne_b424_t2447) nin0)
    have M4 : own_M (fun q => if q = (2 - 1) then (-2147483648 : Int32) else (fun q => if q = 0 then (nf 0) else (fun _ => 0) q) q) tf 1 4 (own_nx (fun q => if q = (2 - 1) then (-2147483648 : Int32) else (fun q => if q = 0 then (nf 0) else (fun _ => 0) q) q) b1447 (tf 3) (own_nx (fun q => if q = (2 - 1) then (-2147483648 : Int32) else (fun q => if q = 0 then (nf 0) else (fun _ => 0) q) q) b1447 (tf 2) (own_nx (fun q => if q = (2 - 1) then (-2147483648 : Int32) else (fun q => if q = 0 then (nf 0) else (fun _ => 0) q) q) b1447 (tf 1) (own_nx (fun q => if q = (2 - 1) then (-2147483648 : Int32) else (fun q => if q = 0 then (nf 0) else (fun _ => 0) q) q) b1447 (tf 0) 0)))) := own_Mstep (fun q a d => Y447_0 q a (by omega)) M3 (own_notmin (htf 3) (own_ag1 nf).2)
    show Go p e below s n0 _ _ _ T497 (mkF m 342 #[.val (.long x0), .second, .val (.int x1), .val (.long x2), .second, .val (.int x3), .val (.int (1 : Int32)), .val (.int (1 : Int32)), .val (.ref b371), .val (.ref b375), .val (.ref b379), .val (.ref b424), .val (.int ((((1 : Int32) &&& (1 : Int32)) &&& (1 : Int32)) &&& (1 : Int32)))] [(.long (if (own_nx (fun q => if q = (2 - 1) then (-2147483648 : Int32) else (fun q => if q = 0 then (nf 0) else (fun _ => 0) q) q) b1447 (tf 3) (own_nx (fun q => if q = (2 - 1) then (-2147483648 : Int32) else (fun q => if q = 0 then (nf 0) else (fun _ => 0) q) q) b1447 (tf 2) (own_nx (fun q => if q = (2 - 1) then (-2147483648 : Int32) else (fun q => if q = 0 then (nf 0) else (fun _ => 0) q) q) b1447 (tf 1) (own_nx (fun q => if q = (2 - 1) then (-2147483648 : Int32) else (fun q => if q = 0 then (nf 0) else (fun _ => 0) q) q) b1447 (tf 0) 0)))) = 2 - 1 then ((((((0 : Int64) + (1 : Int64)) + (1 : Int64)) + (1 : Int64)) + (1 : Int64)) - (Int32.ofNat (own_nx (fun q => if q = (2 - 1) then (-2147483648 : Int32) else (fun q => if q = 0 then (nf 0) else (fun _ => 0) q) q) b1447 (tf 3) (own_nx (fun q => if q = (2 - 1) then (-2147483648 : Int32) else (fun q => if q = 0 then (nf 0) else (fun _ => 0) q) q) b1447 (tf 2) (own_nx (fun q => if q = (2 - 1) then (-2147483648 : Int32) else (fun q => if q = 0 then (nf 0) else (fun _ => 0) q) q) b1447 (tf 1) (own_nx (fun q => if q = (2 - 1) then (-2147483648 : Int32) else (fun q => if q = 0 then (nf 0) else (fun _ => 0) q) q) b1447 (tf 0) 0))))).toInt64) else (-1 : Int64))), (.int ((((1 : Int32) &&& (1 : Int32)) &&& (1 : Int32)) &&& (1 : Int32)))])
    refine Go.aload C X497 (pc' := 344) at_342 rfl rfl rfl ?_
    refine Go.iconst C X497 (pc' := 345) (v := (4 : Int32)) at_344 rfl rfl ?_
    refine Go.aload C X497 (pc' := 347) at_345 rfl rfl rfl ?_
    refine Go.iload C X497 (pc' := 349) at_347 rfl rfl ?_
    refine Go.callS C X497 (pc' := 352) (W := 3) (argsL := [(.ref b379), (.int (4 : Int32)), (.ref b371), (.int (1 : Int32))]) (rest := [(.long (if (own_nx (fun q => if q = (2 - 1) then (-2147483648 : Int32) else (fun q => if q = 0 then (nf 0) else (fun _ => 0) q) q) b1447 (tf 3) (own_nx (fun q => if q = (2 - 1) then (-2147483648 : Int32) else (fun q => if q = 0 then (nf 0) else (fun _ => 0) q) q) b1447 (tf 2) (own_nx (fun q => if q = (2 - 1) then (-2147483648 : Int32) else (fun q => if q = 0 then (nf 0) else (fun _ => 0) q) q) b1447 (tf 1) (own_nx (fun q => if q = (2 - 1) then (-2147483648 : Int32) else (fun q => if q = 0 then (nf 0) else (fun _ => 0) q) q) b1447 (tf 0) 0)))) = 2 - 1 then ((((((0 : Int64) + (1 : Int64)) + (1 : Int64)) + (1 : Int64)) + (1 : Int64)) - (Int32.ofNat (own_nx (fun q => if q = (2 - 1) then (-2147483648 : Int32) else (fun q => if q = 0 then (nf 0) else (fun _ => 0) q) q) b1447 (tf 3) (own_nx (fun q => if q = (2 - 1) then (-2147483648 : Int32) else (fun q => if q = 0 then (nf 0) else (fun _ => 0) q) q) b1447 (tf 2) (own_nx (fun q => if q = (2 - 1) then (-2147483648 : Int32) else (fun q => if q = 0 then (nf 0) else (fun _ => 0) q) q) b1447 (tf 1) (own_nx (fun q => if q = (2 - 1) then (-2147483648 : Int32) else (fun q => if q = 0 then (nf 0) else (fun _ => 0) q) q) b1447 (tf 0) 0))))).toInt64) else (-1 : Int64))), (.int ((((1 : Int32) &&& (1 : Int32)) &&& (1 : Int32)) &&& (1 : Int32)))]) (rm_ex1 l Z a0 hw b379 (4 : Int32) b371 (1 : Int32) tf nf 4 h497 n0 X497.sz A499 A498 rfl rfl (by decide)) (hw _ (List.mem_of_getElem? (i := 64) rfl)) (hw _ (List.mem_of_getElem? (i := 65) rfl)) (hw _ (List.mem_of_getElem? (i := 4) rfl)) (hw _ (List.mem_of_getElem? (i := 66) rfl)) (by decide) rfl rfl (lenOf own_pd7 rfl) rfl (Nat.le_of_eq rfl) (by decide) (by decide) (by decide) (by decide) at_349 rfl (fun _ _ q => Nat.le_of_eq (congrArg Array.size q.2)) (fun T506 h506 v506 X506 P506 => ?_)
    obtain ⟨rfl, rfl⟩ := P506
    show Go p e below s n0 _ _ _ T506 (mkF m 352 #[.val (.long x0), .second, .val (.int x1), .val (.long x2), .second, .val (.int x3), .val (.int (1 : Int32)), .val (.int (1 : Int32)), .val (.ref b371), .val (.ref b375), .val (.ref b379), .val (.ref b424), .val (.int ((((1 : Int32) &&& (1 : Int32)) &&& (1 : Int32)) &&& (1 : Int32)))] [(.long (if own_S nf tf 4 1 then Int64.ofNat (4 - 1) else (-1 : Int64))), (.long (if (own_nx (fun q => if q = (2 - 1) then (-2147483648 : Int32) else (fun q => if q = 0 then (nf 0) else (fun _ => 0) q) q) b1447 (tf 3) (own_nx (fun q => if q = (2 - 1) then (-2147483648 : Int32) else (fun q => if q = 0 then (nf 0) else (fun _ => 0) q) q) b1447 (tf 2) (own_nx (fun q => if q = (2 - 1) then (-2147483648 : Int32) else (fun q => if q = 0 then (nf 0) else (fun _ => 0) q) q) b1447 (tf 1) (own_nx (fun q => if q = (2 - 1) then (-2147483648 : Int32) else (fun q => if q = 0 then (nf 0) else (fun _ => 0) q) q) b1447 (tf 0) 0)))) = 2 - 1 then ((((((0 : Int64) + (1 : Int64)) + (1 : Int64)) + (1 : Int64)) + (1 : Int64)) - (Int32.ofNat (own_nx (fun q => if q = (2 - 1) then (-2147483648 : Int32) else (fun q => if q = 0 then (nf 0) else (fun _ => 0) q) q) b1447 (tf 3) (own_nx (fun q => if q = (2 - 1) then (-2147483648 : Int32) else (fun q => if q = 0 then (nf 0) else (fun _ => 0) q) q) b1447 (tf 2) (own_nx (fun q => if q = (2 - 1) then (-2147483648 : Int32) else (fun q => if q = 0 then (nf 0) else (fun _ => 0) q) q) b1447 (tf 1) (own_nx (fun q => if q = (2 - 1) then (-2147483648 : Int32) else (fun q => if q = 0 then (nf 0) else (fun _ => 0) q) q) b1447 (tf 0) 0))))).toInt64) else (-1 : Int64))), (.int ((((1 : Int32) &&& (1 : Int32)) &&& (1 : Int32)) &&& (1 : Int32)))])
    refine Go.lcmp C X506 (pc' := 353) at_352 rfl ?_
    refine Go.ifNo C X506 (pc' := 356) at_353 ((if0 _ _).trans (teq ((lw_eq _ _).mpr (own_ans M4 (by decide) (own_ag1 nf).1 rfl (by decide)))).2) rfl ?_
    refine Go.iconst C X506 (pc' := 357) (v := (1 : Int32)) at_356 rfl rfl ?_
    refine Go.goto C X506 (pc' := 361) at_357 (by decide) (by decide) ?_
    refine Go.iand C X506 (pc' := 362) at_361 rfl ?_
    refine Go.istore C X506 (pc' := 364) (Ls' := #[.val (.long x0), .second, .val (.int x1), .val (.long x2), .second, .val (.int x3), .val (.int (1 : Int32)), .val (.int (1 : Int32)), .val (.ref b371), .val (.ref b375), .val (.ref b379), .val (.ref b424), .val (.int (((((1 : Int32) &&& (1 : Int32)) &&& (1 : Int32)) &&& (1 : Int32)) &&& (1 : Int32)))]) at_362 rfl rfl ?_
    refine Go.iload C X506 (pc' := 366) at_364 rfl rfl ?_
    refine Go.aload C X506 (pc' := 368) at_366 rfl rfl rfl ?_
    refine Go.aload C X506 (pc' := 370) at_368 rfl rfl rfl ?_
    refine Go.iconst C X506 (pc' := 371) (v := (4 : Int32)) at_370 rfl rfl ?_
    refine Go.baload C X506 (pc' := 372) (i := 4) (w := (tf 4)) A499 rfl (by decide) rfl at_371 rfl ?_
    refine Go.callV C X506 (pc' := 375) (W := 1) (argsL := [(.int (tf 4))]) (rest := [(.int (((((1 : Int32) &&& (1 : Int32)) &&& (1 : Int32)) &&& (1 : Int32)) &&& (1 : Int32)))]) (a := b424) (rm_fd l Z a0 hw b424 (tf 4) b434 b375 t2447 2 (fun q => if q = (2 - 1) then (-2147483648 : Int32) else (fun q => if q = 0 then (nf 0) else (fun _ => 0) q) q) b1447 (own_nx (fun q => if q = (2 - 1) then (-2147483648 : Int32) else (fun q => if q = 0 then (nf 0) else (fun _ => 0) q) q) b1447 (tf 3) (own_nx (fun q => if q = (2 - 1) then (-2147483648 : Int32) else (fun q => if q = 0 then (nf 0) else (fun _ => 0) q) q) b1447 (tf 2) (own_nx (fun q => if q = (2 - 1) then (-2147483648 : Int32) else (fun q => if q = 0 then (nf 0) else (fun _ => 0) q) q) b1447 (tf 1) (own_nx (fun q => if q = (2 - 1) then (-2147483648 : Int32) else (fun q => if q = 0 then (nf 0) else (fun _ => 0) q) q) b1447 (tf 0) 0)))) (((((0 : Int64) + (1 : Int64)) + (1 : Int64)) + (1 : Int64)) + (1 : Int64)) (2 : Int32) h497 n0 X506.sz O497_0 O497_1 O497_2 O497_3 N424 E501 F502 F503 A504 A505 (Ne.symm ne_b424_b434) ne_b375_b424 (Ne.symm ne_b424_t2447) rfl (by decide) (by decide) (by have := M4.1; omega) Y447_0) O497_0 (notFace_of_selects (args := #[]) (mvT C.2.1 (hw _ (List.mem_of_getElem? (i := 56) rfl)))) (hw _ (List.mem_of_getElem? (i := 53) rfl)) (hw _ (List.mem_of_getElem? (i := 54) rfl)) (hw _ (List.mem_of_getElem? (i := 56) rfl)) (hw _ (List.mem_of_getElem? (i := 55) rfl)) (hw _ (List.mem_of_getElem? (i := 8) rfl)) (hw _ (List.mem_of_getElem? (i := 57) rfl)) (by decide) rfl rfl (lenOf own_pd6 rfl) rfl (Nat.le_of_eq rfl) (by decide) (by decide) (by decide) (by decide) at_372 rfl (fun _ _ q => by obtain ⟨_, K, _⟩ := q; exact K.1) (fun T507 h507 v507 X507 P507 => ?_)
    obtain ⟨rfl, K507, O507_0, O507_1, O507_2, O507_3⟩ := P507
    have A508 := A498.keep K507 (ninS ne_b371_b424 nin0)
    have A509 := A499.keep K507 (ninS ne_b379_b424 nin0)
    have E510 := O497_0.keep K507
    have E511 := E501.keep K507
    have F512 := F502.keep K507 (ninS (Ne.symm ne_b424_b434) nin0)
    have F513 := F503.keep K507 (ninS (Ne.symm ne_b424_b434) nin0)
    have A514 := A504.keep K507 (ninS ne_b375_b424 nin0)
    have A515 := A505.keep K507 (ninS (Ne.symm ne_b424_t2447) nin0)
    have M5 : own_M (fun q => if q = (2 - 1) then (-2147483648 : Int32) else (fun q => if q = 0 then (nf 0) else (fun _ => 0) q) q) tf 1 5 (own_nx (fun q => if q = (2 - 1) then (-2147483648 : Int32) else (fun q => if q = 0 then (nf 0) else (fun _ => 0) q) q) b1447 (tf 4) (own_nx (fun q => if q = (2 - 1) then (-2147483648 : Int32) else (fun q => if q = 0 then (nf 0) else (fun _ => 0) q) q) b1447 (tf 3) (own_nx (fun q => if q = (2 - 1) then (-2147483648 : Int32) else (fun q => if q = 0 then (nf 0) else (fun _ => 0) q) q) b1447 (tf 2) (own_nx (fun q => if q = (2 - 1) then (-2147483648 : Int32) else (fun q => if q = 0 then (nf 0) else (fun _ => 0) q) q) b1447 (tf 1) (own_nx (fun q => if q = (2 - 1) then (-2147483648 : Int32) else (fun q => if q = 0 then (nf 0) else (fun _ => 0) q) q) b1447 (tf 0) 0))))) := own_Mstep (fun q a d => Y447_0 q a (by omega)) M4 (own_notmin (htf 4) (own_ag1 nf).2)
    show Go p e below s n0 _ _ _ T507 (mkF m 375 #[.val (.long x0), .second, .val (.int x1), .val (.long x2), .second, .val (.int x3), .val (.int (1 : Int32)), .val (.int (1 : Int32)), .val (.ref b371), .val (.ref b375), .val (.ref b379), .val (.ref b424), .val (.int (((((1 : Int32) &&& (1 : Int32)) &&& (1 : Int32)) &&& (1 : Int32)) &&& (1 : Int32)))] [(.long (if (own_nx (fun q => if q = (2 - 1) then (-2147483648 : Int32) else (fun q => if q = 0 then (nf 0) else (fun _ => 0) q) q) b1447 (tf 4) (own_nx (fun q => if q = (2 - 1) then (-2147483648 : Int32) else (fun q => if q = 0 then (nf 0) else (fun _ => 0) q) q) b1447 (tf 3) (own_nx (fun q => if q = (2 - 1) then (-2147483648 : Int32) else (fun q => if q = 0 then (nf 0) else (fun _ => 0) q) q) b1447 (tf 2) (own_nx (fun q => if q = (2 - 1) then (-2147483648 : Int32) else (fun q => if q = 0 then (nf 0) else (fun _ => 0) q) q) b1447 (tf 1) (own_nx (fun q => if q = (2 - 1) then (-2147483648 : Int32) else (fun q => if q = 0 then (nf 0) else (fun _ => 0) q) q) b1447 (tf 0) 0))))) = 2 - 1 then (((((((0 : Int64) + (1 : Int64)) + (1 : Int64)) + (1 : Int64)) + (1 : Int64)) + (1 : Int64)) - (Int32.ofNat (own_nx (fun q => if q = (2 - 1) then (-2147483648 : Int32) else (fun q => if q = 0 then (nf 0) else (fun _ => 0) q) q) b1447 (tf 4) (own_nx (fun q => if q = (2 - 1) then (-2147483648 : Int32) else (fun q => if q = 0 then (nf 0) else (fun _ => 0) q) q) b1447 (tf 3) (own_nx (fun q => if q = (2 - 1) then (-2147483648 : Int32) else (fun q => if q = 0 then (nf 0) else (fun _ => 0) q) q) b1447 (tf 2) (own_nx (fun q => if q = (2 - 1) then (-2147483648 : Int32) else (fun q => if q = 0 then (nf 0) else (fun _ => 0) q) q) b1447 (tf 1) (own_nx (fun q => if q = (2 - 1) then (-2147483648 : Int32) else (fun q => if q = 0 then (nf 0) else (fun _ => 0) q) q) b1447 (tf 0) 0)))))).toInt64) else (-1 : Int64))), (.int (((((1 : Int32) &&& (1 : Int32)) &&& (1 : Int32)) &&& (1 : Int32)) &&& (1 : Int32)))])
    refine Go.aload C X507 (pc' := 377) at_375 rfl rfl rfl ?_
    refine Go.iconst C X507 (pc' := 378) (v := (5 : Int32)) at_377 rfl rfl ?_
    refine Go.aload C X507 (pc' := 380) at_378 rfl rfl rfl ?_
    refine Go.iload C X507 (pc' := 382) at_380 rfl rfl ?_
    refine Go.callS C X507 (pc' := 385) (W := 3) (argsL := [(.ref b379), (.int (5 : Int32)), (.ref b371), (.int (1 : Int32))]) (rest := [(.long (if (own_nx (fun q => if q = (2 - 1) then (-2147483648 : Int32) else (fun q => if q = 0 then (nf 0) else (fun _ => 0) q) q) b1447 (tf 4) (own_nx (fun q => if q = (2 - 1) then (-2147483648 : Int32) else (fun q => if q = 0 then (nf 0) else (fun _ => 0) q) q) b1447 (tf 3) (own_nx (fun q => if q = (2 - 1) then (-2147483648 : Int32) else (fun q => if q = 0 then (nf 0) else (fun _ => 0) q) q) b1447 (tf 2) (own_nx (fun q => if q = (2 - 1) then (-2147483648 : Int32) else (fun q => if q = 0 then (nf 0) else (fun _ => 0) q) q) b1447 (tf 1) (own_nx (fun q => if q = (2 - 1) then (-2147483648 : Int32) else (fun q => if q = 0 then (nf 0) else (fun _ => 0) q) q) b1447 (tf 0) 0))))) = 2 - 1 then (((((((0 : Int64) + (1 : Int64)) + (1 : Int64)) + (1 : Int64)) + (1 : Int64)) + (1 : Int64)) - (Int32.ofNat (own_nx (fun q => if q = (2 - 1) then (-2147483648 : Int32) else (fun q => if q = 0 then (nf 0) else (fun _ => 0) q) q) b1447 (tf 4) (own_nx (fun q => if q = (2 - 1) then (-2147483648 : Int32) else (fun q => if q = 0 then (nf 0) else (fun _ => 0) q) q) b1447 (tf 3) (own_nx (fun q => if q = (2 - 1) then (-2147483648 : Int32) else (fun q => if q = 0 then (nf 0) else (fun _ => 0) q) q) b1447 (tf 2) (own_nx (fun q => if q = (2 - 1) then (-2147483648 : Int32) else (fun q => if q = 0 then (nf 0) else (fun _ => 0) q) q) b1447 (tf 1) (own_nx (fun q => if q = (2 - 1) then (-2147483648 : Int32) else (fun q => if q = 0 then (nf 0) else (fun _ => 0) q) q) b1447 (tf 0) 0)))))).toInt64) else (-1 : Int64))), (.int (((((1 : Int32) &&& (1 : Int32)) &&& (1 : Int32)) &&& (1 : Int32)) &&& (1 : Int32)))]) (rm_ex1 l Z a0 hw b379 (5 : Int32) b371 (1 : Int32) tf nf 5 h507 n0 X507.sz A509 A508 rfl rfl (by decide)) (hw _ (List.mem_of_getElem? (i := 64) rfl)) (hw _ (List.mem_of_getElem? (i := 65) rfl)) (hw _ (List.mem_of_getElem? (i := 4) rfl)) (hw _ (List.mem_of_getElem? (i := 66) rfl)) (by decide) rfl rfl (lenOf own_pd7 rfl) rfl (Nat.le_of_eq rfl) (by decide) (by decide) (by decide) (by decide) at_382 rfl (fun _ _ q => Nat.le_of_eq (congrArg Array.size q.2)) (fun T516 h516 v516 X516 P516 => ?_)
    obtain ⟨rfl, rfl⟩ := P516
    show Go p e below s n0 _ _ _ T516 (mkF m 385 #[.val (.long x0), .second, .val (.int x1), .val (.long x2), .second, .val (.int x3), .val (.int (1 : Int32)), .val (.int (1 : Int32)), .val (.ref b371), .val (.ref b375), .val (.ref b379), .val (.ref b424), .val (.int (((((1 : Int32) &&& (1 : Int32)) &&& (1 : Int32)) &&& (1 : Int32)) &&& (1 : Int32)))] [(.long (if own_S nf tf 5 1 then Int64.ofNat (5 - 1) else (-1 : Int64))), (.long (if (own_nx (fun q => if q = (2 - 1) then (-2147483648 : Int32) else (fun q => if q = 0 then (nf 0) else (fun _ => 0) q) q) b1447 (tf 4) (own_nx (fun q => if q = (2 - 1) then (-2147483648 : Int32) else (fun q => if q = 0 then (nf 0) else (fun _ => 0) q) q) b1447 (tf 3) (own_nx (fun q => if q = (2 - 1) then (-2147483648 : Int32) else (fun q => if q = 0 then (nf 0) else (fun _ => 0) q) q) b1447 (tf 2) (own_nx (fun q => if q = (2 - 1) then (-2147483648 : Int32) else (fun q => if q = 0 then (nf 0) else (fun _ => 0) q) q) b1447 (tf 1) (own_nx (fun q => if q = (2 - 1) then (-2147483648 : Int32) else (fun q => if q = 0 then (nf 0) else (fun _ => 0) q) q) b1447 (tf 0) 0))))) = 2 - 1 then (((((((0 : Int64) + (1 : Int64)) + (1 : Int64)) + (1 : Int64)) + (1 : Int64)) + (1 : Int64)) - (Int32.ofNat (own_nx (fun q => if q = (2 - 1) then (-2147483648 : Int32) else (fun q => if q = 0 then (nf 0) else (fun _ => 0) q) q) b1447 (tf 4) (own_nx (fun q => if q = (2 - 1) then (-2147483648 : Int32) else (fun q => if q = 0 then (nf 0) else (fun _ => 0) q) q) b1447 (tf 3) (own_nx (fun q => if q = (2 - 1) then (-2147483648 : Int32) else (fun q => if q = 0 then (nf 0) else (fun _ => 0) q) q) b1447 (tf 2) (own_nx (fun q => if q = (2 - 1) then (-2147483648 : Int32) else (fun q => if q = 0 then (nf 0) else (fun _ => 0) q) q) b1447 (tf 1) (own_nx (fun q => if q = (2 - 1) then (-2147483648 : Int32) else (fun q => if q = 0 then (nf 0) else (fun _ => 0) q) q) b1447 (tf 0) 0)))))).toInt64) else (-1 : Int64))), (.int (((((1 : Int32) &&& (1 : Int32)) &&& (1 : Int32)) &&& (1 : Int32)) &&& (1 : Int32)))])
    refine Go.lcmp C X516 (pc' := 386) at_385 rfl ?_
    refine Go.ifNo C X516 (pc' := 389) at_386 ((if0 _ _).trans (teq ((lw_eq _ _).mpr (own_ans M5 (by decide) (own_ag1 nf).1 rfl (by decide)))).2) rfl ?_
    refine Go.iconst C X516 (pc' := 390) (v := (1 : Int32)) at_389 rfl rfl ?_
    refine Go.goto C X516 (pc' := 394) at_390 (by decide) (by decide) ?_
    refine Go.iand C X516 (pc' := 395) at_394 rfl ?_
    refine Go.istore C X516 (pc' := 397) (Ls' := #[.val (.long x0), .second, .val (.int x1), .val (.long x2), .second, .val (.int x3), .val (.int (1 : Int32)), .val (.int (1 : Int32)), .val (.ref b371), .val (.ref b375), .val (.ref b379), .val (.ref b424), .val (.int ((((((1 : Int32) &&& (1 : Int32)) &&& (1 : Int32)) &&& (1 : Int32)) &&& (1 : Int32)) &&& (1 : Int32)))]) at_395 rfl rfl ?_
    refine Go.iload C X516 (pc' := 399) at_397 rfl rfl ?_
    refine Go.aload C X516 (pc' := 401) at_399 rfl rfl rfl ?_
    refine Go.aload C X516 (pc' := 403) at_401 rfl rfl rfl ?_
    refine Go.iconst C X516 (pc' := 404) (v := (5 : Int32)) at_403 rfl rfl ?_
    refine Go.baload C X516 (pc' := 405) (i := 5) (w := (tf 5)) A509 rfl (by decide) rfl at_404 rfl ?_
    refine Go.callV C X516 (pc' := 408) (W := 1) (argsL := [(.int (tf 5))]) (rest := [(.int ((((((1 : Int32) &&& (1 : Int32)) &&& (1 : Int32)) &&& (1 : Int32)) &&& (1 : Int32)) &&& (1 : Int32)))]) (a := b424) (rm_fd l Z a0 hw b424 (tf 5) b434 b375 t2447 2 (fun q => if q = (2 - 1) then (-2147483648 : Int32) else (fun q => if q = 0 then (nf 0) else (fun _ => 0) q) q) b1447 (own_nx (fun q => if q = (2 - 1) then (-2147483648 : Int32) else (fun q => if q = 0 then (nf 0) else (fun _ => 0) q) q) b1447 (tf 4) (own_nx (fun q => if q = (2 - 1) then (-2147483648 : Int32) else (fun q => if q = 0 then (nf 0) else (fun _ => 0) q) q) b1447 (tf 3) (own_nx (fun q => if q = (2 - 1) then (-2147483648 : Int32) else (fun q => if q = 0 then (nf 0) else (fun _ => 0) q) q) b1447 (tf 2) (own_nx (fun q => if q = (2 - 1) then (-2147483648 : Int32) else (fun q => if q = 0 then (nf 0) else (fun _ => 0) q) q) b1447 (tf 1) (own_nx (fun q => if q = (2 - 1) then (-2147483648 : Int32) else (fun q => if q = 0 then (nf 0) else (fun _ => 0) q) q) b1447 (tf 0) 0))))) ((((((0 : Int64) + (1 : Int64)) + (1 : Int64)) + (1 : Int64)) + (1 : Int64)) + (1 : Int64)) (2 : Int32) h507 n0 X516.sz O507_0 O507_1 O507_2 O507_3 N424 E511 F512 F513 A514 A515 (Ne.symm ne_b424_b434) ne_b375_b424 (Ne.symm ne_b424_t2447) rfl (by decide) (by decide) (by have := M5.1; omega) Y447_0) O507_0 (notFace_of_selects (args := #[]) (mvT C.2.1 (hw _ (List.mem_of_getElem? (i := 56) rfl)))) (hw _ (List.mem_of_getElem? (i := 53) rfl)) (hw _ (List.mem_of_getElem? (i := 54) rfl)) (hw _ (List.mem_of_getElem? (i := 56) rfl)) (hw _ (List.mem_of_getElem? (i := 55) rfl)) (hw _ (List.mem_of_getElem? (i := 8) rfl)) (hw _ (List.mem_of_getElem? (i := 57) rfl)) (by decide) rfl rfl (lenOf own_pd6 rfl) rfl (Nat.le_of_eq rfl) (by decide) (by decide) (by decide) (by decide) at_405 rfl (fun _ _ q => by obtain ⟨_, K, _⟩ := q; exact K.1) (fun T517 h517 v517 X517 P517 => ?_)
    obtain ⟨rfl, K517, O517_0, O517_1, O517_2, O517_3⟩ := P517
    have A518 := A508.keep K517 (ninS ne_b371_b424 nin0)
    have A519 := A509.keep K517 (ninS ne_b379_b424 nin0)
    have E520 := O507_0.keep K517
    have E521 := E511.keep K517
    have F522 := F512.keep K517 (ninS (Ne.symm ne_b424_b434) nin0)
    have F523 := F513.keep K517 (ninS (Ne.symm ne_b424_b434) nin0)
    have A524 := A514.keep K517 (ninS ne_b375_b424 nin0)
    have A525 := A515.keep K517 (ninS (Ne.symm ne_b424_t2447) nin0)
    have M6 : own_M (fun q => if q = (2 - 1) then (-2147483648 : Int32) else (fun q => if q = 0 then (nf 0) else (fun _ => 0) q) q) tf 1 6 (own_nx (fun q => if q = (2 - 1) then (-2147483648 : Int32) else (fun q => if q = 0 then (nf 0) else (fun _ => 0) q) q) b1447 (tf 5) (own_nx (fun q => if q = (2 - 1) then (-2147483648 : Int32) else (fun q => if q = 0 then (nf 0) else (fun _ => 0) q) q) b1447 (tf 4) (own_nx (fun q => if q = (2 - 1) then (-2147483648 : Int32) else (fun q => if q = 0 then (nf 0) else (fun _ => 0) q) q) b1447 (tf 3) (own_nx (fun q => if q = (2 - 1) then (-2147483648 : Int32) else (fun q => if q = 0 then (nf 0) else (fun _ => 0) q) q) b1447 (tf 2) (own_nx (fun q => if q = (2 - 1) then (-2147483648 : Int32) else (fun q => if q = 0 then (nf 0) else (fun _ => 0) q) q) b1447 (tf 1) (own_nx (fun q => if q = (2 - 1) then (-2147483648 : Int32) else (fun q => if q = 0 then (nf 0) else (fun _ => 0) q) q) b1447 (tf 0) 0)))))) := own_Mstep (fun q a d => Y447_0 q a (by omega)) M5 (own_notmin (htf 5) (own_ag1 nf).2)
    show Go p e below s n0 _ _ _ T517 (mkF m 408 #[.val (.long x0), .second, .val (.int x1), .val (.long x2), .second, .val (.int x3), .val (.int (1 : Int32)), .val (.int (1 : Int32)), .val (.ref b371), .val (.ref b375), .val (.ref b379), .val (.ref b424), .val (.int ((((((1 : Int32) &&& (1 : Int32)) &&& (1 : Int32)) &&& (1 : Int32)) &&& (1 : Int32)) &&& (1 : Int32)))] [(.long (if (own_nx (fun q => if q = (2 - 1) then (-2147483648 : Int32) else (fun q => if q = 0 then (nf 0) else (fun _ => 0) q) q) b1447 (tf 5) (own_nx (fun q => if q = (2 - 1) then (-2147483648 : Int32) else (fun q => if q = 0 then (nf 0) else (fun _ => 0) q) q) b1447 (tf 4) (own_nx (fun q => if q = (2 - 1) then (-2147483648 : Int32) else (fun q => if q = 0 then (nf 0) else (fun _ => 0) q) q) b1447 (tf 3) (own_nx (fun q => if q = (2 - 1) then (-2147483648 : Int32) else (fun q => if q = 0 then (nf 0) else (fun _ => 0) q) q) b1447 (tf 2) (own_nx (fun q => if q = (2 - 1) then (-2147483648 : Int32) else (fun q => if q = 0 then (nf 0) else (fun _ => 0) q) q) b1447 (tf 1) (own_nx (fun q => if q = (2 - 1) then (-2147483648 : Int32) else (fun q => if q = 0 then (nf 0) else (fun _ => 0) q) q) b1447 (tf 0) 0)))))) = 2 - 1 then ((((((((0 : Int64) + (1 : Int64)) + (1 : Int64)) + (1 : Int64)) + (1 : Int64)) + (1 : Int64)) + (1 : Int64)) - (Int32.ofNat (own_nx (fun q => if q = (2 - 1) then (-2147483648 : Int32) else (fun q => if q = 0 then (nf 0) else (fun _ => 0) q) q) b1447 (tf 5) (own_nx (fun q => if q = (2 - 1) then (-2147483648 : Int32) else (fun q => if q = 0 then (nf 0) else (fun _ => 0) q) q) b1447 (tf 4) (own_nx (fun q => if q = (2 - 1) then (-2147483648 : Int32) else (fun q => if q = 0 then (nf 0) else (fun _ => 0) q) q) b1447 (tf 3) (own_nx (fun q => if q = (2 - 1) then (-2147483648 : Int32) else (fun q => if q = 0 then (nf 0) else (fun _ => 0) q) q) b1447 (tf 2) (own_nx (fun q => if q = (2 - 1) then (-2147483648 : Int32) else (fun q => if q = 0 then (nf 0) else (fun _ => 0) q) q) b1447 (tf 1) (own_nx (fun q => if q = (2 - 1) then (-2147483648 : Int32) else (fun q => if q = 0 then (nf 0) else (fun _ => 0) q) q) b1447 (tf 0) 0))))))).toInt64) else (-1 : Int64))), (.int ((((((1 : Int32) &&& (1 : Int32)) &&& (1 : Int32)) &&& (1 : Int32)) &&& (1 : Int32)) &&& (1 : Int32)))])
    refine Go.aload C X517 (pc' := 410) at_408 rfl rfl rfl ?_
    refine Go.bipush C X517 (pc' := 412) (v := (6 : Int32)) at_410 rfl rfl ?_
    refine Go.aload C X517 (pc' := 414) at_412 rfl rfl rfl ?_
    refine Go.iload C X517 (pc' := 416) at_414 rfl rfl ?_
    refine Go.callS C X517 (pc' := 419) (W := 3) (argsL := [(.ref b379), (.int (6 : Int32)), (.ref b371), (.int (1 : Int32))]) (rest := [(.long (if (own_nx (fun q => if q = (2 - 1) then (-2147483648 : Int32) else (fun q => if q = 0 then (nf 0) else (fun _ => 0) q) q) b1447 (tf 5) (own_nx (fun q => if q = (2 - 1) then (-2147483648 : Int32) else (fun q => if q = 0 then (nf 0) else (fun _ => 0) q) q) b1447 (tf 4) (own_nx (fun q => if q = (2 - 1) then (-2147483648 : Int32) else (fun q => if q = 0 then (nf 0) else (fun _ => 0) q) q) b1447 (tf 3) (own_nx (fun q => if q = (2 - 1) then (-2147483648 : Int32) else (fun q => if q = 0 then (nf 0) else (fun _ => 0) q) q) b1447 (tf 2) (own_nx (fun q => if q = (2 - 1) then (-2147483648 : Int32) else (fun q => if q = 0 then (nf 0) else (fun _ => 0) q) q) b1447 (tf 1) (own_nx (fun q => if q = (2 - 1) then (-2147483648 : Int32) else (fun q => if q = 0 then (nf 0) else (fun _ => 0) q) q) b1447 (tf 0) 0)))))) = 2 - 1 then ((((((((0 : Int64) + (1 : Int64)) + (1 : Int64)) + (1 : Int64)) + (1 : Int64)) + (1 : Int64)) + (1 : Int64)) - (Int32.ofNat (own_nx (fun q => if q = (2 - 1) then (-2147483648 : Int32) else (fun q => if q = 0 then (nf 0) else (fun _ => 0) q) q) b1447 (tf 5) (own_nx (fun q => if q = (2 - 1) then (-2147483648 : Int32) else (fun q => if q = 0 then (nf 0) else (fun _ => 0) q) q) b1447 (tf 4) (own_nx (fun q => if q = (2 - 1) then (-2147483648 : Int32) else (fun q => if q = 0 then (nf 0) else (fun _ => 0) q) q) b1447 (tf 3) (own_nx (fun q => if q = (2 - 1) then (-2147483648 : Int32) else (fun q => if q = 0 then (nf 0) else (fun _ => 0) q) q) b1447 (tf 2) (own_nx (fun q => if q = (2 - 1) then (-2147483648 : Int32) else (fun q => if q = 0 then (nf 0) else (fun _ => 0) q) q) b1447 (tf 1) (own_nx (fun q => if q = (2 - 1) then (-2147483648 : Int32) else (fun q => if q = 0 then (nf 0) else (fun _ => 0) q) q) b1447 (tf 0) 0))))))).toInt64) else (-1 : Int64))), (.int ((((((1 : Int32) &&& (1 : Int32)) &&& (1 : Int32)) &&& (1 : Int32)) &&& (1 : Int32)) &&& (1 : Int32)))]) (rm_ex1 l Z a0 hw b379 (6 : Int32) b371 (1 : Int32) tf nf 6 h517 n0 X517.sz A519 A518 rfl rfl (by decide)) (hw _ (List.mem_of_getElem? (i := 64) rfl)) (hw _ (List.mem_of_getElem? (i := 65) rfl)) (hw _ (List.mem_of_getElem? (i := 4) rfl)) (hw _ (List.mem_of_getElem? (i := 66) rfl)) (by decide) rfl rfl (lenOf own_pd7 rfl) rfl (Nat.le_of_eq rfl) (by decide) (by decide) (by decide) (by decide) at_416 rfl (fun _ _ q => Nat.le_of_eq (congrArg Array.size q.2)) (fun T526 h526 v526 X526 P526 => ?_)
    obtain ⟨rfl, rfl⟩ := P526
    show Go p e below s n0 _ _ _ T526 (mkF m 419 #[.val (.long x0), .second, .val (.int x1), .val (.long x2), .second, .val (.int x3), .val (.int (1 : Int32)), .val (.int (1 : Int32)), .val (.ref b371), .val (.ref b375), .val (.ref b379), .val (.ref b424), .val (.int ((((((1 : Int32) &&& (1 : Int32)) &&& (1 : Int32)) &&& (1 : Int32)) &&& (1 : Int32)) &&& (1 : Int32)))] [(.long (if own_S nf tf 6 1 then Int64.ofNat (6 - 1) else (-1 : Int64))), (.long (if (own_nx (fun q => if q = (2 - 1) then (-2147483648 : Int32) else (fun q => if q = 0 then (nf 0) else (fun _ => 0) q) q) b1447 (tf 5) (own_nx (fun q => if q = (2 - 1) then (-2147483648 : Int32) else (fun q => if q = 0 then (nf 0) else (fun _ => 0) q) q) b1447 (tf 4) (own_nx (fun q => if q = (2 - 1) then (-2147483648 : Int32) else (fun q => if q = 0 then (nf 0) else (fun _ => 0) q) q) b1447 (tf 3) (own_nx (fun q => if q = (2 - 1) then (-2147483648 : Int32) else (fun q => if q = 0 then (nf 0) else (fun _ => 0) q) q) b1447 (tf 2) (own_nx (fun q => if q = (2 - 1) then (-2147483648 : Int32) else (fun q => if q = 0 then (nf 0) else (fun _ => 0) q) q) b1447 (tf 1) (own_nx (fun q => if q = (2 - 1) then (-2147483648 : Int32) else (fun q => if q = 0 then (nf 0) else (fun _ => 0) q) q) b1447 (tf 0) 0)))))) = 2 - 1 then ((((((((0 : Int64) + (1 : Int64)) + (1 : Int64)) + (1 : Int64)) + (1 : Int64)) + (1 : Int64)) + (1 : Int64)) - (Int32.ofNat (own_nx (fun q => if q = (2 - 1) then (-2147483648 : Int32) else (fun q => if q = 0 then (nf 0) else (fun _ => 0) q) q) b1447 (tf 5) (own_nx (fun q => if q = (2 - 1) then (-2147483648 : Int32) else (fun q => if q = 0 then (nf 0) else (fun _ => 0) q) q) b1447 (tf 4) (own_nx (fun q => if q = (2 - 1) then (-2147483648 : Int32) else (fun q => if q = 0 then (nf 0) else (fun _ => 0) q) q) b1447 (tf 3) (own_nx (fun q => if q = (2 - 1) then (-2147483648 : Int32) else (fun q => if q = 0 then (nf 0) else (fun _ => 0) q) q) b1447 (tf 2) (own_nx (fun q => if q = (2 - 1) then (-2147483648 : Int32) else (fun q => if q = 0 then (nf 0) else (fun _ => 0) q) q) b1447 (tf 1) (own_nx (fun q => if q = (2 - 1) then (-2147483648 : Int32) else (fun q => if q = 0 then (nf 0) else (fun _ => 0) q) q) b1447 (tf 0) 0))))))).toInt64) else (-1 : Int64))), (.int ((((((1 : Int32) &&& (1 : Int32)) &&& (1 : Int32)) &&& (1 : Int32)) &&& (1 : Int32)) &&& (1 : Int32)))])
    refine Go.lcmp C X526 (pc' := 420) at_419 rfl ?_
    refine Go.ifNo C X526 (pc' := 423) at_420 ((if0 _ _).trans (teq ((lw_eq _ _).mpr (own_ans M6 (by decide) (own_ag1 nf).1 rfl (by decide)))).2) rfl ?_
    refine Go.iconst C X526 (pc' := 424) (v := (1 : Int32)) at_423 rfl rfl ?_
    refine Go.goto C X526 (pc' := 428) at_424 (by decide) (by decide) ?_
    refine Go.iand C X526 (pc' := 429) at_428 rfl ?_
    refine Go.istore C X526 (pc' := 431) (Ls' := #[.val (.long x0), .second, .val (.int x1), .val (.long x2), .second, .val (.int x3), .val (.int (1 : Int32)), .val (.int (1 : Int32)), .val (.ref b371), .val (.ref b375), .val (.ref b379), .val (.ref b424), .val (.int (((((((1 : Int32) &&& (1 : Int32)) &&& (1 : Int32)) &&& (1 : Int32)) &&& (1 : Int32)) &&& (1 : Int32)) &&& (1 : Int32)))]) at_429 rfl rfl ?_
    refine Go.iload C X526 (pc' := 433) at_431 rfl rfl ?_
    refine Go.aload C X526 (pc' := 435) at_433 rfl rfl rfl ?_
    refine Go.callV C X526 (pc' := 438) (W := 1) (argsL := []) (rest := [(.int (((((((1 : Int32) &&& (1 : Int32)) &&& (1 : Int32)) &&& (1 : Int32)) &&& (1 : Int32)) &&& (1 : Int32)) &&& (1 : Int32)))]) (a := b424) (rm_fed l Z a0 hw b424 (((((((0 : Int64) + (1 : Int64)) + (1 : Int64)) + (1 : Int64)) + (1 : Int64)) + (1 : Int64)) + (1 : Int64)) h517 n0 X526.sz O517_3) O517_0 (notFace_of_selects (args := #[]) (mvT C.2.1 (hw _ (List.mem_of_getElem? (i := 71) rfl)))) (hw _ (List.mem_of_getElem? (i := 68) rfl)) (hw _ (List.mem_of_getElem? (i := 69) rfl)) (hw _ (List.mem_of_getElem? (i := 71) rfl)) (hw _ (List.mem_of_getElem? (i := 70) rfl)) (hw _ (List.mem_of_getElem? (i := 8) rfl)) (hw _ (List.mem_of_getElem? (i := 72) rfl)) (by decide) rfl rfl (lenOf own_pd8 rfl) rfl (Nat.le_of_eq rfl) (by decide) (by decide) (by decide) (by decide) at_435 rfl (fun _ _ q => Nat.le_of_eq (congrArg Array.size q.2)) (fun T527 h527 v527 X527 P527 => ?_)
    obtain ⟨rfl, rfl⟩ := P527
    show Go p e below s n0 _ _ _ T527 (mkF m 438 #[.val (.long x0), .second, .val (.int x1), .val (.long x2), .second, .val (.int x3), .val (.int (1 : Int32)), .val (.int (1 : Int32)), .val (.ref b371), .val (.ref b375), .val (.ref b379), .val (.ref b424), .val (.int (((((((1 : Int32) &&& (1 : Int32)) &&& (1 : Int32)) &&& (1 : Int32)) &&& (1 : Int32)) &&& (1 : Int32)) &&& (1 : Int32)))] [(.long (((((((0 : Int64) + (1 : Int64)) + (1 : Int64)) + (1 : Int64)) + (1 : Int64)) + (1 : Int64)) + (1 : Int64))), (.int (((((((1 : Int32) &&& (1 : Int32)) &&& (1 : Int32)) &&& (1 : Int32)) &&& (1 : Int32)) &&& (1 : Int32)) &&& (1 : Int32)))])
    refine Go.ldc2 C X527 (pc' := 441) (hw _ (List.mem_of_getElem? (i := 73) rfl)) at_438 rfl ?_
    refine Go.lcmp C X527 (pc' := 442) at_441 rfl ?_
    refine Go.ifNo C X527 (pc' := 445) at_442 ((if0 _ _).trans (teq ((lw_eq _ _).mpr rfl)).2) rfl ?_
    refine Go.iconst C X527 (pc' := 446) (v := (1 : Int32)) at_445 rfl rfl ?_
    refine Go.goto C X527 (pc' := 450) at_446 (by decide) (by decide) ?_
    refine Go.iand C X527 (pc' := 451) at_450 rfl ?_
    refine Go.istore C X527 (pc' := 453) (Ls' := #[.val (.long x0), .second, .val (.int x1), .val (.long x2), .second, .val (.int x3), .val (.int (1 : Int32)), .val (.int (1 : Int32)), .val (.ref b371), .val (.ref b375), .val (.ref b379), .val (.ref b424), .val (.int ((((((((1 : Int32) &&& (1 : Int32)) &&& (1 : Int32)) &&& (1 : Int32)) &&& (1 : Int32)) &&& (1 : Int32)) &&& (1 : Int32)) &&& (1 : Int32)))]) at_451 rfl rfl ?_
    refine Go.iload C X527 (pc' := 455) at_453 rfl rfl ?_
    exact Go.retZ (t := .boolean) C X527 (z' := ((((((((1 : Int32) &&& (1 : Int32)) &&& (1 : Int32)) &&& (1 : Int32)) &&& (1 : Int32)) &&& (1 : Int32)) &&& (1 : Int32)) &&& (1 : Int32))) (by decide) at_455 rfl (by decide) (by decide)
  · rw [q209]
    refine Go.iload C X0 (pc' := 7) at_5 rfl rfl ?_
    refine Go.ifYes C X0 (pc' := 14) at_7 ((if0 _ _).trans (feq (by decide)).2) (by decide) (by decide) ?_
    refine Go.iload C X0 (pc' := 16) at_14 rfl rfl ?_
    refine Go.istore C X0 (pc' := 18) (Ls' := #[.val (.long x0), .second, .val (.int x1), .val (.long x2), .second, .val (.int x3), .val (.int (2 : Int32)), .val (.int (2 : Int32)), .unset, .unset, .unset, .unset, .unset]) at_16 rfl rfl ?_
    refine Go.iconst C X0 (pc' := 19) (v := (3 : Int32)) at_18 rfl rfl ?_
    refine Go.newP C X0 (pc' := 21) (nn := 3) (cap := 3) (hw _ (List.mem_of_getElem? (i := 0) rfl)) at_19 rfl (by decide) (by decide) (by decide) (by decide) rfl (fun T528 h528 b528 k528 X528 g528 E528 Ar528 N528 => ?_)
    have A528 : AI Z h528 b528 .byte 3 (fun _ => 0) := AI.new rfl rfl Ar528
    refine Go.astore C X528 (pc' := 23) (Ls' := #[.val (.long x0), .second, .val (.int x1), .val (.long x2), .second, .val (.int x3), .val (.int (2 : Int32)), .val (.int (2 : Int32)), .val (.ref b528), .unset, .unset, .unset, .unset]) at_21 rfl rfl rfl ?_
    refine Go.aload C X528 (pc' := 25) at_23 rfl rfl rfl ?_
    refine Go.iconst C X528 (pc' := 26) (v := (0 : Int32)) at_25 rfl rfl ?_
    refine Go.lloadN C X528 (pc' := 27) at_26 rfl rfl ?_
    refine Go.l2i C X528 (pc' := 28) at_27 rfl ?_
    refine Go.i2b C X528 (pc' := 29) at_28 rfl ?_
    refine Go.bastore C X528 (pc' := 30) (i := 0) (x' := ((x0).toInt32).toInt8.toInt32) A528 rfl (by decide) (own_b2 _) N528 at_29 rfl (fun T529 h529 X529 W529 A529 => ?_)
    refine Go.aload C X529 (pc' := 32) at_30 rfl rfl rfl ?_
    refine Go.iconst C X529 (pc' := 33) (v := (1 : Int32)) at_32 rfl rfl ?_
    refine Go.lloadN C X529 (pc' := 34) at_33 rfl rfl ?_
    refine Go.bipush C X529 (pc' := 36) (v := (8 : Int32)) at_34 rfl rfl ?_
    refine Go.lushr C X529 (pc' := 37) at_36 rfl ?_
    refine Go.l2i C X529 (pc' := 38) at_37 rfl ?_
    refine Go.i2b C X529 (pc' := 39) at_38 rfl ?_
    refine Go.bastore C X529 (pc' := 40) (i := 1) (x' := ((((x0).toUInt64 >>> ((8 : Int32) &&& 0x3f).toInt64.toUInt64).toInt64).toInt32).toInt8.toInt32) A529 rfl (by decide) (own_b2 _) N528 at_39 rfl (fun T530 h530 X530 W530 A530 => ?_)
    refine Go.aload C X530 (pc' := 42) at_40 rfl rfl rfl ?_
    refine Go.iconst C X530 (pc' := 43) (v := (2 : Int32)) at_42 rfl rfl ?_
    refine Go.lloadN C X530 (pc' := 44) at_43 rfl rfl ?_
    refine Go.bipush C X530 (pc' := 46) (v := (16 : Int32)) at_44 rfl rfl ?_
    refine Go.lushr C X530 (pc' := 47) at_46 rfl ?_
    refine Go.l2i C X530 (pc' := 48) at_47 rfl ?_
    refine Go.i2b C X530 (pc' := 49) at_48 rfl ?_
    refine Go.bastore C X530 (pc' := 50) (i := 2) (x' := ((((x0).toUInt64 >>> ((16 : Int32) &&& 0x3f).toInt64.toUInt64).toInt64).toInt32).toInt8.toInt32) A530 rfl (by decide) (own_b2 _) N528 at_49 rfl (fun T531 h531 X531 W531 A531 => ?_)
    obtain ⟨nf, hnf, A50⟩ : ∃ f : Nat → Int32, (∀ q, -128 ≤ (f q).toInt ∧ (f q).toInt ≤ 127) ∧ AI Z h531 b528 .byte 3 f := ⟨_, (own_upd (R := fun z => -128 ≤ z.toInt ∧ z.toInt ≤ 127) (own_upd (R := fun z => -128 ≤ z.toInt ∧ z.toInt ≤ 127) (own_upd (R := fun z => -128 ≤ z.toInt ∧ z.toInt ≤ 127) (fun _ => by decide) (own_i2b _)) (own_i2b _)) (own_i2b _)), A531⟩
    refine Go.iload C X531 (pc' := 52) at_50 rfl rfl ?_
    refine Go.iconst C X531 (pc' := 53) (v := (1 : Int32)) at_52 rfl rfl ?_
    refine Go.icmpYes C X531 (pc' := 62) at_53 (feq (by decide)).2 (by decide) (by decide) ?_
    refine Go.iload C X531 (pc' := 64) at_62 rfl rfl ?_
    refine Go.iconst C X531 (pc' := 65) (v := (2 : Int32)) at_64 rfl rfl ?_
    refine Go.icmpNo C X531 (pc' := 68) at_65 (teq (by decide)).2 rfl ?_
    refine Go.iconst C X531 (pc' := 69) (v := (3 : Int32)) at_68 rfl rfl ?_
    refine Go.newP C X531 (pc' := 71) (nn := 3) (cap := 3) (hw _ (List.mem_of_getElem? (i := 1) rfl)) at_69 rfl (by decide) (by decide) (by decide) (by decide) rfl (fun T532 h532 b532 k532 X532 g532 E532 Ar532 N532 => ?_)
    have ne_b528_b532 : b528 ≠ b532 := Nat.ne_of_lt (Nat.lt_of_lt_of_eq A50.lt g532.symm)
    have A533 := A50.ext E532
    have A532 : AI Z h532 b532 .int 3 (fun _ => 0) := AI.new rfl rfl Ar532
    refine Go.goto C X532 (pc' := 77) at_71 (by decide) (by decide) ?_
    refine Go.astore C X532 (pc' := 79) (Ls' := #[.val (.long x0), .second, .val (.int x1), .val (.long x2), .second, .val (.int x3), .val (.int (2 : Int32)), .val (.int (2 : Int32)), .val (.ref b528), .val (.ref b532), .unset, .unset, .unset]) at_77 rfl rfl rfl ?_
    refine Go.aload C X532 (pc' := 81) at_79 rfl rfl rfl ?_
    refine Go.iconst C X532 (pc' := 82) (v := (0 : Int32)) at_81 rfl rfl ?_
    refine Go.aload C X532 (pc' := 84) at_82 rfl rfl rfl ?_
    refine Go.iconst C X532 (pc' := 85) (v := (0 : Int32)) at_84 rfl rfl ?_
    refine Go.baload C X532 (pc' := 86) (i := 0) (w := (nf 0)) A533 rfl (by decide) rfl at_85 rfl ?_
    refine Go.iastore C X532 (pc' := 87) (i := 0) (x' := (nf 0)) A532 rfl (by decide) rfl N532 at_86 rfl (fun T534 h534 X534 W534 A534 => ?_)
    have A535 := A533.other W534 ne_b528_b532
    refine Go.iload C X534 (pc' := 89) at_87 rfl rfl ?_
    refine Go.iconst C X534 (pc' := 90) (v := (2 : Int32)) at_89 rfl rfl ?_
    refine Go.icmpNo C X534 (pc' := 93) at_90 (flt (by decide)).1 rfl ?_
    refine Go.aload C X534 (pc' := 95) at_93 rfl rfl rfl ?_
    refine Go.iconst C X534 (pc' := 96) (v := (1 : Int32)) at_95 rfl rfl ?_
    refine Go.aload C X534 (pc' := 98) at_96 rfl rfl rfl ?_
    refine Go.iconst C X534 (pc' := 99) (v := (1 : Int32)) at_98 rfl rfl ?_
    refine Go.baload C X534 (pc' := 100) (i := 1) (w := (nf 1)) A535 rfl (by decide) rfl at_99 rfl ?_
    refine Go.iastore C X534 (pc' := 101) (i := 1) (x' := (nf 1)) A534 rfl (by decide) rfl N532 at_100 rfl (fun T536 h536 X536 W536 A536 => ?_)
    have A537 := A535.other W536 ne_b528_b532
    refine Go.iload C X536 (pc' := 103) at_101 rfl rfl ?_
    refine Go.iconst C X536 (pc' := 104) (v := (3 : Int32)) at_103 rfl rfl ?_
    refine Go.icmpYes C X536 (pc' := 115) at_104 (tlt (by decide)).1 (by decide) (by decide) ?_
    refine Go.bipush C X536 (pc' := 117) (v := (6 : Int32)) at_115 rfl rfl ?_
    refine Go.newP C X536 (pc' := 119) (nn := 6) (cap := 6) (hw _ (List.mem_of_getElem? (i := 0) rfl)) at_117 rfl (by decide) (by decide) (by decide) (by decide) rfl (fun T538 h538 b538 k538 X538 g538 E538 Ar538 N538 => ?_)
    have ne_b528_b538 : b528 ≠ b538 := Nat.ne_of_lt (Nat.lt_of_lt_of_eq A537.lt g538.symm)
    have ne_b532_b538 : b532 ≠ b538 := Nat.ne_of_lt (Nat.lt_of_lt_of_eq A536.lt g538.symm)
    have A539 := A537.ext E538
    have A540 := A536.ext E538
    have A538 : AI Z h538 b538 .byte 6 (fun _ => 0) := AI.new rfl rfl Ar538
    refine Go.astore C X538 (pc' := 121) (Ls' := #[.val (.long x0), .second, .val (.int x1), .val (.long x2), .second, .val (.int x3), .val (.int (2 : Int32)), .val (.int (2 : Int32)), .val (.ref b528), .val (.ref b532), .val (.ref b538), .unset, .unset]) at_119 rfl rfl rfl ?_
    refine Go.aload C X538 (pc' := 123) at_121 rfl rfl rfl ?_
    refine Go.iconst C X538 (pc' := 124) (v := (0 : Int32)) at_123 rfl rfl ?_
    refine Go.iload C X538 (pc' := 126) at_124 rfl rfl ?_
    refine Go.iconst C X538 (pc' := 127) (v := (0 : Int32)) at_126 rfl rfl ?_
    refine Go.aload C X538 (pc' := 129) at_127 rfl rfl rfl ?_
    refine Go.iload C X538 (pc' := 131) at_129 rfl rfl ?_
    refine Go.lloadN C X538 (pc' := 132) at_131 rfl rfl ?_
    refine Go.callS C X538 (pc' := 135) (W := 2) (argsL := [(.int x3), (.int (0 : Int32)), (.ref b528), (.int (2 : Int32)), (.long x2)]) (rest := [(.int (0 : Int32)), (.ref b538)]) (rm_pk l Z a0 hw x3 (0 : Int32) b528 (2 : Int32) x2 nf 2 h538 n0 X538.sz A539 rfl (by decide)) (hw _ (List.mem_of_getElem? (i := 2) rfl)) (hw _ (List.mem_of_getElem? (i := 3) rfl)) (hw _ (List.mem_of_getElem? (i := 4) rfl)) (hw _ (List.mem_of_getElem? (i := 5) rfl)) (by decide) rfl rfl (lenOf own_pd3 rfl) rfl (Nat.le_of_eq rfl) (by decide) (by decide) (by decide) (by decide) at_132 rfl (fun _ _ q => by obtain ⟨_, _, K, _⟩ := q; exact K.1) (fun T541 h541 v541 X541 P541 => ?_)
    obtain ⟨r541, rfl, K541, Y541_0⟩ := P541
    have A542 := A539.keep K541 nin0
    have A543 := A540.keep K541 nin0
    have A544 := A538.keep K541 nin0
    show Go p e below s n0 _ _ _ T541 (mkF m 135 #[.val (.long x0), .second, .val (.int x1), .val (.long x2), .second, .val (.int x3), .val (.int (2 : Int32)), .val (.int (2 : Int32)), .val (.ref b528), .val (.ref b532), .val (.ref b538), .unset, .unset] [(.int r541), (.int (0 : Int32)), (.ref b538)])
    refine Go.bastore C X541 (pc' := 136) (i := 0) (x' := (nar .byte r541)) A544 rfl (by decide) rfl N538 at_135 rfl (fun T545 h545 X545 W545 A545 => ?_)
    have A546 := A542.other W545 ne_b528_b538
    have A547 := A543.other W545 ne_b532_b538
    refine Go.aload C X545 (pc' := 138) at_136 rfl rfl rfl ?_
    refine Go.iconst C X545 (pc' := 139) (v := (1 : Int32)) at_138 rfl rfl ?_
    refine Go.iload C X545 (pc' := 141) at_139 rfl rfl ?_
    refine Go.iconst C X545 (pc' := 142) (v := (1 : Int32)) at_141 rfl rfl ?_
    refine Go.aload C X545 (pc' := 144) at_142 rfl rfl rfl ?_
    refine Go.iload C X545 (pc' := 146) at_144 rfl rfl ?_
    refine Go.lloadN C X545 (pc' := 147) at_146 rfl rfl ?_
    refine Go.callS C X545 (pc' := 150) (W := 2) (argsL := [(.int x3), (.int (1 : Int32)), (.ref b528), (.int (2 : Int32)), (.long x2)]) (rest := [(.int (1 : Int32)), (.ref b538)]) (rm_pk l Z a0 hw x3 (1 : Int32) b528 (2 : Int32) x2 nf 2 h545 n0 X545.sz A546 rfl (by decide)) (hw _ (List.mem_of_getElem? (i := 2) rfl)) (hw _ (List.mem_of_getElem? (i := 3) rfl)) (hw _ (List.mem_of_getElem? (i := 4) rfl)) (hw _ (List.mem_of_getElem? (i := 5) rfl)) (by decide) rfl rfl (lenOf own_pd3 rfl) rfl (Nat.le_of_eq rfl) (by decide) (by decide) (by decide) (by decide) at_147 rfl (fun _ _ q => by obtain ⟨_, _, K, _⟩ := q; exact K.1) (fun T548 h548 v548 X548 P548 => ?_)
    obtain ⟨r548, rfl, K548, Y548_0⟩ := P548
    have A549 := A546.keep K548 nin0
    have A550 := A547.keep K548 nin0
    have A551 := A545.keep K548 nin0
    show Go p e below s n0 _ _ _ T548 (mkF m 150 #[.val (.long x0), .second, .val (.int x1), .val (.long x2), .second, .val (.int x3), .val (.int (2 : Int32)), .val (.int (2 : Int32)), .val (.ref b528), .val (.ref b532), .val (.ref b538), .unset, .unset] [(.int r548), (.int (1 : Int32)), (.ref b538)])
    refine Go.bastore C X548 (pc' := 151) (i := 1) (x' := (nar .byte r548)) A551 rfl (by decide) rfl N538 at_150 rfl (fun T552 h552 X552 W552 A552 => ?_)
    have A553 := A549.other W552 ne_b528_b538
    have A554 := A550.other W552 ne_b532_b538
    refine Go.aload C X552 (pc' := 153) at_151 rfl rfl rfl ?_
    refine Go.iconst C X552 (pc' := 154) (v := (2 : Int32)) at_153 rfl rfl ?_
    refine Go.iload C X552 (pc' := 156) at_154 rfl rfl ?_
    refine Go.iconst C X552 (pc' := 157) (v := (2 : Int32)) at_156 rfl rfl ?_
    refine Go.aload C X552 (pc' := 159) at_157 rfl rfl rfl ?_
    refine Go.iload C X552 (pc' := 161) at_159 rfl rfl ?_
    refine Go.lloadN C X552 (pc' := 162) at_161 rfl rfl ?_
    refine Go.callS C X552 (pc' := 165) (W := 2) (argsL := [(.int x3), (.int (2 : Int32)), (.ref b528), (.int (2 : Int32)), (.long x2)]) (rest := [(.int (2 : Int32)), (.ref b538)]) (rm_pk l Z a0 hw x3 (2 : Int32) b528 (2 : Int32) x2 nf 2 h552 n0 X552.sz A553 rfl (by decide)) (hw _ (List.mem_of_getElem? (i := 2) rfl)) (hw _ (List.mem_of_getElem? (i := 3) rfl)) (hw _ (List.mem_of_getElem? (i := 4) rfl)) (hw _ (List.mem_of_getElem? (i := 5) rfl)) (by decide) rfl rfl (lenOf own_pd3 rfl) rfl (Nat.le_of_eq rfl) (by decide) (by decide) (by decide) (by decide) at_162 rfl (fun _ _ q => by obtain ⟨_, _, K, _⟩ := q; exact K.1) (fun T555 h555 v555 X555 P555 => ?_)
    obtain ⟨r555, rfl, K555, Y555_0⟩ := P555
    have A556 := A553.keep K555 nin0
    have A557 := A554.keep K555 nin0
    have A558 := A552.keep K555 nin0
    show Go p e below s n0 _ _ _ T555 (mkF m 165 #[.val (.long x0), .second, .val (.int x1), .val (.long x2), .second, .val (.int x3), .val (.int (2 : Int32)), .val (.int (2 : Int32)), .val (.ref b528), .val (.ref b532), .val (.ref b538), .unset, .unset] [(.int r555), (.int (2 : Int32)), (.ref b538)])
    refine Go.bastore C X555 (pc' := 166) (i := 2) (x' := (nar .byte r555)) A558 rfl (by decide) rfl N538 at_165 rfl (fun T559 h559 X559 W559 A559 => ?_)
    have A560 := A556.other W559 ne_b528_b538
    have A561 := A557.other W559 ne_b532_b538
    refine Go.aload C X559 (pc' := 168) at_166 rfl rfl rfl ?_
    refine Go.iconst C X559 (pc' := 169) (v := (3 : Int32)) at_168 rfl rfl ?_
    refine Go.iload C X559 (pc' := 171) at_169 rfl rfl ?_
    refine Go.iconst C X559 (pc' := 172) (v := (3 : Int32)) at_171 rfl rfl ?_
    refine Go.aload C X559 (pc' := 174) at_172 rfl rfl rfl ?_
    refine Go.iload C X559 (pc' := 176) at_174 rfl rfl ?_
    refine Go.lloadN C X559 (pc' := 177) at_176 rfl rfl ?_
    refine Go.callS C X559 (pc' := 180) (W := 2) (argsL := [(.int x3), (.int (3 : Int32)), (.ref b528), (.int (2 : Int32)), (.long x2)]) (rest := [(.int (3 : Int32)), (.ref b538)]) (rm_pk l Z a0 hw x3 (3 : Int32) b528 (2 : Int32) x2 nf 2 h559 n0 X559.sz A560 rfl (by decide)) (hw _ (List.mem_of_getElem? (i := 2) rfl)) (hw _ (List.mem_of_getElem? (i := 3) rfl)) (hw _ (List.mem_of_getElem? (i := 4) rfl)) (hw _ (List.mem_of_getElem? (i := 5) rfl)) (by decide) rfl rfl (lenOf own_pd3 rfl) rfl (Nat.le_of_eq rfl) (by decide) (by decide) (by decide) (by decide) at_177 rfl (fun _ _ q => by obtain ⟨_, _, K, _⟩ := q; exact K.1) (fun T562 h562 v562 X562 P562 => ?_)
    obtain ⟨r562, rfl, K562, Y562_0⟩ := P562
    have A563 := A560.keep K562 nin0
    have A564 := A561.keep K562 nin0
    have A565 := A559.keep K562 nin0
    show Go p e below s n0 _ _ _ T562 (mkF m 180 #[.val (.long x0), .second, .val (.int x1), .val (.long x2), .second, .val (.int x3), .val (.int (2 : Int32)), .val (.int (2 : Int32)), .val (.ref b528), .val (.ref b532), .val (.ref b538), .unset, .unset] [(.int r562), (.int (3 : Int32)), (.ref b538)])
    refine Go.bastore C X562 (pc' := 181) (i := 3) (x' := (nar .byte r562)) A565 rfl (by decide) rfl N538 at_180 rfl (fun T566 h566 X566 W566 A566 => ?_)
    have A567 := A563.other W566 ne_b528_b538
    have A568 := A564.other W566 ne_b532_b538
    refine Go.aload C X566 (pc' := 183) at_181 rfl rfl rfl ?_
    refine Go.iconst C X566 (pc' := 184) (v := (4 : Int32)) at_183 rfl rfl ?_
    refine Go.iload C X566 (pc' := 186) at_184 rfl rfl ?_
    refine Go.iconst C X566 (pc' := 187) (v := (4 : Int32)) at_186 rfl rfl ?_
    refine Go.aload C X566 (pc' := 189) at_187 rfl rfl rfl ?_
    refine Go.iload C X566 (pc' := 191) at_189 rfl rfl ?_
    refine Go.lloadN C X566 (pc' := 192) at_191 rfl rfl ?_
    refine Go.callS C X566 (pc' := 195) (W := 2) (argsL := [(.int x3), (.int (4 : Int32)), (.ref b528), (.int (2 : Int32)), (.long x2)]) (rest := [(.int (4 : Int32)), (.ref b538)]) (rm_pk l Z a0 hw x3 (4 : Int32) b528 (2 : Int32) x2 nf 2 h566 n0 X566.sz A567 rfl (by decide)) (hw _ (List.mem_of_getElem? (i := 2) rfl)) (hw _ (List.mem_of_getElem? (i := 3) rfl)) (hw _ (List.mem_of_getElem? (i := 4) rfl)) (hw _ (List.mem_of_getElem? (i := 5) rfl)) (by decide) rfl rfl (lenOf own_pd3 rfl) rfl (Nat.le_of_eq rfl) (by decide) (by decide) (by decide) (by decide) at_192 rfl (fun _ _ q => by obtain ⟨_, _, K, _⟩ := q; exact K.1) (fun T569 h569 v569 X569 P569 => ?_)
    obtain ⟨r569, rfl, K569, Y569_0⟩ := P569
    have A570 := A567.keep K569 nin0
    have A571 := A568.keep K569 nin0
    have A572 := A566.keep K569 nin0
    show Go p e below s n0 _ _ _ T569 (mkF m 195 #[.val (.long x0), .second, .val (.int x1), .val (.long x2), .second, .val (.int x3), .val (.int (2 : Int32)), .val (.int (2 : Int32)), .val (.ref b528), .val (.ref b532), .val (.ref b538), .unset, .unset] [(.int r569), (.int (4 : Int32)), (.ref b538)])
    refine Go.bastore C X569 (pc' := 196) (i := 4) (x' := (nar .byte r569)) A572 rfl (by decide) rfl N538 at_195 rfl (fun T573 h573 X573 W573 A573 => ?_)
    have A574 := A570.other W573 ne_b528_b538
    have A575 := A571.other W573 ne_b532_b538
    refine Go.aload C X573 (pc' := 198) at_196 rfl rfl rfl ?_
    refine Go.iconst C X573 (pc' := 199) (v := (5 : Int32)) at_198 rfl rfl ?_
    refine Go.iload C X573 (pc' := 201) at_199 rfl rfl ?_
    refine Go.iconst C X573 (pc' := 202) (v := (5 : Int32)) at_201 rfl rfl ?_
    refine Go.aload C X573 (pc' := 204) at_202 rfl rfl rfl ?_
    refine Go.iload C X573 (pc' := 206) at_204 rfl rfl ?_
    refine Go.lloadN C X573 (pc' := 207) at_206 rfl rfl ?_
    refine Go.callS C X573 (pc' := 210) (W := 2) (argsL := [(.int x3), (.int (5 : Int32)), (.ref b528), (.int (2 : Int32)), (.long x2)]) (rest := [(.int (5 : Int32)), (.ref b538)]) (rm_pk l Z a0 hw x3 (5 : Int32) b528 (2 : Int32) x2 nf 2 h573 n0 X573.sz A574 rfl (by decide)) (hw _ (List.mem_of_getElem? (i := 2) rfl)) (hw _ (List.mem_of_getElem? (i := 3) rfl)) (hw _ (List.mem_of_getElem? (i := 4) rfl)) (hw _ (List.mem_of_getElem? (i := 5) rfl)) (by decide) rfl rfl (lenOf own_pd3 rfl) rfl (Nat.le_of_eq rfl) (by decide) (by decide) (by decide) (by decide) at_207 rfl (fun _ _ q => by obtain ⟨_, _, K, _⟩ := q; exact K.1) (fun T576 h576 v576 X576 P576 => ?_)
    obtain ⟨r576, rfl, K576, Y576_0⟩ := P576
    have A577 := A574.keep K576 nin0
    have A578 := A575.keep K576 nin0
    have A579 := A573.keep K576 nin0
    show Go p e below s n0 _ _ _ T576 (mkF m 210 #[.val (.long x0), .second, .val (.int x1), .val (.long x2), .second, .val (.int x3), .val (.int (2 : Int32)), .val (.int (2 : Int32)), .val (.ref b528), .val (.ref b532), .val (.ref b538), .unset, .unset] [(.int r576), (.int (5 : Int32)), (.ref b538)])
    refine Go.bastore C X576 (pc' := 211) (i := 5) (x' := (nar .byte r576)) A579 rfl (by decide) rfl N538 at_210 rfl (fun T580 h580 X580 W580 A580 => ?_)
    have A581 := A577.other W580 ne_b528_b538
    have A582 := A578.other W580 ne_b532_b538
    obtain ⟨tf, htf, A211⟩ : ∃ f : Nat → Int32, (∀ q, -128 ≤ (f q).toInt ∧ (f q).toInt ≤ 127) ∧ AI Z h580 b538 .byte 6 f := ⟨_, (own_upd (R := fun z => -128 ≤ z.toInt ∧ z.toInt ≤ 127) (own_upd (R := fun z => -128 ≤ z.toInt ∧ z.toInt ≤ 127) (own_upd (R := fun z => -128 ≤ z.toInt ∧ z.toInt ≤ 127) (own_upd (R := fun z => -128 ≤ z.toInt ∧ z.toInt ≤ 127) (own_upd (R := fun z => -128 ≤ z.toInt ∧ z.toInt ≤ 127) (own_upd (R := fun z => -128 ≤ z.toInt ∧ z.toInt ≤ 127) (fun _ => by decide) (own_i2b _)) (own_i2b _)) (own_i2b _)) (own_i2b _)) (own_i2b _)) (own_i2b _)), A580⟩
    refine Go.newO C X580 (pc' := 214) (hw _ (List.mem_of_getElem? (i := 6) rfl)) (hw _ (List.mem_of_getElem? (i := 7) rfl)) (hw _ (List.mem_of_getElem? (i := 8) rfl)) at_211 (by decide) (by decide) rfl (fun T583 h583 b583 X583 g583 E583 Ex583 D583 N583 => ?_)
    have ne_b528_b583 : b528 ≠ b583 := Nat.ne_of_lt (Nat.lt_of_lt_of_eq A581.lt g583.symm)
    have ne_b532_b583 : b532 ≠ b583 := Nat.ne_of_lt (Nat.lt_of_lt_of_eq A582.lt g583.symm)
    have ne_b538_b583 : b538 ≠ b583 := Nat.ne_of_lt (Nat.lt_of_lt_of_eq A211.lt g583.symm)
    have A584 := A581.ext E583
    have A585 := A582.ext E583
    have A586 := A211.ext E583
    have F587 : Fld Z h583 b583 "com/example/needlewright/needlewright/ByteMatcher" "automaton" "Lcom/example/needlewright/needlewright/Automaton;" .null := D583 (Or.inr (hw _ (List.mem_of_getElem? (i := 42) rfl))) (ty := (.object "com/example/needlewright/needlewright/Automaton")) (by decide)
    have F588 : Fld Z h583 b583 "com/example/needlewright/needlewright/ByteMatcher" "hasSecond" "Z" (.int (0 : Int32)) := D583 (Or.inr (hw _ (List.mem_of_getElem? (i := 45) rfl))) (ty := .boolean) (by decide)
    have F589 : Fld Z h583 b583 "com/example/needlewright/needlewright/ByteMatcher" "firstInEachByte" "J" (.long (0 : Int64)) := D583 (Or.inr (hw _ (List.mem_of_getElem? (i := 50) rfl))) (ty := .long) (by decide)
    have F590 : Fld Z h583 b583 "com/example/needlewright/needlewright/ByteMatcher" "secondInEachByte" "J" (.long (0 : Int64)) := D583 (Or.inr (hw _ (List.mem_of_getElem? (i := 52) rfl))) (ty := .long) (by decide)
    have F591 : Fld Z h583 b583 "com/example/needlewright/needlewright/ByteMatcher" "matched" "I" (.int (0 : Int32)) := D583 (Or.inl (hw _ (List.mem_of_getElem? (i := 59) rfl))) (ty := .int) (by decide)
    have F592 : Fld Z h583 b583 "com/example/needlewright/needlewright/ByteMatcher" "fed" "J" (.long (0 : Int64)) := D583 (Or.inl (hw _ (List.mem_of_getElem? (i := 62) rfl))) (ty := .long) (by decide)
    refine Go.dup C X583 (pc' := 215) at_214 rfl rfl ?_
    refine Go.newO C X583 (pc' := 218) (hw _ (List.mem_of_getElem? (i := 9) rfl)) (hw _ (List.mem_of_getElem? (i := 10) rfl)) (hw _ (List.mem_of_getElem? (i := 11) rfl)) at_215 (by decide) (by decide) rfl (fun T593 h593 b593 X593 g593 E593 Ex593 D593 N593 => ?_)
    have ne_b528_b593 : b528 ≠ b593 := Nat.ne_of_lt (Nat.lt_of_lt_of_eq A584.lt g593.symm)
    have ne_b532_b593 : b532 ≠ b593 := Nat.ne_of_lt (Nat.lt_of_lt_of_eq A585.lt g593.symm)
    have ne_b538_b593 : b538 ≠ b593 := Nat.ne_of_lt (Nat.lt_of_lt_of_eq A586.lt g593.symm)
    have ne_b583_b593 : b583 ≠ b593 := Nat.ne_of_lt (Nat.lt_of_lt_of_eq Ex583.lt g593.symm)
    have A594 := A584.ext E593
    have A595 := A585.ext E593
    have A596 := A586.ext E593
    have E597 := Ex583.ext E593
    have F598 := F587.ext E593
    have F599 := F588.ext E593
    have F600 := F589.ext E593
    have F601 := F590.ext E593
    have F602 := F591.ext E593
    have F603 := F592.ext E593
    have F604 : Fld Z h593 b593 "com/example/needlewright/needlewright/Automaton" "units" "[I" .null := D593 (Or.inr (hw _ (List.mem_of_getElem? (i := 20) rfl))) (ty := (.array .int)) (by decide)
    have F605 : Fld Z h593 b593 "com/example/needlewright/needlewright/Automaton" "borders" "[I" .null := D593 (Or.inr (hw _ (List.mem_of_getElem? (i := 22) rfl))) (ty := (.array .int)) (by decide)
    refine Go.dup C X593 (pc' := 219) at_218 rfl rfl ?_
    refine Go.aload C X593 (pc' := 221) at_219 rfl rfl rfl ?_
    refine Go.callI C X593 (pc' := 224) (W := 3) (argsL := [(.ref b532)]) (rest := [(.ref b593), (.ref b583), (.ref b583)]) (a := b593) (rm_au l Z a0 hw b593 b532 3 (fun q => if q = 1 then (nf 1) else (fun q => if q = 0 then (nf 0) else (fun _ => 0) q) q) (3 : Int32) h593 n0 X593.sz Ex593 F604 F605 N593 N532 A595 (Ne.symm ne_b532_b593) rfl (by decide) (by decide)) rfl rfl (hw _ (List.mem_of_getElem? (i := 12) rfl)) (hw _ (List.mem_of_getElem? (i := 13) rfl)) (hw _ (List.mem_of_getElem? (i := 11) rfl)) (hw _ (List.mem_of_getElem? (i := 14) rfl)) (by decide) rfl rfl (lenOf own_pd4 rfl) rfl (Nat.le_of_eq rfl) (by decide) (by decide) (by decide) (by decide) at_221 rfl (fun _ _ q => by obtain ⟨_, _, _, _, K, _⟩ := q; exact K.1) (fun T606 h606 v606 X606 P606 => ?_)
    obtain ⟨t2606, b1606, rfl, D606_t2, K606, O606_0, O606_1, O606_2, O606_3, O606_4, O606_5, O606_6, Y606_0⟩ := P606
    have ne_b528_t2606 : b528 ≠ t2606 := Nat.ne_of_lt (Nat.lt_of_lt_of_le A594.lt D606_t2)
    have ne_b532_t2606 : b532 ≠ t2606 := Nat.ne_of_lt (Nat.lt_of_lt_of_le A595.lt D606_t2)
    have ne_b538_t2606 : b538 ≠ t2606 := Nat.ne_of_lt (Nat.lt_of_lt_of_le A596.lt D606_t2)
    have ne_b583_t2606 : b583 ≠ t2606 := Nat.ne_of_lt (Nat.lt_of_lt_of_le E597.lt D606_t2)
    have ne_b593_t2606 : b593 ≠ t2606 := Nat.ne_of_lt (Nat.lt_of_lt_of_le Ex593.lt D606_t2)
    have N_t2606 : n0 ≤ t2606 := Nat.le_trans X593.sz D606_t2
    have A607 := A594.keep K606 (ninS ne_b528_b593 (ninS ne_b528_b532 nin0))
    have A608 := A596.keep K606 (ninS ne_b538_b593 (ninS (Ne.symm ne_b532_b538) nin0))
    have E609 := E597.keep K606
    have F610 := F598.keep K606 (ninS ne_b583_b593 (ninS (Ne.symm ne_b532_b583) nin0))
    have F611 := F599.keep K606 (ninS ne_b583_b593 (ninS (Ne.symm ne_b532_b583) nin0))
    have F612 := F600.keep K606 (ninS ne_b583_b593 (ninS (Ne.symm ne_b532_b583) nin0))
    have F613 := F601.keep K606 (ninS ne_b583_b593 (ninS (Ne.symm ne_b532_b583) nin0))
    have F614 := F602.keep K606 (ninS ne_b583_b593 (ninS (Ne.symm ne_b532_b583) nin0))
    have F615 := F603.keep K606 (ninS ne_b583_b593 (ninS (Ne.symm ne_b532_b583) nin0))
    have E616 := Ex593.keep K606
    show Go p e below s n0 _ _ _ T606 (mkF m 224 #[.val (.long x0), .second, .val (.int x1), .val (.long x2), .second, .val (.int x3), .val (.int (2 : Int32)), .val (.int (2 : Int32)), .val (.ref b528), .val (.ref b532), .val (.ref b538), .unset, .unset] [(.ref b593), (.ref b583), (.ref b583)])
    refine Go.callI C X606 (pc' := 227) (W := 1) (argsL := [(.ref b593)]) (rest := [(.ref b583)]) (a := b583) (rm_bm l Z a0 hw b583 b593 b532 3 (fun q => if q = (3 - 1) then (-2147483648 : Int32) else (fun q => if q = 1 then (nf 1) else (fun q => if q = 0 then (nf 0) else (fun _ => 0) q) q) q) (3 : Int32) h606 n0 X606.sz E609 F610 F611 F612 F613 F614 F615 N583 O606_0 O606_1 O606_3 (Ne.symm ne_b583_b593) ne_b532_b583 rfl (by decide) (by decide)) rfl rfl (hw _ (List.mem_of_getElem? (i := 37) rfl)) (hw _ (List.mem_of_getElem? (i := 38) rfl)) (hw _ (List.mem_of_getElem? (i := 8) rfl)) (hw _ (List.mem_of_getElem? (i := 39) rfl)) (by decide) rfl rfl (lenOf own_pd5 rfl) rfl (Nat.le_of_eq rfl) (by decide) (by decide) (by decide) (by decide) at_224 rfl (fun _ _ q => by obtain ⟨_, K, _⟩ := q; exact K.1) (fun T617 h617 v617 X617 P617 => ?_)
    obtain ⟨rfl, K617, O617_0, O617_1, O617_2, O617_3⟩ := P617
    have A618 := A607.keep K617 (ninS ne_b528_b583 nin0)
    have A619 := A608.keep K617 (ninS ne_b538_b583 nin0)
    have E620 := E609.keep K617
    have E621 := O606_0.keep K617
    have F622 := O606_1.keep K617 (ninS (Ne.symm ne_b583_b593) nin0)
    have F623 := O606_2.keep K617 (ninS (Ne.symm ne_b583_b593) nin0)
    have A624 := O606_3.keep K617 (ninS ne_b532_b583 nin0)
    have A625 := O606_4.keep K617 (ninS (Ne.symm ne_b583_t2606) nin0)
    show Go p e below s n0 _ _ _ T617 (mkF m 227 #[.val (.long x0), .second, .val (.int x1), .val (.long x2), .second, .val (.int x3), .val (.int (2 : Int32)), .val (.int (2 : Int32)), .val (.ref b528), .val (.ref b532), .val (.ref b538), .unset, .unset] [(.ref b583)])
    refine Go.astore C X617 (pc' := 229) (Ls' := #[.val (.long x0), .second, .val (.int x1), .val (.long x2), .second, .val (.int x3), .val (.int (2 : Int32)), .val (.int (2 : Int32)), .val (.ref b528), .val (.ref b532), .val (.ref b538), .val (.ref b583), .unset]) at_227 rfl rfl rfl ?_
    refine Go.iconst C X617 (pc' := 230) (v := (1 : Int32)) at_229 rfl rfl ?_
    refine Go.istore C X617 (pc' := 232) (Ls' := #[.val (.long x0), .second, .val (.int x1), .val (.long x2), .second, .val (.int x3), .val (.int (2 : Int32)), .val (.int (2 : Int32)), .val (.ref b528), .val (.ref b532), .val (.ref b538), .val (.ref b583), .val (.int (1 : Int32))]) at_230 rfl rfl ?_
    have M0 : own_M (fun q => if q = (3 - 1) then (-2147483648 : Int32) else (fun q => if q = 1 then (nf 1) else (fun q => if q = 0 then (nf 0) else (fun _ => 0) q) q) q) tf 2 0 0 := own_M0 _ _ _
    refine Go.iload C X617 (pc' := 234) at_232 rfl rfl ?_
    refine Go.aload C X617 (pc' := 236) at_234 rfl rfl rfl ?_
    refine Go.aload C X617 (pc' := 238) at_236 rfl rfl rfl ?_
    refine Go.iconst C X617 (pc' := 239) (v := (0 : Int32)) at_238 rfl rfl ?_
    refine Go.baload C X617 (pc' := 240) (i := 0) (w := (tf 0)) A619 rfl (by decide) rfl at_239 rfl ?_
    refine Go.callV C X617 (pc' := 243) (W := 1) (argsL := [(.int (tf 0))]) (rest := [(.int (1 : Int32))]) (a := b583) (rm_fd l Z a0 hw b583 (tf 0) b593 b532 t2606 3 (fun q => if q = (3 - 1) then (-2147483648 : Int32) else (fun q => if q = 1 then (nf 1) else (fun q => if q = 0 then (nf 0) else (fun _ => 0) q) q) q) b1606 0 (0 : Int64) (3 : Int32) h617 n0 X617.sz O617_0 O617_1 O617_2 O617_3 N583 E621 F622 F623 A624 A625 (Ne.symm ne_b583_b593) ne_b532_b583 (Ne.symm ne_b583_t2606) rfl (by decide) (by decide) (by have := M0.1; omega) Y606_0) O617_0 (notFace_of_selects (args := #[]) (mvT C.2.1 (hw _ (List.mem_of_getElem? (i := 56) rfl)))) (hw _ (List.mem_of_getElem? (i := 53) rfl)) (hw _ (List.mem_of_getElem? (i := 54) rfl)) (hw _ (List.mem_of_getElem? (i := 56) rfl)) (hw _ (List.mem_of_getElem? (i := 55) rfl)) (hw _ (List.mem_of_getElem? (i := 8) rfl)) (hw _ (List.mem_of_getElem? (i := 57) rfl)) (by decide) rfl rfl (lenOf own_pd6 rfl) rfl (Nat.le_of_eq rfl) (by decide) (by decide) (by decide) (by decide) at_240 rfl (fun _ _ q => by obtain ⟨_, K, _⟩ := q; exact K.1) (fun T626 h626 v626 X626 P626 => ?_)
    obtain ⟨rfl, K626, O626_0, O626_1, O626_2, O626_3⟩ := P626
    have A627 := A618.keep K626 (ninS ne_b528_b583 nin0)
    have A628 := A619.keep K626 (ninS ne_b538_b583 nin0)
    have E629 := O617_0.keep K626
    have E630 := E621.keep K626
    have F631 := F622.keep K626 (ninS (Ne.symm ne_b583_b593) nin0)
    have F632 := F623.keep K626 (ninS (Ne.symm ne_b583_b593) nin0)
    have A633 := A624.keep K626 (ninS ne_b532_b583 nin0)
    have A634 := A625.keep K626 (ninS (Ne.symm ne_b583_t2606) nin0)
    have M1 : own_M (fun q => if q = (3 - 1) then (-2147483648 : Int32) else (fun q => if q = 1 then (nf 1) else (fun q => if q = 0 then (nf 0) else (fun _ => 0) q) q) q) tf 2 1 (own_nx (fun q => if q = (3 - 1) then (-2147483648 : Int32) else (fun q => if q = 1 then (nf 1) else (fun q => if q = 0 then (nf 0) else (fun _ => 0) q) q) q) b1606 (tf 0) 0) := own_Mstep (fun q a d => Y606_0 q a (by omega)) M0 (own_notmin (htf 0) (own_ag2 nf).2)
    show Go p e below s n0 _ _ _ T626 (mkF m 243 #[.val (.long x0), .second, .val (.int x1), .val (.long x2), .second, .val (.int x3), .val (.int (2 : Int32)), .val (.int (2 : Int32)), .val (.ref b528), .val (.ref b532), .val (.ref b538), .val (.ref b583), .val (.int (1 : Int32))] [(.long (if (own_nx (fun q => if q = (3 - 1) then (-2147483648 : Int32) else (fun q => if q = 1 then (nf 1) else (fun q => if q = 0 then (nf 0) else (fun _ => 0) q) q) q) b1606 (tf 0) 0) = 3 - 1 then (((0 : Int64) + (1 : Int64)) - (Int32.ofNat (own_nx (fun q => if q = (3 - 1) then (-2147483648 : Int32) else (fun q => if q = 1 then (nf 1) else (fun q => if q = 0 then (nf 0) else (fun _ => 0) q) q) q) b1606 (tf 0) 0)).toInt64) else (-1 : Int64))), (.int (1 : Int32))])
    refine Go.aload C X626 (pc' := 245) at_243 rfl rfl rfl ?_
    refine Go.iconst C X626 (pc' := 246) (v := (1 : Int32)) at_245 rfl rfl ?_
    refine Go.aload C X626 (pc' := 248) at_246 rfl rfl rfl ?_
    refine Go.iload C X626 (pc' := 250) at_248 rfl rfl ?_
    refine Go.callS C X626 (pc' := 253) (W := 3) (argsL := [(.ref b538), (.int (1 : Int32)), (.ref b528), (.int (2 : Int32))]) (rest := [(.long (if (own_nx (fun q => if q = (3 - 1) then (-2147483648 : Int32) else (fun q => if q = 1 then (nf 1) else (fun q => if q = 0 then (nf 0) else (fun _ => 0) q) q) q) b1606 (tf 0) 0) = 3 - 1 then (((0 : Int64) + (1 : Int64)) - (Int32.ofNat (own_nx (fun q => if q = (3 - 1) then (-2147483648 : Int32) else (fun q => if q = 1 then (nf 1) else (fun q => if q = 0 then (nf 0) else (fun _ => 0) q) q) q) b1606 (tf 0) 0)).toInt64) else (-1 : Int64))), (.int (1 : Int32))]) (rm_ex2 l Z a0 hw b538 (1 : Int32) b528 (2 : Int32) tf nf 1 h626 n0 X626.sz A628 A627 rfl rfl (by decide)) (hw _ (List.mem_of_getElem? (i := 64) rfl)) (hw _ (List.mem_of_getElem? (i := 65) rfl)) (hw _ (List.mem_of_getElem? (i := 4) rfl)) (hw _ (List.mem_of_getElem? (i := 66) rfl)) (by decide) rfl rfl (lenOf own_pd7 rfl) rfl (Nat.le_of_eq rfl) (by decide) (by decide) (by decide) (by decide) at_250 rfl (fun _ _ q => Nat.le_of_eq (congrArg Array.size q.2)) (fun T635 h635 v635 X635 P635 => ?_)
    obtain ⟨rfl, rfl⟩ := P635
    show Go p e below s n0 _ _ _ T635 (mkF m 253 #[.val (.long x0), .second, .val (.int x1), .val (.long x2), .second, .val (.int x3), .val (.int (2 : Int32)), .val (.int (2 : Int32)), .val (.ref b528), .val (.ref b532), .val (.ref b538), .val (.ref b583), .val (.int (1 : Int32))] [(.long (if own_S nf tf 1 2 then Int64.ofNat (1 - 2) else (-1 : Int64))), (.long (if (own_nx (fun q => if q = (3 - 1) then (-2147483648 : Int32) else (fun q => if q = 1 then (nf 1) else (fun q => if q = 0 then (nf 0) else (fun _ => 0) q) q) q) b1606 (tf 0) 0) = 3 - 1 then (((0 : Int64) + (1 : Int64)) - (Int32.ofNat (own_nx (fun q => if q = (3 - 1) then (-2147483648 : Int32) else (fun q => if q = 1 then (nf 1) else (fun q => if q = 0 then (nf 0) else (fun _ => 0) q) q) q) b1606 (tf 0) 0)).toInt64) else (-1 : Int64))), (.int (1 : Int32))])
    refine Go.lcmp C X635 (pc' := 254) at_253 rfl ?_
    refine Go.ifNo C X635 (pc' := 257) at_254 ((if0 _ _).trans (teq ((lw_eq _ _).mpr (own_ans M1 (by decide) (own_ag2 nf).1 rfl (by decide)))).2) rfl ?_
    refine Go.iconst C X635 (pc' := 258) (v := (1 : Int32)) at_257 rfl rfl ?_
    refine Go.goto C X635 (pc' := 262) at_258 (by decide) (by decide) ?_
    refine Go.iand C X635 (pc' := 263) at_262 rfl ?_
    refine Go.istore C X635 (pc' := 265) (Ls' := #[.val (.long x0), .second, .val (.int x1), .val (.long x2), .second, .val (.int x3), .val (.int (2 : Int32)), .val (.int (2 : Int32)), .val (.ref b528), .val (.ref b532), .val (.ref b538), .val (.ref b583), .val (.int ((1 : Int32) &&& (1 : Int32)))]) at_263 rfl rfl ?_
    refine Go.iload C X635 (pc' := 267) at_265 rfl rfl ?_
    refine Go.aload C X635 (pc' := 269) at_267 rfl rfl rfl ?_
    refine Go.aload C X635 (pc' := 271) at_269 rfl rfl rfl ?_
    refine Go.iconst C X635 (pc' := 272) (v := (1 : Int32)) at_271 rfl rfl ?_
    refine Go.baload C X635 (pc' := 273) (i := 1) (w := (tf 1)) A628 rfl (by decide) rfl at_272 rfl ?_
    refine Go.callV C X635 (pc' := 276) (W := 1) (argsL := [(.int (tf 1))]) (rest := [(.int ((1 : Int32) &&& (1 : Int32)))]) (a := b583) (rm_fd l Z a0 hw b583 (tf 1) b593 b532 t2606 3 (fun q => if q = (3 - 1) then (-2147483648 : Int32) else (fun q => if q = 1 then (nf 1) else (fun q => if q = 0 then (nf 0) else (fun _ => 0) q) q) q) b1606 (own_nx (fun q => if q = (3 - 1) then (-2147483648 : Int32) else (fun q => if q = 1 then (nf 1) else (fun q => if q = 0 then (nf 0) else (fun _ => 0) q) q) q) b1606 (tf 0) 0) ((0 : Int64) + (1 : Int64)) (3 : Int32) h626 n0 X635.sz O626_0 O626_1 O626_2 O626_3 N583 E630 F631 F632 A633 A634 (Ne.symm ne_b583_b593) ne_b532_b583 (Ne.symm ne_b583_t2606) rfl (by decide) (by decide) (by have := M1.1; omega) Y606_0) O626_0 (notFace_of_selects (args := #[]) (mvT C.2.1 (hw _ (List.mem_of_getElem? (i := 56) rfl)))) (hw _ (List.mem_of_getElem? (i := 53) rfl)) (hw _ (List.mem_of_getElem? (i := 54) rfl)) (hw _ (List.mem_of_getElem? (i := 56) rfl)) (hw _ (List.mem_of_getElem? (i := 55) rfl)) (hw _ (List.mem_of_getElem? (i := 8) rfl)) (hw _ (List.mem_of_getElem? (i := 57) rfl)) (by decide) rfl rfl (lenOf own_pd6 rfl) rfl (Nat.le_of_eq rfl) (by decide) (by decide) (by decide) (by decide) at_273 rfl (fun _ _ q => by obtain ⟨_, K, _⟩ := q; exact K.1) (fun T636 h636 v636 X636 P636 => ?_)
    obtain ⟨rfl, K636, O636_0, O636_1, O636_2, O636_3⟩ := P636
    have A637 := A627.keep K636 (ninS ne_b528_b583 nin0)
    have A638 := A628.keep K636 (ninS ne_b538_b583 nin0)
    have E639 := O626_0.keep K636
    have E640 := E630.keep K636
    have F641 := F631.keep K636 (ninS (Ne.symm ne_b583_b593) nin0)
    have F642 := F632.keep K636 (ninS (Ne.symm ne_b583_b593) nin0)
    have A643 := A633.keep K636 (ninS ne_b532_b583 nin0)
    have A644 := A634.keep K636 (ninS (Ne.symm ne_b583_t2606) nin0)
    have M2 : own_M (fun q => if q = (3 - 1) then (-2147483648 : Int32) else (fun q => if q = 1 then (nf 1) else (fun q => if q = 0 then (nf 0) else (fun _ => 0) q) q) q) tf 2 2 (own_nx (fun q => if q = (3 - 1) then (-2147483648 : Int32) else (fun q => if q = 1 then (nf 1) else (fun q => if q = 0 then (nf 0) else (fun _ => 0) q) q) q) b1606 (tf 1) (own_nx (fun q => if q = (3 - 1) then (-2147483648 : Int32) else (fun q => if q = 1 then (nf 1) else (fun q => if q = 0 then (nf 0) else (fun _ => 0) q) q) q) b1606 (tf 0) 0)) := own_Mstep (fun q a d => Y606_0 q a (by omega)) M1 (own_notmin (htf 1) (own_ag2 nf).2)
    show Go p e below s n0 _ _ _ T636 (mkF m 276 #[.val (.long x0), .second, .val (.int x1), .val (.long x2), .second, .val (.int x3), .val (.int (2 : Int32)), .val (.int (2 : Int32)), .val (.ref b528), .val (.ref b532), .val (.ref b538), .val (.ref b583), .val (.int ((1 : Int32) &&& (1 : Int32)))] [(.long (if (own_nx (fun q => if q = (3 - 1) then (-2147483648 : Int32) else (fun q => if q = 1 then (nf 1) else (fun q => if q = 0 then (nf 0) else (fun _ => 0) q) q) q) b1606 (tf 1) (own_nx (fun q => if q = (3 - 1) then (-2147483648 : Int32) else (fun q => if q = 1 then (nf 1) else (fun q => if q = 0 then (nf 0) else (fun _ => 0) q) q) q) b1606 (tf 0) 0)) = 3 - 1 then ((((0 : Int64) + (1 : Int64)) + (1 : Int64)) - (Int32.ofNat (own_nx (fun q => if q = (3 - 1) then (-2147483648 : Int32) else (fun q => if q = 1 then (nf 1) else (fun q => if q = 0 then (nf 0) else (fun _ => 0) q) q) q) b1606 (tf 1) (own_nx (fun q => if q = (3 - 1) then (-2147483648 : Int32) else (fun q => if q = 1 then (nf 1) else (fun q => if q = 0 then (nf 0) else (fun _ => 0) q) q) q) b1606 (tf 0) 0))).toInt64) else (-1 : Int64))), (.int ((1 : Int32) &&& (1 : Int32)))])
    refine Go.aload C X636 (pc' := 278) at_276 rfl rfl rfl ?_
    refine Go.iconst C X636 (pc' := 279) (v := (2 : Int32)) at_278 rfl rfl ?_
    refine Go.aload C X636 (pc' := 281) at_279 rfl rfl rfl ?_
    refine Go.iload C X636 (pc' := 283) at_281 rfl rfl ?_
    refine Go.callS C X636 (pc' := 286) (W := 3) (argsL := [(.ref b538), (.int (2 : Int32)), (.ref b528), (.int (2 : Int32))]) (rest := [(.long (if (own_nx (fun q => if q = (3 - 1) then (-2147483648 : Int32) else (fun q => if q = 1 then (nf 1) else (fun q => if q = 0 then (nf 0) else (fun _ => 0) q) q) q) b1606 (tf 1) (own_nx (fun q => if q = (3 - 1) then (-2147483648 : Int32) else (fun q => if q = 1 then (nf 1) else (fun q => if q = 0 then (nf 0) else (fun _ => 0) q) q) q) b1606 (tf 0) 0)) = 3 - 1 then ((((0 : Int64) + (1 : Int64)) + (1 : Int64)) - (Int32.ofNat (own_nx (fun q => if q = (3 - 1) then (-2147483648 : Int32) else (fun q => if q = 1 then (nf 1) else (fun q => if q = 0 then (nf 0) else (fun _ => 0) q) q) q) b1606 (tf 1) (own_nx (fun q => if q = (3 - 1) then (-2147483648 : Int32) else (fun q => if q = 1 then (nf 1) else (fun q => if q = 0 then (nf 0) else (fun _ => 0) q) q) q) b1606 (tf 0) 0))).toInt64) else (-1 : Int64))), (.int ((1 : Int32) &&& (1 : Int32)))]) (rm_ex2 l Z a0 hw b538 (2 : Int32) b528 (2 : Int32) tf nf 2 h636 n0 X636.sz A638 A637 rfl rfl (by decide)) (hw _ (List.mem_of_getElem? (i := 64) rfl)) (hw _ (List.mem_of_getElem? (i := 65) rfl)) (hw _ (List.mem_of_getElem? (i := 4) rfl)) (hw _ (List.mem_of_getElem? (i := 66) rfl)) (by decide) rfl rfl (lenOf own_pd7 rfl) rfl (Nat.le_of_eq rfl) (by decide) (by decide) (by decide) (by decide) at_283 rfl (fun _ _ q => Nat.le_of_eq (congrArg Array.size q.2)) (fun T645 h645 v645 X645 P645 => ?_)
    obtain ⟨rfl, rfl⟩ := P645
    show Go p e below s n0 _ _ _ T645 (mkF m 286 #[.val (.long x0), .second, .val (.int x1), .val (.long x2), .second, .val (.int x3), .val (.int (2 : Int32)), .val (.int (2 : Int32)), .val (.ref b528), .val (.ref b532), .val (.ref b538), .val (.ref b583), .val (.int ((1 : Int32) &&& (1 : Int32)))] [(.long (if own_S nf tf 2 2 then Int64.ofNat (2 - 2) else (-1 : Int64))), (.long (if (own_nx (fun q => if q = (3 - 1) then (-2147483648 : Int32) else (fun q => if q = 1 then (nf 1) else (fun q => if q = 0 then (nf 0) else (fun _ => 0) q) q) q) b1606 (tf 1) (own_nx (fun q => if q = (3 - 1) then (-2147483648 : Int32) else (fun q => if q = 1 then (nf 1) else (fun q => if q = 0 then (nf 0) else (fun _ => 0) q) q) q) b1606 (tf 0) 0)) = 3 - 1 then ((((0 : Int64) + (1 : Int64)) + (1 : Int64)) - (Int32.ofNat (own_nx (fun q => if q = (3 - 1) then (-2147483648 : Int32) else (fun q => if q = 1 then (nf 1) else (fun q => if q = 0 then (nf 0) else (fun _ => 0) q) q) q) b1606 (tf 1) (own_nx (fun q => if q = (3 - 1) then (-2147483648 : Int32) else (fun q => if q = 1 then (nf 1) else (fun q => if q = 0 then (nf 0) else (fun _ => 0) q) q) q) b1606 (tf 0) 0))).toInt64) else (-1 : Int64))), (.int ((1 : Int32) &&& (1 : Int32)))])
    refine Go.lcmp C X645 (pc' := 287) at_286 rfl ?_
    refine Go.ifNo C X645 (pc' := 290) at_287 ((if0 _ _).trans (teq ((lw_eq _ _).mpr (own_ans M2 (by decide) (own_ag2 nf).1 rfl (by decide)))).2) rfl ?_
    refine Go.iconst C X645 (pc' := 291) (v := (1 : Int32)) at_290 rfl rfl ?_
    refine Go.goto C X645 (pc' := 295) at_291 (by decide) (by decide) ?_
    refine Go.iand C X645 (pc' := 296) at_295 rfl ?_
    refine Go.istore C X645 (pc' := 298) (Ls' := #[.val (.long x0), .second, .val (.int x1), .val (.long x2), .second, .val (.int x3), .val (.int (2 : Int32)), .val (.int (2 : Int32)), .val (.ref b528), .val (.ref b532), .val (.ref b538), .val (.ref b583), .val (.int (((1 : Int32) &&& (1 : Int32)) &&& (1 : Int32)))]) at_296 rfl rfl ?_
    refine Go.iload C X645 (pc' := 300) at_298 rfl rfl ?_
    refine Go.aload C X645 (pc' := 302) at_300 rfl rfl rfl ?_
    refine Go.aload C X645 (pc' := 304) at_302 rfl rfl rfl ?_
    refine Go.iconst C X645 (pc' := 305) (v := (2 : Int32)) at_304 rfl rfl ?_
    refine Go.baload C X645 (pc' := 306) (i := 2) (w := (tf 2)) A638 rfl (by decide) rfl at_305 rfl ?_
    refine Go.callV C X645 (pc' := 309) (W := 1) (argsL := [(.int (tf 2))]) (rest := [(.int (((1 : Int32) &&& (1 : Int32)) &&& (1 : Int32)))]) (a := b583) (rm_fd l Z a0 hw b583 (tf 2) b593 b532 t2606 3 (fun q => if q = (3 - 1) then (-2147483648 : Int32) else (fun q => if q = 1 then (nf 1) else (fun q => if q = 0 then (nf 0) else (fun _ => 0) q) q) q) b1606 (own_nx (fun q => if q = (3 - 1) then (-2147483648 : Int32) else (fun q => if q = 1 then (nf 1) else (fun q => if q = 0 then (nf 0) else (fun _ => 0) q) q) q) b1606 (tf 1) (own_nx (fun q => if q = (3 - 1) then (-2147483648 : Int32) else (fun q => if q = 1 then (nf 1) else (fun q => if q = 0 then (nf 0) else (fun _ => 0) q) q) q) b1606 (tf 0) 0)) (((0 : Int64) + (1 : Int64)) + (1 : Int64)) (3 : Int32) h636 n0 X645.sz O636_0 O636_1 O636_2 O636_3 N583 E640 F641 F642 A643 A644 (Ne.symm ne_b583_b593) ne_b532_b583 (Ne.symm ne_b583_t2606) rfl (by decide) (by decide) (by have := M2.1; omega) Y606_0) O636_0 (notFace_of_selects (args := #[]) (mvT C.2.1 (hw _ (List.mem_of_getElem? (i := 56) rfl)))) (hw _ (List.mem_of_getElem? (i := 53) rfl)) (hw _ (List.mem_of_getElem? (i := 54) rfl)) (hw _ (List.mem_of_getElem? (i := 56) rfl)) (hw _ (List.mem_of_getElem? (i := 55) rfl)) (hw _ (List.mem_of_getElem? (i := 8) rfl)) (hw _ (List.mem_of_getElem? (i := 57) rfl)) (by decide) rfl rfl (lenOf own_pd6 rfl) rfl (Nat.le_of_eq rfl) (by decide) (by decide) (by decide) (by decide) at_306 rfl (fun _ _ q => by obtain ⟨_, K, _⟩ := q; exact K.1) (fun T646 h646 v646 X646 P646 => ?_)
    obtain ⟨rfl, K646, O646_0, O646_1, O646_2, O646_3⟩ := P646
    have A647 := A637.keep K646 (ninS ne_b528_b583 nin0)
    have A648 := A638.keep K646 (ninS ne_b538_b583 nin0)
    have E649 := O636_0.keep K646
    have E650 := E640.keep K646
    have F651 := F641.keep K646 (ninS (Ne.symm ne_b583_b593) nin0)
    have F652 := F642.keep K646 (ninS (Ne.symm ne_b583_b593) nin0)
    have A653 := A643.keep K646 (ninS ne_b532_b583 nin0)
    have A654 := A644.keep K646 (ninS (Ne.symm ne_b583_t2606) nin0)
    have M3 : own_M (fun q => if q = (3 - 1) then (-2147483648 : Int32) else (fun q => if q = 1 then (nf 1) else (fun q => if q = 0 then (nf 0) else (fun _ => 0) q) q) q) tf 2 3 (own_nx (fun q => if q = (3 - 1) then (-2147483648 : Int32) else (fun q => if q = 1 then (nf 1) else (fun q => if q = 0 then (nf 0) else (fun _ => 0) q) q) q) b1606 (tf 2) (own_nx (fun q => if q = (3 - 1) then (-2147483648 : Int32) else (fun q => if q = 1 then (nf 1) else (fun q => if q = 0 then (nf 0) else (fun _ => 0) q) q) q) b1606 (tf 1) (own_nx (fun q => if q = (3 - 1) then (-2147483648 : Int32) else (fun q => if q = 1 then (nf 1) else (fun q => if q = 0 then (nf 0) else (fun _ => 0) q) q) q) b1606 (tf 0) 0))) := own_Mstep (fun q a d => Y606_0 q a (by omega)) M2 (own_notmin (htf 2) (own_ag2 nf).2)
    show Go p e below s n0 _ _ _ T646 (mkF m 309 #[.val (.long x0), .second, .val (.int x1), .val (.long x2), .second, .val (.int x3), .val (.int (2 : Int32)), .val (.int (2 : Int32)), .val (.ref b528), .val (.ref b532), .val (.ref b538), .val (.ref b583), .val (.int (((1 : Int32) &&& (1 : Int32)) &&& (1 : Int32)))] [(.long (if (own_nx (fun q => if q = (3 - 1) then (-2147483648 : Int32) else (fun q => if q = 1 then (nf 1) else (fun q => if q = 0 then (nf 0) else (fun _ => 0) q) q) q) b1606 (tf 2) (own_nx (fun q => if q = (3 - 1) then (-2147483648 : Int32) else (fun q => if q = 1 then (nf 1) else (fun q => if q = 0 then (nf 0) else (fun _ => 0) q) q) q) b1606 (tf 1) (own_nx (fun q => if q = (3 - 1) then (-2147483648 : Int32) else (fun q => if q = 1 then (nf 1) else (fun q => if q = 0 then (nf 0) else (fun _ => 0) q) q) q) b1606 (tf 0) 0))) = 3 - 1 then (((((0 : Int64) + (1 : Int64)) + (1 : Int64)) + (1 : Int64)) - (Int32.ofNat (own_nx (fun q => if q = (3 - 1) then (-2147483648 : Int32) else (fun q => if q = 1 then (nf 1) else (fun q => if q = 0 then (nf 0) else (fun _ => 0) q) q) q) b1606 (tf 2) (own_nx (fun q => if q = (3 - 1) then (-2147483648 : Int32) else (fun q => if q = 1 then (nf 1) else (fun q => if q = 0 then (nf 0) else (fun _ => 0) q) q) q) b1606 (tf 1) (own_nx (fun q => if q = (3 - 1) then (-2147483648 : Int32) else (fun q => if q = 1 then (nf 1) else (fun q => if q = 0 then (nf 0) else (fun _ => 0) q) q) q) b1606 (tf 0) 0)))).toInt64) else (-1 : Int64))), (.int (((1 : Int32) &&& (1 : Int32)) &&& (1 : Int32)))])
    refine Go.aload C X646 (pc' := 311) at_309 rfl rfl rfl ?_
    refine Go.iconst C X646 (pc' := 312) (v := (3 : Int32)) at_311 rfl rfl ?_
    refine Go.aload C X646 (pc' := 314) at_312 rfl rfl rfl ?_
    refine Go.iload C X646 (pc' := 316) at_314 rfl rfl ?_
    refine Go.callS C X646 (pc' := 319) (W := 3) (argsL := [(.ref b538), (.int (3 : Int32)), (.ref b528), (.int (2 : Int32))]) (rest := [(.long (if (own_nx (fun q => if q = (3 - 1) then (-2147483648 : Int32) else (fun q => if q = 1 then (nf 1) else (fun q => if q = 0 then (nf 0) else (fun _ => 0) q) q) q) b1606 (tf 2) (own_nx (fun q => if q = (3 - 1) then (-2147483648 : Int32) else (fun q => if q = 1 then (nf 1) else (fun q => if q = 0 then (nf 0) else (fun _ => 0) q) q) q) b1606 (tf 1) (own_nx (fun q => if q = (3 - 1) then (-2147483648 : Int32) else (fun q => if q = 1 then (nf 1) else (fun q => if q = 0 then (nf 0) else (fun _ => 0) q) q) q) b1606 (tf 0) 0))) = 3 - 1 then (((((0 : Int64) + (1 : Int64)) + (1 : Int64)) + (1 : Int64)) - (Int32.ofNat (own_nx (fun q => if q = (3 - 1) then (-2147483648 : Int32) else (fun q => if q = 1 then (nf 1) else (fun q => if q = 0 then (nf 0) else (fun _ => 0) q) q) q) b1606 (tf 2) (own_nx (fun q => if q = (3 - 1) then (-2147483648 : Int32) else (fun q => if q = 1 then (nf 1) else (fun q => if q = 0 then (nf 0) else (fun _ => 0) q) q) q) b1606 (tf 1) (own_nx (fun q => if q = (3 - 1) then (-2147483648 : Int32) else (fun q => if q = 1 then (nf 1) else (fun q => if q = 0 then (nf 0) else (fun _ => 0) q) q) q) b1606 (tf 0) 0)))).toInt64) else (-1 : Int64))), (.int (((1 : Int32) &&& (1 : Int32)) &&& (1 : Int32)))]) (rm_ex2 l Z a0 hw b538 (3 : Int32) b528 (2 : Int32) tf nf 3 h646 n0 X646.sz A648 A647 rfl rfl (by decide)) (hw _ (List.mem_of_getElem? (i := 64) rfl)) (hw _ (List.mem_of_getElem? (i := 65) rfl)) (hw _ (List.mem_of_getElem? (i := 4) rfl)) (hw _ (List.mem_of_getElem? (i := 66) rfl)) (by decide) rfl rfl (lenOf own_pd7 rfl) rfl (Nat.le_of_eq rfl) (by decide) (by decide) (by decide) (by decide) at_316 rfl (fun _ _ q => Nat.le_of_eq (congrArg Array.size q.2)) (fun T655 h655 v655 X655 P655 => ?_)
    obtain ⟨rfl, rfl⟩ := P655
    show Go p e below s n0 _ _ _ T655 (mkF m 319 #[.val (.long x0), .second, .val (.int x1), .val (.long x2), .second, .val (.int x3), .val (.int (2 : Int32)), .val (.int (2 : Int32)), .val (.ref b528), .val (.ref b532), .val (.ref b538), .val (.ref b583), .val (.int (((1 : Int32) &&& (1 : Int32)) &&& (1 : Int32)))] [(.long (if own_S nf tf 3 2 then Int64.ofNat (3 - 2) else (-1 : Int64))), (.long (if (own_nx (fun q => if q = (3 - 1) then (-2147483648 : Int32) else (fun q => if q = 1 then (nf 1) else (fun q => if q = 0 then (nf 0) else (fun _ => 0) q) q) q) b1606 (tf 2) (own_nx (fun q => if q = (3 - 1) then (-2147483648 : Int32) else (fun q => if q = 1 then (nf 1) else (fun q => if q = 0 then (nf 0) else (fun _ => 0) q) q) q) b1606 (tf 1) (own_nx (fun q => if q = (3 - 1) then (-2147483648 : Int32) else (fun q => if q = 1 then (nf 1) else (fun q => if q = 0 then (nf 0) else (fun _ => 0) q) q) q) b1606 (tf 0) 0))) = 3 - 1 then (((((0 : Int64) + (1 : Int64)) + (1 : Int64)) + (1 : Int64)) - (Int32.ofNat (own_nx (fun q => if q = (3 - 1) then (-2147483648 : Int32) else (fun q => if q = 1 then (nf 1) else (fun q => if q = 0 then (nf 0) else (fun _ => 0) q) q) q) b1606 (tf 2) (own_nx (fun q => if q = (3 - 1) then (-2147483648 : Int32) else (fun q => if q = 1 then (nf 1) else (fun q => if q = 0 then (nf 0) else (fun _ => 0) q) q) q) b1606 (tf 1) (own_nx (fun q => if q = (3 - 1) then (-2147483648 : Int32) else (fun q => if q = 1 then (nf 1) else (fun q => if q = 0 then (nf 0) else (fun _ => 0) q) q) q) b1606 (tf 0) 0)))).toInt64) else (-1 : Int64))), (.int (((1 : Int32) &&& (1 : Int32)) &&& (1 : Int32)))])
    refine Go.lcmp C X655 (pc' := 320) at_319 rfl ?_
    refine Go.ifNo C X655 (pc' := 323) at_320 ((if0 _ _).trans (teq ((lw_eq _ _).mpr (own_ans M3 (by decide) (own_ag2 nf).1 rfl (by decide)))).2) rfl ?_
    refine Go.iconst C X655 (pc' := 324) (v := (1 : Int32)) at_323 rfl rfl ?_
    refine Go.goto C X655 (pc' := 328) at_324 (by decide) (by decide) ?_
    refine Go.iand C X655 (pc' := 329) at_328 rfl ?_
    refine Go.istore C X655 (pc' := 331) (Ls' := #[.val (.long x0), .second, .val (.int x1), .val (.long x2), .second, .val (.int x3), .val (.int (2 : Int32)), .val (.int (2 : Int32)), .val (.ref b528), .val (.ref b532), .val (.ref b538), .val (.ref b583), .val (.int ((((1 : Int32) &&& (1 : Int32)) &&& (1 : Int32)) &&& (1 : Int32)))]) at_329 rfl rfl ?_
    refine Go.iload C X655 (pc' := 333) at_331 rfl rfl ?_
    refine Go.aload C X655 (pc' := 335) at_333 rfl rfl rfl ?_
    refine Go.aload C X655 (pc' := 337) at_335 rfl rfl rfl ?_
    refine Go.iconst C X655 (pc' := 338) (v := (3 : Int32)) at_337 rfl rfl ?_
    refine Go.baload C X655 (pc' := 339) (i := 3) (w := (tf 3)) A648 rfl (by decide) rfl at_338 rfl ?_
    refine Go.callV C X655 (pc' := 342) (W := 1) (argsL := [(.int (tf 3))]) (rest := [(.int ((((1 : Int32) &&& (1 : Int32)) &&& (1 : Int32)) &&& (1 : Int32)))]) (a := b583) (rm_fd l Z a0 hw b583 (tf 3) b593 b532 t2606 3 (fun q => if q = (3 - 1) then (-2147483648 : Int32) else (fun q => if q = 1 then (nf 1) else (fun q => if q = 0 then (nf 0) else (fun _ => 0) q) q) q) b1606 (own_nx (fun q => if q = (3 - 1) then (-2147483648 : Int32) else (fun q => if q = 1 then (nf 1) else (fun q => if q = 0 then (nf 0) else (fun _ => 0) q) q) q) b1606 (tf 2) (own_nx (fun q => if q = (3 - 1) then (-2147483648 : Int32) else (fun q => if q = 1 then (nf 1) else (fun q => if q = 0 then (nf 0) else (fun _ => 0) q) q) q) b1606 (tf 1) (own_nx (fun q => if q = (3 - 1) then (-2147483648 : Int32) else (fun q => if q = 1 then (nf 1) else (fun q => if q = 0 then (nf 0) else (fun _ => 0) q) q) q) b1606 (tf 0) 0))) ((((0 : Int64) + (1 : Int64)) + (1 : Int64)) + (1 : Int64)) (3 : Int32) h646 n0 X655.sz O646_0 O646_1 O646_2 O646_3 N583 E650 F651 F652 A653 A654 (Ne.symm ne_b583_b593) ne_b532_b583 (Ne.symm ne_b583_t2606) rfl (by decide) (by decide) (by have := M3.1; omega) Y606_0) O646_0 (notFace_of_selects (args := #[]) (mvT C.2.1 (hw _ (List.mem_of_getElem? (i := 56) rfl)))) (hw _ (List.mem_of_getElem? (i := 53) rfl)) (hw _ (List.mem_of_getElem? (i := 54) rfl)) (hw _ (List.mem_of_getElem? (i := 56) rfl)) (hw _ (List.mem_of_getElem? (i := 55) rfl)) (hw _ (List.mem_of_getElem? (i := 8) rfl)) (hw _ (List.mem_of_getElem? (i := 57) rfl)) (by decide) rfl rfl (lenOf own_pd6 rfl) rfl (Nat.le_of_eq rfl) (by decide) (by decide) (by decide) (by decide) at_339 rfl (fun _ _ q => by obtain ⟨_, K, _⟩ := q; exact K.1) (fun T656 h656 v656 X656 P656 => ?_)
    obtain ⟨rfl, K656, O656_0, O656_1, O656_2, O656_3⟩ := P656
    have A657 := A647.keep K656 (ninS ne_b528_b583 nin0)
    have A658 := A648.keep K656 (ninS ne_b538_b583 nin0)
    have E659 := O646_0.keep K656
    have E660 := E650.keep K656
    have F661 := F651.keep K656 (ninS (Ne.symm ne_b583_b593) nin0)
    have F662 := F652.keep K656 (ninS (Ne.symm ne_b583_b593) nin0)
    have A663 := A653.keep K656 (ninS ne_b532_b583 nin0)
    have A664 := A654.keep K656 (ninS (Ne.symm ne_b583_t2606) nin0)
    have M4 : own_M (fun q => if q = (3 - 1) then (-2147483648 : Int32) else (fun q => if q = 1 then (nf 1) else (fun q => if q = 0 then (nf 0) else (fun _ => 0) q) q) q) tf 2 4 (own_nx (fun q => if q = (3 - 1) then (-2147483648 : Int32) else (fun q => if q = 1 then (nf 1) else (fun q => if q = 0 then (nf 0) else (fun _ => 0) q) q) q) b1606 (tf 3) (own_nx (fun q => if q = (3 - 1) then (-2147483648 : Int32) else (fun q => if q = 1 then (nf 1) else (fun q => if q = 0 then (nf 0) else (fun _ => 0) q) q) q) b1606 (tf 2) (own_nx (fun q => if q = (3 - 1) then (-2147483648 : Int32) else (fun q => if q = 1 then (nf 1) else (fun q => if q = 0 then (nf 0) else (fun _ => 0) q) q) q) b1606 (tf 1) (own_nx (fun q => if q = (3 - 1) then (-2147483648 : Int32) else (fun q => if q = 1 then (nf 1) else (fun q => if q = 0 then (nf 0) else (fun _ => 0) q) q) q) b1606 (tf 0) 0)))) := own_Mstep (fun q a d => Y606_0 q a (by omega)) M3 (own_notmin (htf 3) (own_ag2 nf).2)
    show Go p e below s n0 _ _ _ T656 (mkF m 342 #[.val (.long x0), .second, .val (.int x1), .val (.long x2), .second, .val (.int x3), .val (.int (2 : Int32)), .val (.int (2 : Int32)), .val (.ref b528), .val (.ref b532), .val (.ref b538), .val (.ref b583), .val (.int ((((1 : Int32) &&& (1 : Int32)) &&& (1 : Int32)) &&& (1 : Int32)))] [(.long (if (own_nx (fun q => if q = (3 - 1) then (-2147483648 : Int32) else (fun q => if q = 1 then (nf 1) else (fun q => if q = 0 then (nf 0) else (fun _ => 0) q) q) q) b1606 (tf 3) (own_nx (fun q => if q = (3 - 1) then (-2147483648 : Int32) else (fun q => if q = 1 then (nf 1) else (fun q => if q = 0 then (nf 0) else (fun _ => 0) q) q) q) b1606 (tf 2) (own_nx (fun q => if q = (3 - 1) then (-2147483648 : Int32) else (fun q => if q = 1 then (nf 1) else (fun q => if q = 0 then (nf 0) else (fun _ => 0) q) q) q) b1606 (tf 1) (own_nx (fun q => if q = (3 - 1) then (-2147483648 : Int32) else (fun q => if q = 1 then (nf 1) else (fun q => if q = 0 then (nf 0) else (fun _ => 0) q) q) q) b1606 (tf 0) 0)))) = 3 - 1 then ((((((0 : Int64) + (1 : Int64)) + (1 : Int64)) + (1 : Int64)) + (1 : Int64)) - (Int32.ofNat (own_nx (fun q => if q = (3 - 1) then (-2147483648 : Int32) else (fun q => if q = 1 then (nf 1) else (fun q => if q = 0 then (nf 0) else (fun _ => 0) q) q) q) b1606 (tf 3) (own_nx (fun q => if q = (3 - 1) then (-2147483648 : Int32) else (fun q => if q = 1 then (nf 1) else (fun q => if q = 0 then (nf 0) else (fun _ => 0) q) q) q) b1606 (tf 2) (own_nx (fun q => if q = (3 - 1) then (-2147483648 : Int32) else (fun q => if q = 1 then (nf 1) else (fun q => if q = 0 then (nf 0) else (fun _ => 0) q) q) q) b1606 (tf 1) (own_nx (fun q => if q = (3 - 1) then (-2147483648 : Int32) else (fun q => if q = 1 then (nf 1) else (fun q => if q = 0 then (nf 0) else (fun _ => 0) q) q) q) b1606 (tf 0) 0))))).toInt64) else (-1 : Int64))), (.int ((((1 : Int32) &&& (1 : Int32)) &&& (1 : Int32)) &&& (1 : Int32)))])
    refine Go.aload C X656 (pc' := 344) at_342 rfl rfl rfl ?_
    refine Go.iconst C X656 (pc' := 345) (v := (4 : Int32)) at_344 rfl rfl ?_
    refine Go.aload C X656 (pc' := 347) at_345 rfl rfl rfl ?_
    refine Go.iload C X656 (pc' := 349) at_347 rfl rfl ?_
    refine Go.callS C X656 (pc' := 352) (W := 3) (argsL := [(.ref b538), (.int (4 : Int32)), (.ref b528), (.int (2 : Int32))]) (rest := [(.long (if (own_nx (fun q => if q = (3 - 1) then (-2147483648 : Int32) else (fun q => if q = 1 then (nf 1) else (fun q => if q = 0 then (nf 0) else (fun _ => 0) q) q) q) b1606 (tf 3) (own_nx (fun q => if q = (3 - 1) then (-2147483648 : Int32) else (fun q => if q = 1 then (nf 1) else (fun q => if q = 0 then (nf 0) else (fun _ => 0) q) q) q) b1606 (tf 2) (own_nx (fun q => if q = (3 - 1) then (-2147483648 : Int32) else (fun q => if q = 1 then (nf 1) else (fun q => if q = 0 then (nf 0) else (fun _ => 0) q) q) q) b1606 (tf 1) (own_nx (fun q => if q = (3 - 1) then (-2147483648 : Int32) else (fun q => if q = 1 then (nf 1) else (fun q => if q = 0 then (nf 0) else (fun _ => 0) q) q) q) b1606 (tf 0) 0)))) = 3 - 1 then ((((((0 : Int64) + (1 : Int64)) + (1 : Int64)) + (1 : Int64)) + (1 : Int64)) - (Int32.ofNat (own_nx (fun q => if q = (3 - 1) then (-2147483648 : Int32) else (fun q => if q = 1 then (nf 1) else (fun q => if q = 0 then (nf 0) else (fun _ => 0) q) q) q) b1606 (tf 3) (own_nx (fun q => if q = (3 - 1) then (-2147483648 : Int32) else (fun q => if q = 1 then (nf 1) else (fun q => if q = 0 then (nf 0) else (fun _ => 0) q) q) q) b1606 (tf 2) (own_nx (fun q => if q = (3 - 1) then (-2147483648 : Int32) else (fun q => if q = 1 then (nf 1) else (fun q => if q = 0 then (nf 0) else (fun _ => 0) q) q) q) b1606 (tf 1) (own_nx (fun q => if q = (3 - 1) then (-2147483648 : Int32) else (fun q => if q = 1 then (nf 1) else (fun q => if q = 0 then (nf 0) else (fun _ => 0) q) q) q) b1606 (tf 0) 0))))).toInt64) else (-1 : Int64))), (.int ((((1 : Int32) &&& (1 : Int32)) &&& (1 : Int32)) &&& (1 : Int32)))]) (rm_ex2 l Z a0 hw b538 (4 : Int32) b528 (2 : Int32) tf nf 4 h656 n0 X656.sz A658 A657 rfl rfl (by decide)) (hw _ (List.mem_of_getElem? (i := 64) rfl)) (hw _ (List.mem_of_getElem? (i := 65) rfl)) (hw _ (List.mem_of_getElem? (i := 4) rfl)) (hw _ (List.mem_of_getElem? (i := 66) rfl)) (by decide) rfl rfl (lenOf own_pd7 rfl) rfl (Nat.le_of_eq rfl) (by decide) (by decide) (by decide) (by decide) at_349 rfl (fun _ _ q => Nat.le_of_eq (congrArg Array.size q.2)) (fun T665 h665 v665 X665 P665 => ?_)
    obtain ⟨rfl, rfl⟩ := P665
    show Go p e below s n0 _ _ _ T665 (mkF m 352 #[.val (.long x0), .second, .val (.int x1), .val (.long x2), .second, .val (.int x3), .val (.int (2 : Int32)), .val (.int (2 : Int32)), .val (.ref b528), .val (.ref b532), .val (.ref b538), .val (.ref b583), .val (.int ((((1 : Int32) &&& (1 : Int32)) &&& (1 : Int32)) &&& (1 : Int32)))] [(.long (if own_S nf tf 4 2 then Int64.ofNat (4 - 2) else (-1 : Int64))), (.long (if (own_nx (fun q => if q = (3 - 1) then (-2147483648 : Int32) else (fun q => if q = 1 then (nf 1) else (fun q => if q = 0 then (nf 0) else (fun _ => 0) q) q) q) b1606 (tf 3) (own_nx (fun q => if q = (3 - 1) then (-2147483648 : Int32) else (fun q => if q = 1 then (nf 1) else (fun q => if q = 0 then (nf 0) else (fun _ => 0) q) q) q) b1606 (tf 2) (own_nx (fun q => if q = (3 - 1) then (-2147483648 : Int32) else (fun q => if q = 1 then (nf 1) else (fun q => if q = 0 then (nf 0) else (fun _ => 0) q) q) q) b1606 (tf 1) (own_nx (fun q => if q = (3 - 1) then (-2147483648 : Int32) else (fun q => if q = 1 then (nf 1) else (fun q => if q = 0 then (nf 0) else (fun _ => 0) q) q) q) b1606 (tf 0) 0)))) = 3 - 1 then ((((((0 : Int64) + (1 : Int64)) + (1 : Int64)) + (1 : Int64)) + (1 : Int64)) - (Int32.ofNat (own_nx (fun q => if q = (3 - 1) then (-2147483648 : Int32) else (fun q => if q = 1 then (nf 1) else (fun q => if q = 0 then (nf 0) else (fun _ => 0) q) q) q) b1606 (tf 3) (own_nx (fun q => if q = (3 - 1) then (-2147483648 : Int32) else (fun q => if q = 1 then (nf 1) else (fun q => if q = 0 then (nf 0) else (fun _ => 0) q) q) q) b1606 (tf 2) (own_nx (fun q => if q = (3 - 1) then (-2147483648 : Int32) else (fun q => if q = 1 then (nf 1) else (fun q => if q = 0 then (nf 0) else (fun _ => 0) q) q) q) b1606 (tf 1) (own_nx (fun q => if q = (3 - 1) then (-2147483648 : Int32) else (fun q => if q = 1 then (nf 1) else (fun q => if q = 0 then (nf 0) else (fun _ => 0) q) q) q) b1606 (tf 0) 0))))).toInt64) else (-1 : Int64))), (.int ((((1 : Int32) &&& (1 : Int32)) &&& (1 : Int32)) &&& (1 : Int32)))])
    refine Go.lcmp C X665 (pc' := 353) at_352 rfl ?_
    refine Go.ifNo C X665 (pc' := 356) at_353 ((if0 _ _).trans (teq ((lw_eq _ _).mpr (own_ans M4 (by decide) (own_ag2 nf).1 rfl (by decide)))).2) rfl ?_
    refine Go.iconst C X665 (pc' := 357) (v := (1 : Int32)) at_356 rfl rfl ?_
    refine Go.goto C X665 (pc' := 361) at_357 (by decide) (by decide) ?_
    refine Go.iand C X665 (pc' := 362) at_361 rfl ?_
    refine Go.istore C X665 (pc' := 364) (Ls' := #[.val (.long x0), .second, .val (.int x1), .val (.long x2), .second, .val (.int x3), .val (.int (2 : Int32)), .val (.int (2 : Int32)), .val (.ref b528), .val (.ref b532), .val (.ref b538), .val (.ref b583), .val (.int (((((1 : Int32) &&& (1 : Int32)) &&& (1 : Int32)) &&& (1 : Int32)) &&& (1 : Int32)))]) at_362 rfl rfl ?_
    refine Go.iload C X665 (pc' := 366) at_364 rfl rfl ?_
    refine Go.aload C X665 (pc' := 368) at_366 rfl rfl rfl ?_
    refine Go.aload C X665 (pc' := 370) at_368 rfl rfl rfl ?_
    refine Go.iconst C X665 (pc' := 371) (v := (4 : Int32)) at_370 rfl rfl ?_
    refine Go.baload C X665 (pc' := 372) (i := 4) (w := (tf 4)) A658 rfl (by decide) rfl at_371 rfl ?_
    refine Go.callV C X665 (pc' := 375) (W := 1) (argsL := [(.int (tf 4))]) (rest := [(.int (((((1 : Int32) &&& (1 : Int32)) &&& (1 : Int32)) &&& (1 : Int32)) &&& (1 : Int32)))]) (a := b583) (rm_fd l Z a0 hw b583 (tf 4) b593 b532 t2606 3 (fun q => if q = (3 - 1) then (-2147483648 : Int32) else (fun q => if q = 1 then (nf 1) else (fun q => if q = 0 then (nf 0) else (fun _ => 0) q) q) q) b1606 (own_nx (fun q => if q = (3 - 1) then (-2147483648 : Int32) else (fun q => if q = 1 then (nf 1) else (fun q => if q = 0 then (nf 0) else (fun _ => 0) q) q) q) b1606 (tf 3) (own_nx (fun q => if q = (3 - 1) then (-2147483648 : Int32) else (fun q => if q = 1 then (nf 1) else (fun q => if q = 0 then (nf 0) else (fun _ => 0) q) q) q) b1606 (tf 2) (own_nx (fun q => if q = (3 - 1) then (-2147483648 : Int32) else (fun q => if q = 1 then (nf 1) else (fun q => if q = 0 then (nf 0) else (fun _ => 0) q) q) q) b1606 (tf 1) (own_nx (fun q => if q = (3 - 1) then (-2147483648 : Int32) else (fun q => if q = 1 then (nf 1) else (fun q => if q = 0 then (nf 0) else (fun _ => 0) q) q) q) b1606 (tf 0) 0)))) (((((0 : Int64) + (1 : Int64)) + (1 : Int64)) + (1 : Int64)) + (1 : Int64)) (3 : Int32) h656 n0 X665.sz O656_0 O656_1 O656_2 O656_3 N583 E660 F661 F662 A663 A664 (Ne.symm ne_b583_b593) ne_b532_b583 (Ne.symm ne_b583_t2606) rfl (by decide) (by decide) (by have := M4.1; omega) Y606_0) O656_0 (notFace_of_selects (args := #[]) (mvT C.2.1 (hw _ (List.mem_of_getElem? (i := 56) rfl)))) (hw _ (List.mem_of_getElem? (i := 53) rfl)) (hw _ (List.mem_of_getElem? (i := 54) rfl)) (hw _ (List.mem_of_getElem? (i := 56) rfl)) (hw _ (List.mem_of_getElem? (i := 55) rfl)) (hw _ (List.mem_of_getElem? (i := 8) rfl)) (hw _ (List.mem_of_getElem? (i := 57) rfl)) (by decide) rfl rfl (lenOf own_pd6 rfl) rfl (Nat.le_of_eq rfl) (by decide) (by decide) (by decide) (by decide) at_372 rfl (fun _ _ q => by obtain ⟨_, K, _⟩ := q; exact K.1) (fun T666 h666 v666 X666 P666 => ?_)
    obtain ⟨rfl, K666, O666_0, O666_1, O666_2, O666_3⟩ := P666
    have A667 := A657.keep K666 (ninS ne_b528_b583 nin0)
    have A668 := A658.keep K666 (ninS ne_b538_b583 nin0)
    have E669 := O656_0.keep K666
    have E670 := E660.keep K666
    have F671 := F661.keep K666 (ninS (Ne.symm ne_b583_b593) nin0)
    have F672 := F662.keep K666 (ninS (Ne.symm ne_b583_b593) nin0)
    have A673 := A663.keep K666 (ninS ne_b532_b583 nin0)
    have A674 := A664.keep K666 (ninS (Ne.symm ne_b583_t2606) nin0)
    have M5 : own_M (fun q => if q = (3 - 1) then (-2147483648 : Int32) else (fun q => if q = 1 then (nf 1) else (fun q => if q = 0 then (nf 0) else (fun _ => 0) q) q) q) tf 2 5 (own_nx (fun q => if q = (3 - 1) then (-2147483648 : Int32) else (fun q => if q = 1 then (nf 1) else (fun q => if q = 0 then (nf 0) else (fun _ => 0) q) q) q) b1606 (tf 4) (own_nx (fun q => if q = (3 - 1) then (-2147483648 : Int32) else (fun q => if q = 1 then (nf 1) else (fun q => if q = 0 then (nf 0) else (fun _ => 0) q) q) q) b1606 (tf 3) (own_nx (fun q => if q = (3 - 1) then (-2147483648 : Int32) else (fun q => if q = 1 then (nf 1) else (fun q => if q = 0 then (nf 0) else (fun _ => 0) q) q) q) b1606 (tf 2) (own_nx (fun q => if q = (3 - 1) then (-2147483648 : Int32) else (fun q => if q = 1 then (nf 1) else (fun q => if q = 0 then (nf 0) else (fun _ => 0) q) q) q) b1606 (tf 1) (own_nx (fun q => if q = (3 - 1) then (-2147483648 : Int32) else (fun q => if q = 1 then (nf 1) else (fun q => if q = 0 then (nf 0) else (fun _ => 0) q) q) q) b1606 (tf 0) 0))))) := own_Mstep (fun q a d => Y606_0 q a (by omega)) M4 (own_notmin (htf 4) (own_ag2 nf).2)
    show Go p e below s n0 _ _ _ T666 (mkF m 375 #[.val (.long x0), .second, .val (.int x1), .val (.long x2), .second, .val (.int x3), .val (.int (2 : Int32)), .val (.int (2 : Int32)), .val (.ref b528), .val (.ref b532), .val (.ref b538), .val (.ref b583), .val (.int (((((1 : Int32) &&& (1 : Int32)) &&& (1 : Int32)) &&& (1 : Int32)) &&& (1 : Int32)))] [(.long (if (own_nx (fun q => if q = (3 - 1) then (-2147483648 : Int32) else (fun q => if q = 1 then (nf 1) else (fun q => if q = 0 then (nf 0) else (fun _ => 0) q) q) q) b1606 (tf 4) (own_nx (fun q => if q = (3 - 1) then (-2147483648 : Int32) else (fun q => if q = 1 then (nf 1) else (fun q => if q = 0 then (nf 0) else (fun _ => 0) q) q) q) b1606 (tf 3) (own_nx (fun q => if q = (3 - 1) then (-2147483648 : Int32) else (fun q => if q = 1 then (nf 1) else (fun q => if q = 0 then (nf 0) else (fun _ => 0) q) q) q) b1606 (tf 2) (own_nx (fun q => if q = (3 - 1) then (-2147483648 : Int32) else (fun q => if q = 1 then (nf 1) else (fun q => if q = 0 then (nf 0) else (fun _ => 0) q) q) q) b1606 (tf 1) (own_nx (fun q => if q = (3 - 1) then (-2147483648 : Int32) else (fun q => if q = 1 then (nf 1) else (fun q => if q = 0 then (nf 0) else (fun _ => 0) q) q) q) b1606 (tf 0) 0))))) = 3 - 1 then (((((((0 : Int64) + (1 : Int64)) + (1 : Int64)) + (1 : Int64)) + (1 : Int64)) + (1 : Int64)) - (Int32.ofNat (own_nx (fun q => if q = (3 - 1) then (-2147483648 : Int32) else (fun q => if q = 1 then (nf 1) else (fun q => if q = 0 then (nf 0) else (fun _ => 0) q) q) q) b1606 (tf 4) (own_nx (fun q => if q = (3 - 1) then (-2147483648 : Int32) else (fun q => if q = 1 then (nf 1) else (fun q => if q = 0 then (nf 0) else (fun _ => 0) q) q) q) b1606 (tf 3) (own_nx (fun q => if q = (3 - 1) then (-2147483648 : Int32) else (fun q => if q = 1 then (nf 1) else (fun q => if q = 0 then (nf 0) else (fun _ => 0) q) q) q) b1606 (tf 2) (own_nx (fun q => if q = (3 - 1) then (-2147483648 : Int32) else (fun q => if q = 1 then (nf 1) else (fun q => if q = 0 then (nf 0) else (fun _ => 0) q) q) q) b1606 (tf 1) (own_nx (fun q => if q = (3 - 1) then (-2147483648 : Int32) else (fun q => if q = 1 then (nf 1) else (fun q => if q = 0 then (nf 0) else (fun _ => 0) q) q) q) b1606 (tf 0) 0)))))).toInt64) else (-1 : Int64))), (.int (((((1 : Int32) &&& (1 : Int32)) &&& (1 : Int32)) &&& (1 : Int32)) &&& (1 : Int32)))])
    refine Go.aload C X666 (pc' := 377) at_375 rfl rfl rfl ?_
    refine Go.iconst C X666 (pc' := 378) (v := (5 : Int32)) at_377 rfl rfl ?_
    refine Go.aload C X666 (pc' := 380) at_378 rfl rfl rfl ?_
    refine Go.iload C X666 (pc' := 382) at_380 rfl rfl ?_
    refine Go.callS C X666 (pc' := 385) (W := 3) (argsL := [(.ref b538), (.int (5 : Int32)), (.ref b528), (.int (2 : Int32))]) (rest := [(.long (if (own_nx (fun q => if q = (3 - 1) then (-2147483648 : Int32) else (fun q => if q = 1 then (nf 1) else (fun q => if q = 0 then (nf 0) else (fun _ => 0) q) q) q) b1606 (tf 4) (own_nx (fun q => if q = (3 - 1) then (-2147483648 : Int32) else (fun q => if q = 1 then (nf 1) else (fun q => if q = 0 then (nf 0) else (fun _ => 0) q) q) q) b1606 (tf 3) (own_nx (fun q => if q = (3 - 1) then (-2147483648 : Int32) else (fun q => if q = 1 then (nf 1) else (fun q => if q = 0 then (nf 0) else (fun _ => 0) q) q) q) b1606 (tf 2) (own_nx (fun q => if q = (3 - 1) then (-2147483648 : Int32) else (fun q => if q = 1 then (nf 1) else (fun q => if q = 0 then (nf 0) else (fun _ => 0) q) q) q) b1606 (tf 1) (own_nx (fun q => if q = (3 - 1) then (-2147483648 : Int32) else (fun q => if q = 1 then (nf 1) else (fun q => if q = 0 then (nf 0) else (fun _ => 0) q) q) q) b1606 (tf 0) 0))))) = 3 - 1 then (((((((0 : Int64) + (1 : Int64)) + (1 : Int64)) + (1 : Int64)) + (1 : Int64)) + (1 : Int64)) - (Int32.ofNat (own_nx (fun q => if q = (3 - 1) then (-2147483648 : Int32) else (fun q => if q = 1 then (nf 1) else (fun q => if q = 0 then (nf 0) else (fun _ => 0) q) q) q) b1606 (tf 4) (own_nx (fun q => if q = (3 - 1) then (-2147483648 : Int32) else (fun q => if q = 1 then (nf 1) else (fun q => if q = 0 then (nf 0) else (fun _ => 0) q) q) q) b1606 (tf 3) (own_nx (fun q => if q = (3 - 1) then (-2147483648 : Int32) else (fun q => if q = 1 then (nf 1) else (fun q => if q = 0 then (nf 0) else (fun _ => 0) q) q) q) b1606 (tf 2) (own_nx (fun q => if q = (3 - 1) then (-2147483648 : Int32) else (fun q => if q = 1 then (nf 1) else (fun q => if q = 0 then (nf 0) else (fun _ => 0) q) q) q) b1606 (tf 1) (own_nx (fun q => if q = (3 - 1) then (-2147483648 : Int32) else (fun q => if q = 1 then (nf 1) else (fun q => if q = 0 then (nf 0) else (fun _ => 0) q) q) q) b1606 (tf 0) 0)))))).toInt64) else (-1 : Int64))), (.int (((((1 : Int32) &&& (1 : Int32)) &&& (1 : Int32)) &&& (1 : Int32)) &&& (1 : Int32)))]) (rm_ex2 l Z a0 hw b538 (5 : Int32) b528 (2 : Int32) tf nf 5 h666 n0 X666.sz A668 A667 rfl rfl (by decide)) (hw _ (List.mem_of_getElem? (i := 64) rfl)) (hw _ (List.mem_of_getElem? (i := 65) rfl)) (hw _ (List.mem_of_getElem? (i := 4) rfl)) (hw _ (List.mem_of_getElem? (i := 66) rfl)) (by decide) rfl rfl (lenOf own_pd7 rfl) rfl (Nat.le_of_eq rfl) (by decide) (by decide) (by decide) (by decide) at_382 rfl (fun _ _ q => Nat.le_of_eq (congrArg Array.size q.2)) (fun T675 h675 v675 X675 P675 => ?_)
    obtain ⟨rfl, rfl⟩ := P675
    show Go p e below s n0 _ _ _ T675 (mkF m 385 #[.val (.long x0), .second, .val (.int x1), .val (.long x2), .second, .val (.int x3), .val (.int (2 : Int32)), .val (.int (2 : Int32)), .val (.ref b528), .val (.ref b532), .val (.ref b538), .val (.ref b583), .val (.int (((((1 : Int32) &&& (1 : Int32)) &&& (1 : Int32)) &&& (1 : Int32)) &&& (1 : Int32)))] [(.long (if own_S nf tf 5 2 then Int64.ofNat (5 - 2) else (-1 : Int64))), (.long (if (own_nx (fun q => if q = (3 - 1) then (-2147483648 : Int32) else (fun q => if q = 1 then (nf 1) else (fun q => if q = 0 then (nf 0) else (fun _ => 0) q) q) q) b1606 (tf 4) (own_nx (fun q => if q = (3 - 1) then (-2147483648 : Int32) else (fun q => if q = 1 then (nf 1) else (fun q => if q = 0 then (nf 0) else (fun _ => 0) q) q) q) b1606 (tf 3) (own_nx (fun q => if q = (3 - 1) then (-2147483648 : Int32) else (fun q => if q = 1 then (nf 1) else (fun q => if q = 0 then (nf 0) else (fun _ => 0) q) q) q) b1606 (tf 2) (own_nx (fun q => if q = (3 - 1) then (-2147483648 : Int32) else (fun q => if q = 1 then (nf 1) else (fun q => if q = 0 then (nf 0) else (fun _ => 0) q) q) q) b1606 (tf 1) (own_nx (fun q => if q = (3 - 1) then (-2147483648 : Int32) else (fun q => if q = 1 then (nf 1) else (fun q => if q = 0 then (nf 0) else (fun _ => 0) q) q) q) b1606 (tf 0) 0))))) = 3 - 1 then (((((((0 : Int64) + (1 : Int64)) + (1 : Int64)) + (1 : Int64)) + (1 : Int64)) + (1 : Int64)) - (Int32.ofNat (own_nx (fun q => if q = (3 - 1) then (-2147483648 : Int32) else (fun q => if q = 1 then (nf 1) else (fun q => if q = 0 then (nf 0) else (fun _ => 0) q) q) q) b1606 (tf 4) (own_nx (fun q => if q = (3 - 1) then (-2147483648 : Int32) else (fun q => if q = 1 then (nf 1) else (fun q => if q = 0 then (nf 0) else (fun _ => 0) q) q) q) b1606 (tf 3) (own_nx (fun q => if q = (3 - 1) then (-2147483648 : Int32) else (fun q => if q = 1 then (nf 1) else (fun q => if q = 0 then (nf 0) else (fun _ => 0) q) q) q) b1606 (tf 2) (own_nx (fun q => if q = (3 - 1) then (-2147483648 : Int32) else (fun q => if q = 1 then (nf 1) else (fun q => if q = 0 then (nf 0) else (fun _ => 0) q) q) q) b1606 (tf 1) (own_nx (fun q => if q = (3 - 1) then (-2147483648 : Int32) else (fun q => if q = 1 then (nf 1) else (fun q => if q = 0 then (nf 0) else (fun _ => 0) q) q) q) b1606 (tf 0) 0)))))).toInt64) else (-1 : Int64))), (.int (((((1 : Int32) &&& (1 : Int32)) &&& (1 : Int32)) &&& (1 : Int32)) &&& (1 : Int32)))])
    refine Go.lcmp C X675 (pc' := 386) at_385 rfl ?_
    refine Go.ifNo C X675 (pc' := 389) at_386 ((if0 _ _).trans (teq ((lw_eq _ _).mpr (own_ans M5 (by decide) (own_ag2 nf).1 rfl (by decide)))).2) rfl ?_
    refine Go.iconst C X675 (pc' := 390) (v := (1 : Int32)) at_389 rfl rfl ?_
    refine Go.goto C X675 (pc' := 394) at_390 (by decide) (by decide) ?_
    refine Go.iand C X675 (pc' := 395) at_394 rfl ?_
    refine Go.istore C X675 (pc' := 397) (Ls' := #[.val (.long x0), .second, .val (.int x1), .val (.long x2), .second, .val (.int x3), .val (.int (2 : Int32)), .val (.int (2 : Int32)), .val (.ref b528), .val (.ref b532), .val (.ref b538), .val (.ref b583), .val (.int ((((((1 : Int32) &&& (1 : Int32)) &&& (1 : Int32)) &&& (1 : Int32)) &&& (1 : Int32)) &&& (1 : Int32)))]) at_395 rfl rfl ?_
    refine Go.iload C X675 (pc' := 399) at_397 rfl rfl ?_
    refine Go.aload C X675 (pc' := 401) at_399 rfl rfl rfl ?_
    refine Go.aload C X675 (pc' := 403) at_401 rfl rfl rfl ?_
    refine Go.iconst C X675 (pc' := 404) (v := (5 : Int32)) at_403 rfl rfl ?_
    refine Go.baload C X675 (pc' := 405) (i := 5) (w := (tf 5)) A668 rfl (by decide) rfl at_404 rfl ?_
    refine Go.callV C X675 (pc' := 408) (W := 1) (argsL := [(.int (tf 5))]) (rest := [(.int ((((((1 : Int32) &&& (1 : Int32)) &&& (1 : Int32)) &&& (1 : Int32)) &&& (1 : Int32)) &&& (1 : Int32)))]) (a := b583) (rm_fd l Z a0 hw b583 (tf 5) b593 b532 t2606 3 (fun q => if q = (3 - 1) then (-2147483648 : Int32) else (fun q => if q = 1 then (nf 1) else (fun q => if q = 0 then (nf 0) else (fun _ => 0) q) q) q) b1606 (own_nx (fun q => if q = (3 - 1) then (-2147483648 : Int32) else (fun q => if q = 1 then (nf 1) else (fun q => if q = 0 then (nf 0) else (fun _ => 0) q) q) q) b1606 (tf 4) (own_nx (fun q => if q = (3 - 1) then (-2147483648 : Int32) else (fun q => if q = 1 then (nf 1) else (fun q => if q = 0 then (nf 0) else (fun _ => 0) q) q) q) b1606 (tf 3) (own_nx (fun q => if q = (3 - 1) then (-2147483648 : Int32) else (fun q => if q = 1 then (nf 1) else (fun q => if q = 0 then (nf 0) else (fun _ => 0) q) q) q) b1606 (tf 2) (own_nx (fun q => if q = (3 - 1) then (-2147483648 : Int32) else (fun q => if q = 1 then (nf 1) else (fun q => if q = 0 then (nf 0) else (fun _ => 0) q) q) q) b1606 (tf 1) (own_nx (fun q => if q = (3 - 1) then (-2147483648 : Int32) else (fun q => if q = 1 then (nf 1) else (fun q => if q = 0 then (nf 0) else (fun _ => 0) q) q) q) b1606 (tf 0) 0))))) ((((((0 : Int64) + (1 : Int64)) + (1 : Int64)) + (1 : Int64)) + (1 : Int64)) + (1 : Int64)) (3 : Int32) h666 n0 X675.sz O666_0 O666_1 O666_2 O666_3 N583 E670 F671 F672 A673 A674 (Ne.symm ne_b583_b593) ne_b532_b583 (Ne.symm ne_b583_t2606) rfl (by decide) (by decide) (by have := M5.1; omega) Y606_0) O666_0 (notFace_of_selects (args := #[]) (mvT C.2.1 (hw _ (List.mem_of_getElem? (i := 56) rfl)))) (hw _ (List.mem_of_getElem? (i := 53) rfl)) (hw _ (List.mem_of_getElem? (i := 54) rfl)) (hw _ (List.mem_of_getElem? (i := 56) rfl)) (hw _ (List.mem_of_getElem? (i := 55) rfl)) (hw _ (List.mem_of_getElem? (i := 8) rfl)) (hw _ (List.mem_of_getElem? (i := 57) rfl)) (by decide) rfl rfl (lenOf own_pd6 rfl) rfl (Nat.le_of_eq rfl) (by decide) (by decide) (by decide) (by decide) at_405 rfl (fun _ _ q => by obtain ⟨_, K, _⟩ := q; exact K.1) (fun T676 h676 v676 X676 P676 => ?_)
    obtain ⟨rfl, K676, O676_0, O676_1, O676_2, O676_3⟩ := P676
    have A677 := A667.keep K676 (ninS ne_b528_b583 nin0)
    have A678 := A668.keep K676 (ninS ne_b538_b583 nin0)
    have E679 := O666_0.keep K676
    have E680 := E670.keep K676
    have F681 := F671.keep K676 (ninS (Ne.symm ne_b583_b593) nin0)
    have F682 := F672.keep K676 (ninS (Ne.symm ne_b583_b593) nin0)
    have A683 := A673.keep K676 (ninS ne_b532_b583 nin0)
    have A684 := A674.keep K676 (ninS (Ne.symm ne_b583_t2606) nin0)
    have M6 : own_M (fun q => if q = (3 - 1) then (-2147483648 : Int32) else (fun q => if q = 1 then (nf 1) else (fun q => if q = 0 then (nf 0) else (fun _ => 0) q) q) q) tf 2 6 (own_nx (fun q => if q = (3 - 1) then (-2147483648 : Int32) else (fun q => if q = 1 then (nf 1) else (fun q => if q = 0 then (nf 0) else (fun _ => 0) q) q) q) b1606 (tf 5) (own_nx (fun q => if q = (3 - 1) then (-2147483648 : Int32) else (fun q => if q = 1 then (nf 1) else (fun q => if q = 0 then (nf 0) else (fun _ => 0) q) q) q) b1606 (tf 4) (own_nx (fun q => if q = (3 - 1) then (-2147483648 : Int32) else (fun q => if q = 1 then (nf 1) else (fun q => if q = 0 then (nf 0) else (fun _ => 0) q) q) q) b1606 (tf 3) (own_nx (fun q => if q = (3 - 1) then (-2147483648 : Int32) else (fun q => if q = 1 then (nf 1) else (fun q => if q = 0 then (nf 0) else (fun _ => 0) q) q) q) b1606 (tf 2) (own_nx (fun q => if q = (3 - 1) then (-2147483648 : Int32) else (fun q => if q = 1 then (nf 1) else (fun q => if q = 0 then (nf 0) else (fun _ => 0) q) q) q) b1606 (tf 1) (own_nx (fun q => if q = (3 - 1) then (-2147483648 : Int32) else (fun q => if q = 1 then (nf 1) else (fun q => if q = 0 then (nf 0) else (fun _ => 0) q) q) q) b1606 (tf 0) 0)))))) := own_Mstep (fun q a d => Y606_0 q a (by omega)) M5 (own_notmin (htf 5) (own_ag2 nf).2)
    show Go p e below s n0 _ _ _ T676 (mkF m 408 #[.val (.long x0), .second, .val (.int x1), .val (.long x2), .second, .val (.int x3), .val (.int (2 : Int32)), .val (.int (2 : Int32)), .val (.ref b528), .val (.ref b532), .val (.ref b538), .val (.ref b583), .val (.int ((((((1 : Int32) &&& (1 : Int32)) &&& (1 : Int32)) &&& (1 : Int32)) &&& (1 : Int32)) &&& (1 : Int32)))] [(.long (if (own_nx (fun q => if q = (3 - 1) then (-2147483648 : Int32) else (fun q => if q = 1 then (nf 1) else (fun q => if q = 0 then (nf 0) else (fun _ => 0) q) q) q) b1606 (tf 5) (own_nx (fun q => if q = (3 - 1) then (-2147483648 : Int32) else (fun q => if q = 1 then (nf 1) else (fun q => if q = 0 then (nf 0) else (fun _ => 0) q) q) q) b1606 (tf 4) (own_nx (fun q => if q = (3 - 1) then (-2147483648 : Int32) else (fun q => if q = 1 then (nf 1) else (fun q => if q = 0 then (nf 0) else (fun _ => 0) q) q) q) b1606 (tf 3) (own_nx (fun q => if q = (3 - 1) then (-2147483648 : Int32) else (fun q => if q = 1 then (nf 1) else (fun q => if q = 0 then (nf 0) else (fun _ => 0) q) q) q) b1606 (tf 2) (own_nx (fun q => if q = (3 - 1) then (-2147483648 : Int32) else (fun q => if q = 1 then (nf 1) else (fun q => if q = 0 then (nf 0) else (fun _ => 0) q) q) q) b1606 (tf 1) (own_nx (fun q => if q = (3 - 1) then (-2147483648 : Int32) else (fun q => if q = 1 then (nf 1) else (fun q => if q = 0 then (nf 0) else (fun _ => 0) q) q) q) b1606 (tf 0) 0)))))) = 3 - 1 then ((((((((0 : Int64) + (1 : Int64)) + (1 : Int64)) + (1 : Int64)) + (1 : Int64)) + (1 : Int64)) + (1 : Int64)) - (Int32.ofNat (own_nx (fun q => if q = (3 - 1) then (-2147483648 : Int32) else (fun q => if q = 1 then (nf 1) else (fun q => if q = 0 then (nf 0) else (fun _ => 0) q) q) q) b1606 (tf 5) (own_nx (fun q => if q = (3 - 1) then (-2147483648 : Int32) else (fun q => if q = 1 then (nf 1) else (fun q => if q = 0 then (nf 0) else (fun _ => 0) q) q) q) b1606 (tf 4) (own_nx (fun q => if q = (3 - 1) then (-2147483648 : Int32) else (fun q => if q = 1 then (nf 1) else (fun q => if q = 0 then (nf 0) else (fun _ => 0) q) q) q) b1606 (tf 3) (own_nx (fun q => if q = (3 - 1) then (-2147483648 : Int32) else (fun q => if q = 1 then (nf 1) else (fun q => if q = 0 then (nf 0) else (fun _ => 0) q) q) q) b1606 (tf 2) (own_nx (fun q => if q = (3 - 1) then (-2147483648 : Int32) else (fun q => if q = 1 then (nf 1) else (fun q => if q = 0 then (nf 0) else (fun _ => 0) q) q) q) b1606 (tf 1) (own_nx (fun q => if q = (3 - 1) then (-2147483648 : Int32) else (fun q => if q = 1 then (nf 1) else (fun q => if q = 0 then (nf 0) else (fun _ => 0) q) q) q) b1606 (tf 0) 0))))))).toInt64) else (-1 : Int64))), (.int ((((((1 : Int32) &&& (1 : Int32)) &&& (1 : Int32)) &&& (1 : Int32)) &&& (1 : Int32)) &&& (1 : Int32)))])
    refine Go.aload C X676 (pc' := 410) at_408 rfl rfl rfl ?_
    refine Go.bipush C X676 (pc' := 412) (v := (6 : Int32)) at_410 rfl rfl ?_
    refine Go.aload C X676 (pc' := 414) at_412 rfl rfl rfl ?_
    refine Go.iload C X676 (pc' := 416) at_414 rfl rfl ?_
    refine Go.callS C X676 (pc' := 419) (W := 3) (argsL := [(.ref b538), (.int (6 : Int32)), (.ref b528), (.int (2 : Int32))]) (rest := [(.long (if (own_nx (fun q => if q = (3 - 1) then (-2147483648 : Int32) else (fun q => if q = 1 then (nf 1) else (fun q => if q = 0 then (nf 0) else (fun _ => 0) q) q) q) b1606 (tf 5) (own_nx (fun q => if q = (3 - 1) then (-2147483648 : Int32) else (fun q => if q = 1 then (nf 1) else (fun q => if q = 0 then (nf 0) else (fun _ => 0) q) q) q) b1606 (tf 4) (own_nx (fun q => if q = (3 - 1) then (-2147483648 : Int32) else (fun q => if q = 1 then (nf 1) else (fun q => if q = 0 then (nf 0) else (fun _ => 0) q) q) q) b1606 (tf 3) (own_nx (fun q => if q = (3 - 1) then (-2147483648 : Int32) else (fun q => if q = 1 then (nf 1) else (fun q => if q = 0 then (nf 0) else (fun _ => 0) q) q) q) b1606 (tf 2) (own_nx (fun q => if q = (3 - 1) then (-2147483648 : Int32) else (fun q => if q = 1 then (nf 1) else (fun q => if q = 0 then (nf 0) else (fun _ => 0) q) q) q) b1606 (tf 1) (own_nx (fun q => if q = (3 - 1) then (-2147483648 : Int32) else (fun q => if q = 1 then (nf 1) else (fun q => if q = 0 then (nf 0) else (fun _ => 0) q) q) q) b1606 (tf 0) 0)))))) = 3 - 1 then ((((((((0 : Int64) + (1 : Int64)) + (1 : Int64)) + (1 : Int64)) + (1 : Int64)) + (1 : Int64)) + (1 : Int64)) - (Int32.ofNat (own_nx (fun q => if q = (3 - 1) then (-2147483648 : Int32) else (fun q => if q = 1 then (nf 1) else (fun q => if q = 0 then (nf 0) else (fun _ => 0) q) q) q) b1606 (tf 5) (own_nx (fun q => if q = (3 - 1) then (-2147483648 : Int32) else (fun q => if q = 1 then (nf 1) else (fun q => if q = 0 then (nf 0) else (fun _ => 0) q) q) q) b1606 (tf 4) (own_nx (fun q => if q = (3 - 1) then (-2147483648 : Int32) else (fun q => if q = 1 then (nf 1) else (fun q => if q = 0 then (nf 0) else (fun _ => 0) q) q) q) b1606 (tf 3) (own_nx (fun q => if q = (3 - 1) then (-2147483648 : Int32) else (fun q => if q = 1 then (nf 1) else (fun q => if q = 0 then (nf 0) else (fun _ => 0) q) q) q) b1606 (tf 2) (own_nx (fun q => if q = (3 - 1) then (-2147483648 : Int32) else (fun q => if q = 1 then (nf 1) else (fun q => if q = 0 then (nf 0) else (fun _ => 0) q) q) q) b1606 (tf 1) (own_nx (fun q => if q = (3 - 1) then (-2147483648 : Int32) else (fun q => if q = 1 then (nf 1) else (fun q => if q = 0 then (nf 0) else (fun _ => 0) q) q) q) b1606 (tf 0) 0))))))).toInt64) else (-1 : Int64))), (.int ((((((1 : Int32) &&& (1 : Int32)) &&& (1 : Int32)) &&& (1 : Int32)) &&& (1 : Int32)) &&& (1 : Int32)))]) (rm_ex2 l Z a0 hw b538 (6 : Int32) b528 (2 : Int32) tf nf 6 h676 n0 X676.sz A678 A677 rfl rfl (by decide)) (hw _ (List.mem_of_getElem? (i := 64) rfl)) (hw _ (List.mem_of_getElem? (i := 65) rfl)) (hw _ (List.mem_of_getElem? (i := 4) rfl)) (hw _ (List.mem_of_getElem? (i := 66) rfl)) (by decide) rfl rfl (lenOf own_pd7 rfl) rfl (Nat.le_of_eq rfl) (by decide) (by decide) (by decide) (by decide) at_416 rfl (fun _ _ q => Nat.le_of_eq (congrArg Array.size q.2)) (fun T685 h685 v685 X685 P685 => ?_)
    obtain ⟨rfl, rfl⟩ := P685
    show Go p e below s n0 _ _ _ T685 (mkF m 419 #[.val (.long x0), .second, .val (.int x1), .val (.long x2), .second, .val (.int x3), .val (.int (2 : Int32)), .val (.int (2 : Int32)), .val (.ref b528), .val (.ref b532), .val (.ref b538), .val (.ref b583), .val (.int ((((((1 : Int32) &&& (1 : Int32)) &&& (1 : Int32)) &&& (1 : Int32)) &&& (1 : Int32)) &&& (1 : Int32)))] [(.long (if own_S nf tf 6 2 then Int64.ofNat (6 - 2) else (-1 : Int64))), (.long (if (own_nx (fun q => if q = (3 - 1) then (-2147483648 : Int32) else (fun q => if q = 1 then (nf 1) else (fun q => if q = 0 then (nf 0) else (fun _ => 0) q) q) q) b1606 (tf 5) (own_nx (fun q => if q = (3 - 1) then (-2147483648 : Int32) else (fun q => if q = 1 then (nf 1) else (fun q => if q = 0 then (nf 0) else (fun _ => 0) q) q) q) b1606 (tf 4) (own_nx (fun q => if q = (3 - 1) then (-2147483648 : Int32) else (fun q => if q = 1 then (nf 1) else (fun q => if q = 0 then (nf 0) else (fun _ => 0) q) q) q) b1606 (tf 3) (own_nx (fun q => if q = (3 - 1) then (-2147483648 : Int32) else (fun q => if q = 1 then (nf 1) else (fun q => if q = 0 then (nf 0) else (fun _ => 0) q) q) q) b1606 (tf 2) (own_nx (fun q => if q = (3 - 1) then (-2147483648 : Int32) else (fun q => if q = 1 then (nf 1) else (fun q => if q = 0 then (nf 0) else (fun _ => 0) q) q) q) b1606 (tf 1) (own_nx (fun q => if q = (3 - 1) then (-2147483648 : Int32) else (fun q => if q = 1 then (nf 1) else (fun q => if q = 0 then (nf 0) else (fun _ => 0) q) q) q) b1606 (tf 0) 0)))))) = 3 - 1 then ((((((((0 : Int64) + (1 : Int64)) + (1 : Int64)) + (1 : Int64)) + (1 : Int64)) + (1 : Int64)) + (1 : Int64)) - (Int32.ofNat (own_nx (fun q => if q = (3 - 1) then (-2147483648 : Int32) else (fun q => if q = 1 then (nf 1) else (fun q => if q = 0 then (nf 0) else (fun _ => 0) q) q) q) b1606 (tf 5) (own_nx (fun q => if q = (3 - 1) then (-2147483648 : Int32) else (fun q => if q = 1 then (nf 1) else (fun q => if q = 0 then (nf 0) else (fun _ => 0) q) q) q) b1606 (tf 4) (own_nx (fun q => if q = (3 - 1) then (-2147483648 : Int32) else (fun q => if q = 1 then (nf 1) else (fun q => if q = 0 then (nf 0) else (fun _ => 0) q) q) q) b1606 (tf 3) (own_nx (fun q => if q = (3 - 1) then (-2147483648 : Int32) else (fun q => if q = 1 then (nf 1) else (fun q => if q = 0 then (nf 0) else (fun _ => 0) q) q) q) b1606 (tf 2) (own_nx (fun q => if q = (3 - 1) then (-2147483648 : Int32) else (fun q => if q = 1 then (nf 1) else (fun q => if q = 0 then (nf 0) else (fun _ => 0) q) q) q) b1606 (tf 1) (own_nx (fun q => if q = (3 - 1) then (-2147483648 : Int32) else (fun q => if q = 1 then (nf 1) else (fun q => if q = 0 then (nf 0) else (fun _ => 0) q) q) q) b1606 (tf 0) 0))))))).toInt64) else (-1 : Int64))), (.int ((((((1 : Int32) &&& (1 : Int32)) &&& (1 : Int32)) &&& (1 : Int32)) &&& (1 : Int32)) &&& (1 : Int32)))])
    refine Go.lcmp C X685 (pc' := 420) at_419 rfl ?_
    refine Go.ifNo C X685 (pc' := 423) at_420 ((if0 _ _).trans (teq ((lw_eq _ _).mpr (own_ans M6 (by decide) (own_ag2 nf).1 rfl (by decide)))).2) rfl ?_
    refine Go.iconst C X685 (pc' := 424) (v := (1 : Int32)) at_423 rfl rfl ?_
    refine Go.goto C X685 (pc' := 428) at_424 (by decide) (by decide) ?_
    refine Go.iand C X685 (pc' := 429) at_428 rfl ?_
    refine Go.istore C X685 (pc' := 431) (Ls' := #[.val (.long x0), .second, .val (.int x1), .val (.long x2), .second, .val (.int x3), .val (.int (2 : Int32)), .val (.int (2 : Int32)), .val (.ref b528), .val (.ref b532), .val (.ref b538), .val (.ref b583), .val (.int (((((((1 : Int32) &&& (1 : Int32)) &&& (1 : Int32)) &&& (1 : Int32)) &&& (1 : Int32)) &&& (1 : Int32)) &&& (1 : Int32)))]) at_429 rfl rfl ?_
    refine Go.iload C X685 (pc' := 433) at_431 rfl rfl ?_
    refine Go.aload C X685 (pc' := 435) at_433 rfl rfl rfl ?_
    refine Go.callV C X685 (pc' := 438) (W := 1) (argsL := []) (rest := [(.int (((((((1 : Int32) &&& (1 : Int32)) &&& (1 : Int32)) &&& (1 : Int32)) &&& (1 : Int32)) &&& (1 : Int32)) &&& (1 : Int32)))]) (a := b583) (rm_fed l Z a0 hw b583 (((((((0 : Int64) + (1 : Int64)) + (1 : Int64)) + (1 : Int64)) + (1 : Int64)) + (1 : Int64)) + (1 : Int64)) h676 n0 X685.sz O676_3) O676_0 (notFace_of_selects (args := #[]) (mvT C.2.1 (hw _ (List.mem_of_getElem? (i := 71) rfl)))) (hw _ (List.mem_of_getElem? (i := 68) rfl)) (hw _ (List.mem_of_getElem? (i := 69) rfl)) (hw _ (List.mem_of_getElem? (i := 71) rfl)) (hw _ (List.mem_of_getElem? (i := 70) rfl)) (hw _ (List.mem_of_getElem? (i := 8) rfl)) (hw _ (List.mem_of_getElem? (i := 72) rfl)) (by decide) rfl rfl (lenOf own_pd8 rfl) rfl (Nat.le_of_eq rfl) (by decide) (by decide) (by decide) (by decide) at_435 rfl (fun _ _ q => Nat.le_of_eq (congrArg Array.size q.2)) (fun T686 h686 v686 X686 P686 => ?_)
    obtain ⟨rfl, rfl⟩ := P686
    show Go p e below s n0 _ _ _ T686 (mkF m 438 #[.val (.long x0), .second, .val (.int x1), .val (.long x2), .second, .val (.int x3), .val (.int (2 : Int32)), .val (.int (2 : Int32)), .val (.ref b528), .val (.ref b532), .val (.ref b538), .val (.ref b583), .val (.int (((((((1 : Int32) &&& (1 : Int32)) &&& (1 : Int32)) &&& (1 : Int32)) &&& (1 : Int32)) &&& (1 : Int32)) &&& (1 : Int32)))] [(.long (((((((0 : Int64) + (1 : Int64)) + (1 : Int64)) + (1 : Int64)) + (1 : Int64)) + (1 : Int64)) + (1 : Int64))), (.int (((((((1 : Int32) &&& (1 : Int32)) &&& (1 : Int32)) &&& (1 : Int32)) &&& (1 : Int32)) &&& (1 : Int32)) &&& (1 : Int32)))])
    refine Go.ldc2 C X686 (pc' := 441) (hw _ (List.mem_of_getElem? (i := 73) rfl)) at_438 rfl ?_
    refine Go.lcmp C X686 (pc' := 442) at_441 rfl ?_
    refine Go.ifNo C X686 (pc' := 445) at_442 ((if0 _ _).trans (teq ((lw_eq _ _).mpr rfl)).2) rfl ?_
    refine Go.iconst C X686 (pc' := 446) (v := (1 : Int32)) at_445 rfl rfl ?_
    refine Go.goto C X686 (pc' := 450) at_446 (by decide) (by decide) ?_
    refine Go.iand C X686 (pc' := 451) at_450 rfl ?_
    refine Go.istore C X686 (pc' := 453) (Ls' := #[.val (.long x0), .second, .val (.int x1), .val (.long x2), .second, .val (.int x3), .val (.int (2 : Int32)), .val (.int (2 : Int32)), .val (.ref b528), .val (.ref b532), .val (.ref b538), .val (.ref b583), .val (.int ((((((((1 : Int32) &&& (1 : Int32)) &&& (1 : Int32)) &&& (1 : Int32)) &&& (1 : Int32)) &&& (1 : Int32)) &&& (1 : Int32)) &&& (1 : Int32)))]) at_451 rfl rfl ?_
    refine Go.iload C X686 (pc' := 455) at_453 rfl rfl ?_
    exact Go.retZ (t := .boolean) C X686 (z' := ((((((((1 : Int32) &&& (1 : Int32)) &&& (1 : Int32)) &&& (1 : Int32)) &&& (1 : Int32)) &&& (1 : Int32)) &&& (1 : Int32)) &&& (1 : Int32))) (by decide) at_455 rfl (by decide) (by decide)
  · rw [q209]
    refine Go.iload C X0 (pc' := 7) at_5 rfl rfl ?_
    refine Go.ifYes C X0 (pc' := 14) at_7 ((if0 _ _).trans (feq (by decide)).2) (by decide) (by decide) ?_
    refine Go.iload C X0 (pc' := 16) at_14 rfl rfl ?_
    refine Go.istore C X0 (pc' := 18) (Ls' := #[.val (.long x0), .second, .val (.int x1), .val (.long x2), .second, .val (.int x3), .val (.int (3 : Int32)), .val (.int (3 : Int32)), .unset, .unset, .unset, .unset, .unset]) at_16 rfl rfl ?_
    refine Go.iconst C X0 (pc' := 19) (v := (3 : Int32)) at_18 rfl rfl ?_
    refine Go.newP C X0 (pc' := 21) (nn := 3) (cap := 3) (hw _ (List.mem_of_getElem? (i := 0) rfl)) at_19 rfl (by decide) (by decide) (by decide) (by decide) rfl (fun T687 h687 b687 k687 X687 g687 E687 Ar687 N687 => ?_)
    have A687 : AI Z h687 b687 .byte 3 (fun _ => 0) := AI.new rfl rfl Ar687
    refine Go.astore C X687 (pc' := 23) (Ls' := #[.val (.long x0), .second, .val (.int x1), .val (.long x2), .second, .val (.int x3), .val (.int (3 : Int32)), .val (.int (3 : Int32)), .val (.ref b687), .unset, .unset, .unset, .unset]) at_21 rfl rfl rfl ?_
    refine Go.aload C X687 (pc' := 25) at_23 rfl rfl rfl ?_
    refine Go.iconst C X687 (pc' := 26) (v := (0 : Int32)) at_25 rfl rfl ?_
    refine Go.lloadN C X687 (pc' := 27) at_26 rfl rfl ?_
    refine Go.l2i C X687 (pc' := 28) at_27 rfl ?_
    refine Go.i2b C X687 (pc' := 29) at_28 rfl ?_
    refine Go.bastore C X687 (pc' := 30) (i := 0) (x' := ((x0).toInt32).toInt8.toInt32) A687 rfl (by decide) (own_b2 _) N687 at_29 rfl (fun T688 h688 X688 W688 A688 => ?_)
    refine Go.aload C X688 (pc' := 32) at_30 rfl rfl rfl ?_
    refine Go.iconst C X688 (pc' := 33) (v := (1 : Int32)) at_32 rfl rfl ?_
    refine Go.lloadN C X688 (pc' := 34) at_33 rfl rfl ?_
    refine Go.bipush C X688 (pc' := 36) (v := (8 : Int32)) at_34 rfl rfl ?_
    refine Go.lushr C X688 (pc' := 37) at_36 rfl ?_
    refine Go.l2i C X688 (pc' := 38) at_37 rfl ?_
    refine Go.i2b C X688 (pc' := 39) at_38 rfl ?_
    refine Go.bastore C X688 (pc' := 40) (i := 1) (x' := ((((x0).toUInt64 >>> ((8 : Int32) &&& 0x3f).toInt64.toUInt64).toInt64).toInt32).toInt8.toInt32) A688 rfl (by decide) (own_b2 _) N687 at_39 rfl (fun T689 h689 X689 W689 A689 => ?_)
    refine Go.aload C X689 (pc' := 42) at_40 rfl rfl rfl ?_
    refine Go.iconst C X689 (pc' := 43) (v := (2 : Int32)) at_42 rfl rfl ?_
    refine Go.lloadN C X689 (pc' := 44) at_43 rfl rfl ?_
    refine Go.bipush C X689 (pc' := 46) (v := (16 : Int32)) at_44 rfl rfl ?_
    refine Go.lushr C X689 (pc' := 47) at_46 rfl ?_
    refine Go.l2i C X689 (pc' := 48) at_47 rfl ?_
    refine Go.i2b C X689 (pc' := 49) at_48 rfl ?_
    refine Go.bastore C X689 (pc' := 50) (i := 2) (x' := ((((x0).toUInt64 >>> ((16 : Int32) &&& 0x3f).toInt64.toUInt64).toInt64).toInt32).toInt8.toInt32) A689 rfl (by decide) (own_b2 _) N687 at_49 rfl (fun T690 h690 X690 W690 A690 => ?_)
    obtain ⟨nf, hnf, A50⟩ : ∃ f : Nat → Int32, (∀ q, -128 ≤ (f q).toInt ∧ (f q).toInt ≤ 127) ∧ AI Z h690 b687 .byte 3 f := ⟨_, (own_upd (R := fun z => -128 ≤ z.toInt ∧ z.toInt ≤ 127) (own_upd (R := fun z => -128 ≤ z.toInt ∧ z.toInt ≤ 127) (own_upd (R := fun z => -128 ≤ z.toInt ∧ z.toInt ≤ 127) (fun _ => by decide) (own_i2b _)) (own_i2b _)) (own_i2b _)), A690⟩
    refine Go.iload C X690 (pc' := 52) at_50 rfl rfl ?_
    refine Go.iconst C X690 (pc' := 53) (v := (1 : Int32)) at_52 rfl rfl ?_
    refine Go.icmpYes C X690 (pc' := 62) at_53 (feq (by decide)).2 (by decide) (by decide) ?_
    refine Go.iload C X690 (pc' := 64) at_62 rfl rfl ?_
    refine Go.iconst C X690 (pc' := 65) (v := (2 : Int32)) at_64 rfl rfl ?_
    refine Go.icmpYes C X690 (pc' := 74) at_65 (feq (by decide)).2 (by decide) (by decide) ?_
    refine Go.iconst C X690 (pc' := 75) (v := (4 : Int32)) at_74 rfl rfl ?_
    refine Go.newP C X690 (pc' := 77) (nn := 4) (cap := 4) (hw _ (List.mem_of_getElem? (i := 1) rfl)) at_75 rfl (by decide) (by decide) (by decide) (by decide) rfl (fun T691 h691 b691 k691 X691 g691 E691 Ar691 N691 => ?_)
    have ne_b687_b691 : b687 ≠ b691 := Nat.ne_of_lt (Nat.lt_of_lt_of_eq A50.lt g691.symm)
    have A692 := A50.ext E691
    have A691 : AI Z h691 b691 .int 4 (fun _ => 0) := AI.new rfl rfl Ar691
    refine Go.astore C X691 (pc' := 79) (Ls' := #[.val (.long x0), .second, .val (.int x1), .val (.long x2), .second, .val (.int x3), .val (.int (3 : Int32)), .val (.int (3 : Int32)), .val (.ref b687), .val (.ref b691), .unset, .unset, .unset]) at_77 rfl rfl rfl ?_
    refine Go.aload C X691 (pc' := 81) at_79 rfl rfl rfl ?_
    refine Go.iconst C X691 (pc' := 82) (v := (0 : Int32)) at_81 rfl rfl ?_
    refine Go.aload C X691 (pc' := 84) at_82 rfl rfl rfl ?_
    refine Go.iconst C X691 (pc' := 85) (v := (0 : Int32)) at_84 rfl rfl ?_
    refine Go.baload C X691 (pc' := 86) (i := 0) (w := (nf 0)) A692 rfl (by decide) rfl at_85 rfl ?_
    refine Go.iastore C X691 (pc' := 87) (i := 0) (x' := (nf 0)) A691 rfl (by decide) rfl N691 at_86 rfl (fun T693 h693 X693 W693 A693 => ?_)
    have A694 := A692.other W693 ne_b687_b691
    refine Go.iload C X693 (pc' := 89) at_87 rfl rfl ?_
    refine Go.iconst C X693 (pc' := 90) (v := (2 : Int32)) at_89 rfl rfl ?_
    refine Go.icmpNo C X693 (pc' := 93) at_90 (flt (by decide)).1 rfl ?_
    refine Go.aload C X693 (pc' := 95) at_93 rfl rfl rfl ?_
    refine Go.iconst C X693 (pc' := 96) (v := (1 : Int32)) at_95 rfl rfl ?_
    refine Go.aload C X693 (pc' := 98) at_96 rfl rfl rfl ?_
    refine Go.iconst C X693 (pc' := 99) (v := (1 : Int32)) at_98 rfl rfl ?_
    refine Go.baload C X693 (pc' := 100) (i := 1) (w := (nf 1)) A694 rfl (by decide) rfl at_99 rfl ?_
    refine Go.iastore C X693 (pc' := 101) (i := 1) (x' := (nf 1)) A693 rfl (by decide) rfl N691 at_100 rfl (fun T695 h695 X695 W695 A695 => ?_)
    have A696 := A694.other W695 ne_b687_b691
    refine Go.iload C X695 (pc' := 103) at_101 rfl rfl ?_
    refine Go.iconst C X695 (pc' := 104) (v := (3 : Int32)) at_103 rfl rfl ?_
    refine Go.icmpNo C X695 (pc' := 107) at_104 (flt (by decide)).1 rfl ?_
    refine Go.aload C X695 (pc' := 109) at_107 rfl rfl rfl ?_
    refine Go.iconst C X695 (pc' := 110) (v := (2 : Int32)) at_109 rfl rfl ?_
    refine Go.aload C X695 (pc' := 112) at_110 rfl rfl rfl ?_
    refine Go.iconst C X695 (pc' := 113) (v := (2 : Int32)) at_112 rfl rfl ?_
    refine Go.baload C X695 (pc' := 114) (i := 2) (w := (nf 2)) A696 rfl (by decide) rfl at_113 rfl ?_
    refine Go.iastore C X695 (pc' := 115) (i := 2) (x' := (nf 2)) A695 rfl (by decide) rfl N691 at_114 rfl (fun T697 h697 X697 W697 A697 => ?_)
    have A698 := A696.other W697 ne_b687_b691
    refine Go.bipush C X697 (pc' := 117) (v := (6 : Int32)) at_115 rfl rfl ?_
    refine Go.newP C X697 (pc' := 119) (nn := 6) (cap := 6) (hw _ (List.mem_of_getElem? (i := 0) rfl)) at_117 rfl (by decide) (by decide) (by decide) (by decide) rfl (fun T699 h699 b699 k699 X699 g699 E699 Ar699 N699 => ?_)
    have ne_b687_b699 : b687 ≠ b699 := Nat.ne_of_lt (Nat.lt_of_lt_of_eq A698.lt g699.symm)
    have ne_b691_b699 : b691 ≠ b699 := Nat.ne_of_lt (Nat.lt_of_lt_of_eq A697.lt g699.symm)
    have A700 := A698.ext E699
    have A701 := A697.ext E699
    have A699 : AI Z h699 b699 .byte 6 (fun _ => 0) := AI.new rfl rfl Ar699
    refine Go.astore C X699 (pc' := 121) (Ls' := #[.val (.long x0), .second, .val (.int x1), .val (.long x2), .second, .val (.int x3), .val (.int (3 : Int32)), .val (.int (3 : Int32)), .val (.ref b687), .val (.ref b691), .val (.ref b699), .unset, .unset]) at_119 rfl rfl rfl ?_
    refine Go.aload C X699 (pc' := 123) at_121 rfl rfl rfl ?_
    refine Go.iconst C X699 (pc' := 124) (v := (0 : Int32)) at_123 rfl rfl ?_
    refine Go.iload C X699 (pc' := 126) at_124 rfl rfl ?_
    refine Go.iconst C X699 (pc' := 127) (v := (0 : Int32)) at_126 rfl rfl ?_
    refine Go.aload C X699 (pc' := 129) at_127 rfl rfl rfl ?_
    refine Go.iload C X699 (pc' := 131) at_129 rfl rfl ?_
    refine Go.lloadN C X699 (pc' := 132) at_131 rfl rfl ?_
    refine Go.callS C X699 (pc' := 135) (W := 2) (argsL := [(.int x3), (.int (0 : Int32)), (.ref b687), (.int (3 : Int32)), (.long x2)]) (rest := [(.int (0 : Int32)), (.ref b699)]) (rm_pk l Z a0 hw x3 (0 : Int32) b687 (3 : Int32) x2 nf 3 h699 n0 X699.sz A700 rfl (by decide)) (hw _ (List.mem_of_getElem? (i := 2) rfl)) (hw _ (List.mem_of_getElem? (i := 3) rfl)) (hw _ (List.mem_of_getElem? (i := 4) rfl)) (hw _ (List.mem_of_getElem? (i := 5) rfl)) (by decide) rfl rfl (lenOf own_pd3 rfl) rfl (Nat.le_of_eq rfl) (by decide) (by decide) (by decide) (by decide) at_132 rfl (fun _ _ q => by obtain ⟨_, _, K, _⟩ := q; exact K.1) (fun T702 h702 v702 X702 P702 => ?_)
    obtain ⟨r702, rfl, K702, Y702_0⟩ := P702
    have A703 := A700.keep K702 nin0
    have A704 := A701.keep K702 nin0
    have A705 := A699.keep K702 nin0
    show Go p e below s n0 _ _ _ T702 (mkF m 135 #[.val (.long x0), .second, .val (.int x1), .val (.long x2), .second, .val (.int x3), .val (.int (3 : Int32)), .val (.int (3 : Int32)), .val (.ref b687), .val (.ref b691), .val (.ref b699), .unset, .unset] [(.int r702), (.int (0 : Int32)), (.ref b699)])
    refine Go.bastore C X702 (pc' := 136) (i := 0) (x' := (nar .byte r702)) A705 rfl (by decide) rfl N699 at_135 rfl (fun T706 h706 X706 W706 A706 => ?_)
    have A707 := A703.other W706 ne_b687_b699
    have A708 := A704.other W706 ne_b691_b699
    refine Go.aload C X706 (pc' := 138) at_136 rfl rfl rfl ?_
    refine Go.iconst C X706 (pc' := 139) (v := (1 : Int32)) at_138 rfl rfl ?_
    refine Go.iload C X706 (pc' := 141) at_139 rfl rfl ?_
    refine Go.iconst C X706 (pc' := 142) (v := (1 : Int32)) at_141 rfl rfl ?_
    refine Go.aload C X706 (pc' := 144) at_142 rfl rfl rfl ?_
    refine Go.iload C X706 (pc' := 146) at_144 rfl rfl ?_
    refine Go.lloadN C X706 (pc' := 147) at_146 rfl rfl ?_
    refine Go.callS C X706 (pc' := 150) (W := 2) (argsL := [(.int x3), (.int (1 : Int32)), (.ref b687), (.int (3 : Int32)), (.long x2)]) (rest := [(.int (1 : Int32)), (.ref b699)]) (rm_pk l Z a0 hw x3 (1 : Int32) b687 (3 : Int32) x2 nf 3 h706 n0 X706.sz A707 rfl (by decide)) (hw _ (List.mem_of_getElem? (i := 2) rfl)) (hw _ (List.mem_of_getElem? (i := 3) rfl)) (hw _ (List.mem_of_getElem? (i := 4) rfl)) (hw _ (List.mem_of_getElem? (i := 5) rfl)) (by decide) rfl rfl (lenOf own_pd3 rfl) rfl (Nat.le_of_eq rfl) (by decide) (by decide) (by decide) (by decide) at_147 rfl (fun _ _ q => by obtain ⟨_, _, K, _⟩ := q; exact K.1) (fun T709 h709 v709 X709 P709 => ?_)
    obtain ⟨r709, rfl, K709, Y709_0⟩ := P709
    have A710 := A707.keep K709 nin0
    have A711 := A708.keep K709 nin0
    have A712 := A706.keep K709 nin0
    show Go p e below s n0 _ _ _ T709 (mkF m 150 #[.val (.long x0), .second, .val (.int x1), .val (.long x2), .second, .val (.int x3), .val (.int (3 : Int32)), .val (.int (3 : Int32)), .val (.ref b687), .val (.ref b691), .val (.ref b699), .unset, .unset] [(.int r709), (.int (1 : Int32)), (.ref b699)])
    refine Go.bastore C X709 (pc' := 151) (i := 1) (x' := (nar .byte r709)) A712 rfl (by decide) rfl N699 at_150 rfl (fun T713 h713 X713 W713 A713 => ?_)
    have A714 := A710.other W713 ne_b687_b699
    have A715 := A711.other W713 ne_b691_b699
    refine Go.aload C X713 (pc' := 153) at_151 rfl rfl rfl ?_
    refine Go.iconst C X713 (pc' := 154) (v := (2 : Int32)) at_153 rfl rfl ?_
    refine Go.iload C X713 (pc' := 156) at_154 rfl rfl ?_
    refine Go.iconst C X713 (pc' := 157) (v := (2 : Int32)) at_156 rfl rfl ?_
    refine Go.aload C X713 (pc' := 159) at_157 rfl rfl rfl ?_
    refine Go.iload C X713 (pc' := 161) at_159 rfl rfl ?_
    refine Go.lloadN C X713 (pc' := 162) at_161 rfl rfl ?_
    refine Go.callS C X713 (pc' := 165) (W := 2) (argsL := [(.int x3), (.int (2 : Int32)), (.ref b687), (.int (3 : Int32)), (.long x2)]) (rest := [(.int (2 : Int32)), (.ref b699)]) (rm_pk l Z a0 hw x3 (2 : Int32) b687 (3 : Int32) x2 nf 3 h713 n0 X713.sz A714 rfl (by decide)) (hw _ (List.mem_of_getElem? (i := 2) rfl)) (hw _ (List.mem_of_getElem? (i := 3) rfl)) (hw _ (List.mem_of_getElem? (i := 4) rfl)) (hw _ (List.mem_of_getElem? (i := 5) rfl)) (by decide) rfl rfl (lenOf own_pd3 rfl) rfl (Nat.le_of_eq rfl) (by decide) (by decide) (by decide) (by decide) at_162 rfl (fun _ _ q => by obtain ⟨_, _, K, _⟩ := q; exact K.1) (fun T716 h716 v716 X716 P716 => ?_)
    obtain ⟨r716, rfl, K716, Y716_0⟩ := P716
    have A717 := A714.keep K716 nin0
    have A718 := A715.keep K716 nin0
    have A719 := A713.keep K716 nin0
    show Go p e below s n0 _ _ _ T716 (mkF m 165 #[.val (.long x0), .second, .val (.int x1), .val (.long x2), .second, .val (.int x3), .val (.int (3 : Int32)), .val (.int (3 : Int32)), .val (.ref b687), .val (.ref b691), .val (.ref b699), .unset, .unset] [(.int r716), (.int (2 : Int32)), (.ref b699)])
    refine Go.bastore C X716 (pc' := 166) (i := 2) (x' := (nar .byte r716)) A719 rfl (by decide) rfl N699 at_165 rfl (fun T720 h720 X720 W720 A720 => ?_)
    have A721 := A717.other W720 ne_b687_b699
    have A722 := A718.other W720 ne_b691_b699
    refine Go.aload C X720 (pc' := 168) at_166 rfl rfl rfl ?_
    refine Go.iconst C X720 (pc' := 169) (v := (3 : Int32)) at_168 rfl rfl ?_
    refine Go.iload C X720 (pc' := 171) at_169 rfl rfl ?_
    refine Go.iconst C X720 (pc' := 172) (v := (3 : Int32)) at_171 rfl rfl ?_
    refine Go.aload C X720 (pc' := 174) at_172 rfl rfl rfl ?_
    refine Go.iload C X720 (pc' := 176) at_174 rfl rfl ?_
    refine Go.lloadN C X720 (pc' := 177) at_176 rfl rfl ?_
    refine Go.callS C X720 (pc' := 180) (W := 2) (argsL := [(.int x3), (.int (3 : Int32)), (.ref b687), (.int (3 : Int32)), (.long x2)]) (rest := [(.int (3 : Int32)), (.ref b699)]) (rm_pk l Z a0 hw x3 (3 : Int32) b687 (3 : Int32) x2 nf 3 h720 n0 X720.sz A721 rfl (by decide)) (hw _ (List.mem_of_getElem? (i := 2) rfl)) (hw _ (List.mem_of_getElem? (i := 3) rfl)) (hw _ (List.mem_of_getElem? (i := 4) rfl)) (hw _ (List.mem_of_getElem? (i := 5) rfl)) (by decide) rfl rfl (lenOf own_pd3 rfl) rfl (Nat.le_of_eq rfl) (by decide) (by decide) (by decide) (by decide) at_177 rfl (fun _ _ q => by obtain ⟨_, _, K, _⟩ := q; exact K.1) (fun T723 h723 v723 X723 P723 => ?_)
    obtain ⟨r723, rfl, K723, Y723_0⟩ := P723
    have A724 := A721.keep K723 nin0
    have A725 := A722.keep K723 nin0
    have A726 := A720.keep K723 nin0
    show Go p e below s n0 _ _ _ T723 (mkF m 180 #[.val (.long x0), .second, .val (.int x1), .val (.long x2), .second, .val (.int x3), .val (.int (3 : Int32)), .val (.int (3 : Int32)), .val (.ref b687), .val (.ref b691), .val (.ref b699), .unset, .unset] [(.int r723), (.int (3 : Int32)), (.ref b699)])
    refine Go.bastore C X723 (pc' := 181) (i := 3) (x' := (nar .byte r723)) A726 rfl (by decide) rfl N699 at_180 rfl (fun T727 h727 X727 W727 A727 => ?_)
    have A728 := A724.other W727 ne_b687_b699
    have A729 := A725.other W727 ne_b691_b699
    refine Go.aload C X727 (pc' := 183) at_181 rfl rfl rfl ?_
    refine Go.iconst C X727 (pc' := 184) (v := (4 : Int32)) at_183 rfl rfl ?_
    refine Go.iload C X727 (pc' := 186) at_184 rfl rfl ?_
    refine Go.iconst C X727 (pc' := 187) (v := (4 : Int32)) at_186 rfl rfl ?_
    refine Go.aload C X727 (pc' := 189) at_187 rfl rfl rfl ?_
    refine Go.iload C X727 (pc' := 191) at_189 rfl rfl ?_
    refine Go.lloadN C X727 (pc' := 192) at_191 rfl rfl ?_
    refine Go.callS C X727 (pc' := 195) (W := 2) (argsL := [(.int x3), (.int (4 : Int32)), (.ref b687), (.int (3 : Int32)), (.long x2)]) (rest := [(.int (4 : Int32)), (.ref b699)]) (rm_pk l Z a0 hw x3 (4 : Int32) b687 (3 : Int32) x2 nf 3 h727 n0 X727.sz A728 rfl (by decide)) (hw _ (List.mem_of_getElem? (i := 2) rfl)) (hw _ (List.mem_of_getElem? (i := 3) rfl)) (hw _ (List.mem_of_getElem? (i := 4) rfl)) (hw _ (List.mem_of_getElem? (i := 5) rfl)) (by decide) rfl rfl (lenOf own_pd3 rfl) rfl (Nat.le_of_eq rfl) (by decide) (by decide) (by decide) (by decide) at_192 rfl (fun _ _ q => by obtain ⟨_, _, K, _⟩ := q; exact K.1) (fun T730 h730 v730 X730 P730 => ?_)
    obtain ⟨r730, rfl, K730, Y730_0⟩ := P730
    have A731 := A728.keep K730 nin0
    have A732 := A729.keep K730 nin0
    have A733 := A727.keep K730 nin0
    show Go p e below s n0 _ _ _ T730 (mkF m 195 #[.val (.long x0), .second, .val (.int x1), .val (.long x2), .second, .val (.int x3), .val (.int (3 : Int32)), .val (.int (3 : Int32)), .val (.ref b687), .val (.ref b691), .val (.ref b699), .unset, .unset] [(.int r730), (.int (4 : Int32)), (.ref b699)])
    refine Go.bastore C X730 (pc' := 196) (i := 4) (x' := (nar .byte r730)) A733 rfl (by decide) rfl N699 at_195 rfl (fun T734 h734 X734 W734 A734 => ?_)
    have A735 := A731.other W734 ne_b687_b699
    have A736 := A732.other W734 ne_b691_b699
    refine Go.aload C X734 (pc' := 198) at_196 rfl rfl rfl ?_
    refine Go.iconst C X734 (pc' := 199) (v := (5 : Int32)) at_198 rfl rfl ?_
    refine Go.iload C X734 (pc' := 201) at_199 rfl rfl ?_
    refine Go.iconst C X734 (pc' := 202) (v := (5 : Int32)) at_201 rfl rfl ?_
    refine Go.aload C X734 (pc' := 204) at_202 rfl rfl rfl ?_
    refine Go.iload C X734 (pc' := 206) at_204 rfl rfl ?_
    refine Go.lloadN C X734 (pc' := 207) at_206 rfl rfl ?_
    refine Go.callS C X734 (pc' := 210) (W := 2) (argsL := [(.int x3), (.int (5 : Int32)), (.ref b687), (.int (3 : Int32)), (.long x2)]) (rest := [(.int (5 : Int32)), (.ref b699)]) (rm_pk l Z a0 hw x3 (5 : Int32) b687 (3 : Int32) x2 nf 3 h734 n0 X734.sz A735 rfl (by decide)) (hw _ (List.mem_of_getElem? (i := 2) rfl)) (hw _ (List.mem_of_getElem? (i := 3) rfl)) (hw _ (List.mem_of_getElem? (i := 4) rfl)) (hw _ (List.mem_of_getElem? (i := 5) rfl)) (by decide) rfl rfl (lenOf own_pd3 rfl) rfl (Nat.le_of_eq rfl) (by decide) (by decide) (by decide) (by decide) at_207 rfl (fun _ _ q => by obtain ⟨_, _, K, _⟩ := q; exact K.1) (fun T737 h737 v737 X737 P737 => ?_)
    obtain ⟨r737, rfl, K737, Y737_0⟩ := P737
    have A738 := A735.keep K737 nin0
    have A739 := A736.keep K737 nin0
    have A740 := A734.keep K737 nin0
    show Go p e below s n0 _ _ _ T737 (mkF m 210 #[.val (.long x0), .second, .val (.int x1), .val (.long x2), .second, .val (.int x3), .val (.int (3 : Int32)), .val (.int (3 : Int32)), .val (.ref b687), .val (.ref b691), .val (.ref b699), .unset, .unset] [(.int r737), (.int (5 : Int32)), (.ref b699)])
    refine Go.bastore C X737 (pc' := 211) (i := 5) (x' := (nar .byte r737)) A740 rfl (by decide) rfl N699 at_210 rfl (fun T741 h741 X741 W741 A741 => ?_)
    have A742 := A738.other W741 ne_b687_b699
    have A743 := A739.other W741 ne_b691_b699
    obtain ⟨tf, htf, A211⟩ : ∃ f : Nat → Int32, (∀ q, -128 ≤ (f q).toInt ∧ (f q).toInt ≤ 127) ∧ AI Z h741 b699 .byte 6 f := ⟨_, (own_upd (R := fun z => -128 ≤ z.toInt ∧ z.toInt ≤ 127) (own_upd (R := fun z => -128 ≤ z.toInt ∧ z.toInt ≤ 127) (own_upd (R := fun z => -128 ≤ z.toInt ∧ z.toInt ≤ 127) (own_upd (R := fun z => -128 ≤ z.toInt ∧ z.toInt ≤ 127) (own_upd (R := fun z => -128 ≤ z.toInt ∧ z.toInt ≤ 127) (own_upd (R := fun z => -128 ≤ z.toInt ∧ z.toInt ≤ 127) (fun _ => by decide) (own_i2b _)) (own_i2b _)) (own_i2b _)) (own_i2b _)) (own_i2b _)) (own_i2b _)), A741⟩
    refine Go.newO C X741 (pc' := 214) (hw _ (List.mem_of_getElem? (i := 6) rfl)) (hw _ (List.mem_of_getElem? (i := 7) rfl)) (hw _ (List.mem_of_getElem? (i := 8) rfl)) at_211 (by decide) (by decide) rfl (fun T744 h744 b744 X744 g744 E744 Ex744 D744 N744 => ?_)
    have ne_b687_b744 : b687 ≠ b744 := Nat.ne_of_lt (Nat.lt_of_lt_of_eq A742.lt g744.symm)
    have ne_b691_b744 : b691 ≠ b744 := Nat.ne_of_lt (Nat.lt_of_lt_of_eq A743.lt g744.symm)
    have ne_b699_b744 : b699 ≠ b744 := Nat.ne_of_lt (Nat.lt_of_lt_of_eq A211.lt g744.symm)
    have A745 := A742.ext E744
    have A746 := A743.ext E744
    have A747 := A211.ext E744
    have F748 : Fld Z h744 b744 "com/example/needlewright/needlewright/ByteMatcher" "automaton" "Lcom/example/needlewright/needlewright/Automaton;" .null := D744 (Or.inr (hw _ (List.mem_of_getElem? (i := 42) rfl))) (ty := (.object "com/example/needlewright/needlewright/Automaton")) (by decide)
    have F749 : Fld Z h744 b744 "com/example/needlewright/needlewright/ByteMatcher" "hasSecond" "Z" (.int (0 : Int32)) := D744 (Or.inr (hw _ (List.mem_of_getElem? (i := 45) rfl))) (ty := .boolean) (by decide)
    have F750 : Fld Z h744 b744 "com/example/needlewright/needlewright/ByteMatcher" "firstInEachByte" "J" (.long (0 : Int64)) := D744 (Or.inr (hw _ (List.mem_of_getElem? (i := 50) rfl))) (ty := .long) (by decide)
    have F751 : Fld Z h744 b744 "com/example/needlewright/needlewright/ByteMatcher" "secondInEachByte" "J" (.long (0 : Int64)) := D744 (Or.inr (hw _ (List.mem_of_getElem? (i := 52) rfl))) (ty := .long) (by decide)
    have F752 : Fld Z h744 b744 "com/example/needlewright/needlewright/ByteMatcher" "matched" "I" (.int (0 : Int32)) := D744 (Or.inl (hw _ (List.mem_of_getElem? (i := 59) rfl))) (ty := .int) (by decide)
    have F753 : Fld Z h744 b744 "com/example/needlewright/needlewright/ByteMatcher" "fed" "J" (.long (0 : Int64)) := D744 (Or.inl (hw _ (List.mem_of_getElem? (i := 62) rfl))) (ty := .long) (by decide)
    refine Go.dup C X744 (pc' := 215) at_214 rfl rfl ?_
    refine Go.newO C X744 (pc' := 218) (hw _ (List.mem_of_getElem? (i := 9) rfl)) (hw _ (List.mem_of_getElem? (i := 10) rfl)) (hw _ (List.mem_of_getElem? (i := 11) rfl)) at_215 (by decide) (by decide) rfl (fun T754 h754 b754 X754 g754 E754 Ex754 D754 N754 => ?_)
    have ne_b687_b754 : b687 ≠ b754 := Nat.ne_of_lt (Nat.lt_of_lt_of_eq A745.lt g754.symm)
    have ne_b691_b754 : b691 ≠ b754 := Nat.ne_of_lt (Nat.lt_of_lt_of_eq A746.lt g754.symm)
    have ne_b699_b754 : b699 ≠ b754 := Nat.ne_of_lt (Nat.lt_of_lt_of_eq A747.lt g754.symm)
    have ne_b744_b754 : b744 ≠ b754 := Nat.ne_of_lt (Nat.lt_of_lt_of_eq Ex744.lt g754.symm)
    have A755 := A745.ext E754
    have A756 := A746.ext E754
    have A757 := A747.ext E754
    have E758 := Ex744.ext E754
    have F759 := F748.ext E754
    have F760 := F749.ext E754
    have F761 := F750.ext E754
    have F762 := F751.ext E754
    have F763 := F752.ext E754
    have F764 := F753.ext E754
    have F765 : Fld Z h754 b754 "com/example/needlewright/needlewright/Automaton" "units" "[I" .null := D754 (Or.inr (hw _ (List.mem_of_getElem? (i := 20) rfl))) (ty := (.array .int)) (by decide)
    have F766 : Fld Z h754 b754 "com/example/needlewright/needlewright/Automaton" "borders" "[I" .null := D754 (Or.inr (hw _ (List.mem_of_getElem? (i := 22) rfl))) (ty := (.array .int)) (by decide)
    refine Go.dup C X754 (pc' := 219) at_218 rfl rfl ?_
    refine Go.aload C X754 (pc' := 221) at_219 rfl rfl rfl ?_
    refine Go.callI C X754 (pc' := 224) (W := 3) (argsL := [(.ref b691)]) (rest := [(.ref b754), (.ref b744), (.ref b744)]) (a := b754) (rm_au l Z a0 hw b754 b691 4 (fun q => if q = 2 then (nf 2) else (fun q => if q = 1 then (nf 1) else (fun q => if q = 0 then (nf 0) else (fun _ => 0) q) q) q) (4 : Int32) h754 n0 X754.sz Ex754 F765 F766 N754 N691 A756 (Ne.symm ne_b691_b754) rfl (by decide) (by decide)) rfl rfl (hw _ (List.mem_of_getElem? (i := 12) rfl)) (hw _ (List.mem_of_getElem? (i := 13) rfl)) (hw _ (List.mem_of_getElem? (i := 11) rfl)) (hw _ (List.mem_of_getElem? (i := 14) rfl)) (by decide) rfl rfl (lenOf own_pd4 rfl) rfl (Nat.le_of_eq rfl) (by decide) (by decide) (by decide) (by decide) at_221 rfl (fun _ _ q => by obtain ⟨_, _, _, _, K, _⟩ := q; exact K.1) (fun T767 h767 v767 X767 P767 => ?_)
    obtain ⟨t2767, b1767, rfl, D767_t2, K767, O767_0, O767_1, O767_2, O767_3, O767_4, O767_5, O767_6, Y767_0⟩ := P767
    have ne_b687_t2767 : b687 ≠ t2767 := Nat.ne_of_lt (Nat.lt_of_lt_of_le A755.lt D767_t2)
    have ne_b691_t2767 : b691 ≠ t2767 := Nat.ne_of_lt (Nat.lt_of_lt_of_le A756.lt D767_t2)
    have ne_b699_t2767 : b699 ≠ t2767 := Nat.ne_of_lt (Nat.lt_of_lt_of_le A757.lt D767_t2)
    have ne_b744_t2767 : b744 ≠ t2767 := Nat.ne_of_lt (Nat.lt_of_lt_of_le E758.lt D767_t2)
    have ne_b754_t2767 : b754 ≠ t2767 := Nat.ne_of_lt (Nat.lt_of_lt_of_le Ex754.lt D767_t2)
    have N_t2767 : n0 ≤ t2767 := Nat.le_trans X754.sz D767_t2
    have A768 := A755.keep K767 (ninS ne_b687_b754 (ninS ne_b687_b691 nin0))
    have A769 := A757.keep K767 (ninS ne_b699_b754 (ninS (Ne.symm ne_b691_b699) nin0))
    have E770 := E758.keep K767
    have F771 := F759.keep K767 (ninS ne_b744_b754 (ninS (Ne.symm ne_b691_b744) nin0))
    have F772 := F760.keep K767 (ninS ne_b744_b754 (ninS (Ne.symm ne_b691_b744) nin0))
    have F773 := F761.keep K767 (ninS ne_b744_b754 (ninS (Ne.symm ne_b691_b744) nin0))
    have F774 := F762.keep K767 (ninS ne_b744_b754 (ninS (Ne.symm ne_b691_b744) nin0))
    have F775 := F763.keep K767 (ninS ne_b744_b754 (ninS (Ne.symm ne_b691_b744) nin0))
    have F776 := F764.keep K767 (ninS ne_b744_b754 (ninS (Ne.symm ne_b691_b744) nin0))
    have E777 := Ex754.keep K767
    show Go p e below s n0 _ _ _ T767 (mkF m 224 #[.val (.long x0), .second, .val (.int x1), .val (.long x2), .second, .val (.int x3), .val (.int (3 : Int32)), .val (.int (3 : Int32)), .val (.ref b687), .val (.ref b691), .val (.ref b699), .unset, .unset] [(.ref b754), (.ref b744), (.ref b744)])
    refine Go.callI C X767 (pc' := 227) (W := 1) (argsL := [(.ref b754)]) (rest := [(.ref b744)]) (a := b744) (rm_bm l Z a0 hw b744 b754 b691 4 (fun q => if q = (4 - 1) then (-2147483648 : Int32) else (fun q => if q = 2 then (nf 2) else (fun q => if q = 1 then (nf 1) else (fun q => if q = 0 then (nf 0) else (fun _ => 0) q) q) q) q) (4 : Int32) h767 n0 X767.sz E770 F771 F772 F773 F774 F775 F776 N744 O767_0 O767_1 O767_3 (Ne.symm ne_b744_b754) ne_b691_b744 rfl (by decide) (by decide)) rfl rfl (hw _ (List.mem_of_getElem? (i := 37) rfl)) (hw _ (List.mem_of_getElem? (i := 38) rfl)) (hw _ (List.mem_of_getElem? (i := 8) rfl)) (hw _ (List.mem_of_getElem? (i := 39) rfl)) (by decide) rfl rfl (lenOf own_pd5 rfl) rfl (Nat.le_of_eq rfl) (by decide) (by decide) (by decide) (by decide) at_224 rfl (fun _ _ q => by obtain ⟨_, K, _⟩ := q; exact K.1) (fun T778 h778 v778 X778 P778 => ?_)
    obtain ⟨rfl, K778, O778_0, O778_1, O778_2, O778_3⟩ := P778
    have A779 := A768.keep K778 (ninS ne_b687_b744 nin0)
    have A780 := A769.keep K778 (ninS ne_b699_b744 nin0)
    have E781 := E770.keep K778
    have E782 := O767_0.keep K778
    have F783 := O767_1.keep K778 (ninS (Ne.symm ne_b744_b754) nin0)
    have F784 := O767_2.keep K778 (ninS (Ne.symm ne_b744_b754) nin0)
    have A785 := O767_3.keep K778 (ninS ne_b691_b744 nin0)
    have A786 := O767_4.keep K778 (ninS (Ne.symm ne_b744_t2767) nin0)
    show Go p e below s n0 _ _ _ T778 (mkF m 227 #[.val (.long x0), .second, .val (.int x1), .val (.long x2), .second, .val (.int x3), .val (.int (3 : Int32)), .val (.int (3 : Int32)), .val (.ref b687), .val (.ref b691), .val (.ref b699), .unset, .unset] [(.ref b744)])
    refine Go.astore C X778 (pc' := 229) (Ls' := #[.val (.long x0), .second, .val (.int x1), .val (.long x2), .second, .val (.int x3), .val (.int (3 : Int32)), .val (.int (3 : Int32)), .val (.ref b687), .val (.ref b691), .val (.ref b699), .val (.ref b744), .unset]) at_227 rfl rfl rfl ?_
    refine Go.iconst C X778 (pc' := 230) (v := (1 : Int32)) at_229 rfl rfl ?_
    refine Go.istore C X778 (pc' := 232) (Ls' := #[.val (.long x0), .second, .val (.int x1), .val (.long x2), .second, .val (.int x3), .val (.int (3 : Int32)), .val (.int (3 : Int32)), .val (.ref b687), .val (.ref b691), .val (.ref b699), .val (.ref b744), .val (.int (1 : Int32))]) at_230 rfl rfl ?_
    have M0 : own_M (fun q => if q = (4 - 1) then (-2147483648 : Int32) else (fun q => if q = 2 then (nf 2) else (fun q => if q = 1 then (nf 1) else (fun q => if q = 0 then (nf 0) else (fun _ => 0) q) q) q) q) tf 3 0 0 := own_M0 _ _ _
    refine Go.iload C X778 (pc' := 234) at_232 rfl rfl ?_
    refine Go.aload C X778 (pc' := 236) at_234 rfl rfl rfl ?_
    refine Go.aload C X778 (pc' := 238) at_236 rfl rfl rfl ?_
    refine Go.iconst C X778 (pc' := 239) (v := (0 : Int32)) at_238 rfl rfl ?_
    refine Go.baload C X778 (pc' := 240) (i := 0) (w := (tf 0)) A780 rfl (by decide) rfl at_239 rfl ?_
    refine Go.callV C X778 (pc' := 243) (W := 1) (argsL := [(.int (tf 0))]) (rest := [(.int (1 : Int32))]) (a := b744) (rm_fd l Z a0 hw b744 (tf 0) b754 b691 t2767 4 (fun q => if q = (4 - 1) then (-2147483648 : Int32) else (fun q => if q = 2 then (nf 2) else (fun q => if q = 1 then (nf 1) else (fun q => if q = 0 then (nf 0) else (fun _ => 0) q) q) q) q) b1767 0 (0 : Int64) (4 : Int32) h778 n0 X778.sz O778_0 O778_1 O778_2 O778_3 N744 E782 F783 F784 A785 A786 (Ne.symm ne_b744_b754) ne_b691_b744 (Ne.symm ne_b744_t2767) rfl (by decide) (by decide) (by have := M0.1; omega) Y767_0) O778_0 (notFace_of_selects (args := #[]) (mvT C.2.1 (hw _ (List.mem_of_getElem? (i := 56) rfl)))) (hw _ (List.mem_of_getElem? (i := 53) rfl)) (hw _ (List.mem_of_getElem? (i := 54) rfl)) (hw _ (List.mem_of_getElem? (i := 56) rfl)) (hw _ (List.mem_of_getElem? (i := 55) rfl)) (hw _ (List.mem_of_getElem? (i := 8) rfl)) (hw _ (List.mem_of_getElem? (i := 57) rfl)) (by decide) rfl rfl (lenOf own_pd6 rfl) rfl (Nat.le_of_eq rfl) (by decide) (by decide) (by decide) (by decide) at_240 rfl (fun _ _ q => by obtain ⟨_, K, _⟩ := q; exact K.1) (fun T787 h787 v787 X787 P787 => ?_)
    obtain ⟨rfl, K787, O787_0, O787_1, O787_2, O787_3⟩ := P787
    have A788 := A779.keep K787 (ninS ne_b687_b744 nin0)
    have A789 := A780.keep K787 (ninS ne_b699_b744 nin0)
    have E790 := O778_0.keep K787
    have E791 := E782.keep K787
    have F792 := F783.keep K787 (ninS (Ne.symm ne_b744_b754) nin0)
    have F793 := F784.keep K787 (ninS (Ne.symm ne_b744_b754) nin0)
    have A794 := A785.keep K787 (ninS ne_b691_b744 nin0)
    have A795 := A786.keep K787 (ninS (Ne.symm ne_b744_t2767) nin0)
    have M1 : own_M (fun q => if q = (4 - 1) then (-2147483648 : Int32) else (fun q => if q = 2 then (nf 2) else (fun q => if q = 1 then (nf 1) else (fun q => if q = 0 then (nf 0) else (fun _ => 0) q) q) q) q) tf 3 1 (own_nx (fun q => if q = (4 - 1) then (-2147483648 : Int32) else (fun q => if q = 2 then (nf 2) else (fun q => if q = 1 then (nf 1) else (fun q => if q = 0 then (nf 0) else (fun _ => 0) q) q) q) q) b1767 (tf 0) 0) := own_Mstep (fun q a d => Y767_0 q a (by omega)) M0 (own_notmin (htf 0) (own_ag3 nf).2)
    show Go p e below s n0 _ _ _ T787 (mkF m 243 #[.val (.long x0), .second, .val (.int x1), .val (.long x2), .second, .val (.int x3), .val (.int (3 : Int32)), .val (.int (3 : Int32)), .val (.ref b687), .val (.ref b691), .val (.ref b699), .val (.ref b744), .val (.int (1 : Int32))] [(.long (if (own_nx (fun q => if q = (4 - 1) then (-2147483648 : Int32) else (fun q => if q = 2 then (nf 2) else (fun q => if q = 1 then (nf 1) else (fun q => if q = 0 then (nf 0) else (fun _ => 0) q) q) q) q) b1767 (tf 0) 0) = 4 - 1 then (((0 : Int64) + (1 : Int64)) - (Int32.ofNat (own_nx (fun q => if q = (4 - 1) then (-2147483648 : Int32) else (fun q => if q = 2 then (nf 2) else (fun q => if q = 1 then (nf 1) else (fun q => if q = 0 then (nf 0) else (fun _ => 0) q) q) q) q) b1767 (tf 0) 0)).toInt64) else (-1 : Int64))), (.int (1 : Int32))])
    refine Go.aload C X787 (pc' := 245) at_243 rfl rfl rfl ?_
    refine Go.iconst C X787 (pc' := 246) (v := (1 : Int32)) at_245 rfl rfl ?_
    refine Go.aload C X787 (pc' := 248) at_246 rfl rfl rfl ?_
    refine Go.iload C X787 (pc' := 250) at_248 rfl rfl ?_
    refine Go.callS C X787 (pc' := 253) (W := 3) (argsL := [(.ref b699), (.int (1 : Int32)), (.ref b687), (.int (3 : Int32))]) (rest := [(.long (if (own_nx (fun q => if q = (4 - 1) then (-2147483648 : Int32) else (fun q => if q = 2 then (nf 2) else (fun q => if q = 1 then (nf 1) else (fun q => if q = 0 then (nf 0) else (fun _ => 0) q) q) q) q) b1767 (tf 0) 0) = 4 - 1 then (((0 : Int64) + (1 : Int64)) - (Int32.ofNat (own_nx (fun q => if q = (4 - 1) then (-2147483648 : Int32) else (fun q => if q = 2 then (nf 2) else (fun q => if q = 1 then (nf 1) else (fun q => if q = 0 then (nf 0) else (fun _ => 0) q) q) q) q) b1767 (tf 0) 0)).toInt64) else (-1 : Int64))), (.int (1 : Int32))]) (rm_ex3 l Z a0 hw b699 (1 : Int32) b687 (3 : Int32) tf nf 1 h787 n0 X787.sz A789 A788 rfl rfl (by decide)) (hw _ (List.mem_of_getElem? (i := 64) rfl)) (hw _ (List.mem_of_getElem? (i := 65) rfl)) (hw _ (List.mem_of_getElem? (i := 4) rfl)) (hw _ (List.mem_of_getElem? (i := 66) rfl)) (by decide) rfl rfl (lenOf own_pd7 rfl) rfl (Nat.le_of_eq rfl) (by decide) (by decide) (by decide) (by decide) at_250 rfl (fun _ _ q => Nat.le_of_eq (congrArg Array.size q.2)) (fun T796 h796 v796 X796 P796 => ?_)
    obtain ⟨rfl, rfl⟩ := P796
    show Go p e below s n0 _ _ _ T796 (mkF m 253 #[.val (.long x0), .second, .val (.int x1), .val (.long x2), .second, .val (.int x3), .val (.int (3 : Int32)), .val (.int (3 : Int32)), .val (.ref b687), .val (.ref b691), .val (.ref b699), .val (.ref b744), .val (.int (1 : Int32))] [(.long (if own_S nf tf 1 3 then Int64.ofNat (1 - 3) else (-1 : Int64))), (.long (if (own_nx (fun q => if q = (4 - 1) then (-2147483648 : Int32) else (fun q => if q = 2 then (nf 2) else (fun q => if q = 1 then (nf 1) else (fun q => if q = 0 then (nf 0) else (fun _ => 0) q) q) q) q) b1767 (tf 0) 0) = 4 - 1 then (((0 : Int64) + (1 : Int64)) - (Int32.ofNat (own_nx (fun q => if q = (4 - 1) then (-2147483648 : Int32) else (fun q => if q = 2 then (nf 2) else (fun q => if q = 1 then (nf 1) else (fun q => if q = 0 then (nf 0) else (fun _ => 0) q) q) q) q) b1767 (tf 0) 0)).toInt64) else (-1 : Int64))), (.int (1 : Int32))])
    refine Go.lcmp C X796 (pc' := 254) at_253 rfl ?_
    refine Go.ifNo C X796 (pc' := 257) at_254 ((if0 _ _).trans (teq ((lw_eq _ _).mpr (own_ans M1 (by decide) (own_ag3 nf).1 rfl (by decide)))).2) rfl ?_
    refine Go.iconst C X796 (pc' := 258) (v := (1 : Int32)) at_257 rfl rfl ?_
    refine Go.goto C X796 (pc' := 262) at_258 (by decide) (by decide) ?_
    refine Go.iand C X796 (pc' := 263) at_262 rfl ?_
    refine Go.istore C X796 (pc' := 265) (Ls' := #[.val (.long x0), .second, .val (.int x1), .val (.long x2), .second, .val (.int x3), .val (.int (3 : Int32)), .val (.int (3 : Int32)), .val (.ref b687), .val (.ref b691), .val (.ref b699), .val (.ref b744), .val (.int ((1 : Int32) &&& (1 : Int32)))]) at_263 rfl rfl ?_
    refine Go.iload C X796 (pc' := 267) at_265 rfl rfl ?_
    refine Go.aload C X796 (pc' := 269) at_267 rfl rfl rfl ?_
    refine Go.aload C X796 (pc' := 271) at_269 rfl rfl rfl ?_
    refine Go.iconst C X796 (pc' := 272) (v := (1 : Int32)) at_271 rfl rfl ?_
    refine Go.baload C X796 (pc' := 273) (i := 1) (w := (tf 1)) A789 rfl (by decide) rfl at_272 rfl ?_
    refine Go.callV C X796 (pc' := 276) (W := 1) (argsL := [(.int (tf 1))]) (rest := [(.int ((1 : Int32) &&& (1 : Int32)))]) (a := b744) (rm_fd l Z a0 hw b744 (tf 1) b754 b691 t2767 4 (fun q => if q = (4 - 1) then (-2147483648 : Int32) else (fun q => if q = 2 then (nf 2) else (fun q => if q = 1 then (nf 1) else (fun q => if q = 0 then (nf 0) else (fun _ => 0) q) q) q) q) b1767 (own_nx (fun q => if q = (4 - 1) then (-2147483648 : Int32) else (fun q => if q = 2 then (nf 2) else (fun q => if q = 1 then (nf 1) else (fun q => if q = 0 then (nf 0) else (fun _ => 0) q) q) q) q) b1767 (tf 0) 0) ((0 : Int64) + (1 : Int64)) (4 : Int32) h787 n0 X796.sz O787_0 O787_1 O787_2 O787_3 N744 E791 F792 F793 A794 A795 (Ne.symm ne_b744_b754) ne_b691_b744 (Ne.symm ne_b744_t2767) rfl (by decide) (by decide) (by have := M1.1; omega) Y767_0) O787_0 (notFace_of_selects (args := #[]) (mvT C.2.1 (hw _ (List.mem_of_getElem? (i := 56) rfl)))) (hw _ (List.mem_of_getElem? (i := 53) rfl)) (hw _ (List.mem_of_getElem? (i := 54) rfl)) (hw _ (List.mem_of_getElem? (i := 56) rfl)) (hw _ (List.mem_of_getElem? (i := 55) rfl)) (hw _ (List.mem_of_getElem? (i := 8) rfl)) (hw _ (List.mem_of_getElem? (i := 57) rfl)) (by decide) rfl rfl (lenOf own_pd6 rfl) rfl (Nat.le_of_eq rfl) (by decide) (by decide) (by decide) (by decide) at_273 rfl (fun _ _ q => by obtain ⟨_, K, _⟩ := q; exact K.1) (fun T797 h797 v797 X797 P797 => ?_)
    obtain ⟨rfl, K797, O797_0, O797_1, O797_2, O797_3⟩ := P797
    have A798 := A788.keep K797 (ninS ne_b687_b744 nin0)
    have A799 := A789.keep K797 (ninS ne_b699_b744 nin0)
    have E800 := O787_0.keep K797
    have E801 := E791.keep K797
    have F802 := F792.keep K797 (ninS (Ne.symm ne_b744_b754) nin0)
    have F803 := F793.keep K797 (ninS (Ne.symm ne_b744_b754) nin0)
    have A804 := A794.keep K797 (ninS ne_b691_b744 nin0)
    have A805 := A795.keep K797 (ninS (Ne.symm ne_b744_t2767) nin0)
    have M2 : own_M (fun q => if q = (4 - 1) then (-2147483648 : Int32) else (fun q => if q = 2 then (nf 2) else (fun q => if q = 1 then (nf 1) else (fun q => if q = 0 then (nf 0) else (fun _ => 0) q) q) q) q) tf 3 2 (own_nx (fun q => if q = (4 - 1) then (-2147483648 : Int32) else (fun q => if q = 2 then (nf 2) else (fun q => if q = 1 then (nf 1) else (fun q => if q = 0 then (nf 0) else (fun _ => 0) q) q) q) q) b1767 (tf 1) (own_nx (fun q => if q = (4 - 1) then (-2147483648 : Int32) else (fun q => if q = 2 then (nf 2) else (fun q => if q = 1 then (nf 1) else (fun q => if q = 0 then (nf 0) else (fun _ => 0) q) q) q) q) b1767 (tf 0) 0)) := own_Mstep (fun q a d => Y767_0 q a (by omega)) M1 (own_notmin (htf 1) (own_ag3 nf).2)
    show Go p e below s n0 _ _ _ T797 (mkF m 276 #[.val (.long x0), .second, .val (.int x1), .val (.long x2), .second, .val (.int x3), .val (.int (3 : Int32)), .val (.int (3 : Int32)), .val (.ref b687), .val (.ref b691), .val (.ref b699), .val (.ref b744), .val (.int ((1 : Int32) &&& (1 : Int32)))] [(.long (if (own_nx (fun q => if q = (4 - 1) then (-2147483648 : Int32) else (fun q => if q = 2 then (nf 2) else (fun q => if q = 1 then (nf 1) else (fun q => if q = 0 then (nf 0) else (fun _ => 0) q) q) q) q) b1767 (tf 1) (own_nx (fun q => if q = (4 - 1) then (-2147483648 : Int32) else (fun q => if q = 2 then (nf 2) else (fun q => if q = 1 then (nf 1) else (fun q => if q = 0 then (nf 0) else (fun _ => 0) q) q) q) q) b1767 (tf 0) 0)) = 4 - 1 then ((((0 : Int64) + (1 : Int64)) + (1 : Int64)) - (Int32.ofNat (own_nx (fun q => if q = (4 - 1) then (-2147483648 : Int32) else (fun q => if q = 2 then (nf 2) else (fun q => if q = 1 then (nf 1) else (fun q => if q = 0 then (nf 0) else (fun _ => 0) q) q) q) q) b1767 (tf 1) (own_nx (fun q => if q = (4 - 1) then (-2147483648 : Int32) else (fun q => if q = 2 then (nf 2) else (fun q => if q = 1 then (nf 1) else (fun q => if q = 0 then (nf 0) else (fun _ => 0) q) q) q) q) b1767 (tf 0) 0))).toInt64) else (-1 : Int64))), (.int ((1 : Int32) &&& (1 : Int32)))])
    refine Go.aload C X797 (pc' := 278) at_276 rfl rfl rfl ?_
    refine Go.iconst C X797 (pc' := 279) (v := (2 : Int32)) at_278 rfl rfl ?_
    refine Go.aload C X797 (pc' := 281) at_279 rfl rfl rfl ?_
    refine Go.iload C X797 (pc' := 283) at_281 rfl rfl ?_
    refine Go.callS C X797 (pc' := 286) (W := 3) (argsL := [(.ref b699), (.int (2 : Int32)), (.ref b687), (.int (3 : Int32))]) (rest := [(.long (if (own_nx (fun q => if q = (4 - 1) then (-2147483648 : Int32) else (fun q => if q = 2 then (nf 2) else (fun q => if q = 1 then (nf 1) else (fun q => if q = 0 then (nf 0) else (fun _ => 0) q) q) q) q) b1767 (tf 1) (own_nx (fun q => if q = (4 - 1) then (-2147483648 : Int32) else (fun q => if q = 2 then (nf 2) else (fun q => if q = 1 then (nf 1) else (fun q => if q = 0 then (nf 0) else (fun _ => 0) q) q) q) q) b1767 (tf 0) 0)) = 4 - 1 then ((((0 : Int64) + (1 : Int64)) + (1 : Int64)) - (Int32.ofNat (own_nx (fun q => if q = (4 - 1) then (-2147483648 : Int32) else (fun q => if q = 2 then (nf 2) else (fun q => if q = 1 then (nf 1) else (fun q => if q = 0 then (nf 0) else (fun _ => 0) q) q) q) q) b1767 (tf 1) (own_nx (fun q => if q = (4 - 1) then (-2147483648 : Int32) else (fun q => if q = 2 then (nf 2) else (fun q => if q = 1 then (nf 1) else (fun q => if q = 0 then (nf 0) else (fun _ => 0) q) q) q) q) b1767 (tf 0) 0))).toInt64) else (-1 : Int64))), (.int ((1 : Int32) &&& (1 : Int32)))]) (rm_ex3 l Z a0 hw b699 (2 : Int32) b687 (3 : Int32) tf nf 2 h797 n0 X797.sz A799 A798 rfl rfl (by decide)) (hw _ (List.mem_of_getElem? (i := 64) rfl)) (hw _ (List.mem_of_getElem? (i := 65) rfl)) (hw _ (List.mem_of_getElem? (i := 4) rfl)) (hw _ (List.mem_of_getElem? (i := 66) rfl)) (by decide) rfl rfl (lenOf own_pd7 rfl) rfl (Nat.le_of_eq rfl) (by decide) (by decide) (by decide) (by decide) at_283 rfl (fun _ _ q => Nat.le_of_eq (congrArg Array.size q.2)) (fun T806 h806 v806 X806 P806 => ?_)
    obtain ⟨rfl, rfl⟩ := P806
    show Go p e below s n0 _ _ _ T806 (mkF m 286 #[.val (.long x0), .second, .val (.int x1), .val (.long x2), .second, .val (.int x3), .val (.int (3 : Int32)), .val (.int (3 : Int32)), .val (.ref b687), .val (.ref b691), .val (.ref b699), .val (.ref b744), .val (.int ((1 : Int32) &&& (1 : Int32)))] [(.long (if own_S nf tf 2 3 then Int64.ofNat (2 - 3) else (-1 : Int64))), (.long (if (own_nx (fun q => if q = (4 - 1) then (-2147483648 : Int32) else (fun q => if q = 2 then (nf 2) else (fun q => if q = 1 then (nf 1) else (fun q => if q = 0 then (nf 0) else (fun _ => 0) q) q) q) q) b1767 (tf 1) (own_nx (fun q => if q = (4 - 1) then (-2147483648 : Int32) else (fun q => if q = 2 then (nf 2) else (fun q => if q = 1 then (nf 1) else (fun q => if q = 0 then (nf 0) else (fun _ => 0) q) q) q) q) b1767 (tf 0) 0)) = 4 - 1 then ((((0 : Int64) + (1 : Int64)) + (1 : Int64)) - (Int32.ofNat (own_nx (fun q => if q = (4 - 1) then (-2147483648 : Int32) else (fun q => if q = 2 then (nf 2) else (fun q => if q = 1 then (nf 1) else (fun q => if q = 0 then (nf 0) else (fun _ => 0) q) q) q) q) b1767 (tf 1) (own_nx (fun q => if q = (4 - 1) then (-2147483648 : Int32) else (fun q => if q = 2 then (nf 2) else (fun q => if q = 1 then (nf 1) else (fun q => if q = 0 then (nf 0) else (fun _ => 0) q) q) q) q) b1767 (tf 0) 0))).toInt64) else (-1 : Int64))), (.int ((1 : Int32) &&& (1 : Int32)))])
    refine Go.lcmp C X806 (pc' := 287) at_286 rfl ?_
    refine Go.ifNo C X806 (pc' := 290) at_287 ((if0 _ _).trans (teq ((lw_eq _ _).mpr (own_ans M2 (by decide) (own_ag3 nf).1 rfl (by decide)))).2) rfl ?_
    refine Go.iconst C X806 (pc' := 291) (v := (1 : Int32)) at_290 rfl rfl ?_
    refine Go.goto C X806 (pc' := 295) at_291 (by decide) (by decide) ?_
    refine Go.iand C X806 (pc' := 296) at_295 rfl ?_
    refine Go.istore C X806 (pc' := 298) (Ls' := #[.val (.long x0), .second, .val (.int x1), .val (.long x2), .second, .val (.int x3), .val (.int (3 : Int32)), .val (.int (3 : Int32)), .val (.ref b687), .val (.ref b691), .val (.ref b699), .val (.ref b744), .val (.int (((1 : Int32) &&& (1 : Int32)) &&& (1 : Int32)))]) at_296 rfl rfl ?_
    refine Go.iload C X806 (pc' := 300) at_298 rfl rfl ?_
    refine Go.aload C X806 (pc' := 302) at_300 rfl rfl rfl ?_
    refine Go.aload C X806 (pc' := 304) at_302 rfl rfl rfl ?_
    refine Go.iconst C X806 (pc' := 305) (v := (2 : Int32)) at_304 rfl rfl ?_
    refine Go.baload C X806 (pc' := 306) (i := 2) (w := (tf 2)) A799 rfl (by decide) rfl at_305 rfl ?_
    refine Go.callV C X806 (pc' := 309) (W := 1) (argsL := [(.int (tf 2))]) (rest := [(.int (((1 : Int32) &&& (1 : Int32)) &&& (1 : Int32)))]) (a := b744) (rm_fd l Z a0 hw b744 (tf 2) b754 b691 t2767 4 (fun q => if q = (4 - 1) then (-2147483648 : Int32) else (fun q => if q = 2 then (nf 2) else (fun q => if q = 1 then (nf 1) else (fun q => if q = 0 then (nf 0) else (fun _ => 0) q) q) q) q) b1767 (own_nx (fun q => if q = (4 - 1) then (-2147483648 : Int32) else (fun q => if q = 2 then (nf 2) else (fun q => if q = 1 then (nf 1) else (fun q => if q = 0 then (nf 0) else (fun _ => 0) q) q) q) q) b1767 (tf 1) (own_nx (fun q => if q = (4 - 1) then (-2147483648 : Int32) else (fun q => if q = 2 then (nf 2) else (fun q => if q = 1 then (nf 1) else (fun q => if q = 0 then (nf 0) else (fun _ => 0) q) q) q) q) b1767 (tf 0) 0)) (((0 : Int64) + (1 : Int64)) + (1 : Int64)) (4 : Int32) h797 n0 X806.sz O797_0 O797_1 O797_2 O797_3 N744 E801 F802 F803 A804 A805 (Ne.symm ne_b744_b754) ne_b691_b744 (Ne.symm ne_b744_t2767) rfl (by decide) (by decide) (by have := M2.1; omega) Y767_0) O797_0 (notFace_of_selects (args := #[]) (mvT C.2.1 (hw _ (List.mem_of_getElem? (i := 56) rfl)))) (hw _ (List.mem_of_getElem? (i := 53) rfl)) (hw _ (List.mem_of_getElem? (i := 54) rfl)) (hw _ (List.mem_of_getElem? (i := 56) rfl)) (hw _ (List.mem_of_getElem? (i := 55) rfl)) (hw _ (List.mem_of_getElem? (i := 8) rfl)) (hw _ (List.mem_of_getElem? (i := 57) rfl)) (by decide) rfl rfl (lenOf own_pd6 rfl) rfl (Nat.le_of_eq rfl) (by decide) (by decide) (by decide) (by decide) at_306 rfl (fun _ _ q => by obtain ⟨_, K, _⟩ := q; exact K.1) (fun T807 h807 v807 X807 P807 => ?_)
    obtain ⟨rfl, K807, O807_0, O807_1, O807_2, O807_3⟩ := P807
    have A808 := A798.keep K807 (ninS ne_b687_b744 nin0)
    have A809 := A799.keep K807 (ninS ne_b699_b744 nin0)
    have E810 := O797_0.keep K807
    have E811 := E801.keep K807
    have F812 := F802.keep K807 (ninS (Ne.symm ne_b744_b754) nin0)
    have F813 := F803.keep K807 (ninS (Ne.symm ne_b744_b754) nin0)
    have A814 := A804.keep K807 (ninS ne_b691_b744 nin0)
    have A815 := A805.keep K807 (ninS (Ne.symm ne_b744_t2767) nin0)
    have M3 : own_M (fun q => if q = (4 - 1) then (-2147483648 : Int32) else (fun q => if q = 2 then (nf 2) else (fun q => if q = 1 then (nf 1) else (fun q => if q = 0 then (nf 0) else (fun _ => 0) q) q) q) q) tf 3 3 (own_nx (fun q => if q = (4 - 1) then (-2147483648 : Int32) else (fun q => if q = 2 then (nf 2) else (fun q => if q = 1 then (nf 1) else (fun q => if q = 0 then (nf 0) else (fun _ => 0) q) q) q) q) b1767 (tf 2) (own_nx (fun q => if q = (4 - 1) then (-2147483648 : Int32) else (fun q => if q = 2 then (nf 2) else (fun q => if q = 1 then (nf 1) else (fun q => if q = 0 then (nf 0) else (fun _ => 0) q) q) q) q) b1767 (tf 1) (own_nx (fun q => if q = (4 - 1) then (-2147483648 : Int32) else (fun q => if q = 2 then (nf 2) else (fun q => if q = 1 then (nf 1) else (fun q => if q = 0 then (nf 0) else (fun _ => 0) q) q) q) q) b1767 (tf 0) 0))) := own_Mstep (fun q a d => Y767_0 q a (by omega)) M2 (own_notmin (htf 2) (own_ag3 nf).2)
    show Go p e below s n0 _ _ _ T807 (mkF m 309 #[.val (.long x0), .second, .val (.int x1), .val (.long x2), .second, .val (.int x3), .val (.int (3 : Int32)), .val (.int (3 : Int32)), .val (.ref b687), .val (.ref b691), .val (.ref b699), .val (.ref b744), .val (.int (((1 : Int32) &&& (1 : Int32)) &&& (1 : Int32)))] [(.long (if (own_nx (fun q => if q = (4 - 1) then (-2147483648 : Int32) else (fun q => if q = 2 then (nf 2) else (fun q => if q = 1 then (nf 1) else (fun q => if q = 0 then (nf 0) else (fun _ => 0) q) q) q) q) b1767 (tf 2) (own_nx (fun q => if q = (4 - 1) then (-2147483648 : Int32) else (fun q => if q = 2 then (nf 2) else (fun q => if q = 1 then (nf 1) else (fun q => if q = 0 then (nf 0) else (fun _ => 0) q) q) q) q) b1767 (tf 1) (own_nx (fun q => if q = (4 - 1) then (-2147483648 : Int32) else (fun q => if q = 2 then (nf 2) else (fun q => if q = 1 then (nf 1) else (fun q => if q = 0 then (nf 0) else (fun _ => 0) q) q) q) q) b1767 (tf 0) 0))) = 4 - 1 then (((((0 : Int64) + (1 : Int64)) + (1 : Int64)) + (1 : Int64)) - (Int32.ofNat (own_nx (fun q => if q = (4 - 1) then (-2147483648 : Int32) else (fun q => if q = 2 then (nf 2) else (fun q => if q = 1 then (nf 1) else (fun q => if q = 0 then (nf 0) else (fun _ => 0) q) q) q) q) b1767 (tf 2) (own_nx (fun q => if q = (4 - 1) then (-2147483648 : Int32) else (fun q => if q = 2 then (nf 2) else (fun q => if q = 1 then (nf 1) else (fun q => if q = 0 then (nf 0) else (fun _ => 0) q) q) q) q) b1767 (tf 1) (own_nx (fun q => if q = (4 - 1) then (-2147483648 : Int32) else (fun q => if q = 2 then (nf 2) else (fun q => if q = 1 then (nf 1) else (fun q => if q = 0 then (nf 0) else (fun _ => 0) q) q) q) q) b1767 (tf 0) 0)))).toInt64) else (-1 : Int64))), (.int (((1 : Int32) &&& (1 : Int32)) &&& (1 : Int32)))])
    refine Go.aload C X807 (pc' := 311) at_309 rfl rfl rfl ?_
    refine Go.iconst C X807 (pc' := 312) (v := (3 : Int32)) at_311 rfl rfl ?_
    refine Go.aload C X807 (pc' := 314) at_312 rfl rfl rfl ?_
    refine Go.iload C X807 (pc' := 316) at_314 rfl rfl ?_
    refine Go.callS C X807 (pc' := 319) (W := 3) (argsL := [(.ref b699), (.int (3 : Int32)), (.ref b687), (.int (3 : Int32))]) (rest := [(.long (if (own_nx (fun q => if q = (4 - 1) then (-2147483648 : Int32) else (fun q => if q = 2 then (nf 2) else (fun q => if q = 1 then (nf 1) else (fun q => if q = 0 then (nf 0) else (fun _ => 0) q) q) q) q) b1767 (tf 2) (own_nx (fun q => if q = (4 - 1) then (-2147483648 : Int32) else (fun q => if q = 2 then (nf 2) else (fun q => if q = 1 then (nf 1) else (fun q => if q = 0 then (nf 0) else (fun _ => 0) q) q) q) q) b1767 (tf 1) (own_nx (fun q => if q = (4 - 1) then (-2147483648 : Int32) else (fun q => if q = 2 then (nf 2) else (fun q => if q = 1 then (nf 1) else (fun q => if q = 0 then (nf 0) else (fun _ => 0) q) q) q) q) b1767 (tf 0) 0))) = 4 - 1 then (((((0 : Int64) + (1 : Int64)) + (1 : Int64)) + (1 : Int64)) - (Int32.ofNat (own_nx (fun q => if q = (4 - 1) then (-2147483648 : Int32) else (fun q => if q = 2 then (nf 2) else (fun q => if q = 1 then (nf 1) else (fun q => if q = 0 then (nf 0) else (fun _ => 0) q) q) q) q) b1767 (tf 2) (own_nx (fun q => if q = (4 - 1) then (-2147483648 : Int32) else (fun q => if q = 2 then (nf 2) else (fun q => if q = 1 then (nf 1) else (fun q => if q = 0 then (nf 0) else (fun _ => 0) q) q) q) q) b1767 (tf 1) (own_nx (fun q => if q = (4 - 1) then (-2147483648 : Int32) else (fun q => if q = 2 then (nf 2) else (fun q => if q = 1 then (nf 1) else (fun q => if q = 0 then (nf 0) else (fun _ => 0) q) q) q) q) b1767 (tf 0) 0)))).toInt64) else (-1 : Int64))), (.int (((1 : Int32) &&& (1 : Int32)) &&& (1 : Int32)))]) (rm_ex3 l Z a0 hw b699 (3 : Int32) b687 (3 : Int32) tf nf 3 h807 n0 X807.sz A809 A808 rfl rfl (by decide)) (hw _ (List.mem_of_getElem? (i := 64) rfl)) (hw _ (List.mem_of_getElem? (i := 65) rfl)) (hw _ (List.mem_of_getElem? (i := 4) rfl)) (hw _ (List.mem_of_getElem? (i := 66) rfl)) (by decide) rfl rfl (lenOf own_pd7 rfl) rfl (Nat.le_of_eq rfl) (by decide) (by decide) (by decide) (by decide) at_316 rfl (fun _ _ q => Nat.le_of_eq (congrArg Array.size q.2)) (fun T816 h816 v816 X816 P816 => ?_)
    obtain ⟨rfl, rfl⟩ := P816
    show Go p e below s n0 _ _ _ T816 (mkF m 319 #[.val (.long x0), .second, .val (.int x1), .val (.long x2), .second, .val (.int x3), .val (.int (3 : Int32)), .val (.int (3 : Int32)), .val (.ref b687), .val (.ref b691), .val (.ref b699), .val (.ref b744), .val (.int (((1 : Int32) &&& (1 : Int32)) &&& (1 : Int32)))] [(.long (if own_S nf tf 3 3 then Int64.ofNat (3 - 3) else (-1 : Int64))), (.long (if (own_nx (fun q => if q = (4 - 1) then (-2147483648 : Int32) else (fun q => if q = 2 then (nf 2) else (fun q => if q = 1 then (nf 1) else (fun q => if q = 0 then (nf 0) else (fun _ => 0) q) q) q) q) b1767 (tf 2) (own_nx (fun q => if q = (4 - 1) then (-2147483648 : Int32) else (fun q => if q = 2 then (nf 2) else (fun q => if q = 1 then (nf 1) else (fun q => if q = 0 then (nf 0) else (fun _ => 0) q) q) q) q) b1767 (tf 1) (own_nx (fun q => if q = (4 - 1) then (-2147483648 : Int32) else (fun q => if q = 2 then (nf 2) else (fun q => if q = 1 then (nf 1) else (fun q => if q = 0 then (nf 0) else (fun _ => 0) q) q) q) q) b1767 (tf 0) 0))) = 4 - 1 then (((((0 : Int64) + (1 : Int64)) + (1 : Int64)) + (1 : Int64)) - (Int32.ofNat (own_nx (fun q => if q = (4 - 1) then (-2147483648 : Int32) else (fun q => if q = 2 then (nf 2) else (fun q => if q = 1 then (nf 1) else (fun q => if q = 0 then (nf 0) else (fun _ => 0) q) q) q) q) b1767 (tf 2) (own_nx (fun q => if q = (4 - 1) then (-2147483648 : Int32) else (fun q => if q = 2 then (nf 2) else (fun q => if q = 1 then (nf 1) else (fun q => if q = 0 then (nf 0) else (fun _ => 0) q) q) q) q) b1767 (tf 1) (own_nx (fun q => if q = (4 - 1) then (-2147483648 : Int32) else (fun q => if q = 2 then (nf 2) else (fun q => if q = 1 then (nf 1) else (fun q => if q = 0 then (nf 0) else (fun _ => 0) q) q) q) q) b1767 (tf 0) 0)))).toInt64) else (-1 : Int64))), (.int (((1 : Int32) &&& (1 : Int32)) &&& (1 : Int32)))])
    refine Go.lcmp C X816 (pc' := 320) at_319 rfl ?_
    refine Go.ifNo C X816 (pc' := 323) at_320 ((if0 _ _).trans (teq ((lw_eq _ _).mpr (own_ans M3 (by decide) (own_ag3 nf).1 rfl (by decide)))).2) rfl ?_
    refine Go.iconst C X816 (pc' := 324) (v := (1 : Int32)) at_323 rfl rfl ?_
    refine Go.goto C X816 (pc' := 328) at_324 (by decide) (by decide) ?_
    refine Go.iand C X816 (pc' := 329) at_328 rfl ?_
    refine Go.istore C X816 (pc' := 331) (Ls' := #[.val (.long x0), .second, .val (.int x1), .val (.long x2), .second, .val (.int x3), .val (.int (3 : Int32)), .val (.int (3 : Int32)), .val (.ref b687), .val (.ref b691), .val (.ref b699), .val (.ref b744), .val (.int ((((1 : Int32) &&& (1 : Int32)) &&& (1 : Int32)) &&& (1 : Int32)))]) at_329 rfl rfl ?_
    refine Go.iload C X816 (pc' := 333) at_331 rfl rfl ?_
    refine Go.aload C X816 (pc' := 335) at_333 rfl rfl rfl ?_
    refine Go.aload C X816 (pc' := 337) at_335 rfl rfl rfl ?_
    refine Go.iconst C X816 (pc' := 338) (v := (3 : Int32)) at_337 rfl rfl ?_
    refine Go.baload C X816 (pc' := 339) (i := 3) (w := (tf 3)) A809 rfl (by decide) rfl at_338 rfl ?_
    refine Go.callV C X816 (pc' := 342) (W := 1) (argsL := [(.int (tf 3))]) (rest := [(.int ((((1 : Int32) &&& (1 : Int32)) &&& (1 : Int32)) &&& (1 : Int32)))]) (a := b744) (rm_fd l Z a0 hw b744 (tf 3) b754 b691 t2767 4 (fun q => if q = (4 - 1) then (-2147483648 : Int32) else (fun q => if q = 2 then (nf 2) else (fun q => if q = 1 then (nf 1) else (fun q => if q = 0 then (nf 0) else (fun _ => 0) q) q) q) q) b1767 (own_nx (fun q => if q = (4 - 1) then (-2147483648 : Int32) else (fun q => if q = 2 then (nf 2) else (fun q => if q = 1 then (nf 1) else (fun q => if q = 0 then (nf 0) else (fun _ => 0) q) q) q) q) b1767 (tf 2) (own_nx (fun q => if q = (4 - 1) then (-2147483648 : Int32) else (fun q => if q = 2 then (nf 2) else (fun q => if q = 1 then (nf 1) else (fun q => if q = 0 then (nf 0) else (fun _ => 0) q) q) q) q) b1767 (tf 1) (own_nx (fun q => if q = (4 - 1) then (-2147483648 : Int32) else (fun q => if q = 2 then (nf 2) else (fun q => if q = 1 then (nf 1) else (fun q => if q = 0 then (nf 0) else (fun _ => 0) q) q) q) q) b1767 (tf 0) 0))) ((((0 : Int64) + (1 : Int64)) + (1 : Int64)) + (1 : Int64)) (4 : Int32) h807 n0 X816.sz O807_0 O807_1 O807_2 O807_3 N744 E811 F812 F813 A814 A815 (Ne.symm ne_b744_b754) ne_b691_b744 (Ne.symm ne_b744_t2767) rfl (by decide) (by decide) (by have := M3.1; omega) Y767_0) O807_0 (notFace_of_selects (args := #[]) (mvT C.2.1 (hw _ (List.mem_of_getElem? (i := 56) rfl)))) (hw _ (List.mem_of_getElem? (i := 53) rfl)) (hw _ (List.mem_of_getElem? (i := 54) rfl)) (hw _ (List.mem_of_getElem? (i := 56) rfl)) (hw _ (List.mem_of_getElem? (i := 55) rfl)) (hw _ (List.mem_of_getElem? (i := 8) rfl)) (hw _ (List.mem_of_getElem? (i := 57) rfl)) (by decide) rfl rfl (lenOf own_pd6 rfl) rfl (Nat.le_of_eq rfl) (by decide) (by decide) (by decide) (by decide) at_339 rfl (fun _ _ q => by obtain ⟨_, K, _⟩ := q; exact K.1) (fun T817 h817 v817 X817 P817 => ?_)
    obtain ⟨rfl, K817, O817_0, O817_1, O817_2, O817_3⟩ := P817
    have A818 := A808.keep K817 (ninS ne_b687_b744 nin0)
    have A819 := A809.keep K817 (ninS ne_b699_b744 nin0)
    have E820 := O807_0.keep K817
    have E821 := E811.keep K817
    have F822 := F812.keep K817 (ninS (Ne.symm ne_b744_b754) nin0)
    have F823 := F813.keep K817 (ninS (Ne.symm ne_b744_b754) nin0)
    have A824 := A814.keep K817 (ninS ne_b691_b744 nin0)
    have A825 := A815.keep K817 (ninS (Ne.symm ne_b744_t2767) nin0)
    have M4 : own_M (fun q => if q = (4 - 1) then (-2147483648 : Int32) else (fun q => if q = 2 then (nf 2) else (fun q => if q = 1 then (nf 1) else (fun q => if q = 0 then (nf 0) else (fun _ => 0) q) q) q) q) tf 3 4 (own_nx (fun q => if q = (4 - 1) then (-2147483648 : Int32) else (fun q => if q = 2 then (nf 2) else (fun q => if q = 1 then (nf 1) else (fun q => if q = 0 then (nf 0) else (fun _ => 0) q) q) q) q) b1767 (tf 3) (own_nx (fun q => if q = (4 - 1) then (-2147483648 : Int32) else (fun q => if q = 2 then (nf 2) else (fun q => if q = 1 then (nf 1) else (fun q => if q = 0 then (nf 0) else (fun _ => 0) q) q) q) q) b1767 (tf 2) (own_nx (fun q => if q = (4 - 1) then (-2147483648 : Int32) else (fun q => if q = 2 then (nf 2) else (fun q => if q = 1 then (nf 1) else (fun q => if q = 0 then (nf 0) else (fun _ => 0) q) q) q) q) b1767 (tf 1) (own_nx (fun q => if q = (4 - 1) then (-2147483648 : Int32) else (fun q => if q = 2 then (nf 2) else (fun q => if q = 1 then (nf 1) else (fun q => if q = 0 then (nf 0) else (fun _ => 0) q) q) q) q) b1767 (tf 0) 0)))) := own_Mstep (fun q a d => Y767_0 q a (by omega)) M3 (own_notmin (htf 3) (own_ag3 nf).2)
    show Go p e below s n0 _ _ _ T817 (mkF m 342 #[.val (.long x0), .second, .val (.int x1), .val (.long x2), .second, .val (.int x3), .val (.int (3 : Int32)), .val (.int (3 : Int32)), .val (.ref b687), .val (.ref b691), .val (.ref b699), .val (.ref b744), .val (.int ((((1 : Int32) &&& (1 : Int32)) &&& (1 : Int32)) &&& (1 : Int32)))] [(.long (if (own_nx (fun q => if q = (4 - 1) then (-2147483648 : Int32) else (fun q => if q = 2 then (nf 2) else (fun q => if q = 1 then (nf 1) else (fun q => if q = 0 then (nf 0) else (fun _ => 0) q) q) q) q) b1767 (tf 3) (own_nx (fun q => if q = (4 - 1) then (-2147483648 : Int32) else (fun q => if q = 2 then (nf 2) else (fun q => if q = 1 then (nf 1) else (fun q => if q = 0 then (nf 0) else (fun _ => 0) q) q) q) q) b1767 (tf 2) (own_nx (fun q => if q = (4 - 1) then (-2147483648 : Int32) else (fun q => if q = 2 then (nf 2) else (fun q => if q = 1 then (nf 1) else (fun q => if q = 0 then (nf 0) else (fun _ => 0) q) q) q) q) b1767 (tf 1) (own_nx (fun q => if q = (4 - 1) then (-2147483648 : Int32) else (fun q => if q = 2 then (nf 2) else (fun q => if q = 1 then (nf 1) else (fun q => if q = 0 then (nf 0) else (fun _ => 0) q) q) q) q) b1767 (tf 0) 0)))) = 4 - 1 then ((((((0 : Int64) + (1 : Int64)) + (1 : Int64)) + (1 : Int64)) + (1 : Int64)) - (Int32.ofNat (own_nx (fun q => if q = (4 - 1) then (-2147483648 : Int32) else (fun q => if q = 2 then (nf 2) else (fun q => if q = 1 then (nf 1) else (fun q => if q = 0 then (nf 0) else (fun _ => 0) q) q) q) q) b1767 (tf 3) (own_nx (fun q => if q = (4 - 1) then (-2147483648 : Int32) else (fun q => if q = 2 then (nf 2) else (fun q => if q = 1 then (nf 1) else (fun q => if q = 0 then (nf 0) else (fun _ => 0) q) q) q) q) b1767 (tf 2) (own_nx (fun q => if q = (4 - 1) then (-2147483648 : Int32) else (fun q => if q = 2 then (nf 2) else (fun q => if q = 1 then (nf 1) else (fun q => if q = 0 then (nf 0) else (fun _ => 0) q) q) q) q) b1767 (tf 1) (own_nx (fun q => if q = (4 - 1) then (-2147483648 : Int32) else (fun q => if q = 2 then (nf 2) else (fun q => if q = 1 then (nf 1) else (fun q => if q = 0 then (nf 0) else (fun _ => 0) q) q) q) q) b1767 (tf 0) 0))))).toInt64) else (-1 : Int64))), (.int ((((1 : Int32) &&& (1 : Int32)) &&& (1 : Int32)) &&& (1 : Int32)))])
    refine Go.aload C X817 (pc' := 344) at_342 rfl rfl rfl ?_
    refine Go.iconst C X817 (pc' := 345) (v := (4 : Int32)) at_344 rfl rfl ?_
    refine Go.aload C X817 (pc' := 347) at_345 rfl rfl rfl ?_
    refine Go.iload C X817 (pc' := 349) at_347 rfl rfl ?_
    refine Go.callS C X817 (pc' := 352) (W := 3) (argsL := [(.ref b699), (.int (4 : Int32)), (.ref b687), (.int (3 : Int32))]) (rest := [(.long (if (own_nx (fun q => if q = (4 - 1) then (-2147483648 : Int32) else (fun q => if q = 2 then (nf 2) else (fun q => if q = 1 then (nf 1) else (fun q => if q = 0 then (nf 0) else (fun _ => 0) q) q) q) q) b1767 (tf 3) (own_nx (fun q => if q = (4 - 1) then (-2147483648 : Int32) else (fun q => if q = 2 then (nf 2) else (fun q => if q = 1 then (nf 1) else (fun q => if q = 0 then (nf 0) else (fun _ => 0) q) q) q) q) b1767 (tf 2) (own_nx (fun q => if q = (4 - 1) then (-2147483648 : Int32) else (fun q => if q = 2 then (nf 2) else (fun q => if q = 1 then (nf 1) else (fun q => if q = 0 then (nf 0) else (fun _ => 0) q) q) q) q) b1767 (tf 1) (own_nx (fun q => if q = (4 - 1) then (-2147483648 : Int32) else (fun q => if q = 2 then (nf 2) else (fun q => if q = 1 then (nf 1) else (fun q => if q = 0 then (nf 0) else (fun _ => 0) q) q) q) q) b1767 (tf 0) 0)))) = 4 - 1 then ((((((0 : Int64) + (1 : Int64)) + (1 : Int64)) + (1 : Int64)) + (1 : Int64)) - (Int32.ofNat (own_nx (fun q => if q = (4 - 1) then (-2147483648 : Int32) else (fun q => if q = 2 then (nf 2) else (fun q => if q = 1 then (nf 1) else (fun q => if q = 0 then (nf 0) else (fun _ => 0) q) q) q) q) b1767 (tf 3) (own_nx (fun q => if q = (4 - 1) then (-2147483648 : Int32) else (fun q => if q = 2 then (nf 2) else (fun q => if q = 1 then (nf 1) else (fun q => if q = 0 then (nf 0) else (fun _ => 0) q) q) q) q) b1767 (tf 2) (own_nx (fun q => if q = (4 - 1) then (-2147483648 : Int32) else (fun q => if q = 2 then (nf 2) else (fun q => if q = 1 then (nf 1) else (fun q => if q = 0 then (nf 0) else (fun _ => 0) q) q) q) q) b1767 (tf 1) (own_nx (fun q => if q = (4 - 1) then (-2147483648 : Int32) else (fun q => if q = 2 then (nf 2) else (fun q => if q = 1 then (nf 1) else (fun q => if q = 0 then (nf 0) else (fun _ => 0) q) q) q) q) b1767 (tf 0) 0))))).toInt64) else (-1 : Int64))), (.int ((((1 : Int32) &&& (1 : Int32)) &&& (1 : Int32)) &&& (1 : Int32)))]) (rm_ex3 l Z a0 hw b699 (4 : Int32) b687 (3 : Int32) tf nf 4 h817 n0 X817.sz A819 A818 rfl rfl (by decide)) (hw _ (List.mem_of_getElem? (i := 64) rfl)) (hw _ (List.mem_of_getElem? (i := 65) rfl)) (hw _ (List.mem_of_getElem? (i := 4) rfl)) (hw _ (List.mem_of_getElem? (i := 66) rfl)) (by decide) rfl rfl (lenOf own_pd7 rfl) rfl (Nat.le_of_eq rfl) (by decide) (by decide) (by decide) (by decide) at_349 rfl (fun _ _ q => Nat.le_of_eq (congrArg Array.size q.2)) (fun T826 h826 v826 X826 P826 => ?_)
    obtain ⟨rfl, rfl⟩ := P826
    show Go p e below s n0 _ _ _ T826 (mkF m 352 #[.val (.long x0), .second, .val (.int x1), .val (.long x2), .second, .val (.int x3), .val (.int (3 : Int32)), .val (.int (3 : Int32)), .val (.ref b687), .val (.ref b691), .val (.ref b699), .val (.ref b744), .val (.int ((((1 : Int32) &&& (1 : Int32)) &&& (1 : Int32)) &&& (1 : Int32)))] [(.long (if own_S nf tf 4 3 then Int64.ofNat (4 - 3) else (-1 : Int64))), (.long (if (own_nx (fun q => if q = (4 - 1) then (-2147483648 : Int32) else (fun q => if q = 2 then (nf 2) else (fun q => if q = 1 then (nf 1) else (fun q => if q = 0 then (nf 0) else (fun _ => 0) q) q) q) q) b1767 (tf 3) (own_nx (fun q => if q = (4 - 1) then (-2147483648 : Int32) else (fun q => if q = 2 then (nf 2) else (fun q => if q = 1 then (nf 1) else (fun q => if q = 0 then (nf 0) else (fun _ => 0) q) q) q) q) b1767 (tf 2) (own_nx (fun q => if q = (4 - 1) then (-2147483648 : Int32) else (fun q => if q = 2 then (nf 2) else (fun q => if q = 1 then (nf 1) else (fun q => if q = 0 then (nf 0) else (fun _ => 0) q) q) q) q) b1767 (tf 1) (own_nx (fun q => if q = (4 - 1) then (-2147483648 : Int32) else (fun q => if q = 2 then (nf 2) else (fun q => if q = 1 then (nf 1) else (fun q => if q = 0 then (nf 0) else (fun _ => 0) q) q) q) q) b1767 (tf 0) 0)))) = 4 - 1 then ((((((0 : Int64) + (1 : Int64)) + (1 : Int64)) + (1 : Int64)) + (1 : Int64)) - (Int32.ofNat (own_nx (fun q => if q = (4 - 1) then (-2147483648 : Int32) else (fun q => if q = 2 then (nf 2) else (fun q => if q = 1 then (nf 1) else (fun q => if q = 0 then (nf 0) else (fun _ => 0) q) q) q) q) b1767 (tf 3) (own_nx (fun q => if q = (4 - 1) then (-2147483648 : Int32) else (fun q => if q = 2 then (nf 2) else (fun q => if q = 1 then (nf 1) else (fun q => if q = 0 then (nf 0) else (fun _ => 0) q) q) q) q) b1767 (tf 2) (own_nx (fun q => if q = (4 - 1) then (-2147483648 : Int32) else (fun q => if q = 2 then (nf 2) else (fun q => if q = 1 then (nf 1) else (fun q => if q = 0 then (nf 0) else (fun _ => 0) q) q) q) q) b1767 (tf 1) (own_nx (fun q => if q = (4 - 1) then (-2147483648 : Int32) else (fun q => if q = 2 then (nf 2) else (fun q => if q = 1 then (nf 1) else (fun q => if q = 0 then (nf 0) else (fun _ => 0) q) q) q) q) b1767 (tf 0) 0))))).toInt64) else (-1 : Int64))), (.int ((((1 : Int32) &&& (1 : Int32)) &&& (1 : Int32)) &&& (1 : Int32)))])
    refine Go.lcmp C X826 (pc' := 353) at_352 rfl ?_
    refine Go.ifNo C X826 (pc' := 356) at_353 ((if0 _ _).trans (teq ((lw_eq _ _).mpr (own_ans M4 (by decide) (own_ag3 nf).1 rfl (by decide)))).2) rfl ?_
    refine Go.iconst C X826 (pc' := 357) (v := (1 : Int32)) at_356 rfl rfl ?_
    refine Go.goto C X826 (pc' := 361) at_357 (by decide) (by decide) ?_
    refine Go.iand C X826 (pc' := 362) at_361 rfl ?_
    refine Go.istore C X826 (pc' := 364) (Ls' := #[.val (.long x0), .second, .val (.int x1), .val (.long x2), .second, .val (.int x3), .val (.int (3 : Int32)), .val (.int (3 : Int32)), .val (.ref b687), .val (.ref b691), .val (.ref b699), .val (.ref b744), .val (.int (((((1 : Int32) &&& (1 : Int32)) &&& (1 : Int32)) &&& (1 : Int32)) &&& (1 : Int32)))]) at_362 rfl rfl ?_
    refine Go.iload C X826 (pc' := 366) at_364 rfl rfl ?_
    refine Go.aload C X826 (pc' := 368) at_366 rfl rfl rfl ?_
    refine Go.aload C X826 (pc' := 370) at_368 rfl rfl rfl ?_
    refine Go.iconst C X826 (pc' := 371) (v := (4 : Int32)) at_370 rfl rfl ?_
    refine Go.baload C X826 (pc' := 372) (i := 4) (w := (tf 4)) A819 rfl (by decide) rfl at_371 rfl ?_
    refine Go.callV C X826 (pc' := 375) (W := 1) (argsL := [(.int (tf 4))]) (rest := [(.int (((((1 : Int32) &&& (1 : Int32)) &&& (1 : Int32)) &&& (1 : Int32)) &&& (1 : Int32)))]) (a := b744) (rm_fd l Z a0 hw b744 (tf 4) b754 b691 t2767 4 (fun q => if q = (4 - 1) then (-2147483648 : Int32) else (fun q => if q = 2 then (nf 2) else (fun q => if q = 1 then (nf 1) else (fun q => if q = 0 then (nf 0) else (fun _ => 0) q) q) q) q) b1767 (own_nx (fun q => if q = (4 - 1) then (-2147483648 : Int32) else (fun q => if q = 2 then (nf 2) else (fun q => if q = 1 then (nf 1) else (fun q => if q = 0 then (nf 0) else (fun _ => 0) q) q) q) q) b1767 (tf 3) (own_nx (fun q => if q = (4 - 1) then (-2147483648 : Int32) else (fun q => if q = 2 then (nf 2) else (fun q => if q = 1 then (nf 1) else (fun q => if q = 0 then (nf 0) else (fun _ => 0) q) q) q) q) b1767 (tf 2) (own_nx (fun q => if q = (4 - 1) then (-2147483648 : Int32) else (fun q => if q = 2 then (nf 2) else (fun q => if q = 1 then (nf 1) else (fun q => if q = 0 then (nf 0) else (fun _ => 0) q) q) q) q) b1767 (tf 1) (own_nx (fun q => if q = (4 - 1) then (-2147483648 : Int32) else (fun q => if q = 2 then (nf 2) else (fun q => if q = 1 then (nf 1) else (fun q => if q = 0 then (nf 0) else (fun _ => 0) q) q) q) q) b1767 (tf 0) 0)))) (((((0 : Int64) + (1 : Int64)) + (1 : Int64)) + (1 : Int64)) + (1 : Int64)) (4 : Int32) h817 n0 X826.sz O817_0 O817_1 O817_2 O817_3 N744 E821 F822 F823 A824 A825 (Ne.symm ne_b744_b754) ne_b691_b744 (Ne.symm ne_b744_t2767) rfl (by decide) (by decide) (by have := M4.1; omega) Y767_0) O817_0 (notFace_of_selects (args := #[]) (mvT C.2.1 (hw _ (List.mem_of_getElem? (i := 56) rfl)))) (hw _ (List.mem_of_getElem? (i := 53) rfl)) (hw _ (List.mem_of_getElem? (i := 54) rfl)) (hw _ (List.mem_of_getElem? (i := 56) rfl)) (hw _ (List.mem_of_getElem? (i := 55) rfl)) (hw _ (List.mem_of_getElem? (i := 8) rfl)) (hw _ (List.mem_of_getElem? (i := 57) rfl)) (by decide) rfl rfl (lenOf own_pd6 rfl) rfl (Nat.le_of_eq rfl) (by decide) (by decide) (by decide) (by decide) at_372 rfl (fun _ _ q => by obtain ⟨_, K, _⟩ := q; exact K.1) (fun T827 h827 v827 X827 P827 => ?_)
    obtain ⟨rfl, K827, O827_0, O827_1, O827_2, O827_3⟩ := P827
    have A828 := A818.keep K827 (ninS ne_b687_b744 nin0)
    have A829 := A819.keep K827 (ninS ne_b699_b744 nin0)
    have E830 := O817_0.keep K827
    have E831 := E821.keep K827
    have F832 := F822.keep K827 (ninS (Ne.symm ne_b744_b754) nin0)
    have F833 := F823.keep K827 (ninS (Ne.symm ne_b744_b754) nin0)
    have A834 := A824.keep K827 (ninS ne_b691_b744 nin0)
    have A835 := A825.keep K827 (ninS (Ne.symm ne_b744_t2767) nin0)
    have M5 : own_M (fun q => if q = (4 - 1) then (-2147483648 : Int32) else (fun q => if q = 2 then (nf 2) else (fun q => if q = 1 then (nf 1) else (fun q => if q = 0 then (nf 0) else (fun _ => 0) q) q) q) q) tf 3 5 (own_nx (fun q => if q = (4 - 1) then (-2147483648 : Int32) else (fun q => if q = 2 then (nf 2) else (fun q => if q = 1 then (nf 1) else (fun q => if q = 0 then (nf 0) else (fun _ => 0) q) q) q) q) b1767 (tf 4) (own_nx (fun q => if q = (4 - 1) then (-2147483648 : Int32) else (fun q => if q = 2 then (nf 2) else (fun q => if q = 1 then (nf 1) else (fun q => if q = 0 then (nf 0) else (fun _ => 0) q) q) q) q) b1767 (tf 3) (own_nx (fun q => if q = (4 - 1) then (-2147483648 : Int32) else (fun q => if q = 2 then (nf 2) else (fun q => if q = 1 then (nf 1) else (fun q => if q = 0 then (nf 0) else (fun _ => 0) q) q) q) q) b1767 (tf 2) (own_nx (fun q => if q = (4 - 1) then (-2147483648 : Int32) else (fun q => if q = 2 then (nf 2) else (fun q => if q = 1 then (nf 1) else (fun q => if q = 0 then (nf 0) else (fun _ => 0) q) q) q) q) b1767 (tf 1) (own_nx (fun q => if q = (4 - 1) then (-2147483648 : Int32) else (fun q => if q = 2 then (nf 2) else (fun q => if q = 1 then (nf 1) else (fun q => if q = 0 then (nf 0) else (fun _ => 0) q) q) q) q) b1767 (tf 0) 0))))) := own_Mstep (fun q a d => Y767_0 q a (by omega)) M4 (own_notmin (htf 4) (own_ag3 nf).2)
    show Go p e below s n0 _ _ _ T827 (mkF m 375 #[.val (.long x0), .second, .val (.int x1), .val (.long x2), .second, .val (.int x3), .val (.int (3 : Int32)), .val (.int (3 : Int32)), .val (.ref b687), .val (.ref b691), .val (.ref b699), .val (.ref b744), .val (.int (((((1 : Int32) &&& (1 : Int32)) &&& (1 : Int32)) &&& (1 : Int32)) &&& (1 : Int32)))] [(.long (if (own_nx (fun q => if q = (4 - 1) then (-2147483648 : Int32) else (fun q => if q = 2 then (nf 2) else (fun q => if q = 1 then (nf 1) else (fun q => if q = 0 then (nf 0) else (fun _ => 0) q) q) q) q) b1767 (tf 4) (own_nx (fun q => if q = (4 - 1) then (-2147483648 : Int32) else (fun q => if q = 2 then (nf 2) else (fun q => if q = 1 then (nf 1) else (fun q => if q = 0 then (nf 0) else (fun _ => 0) q) q) q) q) b1767 (tf 3) (own_nx (fun q => if q = (4 - 1) then (-2147483648 : Int32) else (fun q => if q = 2 then (nf 2) else (fun q => if q = 1 then (nf 1) else (fun q => if q = 0 then (nf 0) else (fun _ => 0) q) q) q) q) b1767 (tf 2) (own_nx (fun q => if q = (4 - 1) then (-2147483648 : Int32) else (fun q => if q = 2 then (nf 2) else (fun q => if q = 1 then (nf 1) else (fun q => if q = 0 then (nf 0) else (fun _ => 0) q) q) q) q) b1767 (tf 1) (own_nx (fun q => if q = (4 - 1) then (-2147483648 : Int32) else (fun q => if q = 2 then (nf 2) else (fun q => if q = 1 then (nf 1) else (fun q => if q = 0 then (nf 0) else (fun _ => 0) q) q) q) q) b1767 (tf 0) 0))))) = 4 - 1 then (((((((0 : Int64) + (1 : Int64)) + (1 : Int64)) + (1 : Int64)) + (1 : Int64)) + (1 : Int64)) - (Int32.ofNat (own_nx (fun q => if q = (4 - 1) then (-2147483648 : Int32) else (fun q => if q = 2 then (nf 2) else (fun q => if q = 1 then (nf 1) else (fun q => if q = 0 then (nf 0) else (fun _ => 0) q) q) q) q) b1767 (tf 4) (own_nx (fun q => if q = (4 - 1) then (-2147483648 : Int32) else (fun q => if q = 2 then (nf 2) else (fun q => if q = 1 then (nf 1) else (fun q => if q = 0 then (nf 0) else (fun _ => 0) q) q) q) q) b1767 (tf 3) (own_nx (fun q => if q = (4 - 1) then (-2147483648 : Int32) else (fun q => if q = 2 then (nf 2) else (fun q => if q = 1 then (nf 1) else (fun q => if q = 0 then (nf 0) else (fun _ => 0) q) q) q) q) b1767 (tf 2) (own_nx (fun q => if q = (4 - 1) then (-2147483648 : Int32) else (fun q => if q = 2 then (nf 2) else (fun q => if q = 1 then (nf 1) else (fun q => if q = 0 then (nf 0) else (fun _ => 0) q) q) q) q) b1767 (tf 1) (own_nx (fun q => if q = (4 - 1) then (-2147483648 : Int32) else (fun q => if q = 2 then (nf 2) else (fun q => if q = 1 then (nf 1) else (fun q => if q = 0 then (nf 0) else (fun _ => 0) q) q) q) q) b1767 (tf 0) 0)))))).toInt64) else (-1 : Int64))), (.int (((((1 : Int32) &&& (1 : Int32)) &&& (1 : Int32)) &&& (1 : Int32)) &&& (1 : Int32)))])
    refine Go.aload C X827 (pc' := 377) at_375 rfl rfl rfl ?_
    refine Go.iconst C X827 (pc' := 378) (v := (5 : Int32)) at_377 rfl rfl ?_
    refine Go.aload C X827 (pc' := 380) at_378 rfl rfl rfl ?_
    refine Go.iload C X827 (pc' := 382) at_380 rfl rfl ?_
    refine Go.callS C X827 (pc' := 385) (W := 3) (argsL := [(.ref b699), (.int (5 : Int32)), (.ref b687), (.int (3 : Int32))]) (rest := [(.long (if (own_nx (fun q => if q = (4 - 1) then (-2147483648 : Int32) else (fun q => if q = 2 then (nf 2) else (fun q => if q = 1 then (nf 1) else (fun q => if q = 0 then (nf 0) else (fun _ => 0) q) q) q) q) b1767 (tf 4) (own_nx (fun q => if q = (4 - 1) then (-2147483648 : Int32) else (fun q => if q = 2 then (nf 2) else (fun q => if q = 1 then (nf 1) else (fun q => if q = 0 then (nf 0) else (fun _ => 0) q) q) q) q) b1767 (tf 3) (own_nx (fun q => if q = (4 - 1) then (-2147483648 : Int32) else (fun q => if q = 2 then (nf 2) else (fun q => if q = 1 then (nf 1) else (fun q => if q = 0 then (nf 0) else (fun _ => 0) q) q) q) q) b1767 (tf 2) (own_nx (fun q => if q = (4 - 1) then (-2147483648 : Int32) else (fun q => if q = 2 then (nf 2) else (fun q => if q = 1 then (nf 1) else (fun q => if q = 0 then (nf 0) else (fun _ => 0) q) q) q) q) b1767 (tf 1) (own_nx (fun q => if q = (4 - 1) then (-2147483648 : Int32) else (fun q => if q = 2 then (nf 2) else (fun q => if q = 1 then (nf 1) else (fun q => if q = 0 then (nf 0) else (fun _ => 0) q) q) q) q) b1767 (tf 0) 0))))) = 4 - 1 then (((((((0 : Int64) + (1 : Int64)) + (1 : Int64)) + (1 : Int64)) + (1 : Int64)) + (1 : Int64)) - (Int32.ofNat (own_nx (fun q => if q = (4 - 1) then (-2147483648 : Int32) else (fun q => if q = 2 then (nf 2) else (fun q => if q = 1 then (nf 1) else (fun q => if q = 0 then (nf 0) else (fun _ => 0) q) q) q) q) b1767 (tf 4) (own_nx (fun q => if q = (4 - 1) then (-2147483648 : Int32) else (fun q => if q = 2 then (nf 2) else (fun q => if q = 1 then (nf 1) else (fun q => if q = 0 then (nf 0) else (fun _ => 0) q) q) q) q) b1767 (tf 3) (own_nx (fun q => if q = (4 - 1) then (-2147483648 : Int32) else (fun q => if q = 2 then (nf 2) else (fun q => if q = 1 then (nf 1) else (fun q => if q = 0 then (nf 0) else (fun _ => 0) q) q) q) q) b1767 (tf 2) (own_nx (fun q => if q = (4 - 1) then (-2147483648 : Int32) else (fun q => if q = 2 then (nf 2) else (fun q => if q = 1 then (nf 1) else (fun q => if q = 0 then (nf 0) else (fun _ => 0) q) q) q) q) b1767 (tf 1) (own_nx (fun q => if q = (4 - 1) then (-2147483648 : Int32) else (fun q => if q = 2 then (nf 2) else (fun q => if q = 1 then (nf 1) else (fun q => if q = 0 then (nf 0) else (fun _ => 0) q) q) q) q) b1767 (tf 0) 0)))))).toInt64) else (-1 : Int64))), (.int (((((1 : Int32) &&& (1 : Int32)) &&& (1 : Int32)) &&& (1 : Int32)) &&& (1 : Int32)))]) (rm_ex3 l Z a0 hw b699 (5 : Int32) b687 (3 : Int32) tf nf 5 h827 n0 X827.sz A829 A828 rfl rfl (by decide)) (hw _ (List.mem_of_getElem? (i := 64) rfl)) (hw _ (List.mem_of_getElem? (i := 65) rfl)) (hw _ (List.mem_of_getElem? (i := 4) rfl)) (hw _ (List.mem_of_getElem? (i := 66) rfl)) (by decide) rfl rfl (lenOf own_pd7 rfl) rfl (Nat.le_of_eq rfl) (by decide) (by decide) (by decide) (by decide) at_382 rfl (fun _ _ q => Nat.le_of_eq (congrArg Array.size q.2)) (fun T836 h836 v836 X836 P836 => ?_)
    obtain ⟨rfl, rfl⟩ := P836
    show Go p e below s n0 _ _ _ T836 (mkF m 385 #[.val (.long x0), .second, .val (.int x1), .val (.long x2), .second, .val (.int x3), .val (.int (3 : Int32)), .val (.int (3 : Int32)), .val (.ref b687), .val (.ref b691), .val (.ref b699), .val (.ref b744), .val (.int (((((1 : Int32) &&& (1 : Int32)) &&& (1 : Int32)) &&& (1 : Int32)) &&& (1 : Int32)))] [(.long (if own_S nf tf 5 3 then Int64.ofNat (5 - 3) else (-1 : Int64))), (.long (if (own_nx (fun q => if q = (4 - 1) then (-2147483648 : Int32) else (fun q => if q = 2 then (nf 2) else (fun q => if q = 1 then (nf 1) else (fun q => if q = 0 then (nf 0) else (fun _ => 0) q) q) q) q) b1767 (tf 4) (own_nx (fun q => if q = (4 - 1) then (-2147483648 : Int32) else (fun q => if q = 2 then (nf 2) else (fun q => if q = 1 then (nf 1) else (fun q => if q = 0 then (nf 0) else (fun _ => 0) q) q) q) q) b1767 (tf 3) (own_nx (fun q => if q = (4 - 1) then (-2147483648 : Int32) else (fun q => if q = 2 then (nf 2) else (fun q => if q = 1 then (nf 1) else (fun q => if q = 0 then (nf 0) else (fun _ => 0) q) q) q) q) b1767 (tf 2) (own_nx (fun q => if q = (4 - 1) then (-2147483648 : Int32) else (fun q => if q = 2 then (nf 2) else (fun q => if q = 1 then (nf 1) else (fun q => if q = 0 then (nf 0) else (fun _ => 0) q) q) q) q) b1767 (tf 1) (own_nx (fun q => if q = (4 - 1) then (-2147483648 : Int32) else (fun q => if q = 2 then (nf 2) else (fun q => if q = 1 then (nf 1) else (fun q => if q = 0 then (nf 0) else (fun _ => 0) q) q) q) q) b1767 (tf 0) 0))))) = 4 - 1 then (((((((0 : Int64) + (1 : Int64)) + (1 : Int64)) + (1 : Int64)) + (1 : Int64)) + (1 : Int64)) - (Int32.ofNat (own_nx (fun q => if q = (4 - 1) then (-2147483648 : Int32) else (fun q => if q = 2 then (nf 2) else (fun q => if q = 1 then (nf 1) else (fun q => if q = 0 then (nf 0) else (fun _ => 0) q) q) q) q) b1767 (tf 4) (own_nx (fun q => if q = (4 - 1) then (-2147483648 : Int32) else (fun q => if q = 2 then (nf 2) else (fun q => if q = 1 then (nf 1) else (fun q => if q = 0 then (nf 0) else (fun _ => 0) q) q) q) q) b1767 (tf 3) (own_nx (fun q => if q = (4 - 1) then (-2147483648 : Int32) else (fun q => if q = 2 then (nf 2) else (fun q => if q = 1 then (nf 1) else (fun q => if q = 0 then (nf 0) else (fun _ => 0) q) q) q) q) b1767 (tf 2) (own_nx (fun q => if q = (4 - 1) then (-2147483648 : Int32) else (fun q => if q = 2 then (nf 2) else (fun q => if q = 1 then (nf 1) else (fun q => if q = 0 then (nf 0) else (fun _ => 0) q) q) q) q) b1767 (tf 1) (own_nx (fun q => if q = (4 - 1) then (-2147483648 : Int32) else (fun q => if q = 2 then (nf 2) else (fun q => if q = 1 then (nf 1) else (fun q => if q = 0 then (nf 0) else (fun _ => 0) q) q) q) q) b1767 (tf 0) 0)))))).toInt64) else (-1 : Int64))), (.int (((((1 : Int32) &&& (1 : Int32)) &&& (1 : Int32)) &&& (1 : Int32)) &&& (1 : Int32)))])
    refine Go.lcmp C X836 (pc' := 386) at_385 rfl ?_
    refine Go.ifNo C X836 (pc' := 389) at_386 ((if0 _ _).trans (teq ((lw_eq _ _).mpr (own_ans M5 (by decide) (own_ag3 nf).1 rfl (by decide)))).2) rfl ?_
    refine Go.iconst C X836 (pc' := 390) (v := (1 : Int32)) at_389 rfl rfl ?_
    refine Go.goto C X836 (pc' := 394) at_390 (by decide) (by decide) ?_
    refine Go.iand C X836 (pc' := 395) at_394 rfl ?_
    refine Go.istore C X836 (pc' := 397) (Ls' := #[.val (.long x0), .second, .val (.int x1), .val (.long x2), .second, .val (.int x3), .val (.int (3 : Int32)), .val (.int (3 : Int32)), .val (.ref b687), .val (.ref b691), .val (.ref b699), .val (.ref b744), .val (.int ((((((1 : Int32) &&& (1 : Int32)) &&& (1 : Int32)) &&& (1 : Int32)) &&& (1 : Int32)) &&& (1 : Int32)))]) at_395 rfl rfl ?_
    refine Go.iload C X836 (pc' := 399) at_397 rfl rfl ?_
    refine Go.aload C X836 (pc' := 401) at_399 rfl rfl rfl ?_
    refine Go.aload C X836 (pc' := 403) at_401 rfl rfl rfl ?_
    refine Go.iconst C X836 (pc' := 404) (v := (5 : Int32)) at_403 rfl rfl ?_
    refine Go.baload C X836 (pc' := 405) (i := 5) (w := (tf 5)) A829 rfl (by decide) rfl at_404 rfl ?_
    refine Go.callV C X836 (pc' := 408) (W := 1) (argsL := [(.int (tf 5))]) (rest := [(.int ((((((1 : Int32) &&& (1 : Int32)) &&& (1 : Int32)) &&& (1 : Int32)) &&& (1 : Int32)) &&& (1 : Int32)))]) (a := b744) (rm_fd l Z a0 hw b744 (tf 5) b754 b691 t2767 4 (fun q => if q = (4 - 1) then (-2147483648 : Int32) else (fun q => if q = 2 then (nf 2) else (fun q => if q = 1 then (nf 1) else (fun q => if q = 0 then (nf 0) else (fun _ => 0) q) q) q) q) b1767 (own_nx (fun q => if q = (4 - 1) then (-2147483648 : Int32) else (fun q => if q = 2 then (nf 2) else (fun q => if q = 1 then (nf 1) else (fun q => if q = 0 then (nf 0) else (fun _ => 0) q) q) q) q) b1767 (tf 4) (own_nx (fun q => if q = (4 - 1) then (-2147483648 : Int32) else (fun q => if q = 2 then (nf 2) else (fun q => if q = 1 then (nf 1) else (fun q => if q = 0 then (nf 0) else (fun _ => 0) q) q) q) q) b1767 (tf 3) (own_nx (fun q => if q = (4 - 1) then (-2147483648 : Int32) else (fun q => if q = 2 then (nf 2) else (fun q => if q = 1 then (nf 1) else (fun q => if q = 0 then (nf 0) else (fun _ => 0) q) q) q) q) b1767 (tf 2) (own_nx (fun q => if q = (4 - 1) then (-2147483648 : Int32) else (fun q => if q = 2 then (nf 2) else (fun q => if q = 1 then (nf 1) else (fun q => if q = 0 then (nf 0) else (fun _ => 0) q) q) q) q) b1767 (tf 1) (own_nx (fun q => if q = (4 - 1) then (-2147483648 : Int32) else (fun q => if q = 2 then (nf 2) else (fun q => if q = 1 then (nf 1) else (fun q => if q = 0 then (nf 0) else (fun _ => 0) q) q) q) q) b1767 (tf 0) 0))))) ((((((0 : Int64) + (1 : Int64)) + (1 : Int64)) + (1 : Int64)) + (1 : Int64)) + (1 : Int64)) (4 : Int32) h827 n0 X836.sz O827_0 O827_1 O827_2 O827_3 N744 E831 F832 F833 A834 A835 (Ne.symm ne_b744_b754) ne_b691_b744 (Ne.symm ne_b744_t2767) rfl (by decide) (by decide) (by have := M5.1; omega) Y767_0) O827_0 (notFace_of_selects (args := #[]) (mvT C.2.1 (hw _ (List.mem_of_getElem? (i := 56) rfl)))) (hw _ (List.mem_of_getElem? (i := 53) rfl)) (hw _ (List.mem_of_getElem? (i := 54) rfl)) (hw _ (List.mem_of_getElem? (i := 56) rfl)) (hw _ (List.mem_of_getElem? (i := 55) rfl)) (hw _ (List.mem_of_getElem? (i := 8) rfl)) (hw _ (List.mem_of_getElem? (i := 57) rfl)) (by decide) rfl rfl (lenOf own_pd6 rfl) rfl (Nat.le_of_eq rfl) (by decide) (by decide) (by decide) (by decide) at_405 rfl (fun _ _ q => by obtain ⟨_, K, _⟩ := q; exact K.1) (fun T837 h837 v837 X837 P837 => ?_)
    obtain ⟨rfl, K837, O837_0, O837_1, O837_2, O837_3⟩ := P837
    have A838 := A828.keep K837 (ninS ne_b687_b744 nin0)
    have A839 := A829.keep K837 (ninS ne_b699_b744 nin0)
    have E840 := O827_0.keep K837
    have E841 := E831.keep K837
    have F842 := F832.keep K837 (ninS (Ne.symm ne_b744_b754) nin0)
    have F843 := F833.keep K837 (ninS (Ne.symm ne_b744_b754) nin0)
    have A844 := A834.keep K837 (ninS ne_b691_b744 nin0)
    have A845 := A835.keep K837 (ninS (Ne.symm ne_b744_t2767) nin0)
    have M6 : own_M (fun q => if q = (4 - 1) then (-2147483648 : Int32) else (fun q => if q = 2 then (nf 2) else (fun q => if q = 1 then (nf 1) else (fun q => if q = 0 then (nf 0) else (fun _ => 0) q) q) q) q) tf 3 6 (own_nx (fun q => if q = (4 - 1) then (-2147483648 : Int32) else (fun q => if q = 2 then (nf 2) else (fun q => if q = 1 then (nf 1) else (fun q => if q = 0 then (nf 0) else (fun _ => 0) q) q) q) q) b1767 (tf 5) (own_nx (fun q => if q = (4 - 1) then (-2147483648 : Int32) else (fun q => if q = 2 then (nf 2) else (fun q => if q = 1 then (nf 1) else (fun q => if q = 0 then (nf 0) else (fun _ => 0) q) q) q) q) b1767 (tf 4) (own_nx (fun q => if q = (4 - 1) then (-2147483648 : Int32) else (fun q => if q = 2 then (nf 2) else (fun q => if q = 1 then (nf 1) else (fun q => if q = 0 then (nf 0) else (fun _ => 0) q) q) q) q) b1767 (tf 3) (own_nx (fun q => if q = (4 - 1) then (-2147483648 : Int32) else (fun q => if q = 2 then (nf 2) else (fun q => if q = 1 then (nf 1) else (fun q => if q = 0 then (nf 0) else (fun _ => 0) q) q) q) q) b1767 (tf 2) (own_nx (fun q => if q = (4 - 1) then (-2147483648 : Int32) else (fun q => if q = 2 then (nf 2) else (fun q => if q = 1 then (nf 1) else (fun q => if q = 0 then (nf 0) else (fun _ => 0) q) q) q) q) b1767 (tf 1) (own_nx (fun q => if q = (4 - 1) then (-2147483648 : Int32) else (fun q => if q = 2 then (nf 2) else (fun q => if q = 1 then (nf 1) else (fun q => if q = 0 then (nf 0) else (fun _ => 0) q) q) q) q) b1767 (tf 0) 0)))))) := own_Mstep (fun q a d => Y767_0 q a (by omega)) M5 (own_notmin (htf 5) (own_ag3 nf).2)
    show Go p e below s n0 _ _ _ T837 (mkF m 408 #[.val (.long x0), .second, .val (.int x1), .val (.long x2), .second, .val (.int x3), .val (.int (3 : Int32)), .val (.int (3 : Int32)), .val (.ref b687), .val (.ref b691), .val (.ref b699), .val (.ref b744), .val (.int ((((((1 : Int32) &&& (1 : Int32)) &&& (1 : Int32)) &&& (1 : Int32)) &&& (1 : Int32)) &&& (1 : Int32)))] [(.long (if (own_nx (fun q => if q = (4 - 1) then (-2147483648 : Int32) else (fun q => if q = 2 then (nf 2) else (fun q => if q = 1 then (nf 1) else (fun q => if q = 0 then (nf 0) else (fun _ => 0) q) q) q) q) b1767 (tf 5) (own_nx (fun q => if q = (4 - 1) then (-2147483648 : Int32) else (fun q => if q = 2 then (nf 2) else (fun q => if q = 1 then (nf 1) else (fun q => if q = 0 then (nf 0) else (fun _ => 0) q) q) q) q) b1767 (tf 4) (own_nx (fun q => if q = (4 - 1) then (-2147483648 : Int32) else (fun q => if q = 2 then (nf 2) else (fun q => if q = 1 then (nf 1) else (fun q => if q = 0 then (nf 0) else (fun _ => 0) q) q) q) q) b1767 (tf 3) (own_nx (fun q => if q = (4 - 1) then (-2147483648 : Int32) else (fun q => if q = 2 then (nf 2) else (fun q => if q = 1 then (nf 1) else (fun q => if q = 0 then (nf 0) else (fun _ => 0) q) q) q) q) b1767 (tf 2) (own_nx (fun q => if q = (4 - 1) then (-2147483648 : Int32) else (fun q => if q = 2 then (nf 2) else (fun q => if q = 1 then (nf 1) else (fun q => if q = 0 then (nf 0) else (fun _ => 0) q) q) q) q) b1767 (tf 1) (own_nx (fun q => if q = (4 - 1) then (-2147483648 : Int32) else (fun q => if q = 2 then (nf 2) else (fun q => if q = 1 then (nf 1) else (fun q => if q = 0 then (nf 0) else (fun _ => 0) q) q) q) q) b1767 (tf 0) 0)))))) = 4 - 1 then ((((((((0 : Int64) + (1 : Int64)) + (1 : Int64)) + (1 : Int64)) + (1 : Int64)) + (1 : Int64)) + (1 : Int64)) - (Int32.ofNat (own_nx (fun q => if q = (4 - 1) then (-2147483648 : Int32) else (fun q => if q = 2 then (nf 2) else (fun q => if q = 1 then (nf 1) else (fun q => if q = 0 then (nf 0) else (fun _ => 0) q) q) q) q) b1767 (tf 5) (own_nx (fun q => if q = (4 - 1) then (-2147483648 : Int32) else (fun q => if q = 2 then (nf 2) else (fun q => if q = 1 then (nf 1) else (fun q => if q = 0 then (nf 0) else (fun _ => 0) q) q) q) q) b1767 (tf 4) (own_nx (fun q => if q = (4 - 1) then (-2147483648 : Int32) else (fun q => if q = 2 then (nf 2) else (fun q => if q = 1 then (nf 1) else (fun q => if q = 0 then (nf 0) else (fun _ => 0) q) q) q) q) b1767 (tf 3) (own_nx (fun q => if q = (4 - 1) then (-2147483648 : Int32) else (fun q => if q = 2 then (nf 2) else (fun q => if q = 1 then (nf 1) else (fun q => if q = 0 then (nf 0) else (fun _ => 0) q) q) q) q) b1767 (tf 2) (own_nx (fun q => if q = (4 - 1) then (-2147483648 : Int32) else (fun q => if q = 2 then (nf 2) else (fun q => if q = 1 then (nf 1) else (fun q => if q = 0 then (nf 0) else (fun _ => 0) q) q) q) q) b1767 (tf 1) (own_nx (fun q => if q = (4 - 1) then (-2147483648 : Int32) else (fun q => if q = 2 then (nf 2) else (fun q => if q = 1 then (nf 1) else (fun q => if q = 0 then (nf 0) else (fun _ => 0) q) q) q) q) b1767 (tf 0) 0))))))).toInt64) else (-1 : Int64))), (.int ((((((1 : Int32) &&& (1 : Int32)) &&& (1 : Int32)) &&& (1 : Int32)) &&& (1 : Int32)) &&& (1 : Int32)))])
    refine Go.aload C X837 (pc' := 410) at_408 rfl rfl rfl ?_
    refine Go.bipush C X837 (pc' := 412) (v := (6 : Int32)) at_410 rfl rfl ?_
    refine Go.aload C X837 (pc' := 414) at_412 rfl rfl rfl ?_
    refine Go.iload C X837 (pc' := 416) at_414 rfl rfl ?_
    refine Go.callS C X837 (pc' := 419) (W := 3) (argsL := [(.ref b699), (.int (6 : Int32)), (.ref b687), (.int (3 : Int32))]) (rest := [(.long (if (own_nx (fun q => if q = (4 - 1) then (-2147483648 : Int32) else (fun q => if q = 2 then (nf 2) else (fun q => if q = 1 then (nf 1) else (fun q => if q = 0 then (nf 0) else (fun _ => 0) q) q) q) q) b1767 (tf 5) (own_nx (fun q => if q = (4 - 1) then (-2147483648 : Int32) else (fun q => if q = 2 then (nf 2) else (fun q => if q = 1 then (nf 1) else (fun q => if q = 0 then (nf 0) else (fun _ => 0) q) q) q) q) b1767 (tf 4) (own_nx (fun q => if q = (4 - 1) then (-2147483648 : Int32) else (fun q => if q = 2 then (nf 2) else (fun q => if q = 1 then (nf 1) else (fun q => if q = 0 then (nf 0) else (fun _ => 0) q) q) q) q) b1767 (tf 3) (own_nx (fun q => if q = (4 - 1) then (-2147483648 : Int32) else (fun q => if q = 2 then (nf 2) else (fun q => if q = 1 then (nf 1) else (fun q => if q = 0 then (nf 0) else (fun _ => 0) q) q) q) q) b1767 (tf 2) (own_nx (fun q => if q = (4 - 1) then (-2147483648 : Int32) else (fun q => if q = 2 then (nf 2) else (fun q => if q = 1 then (nf 1) else (fun q => if q = 0 then (nf 0) else (fun _ => 0) q) q) q) q) b1767 (tf 1) (own_nx (fun q => if q = (4 - 1) then (-2147483648 : Int32) else (fun q => if q = 2 then (nf 2) else (fun q => if q = 1 then (nf 1) else (fun q => if q = 0 then (nf 0) else (fun _ => 0) q) q) q) q) b1767 (tf 0) 0)))))) = 4 - 1 then ((((((((0 : Int64) + (1 : Int64)) + (1 : Int64)) + (1 : Int64)) + (1 : Int64)) + (1 : Int64)) + (1 : Int64)) - (Int32.ofNat (own_nx (fun q => if q = (4 - 1) then (-2147483648 : Int32) else (fun q => if q = 2 then (nf 2) else (fun q => if q = 1 then (nf 1) else (fun q => if q = 0 then (nf 0) else (fun _ => 0) q) q) q) q) b1767 (tf 5) (own_nx (fun q => if q = (4 - 1) then (-2147483648 : Int32) else (fun q => if q = 2 then (nf 2) else (fun q => if q = 1 then (nf 1) else (fun q => if q = 0 then (nf 0) else (fun _ => 0) q) q) q) q) b1767 (tf 4) (own_nx (fun q => if q = (4 - 1) then (-2147483648 : Int32) else (fun q => if q = 2 then (nf 2) else (fun q => if q = 1 then (nf 1) else (fun q => if q = 0 then (nf 0) else (fun _ => 0) q) q) q) q) b1767 (tf 3) (own_nx (fun q => if q = (4 - 1) then (-2147483648 : Int32) else (fun q => if q = 2 then (nf 2) else (fun q => if q = 1 then (nf 1) else (fun q => if q = 0 then (nf 0) else (fun _ => 0) q) q) q) q) b1767 (tf 2) (own_nx (fun q => if q = (4 - 1) then (-2147483648 : Int32) else (fun q => if q = 2 then (nf 2) else (fun q => if q = 1 then (nf 1) else (fun q => if q = 0 then (nf 0) else (fun _ => 0) q) q) q) q) b1767 (tf 1) (own_nx (fun q => if q = (4 - 1) then (-2147483648 : Int32) else (fun q => if q = 2 then (nf 2) else (fun q => if q = 1 then (nf 1) else (fun q => if q = 0 then (nf 0) else (fun _ => 0) q) q) q) q) b1767 (tf 0) 0))))))).toInt64) else (-1 : Int64))), (.int ((((((1 : Int32) &&& (1 : Int32)) &&& (1 : Int32)) &&& (1 : Int32)) &&& (1 : Int32)) &&& (1 : Int32)))]) (rm_ex3 l Z a0 hw b699 (6 : Int32) b687 (3 : Int32) tf nf 6 h837 n0 X837.sz A839 A838 rfl rfl (by decide)) (hw _ (List.mem_of_getElem? (i := 64) rfl)) (hw _ (List.mem_of_getElem? (i := 65) rfl)) (hw _ (List.mem_of_getElem? (i := 4) rfl)) (hw _ (List.mem_of_getElem? (i := 66) rfl)) (by decide) rfl rfl (lenOf own_pd7 rfl) rfl (Nat.le_of_eq rfl) (by decide) (by decide) (by decide) (by decide) at_416 rfl (fun _ _ q => Nat.le_of_eq (congrArg Array.size q.2)) (fun T846 h846 v846 X846 P846 => ?_)
    obtain ⟨rfl, rfl⟩ := P846
    show Go p e below s n0 _ _ _ T846 (mkF m 419 #[.val (.long x0), .second, .val (.int x1), .val (.long x2), .second, .val (.int x3), .val (.int (3 : Int32)), .val (.int (3 : Int32)), .val (.ref b687), .val (.ref b691), .val (.ref b699), .val (.ref b744), .val (.int ((((((1 : Int32) &&& (1 : Int32)) &&& (1 : Int32)) &&& (1 : Int32)) &&& (1 : Int32)) &&& (1 : Int32)))] [(.long (if own_S nf tf 6 3 then Int64.ofNat (6 - 3) else (-1 : Int64))), (.long (if (own_nx (fun q => if q = (4 - 1) then (-2147483648 : Int32) else (fun q => if q = 2 then (nf 2) else (fun q => if q = 1 then (nf 1) else (fun q => if q = 0 then (nf 0) else (fun _ => 0) q) q) q) q) b1767 (tf 5) (own_nx (fun q => if q = (4 - 1) then (-2147483648 : Int32) else (fun q => if q = 2 then (nf 2) else (fun q => if q = 1 then (nf 1) else (fun q => if q = 0 then (nf 0) else (fun _ => 0) q) q) q) q) b1767 (tf 4) (own_nx (fun q => if q = (4 - 1) then (-2147483648 : Int32) else (fun q => if q = 2 then (nf 2) else (fun q => if q = 1 then (nf 1) else (fun q => if q = 0 then (nf 0) else (fun _ => 0) q) q) q) q) b1767 (tf 3) (own_nx (fun q => if q = (4 - 1) then (-2147483648 : Int32) else (fun q => if q = 2 then (nf 2) else (fun q => if q = 1 then (nf 1) else (fun q => if q = 0 then (nf 0) else (fun _ => 0) q) q) q) q) b1767 (tf 2) (own_nx (fun q => if q = (4 - 1) then (-2147483648 : Int32) else (fun q => if q = 2 then (nf 2) else (fun q => if q = 1 then (nf 1) else (fun q => if q = 0 then (nf 0) else (fun _ => 0) q) q) q) q) b1767 (tf 1) (own_nx (fun q => if q = (4 - 1) then (-2147483648 : Int32) else (fun q => if q = 2 then (nf 2) else (fun q => if q = 1 then (nf 1) else (fun q => if q = 0 then (nf 0) else (fun _ => 0) q) q) q) q) b1767 (tf 0) 0)))))) = 4 - 1 then ((((((((0 : Int64) + (1 : Int64)) + (1 : Int64)) + (1 : Int64)) + (1 : Int64)) + (1 : Int64)) + (1 : Int64)) - (Int32.ofNat (own_nx (fun q => if q = (4 - 1) then (-2147483648 : Int32) else (fun q => if q = 2 then (nf 2) else (fun q => if q = 1 then (nf 1) else (fun q => if q = 0 then (nf 0) else (fun _ => 0) q) q) q) q) b1767 (tf 5) (own_nx (fun q => if q = (4 - 1) then (-2147483648 : Int32) else (fun q => if q = 2 then (nf 2) else (fun q => if q = 1 then (nf 1) else (fun q => if q = 0 then (nf 0) else (fun _ => 0) q) q) q) q) b1767 (tf 4) (own_nx (fun q => if q = (4 - 1) then (-2147483648 : Int32) else (fun q => if q = 2 then (nf 2) else (fun q => if q = 1 then (nf 1) else (fun q => if q = 0 then (nf 0) else (fun _ => 0) q) q) q) q) b1767 (tf 3) (own_nx (fun q => if q = (4 - 1) then (-2147483648 : Int32) else (fun q => if q = 2 then (nf 2) else (fun q => if q = 1 then (nf 1) else (fun q => if q = 0 then (nf 0) else (fun _ => 0) q) q) q) q) b1767 (tf 2) (own_nx (fun q => if q = (4 - 1) then (-2147483648 : Int32) else (fun q => if q = 2 then (nf 2) else (fun q => if q = 1 then (nf 1) else (fun q => if q = 0 then (nf 0) else (fun _ => 0) q) q) q) q) b1767 (tf 1) (own_nx (fun q => if q = (4 - 1) then (-2147483648 : Int32) else (fun q => if q = 2 then (nf 2) else (fun q => if q = 1 then (nf 1) else (fun q => if q = 0 then (nf 0) else (fun _ => 0) q) q) q) q) b1767 (tf 0) 0))))))).toInt64) else (-1 : Int64))), (.int ((((((1 : Int32) &&& (1 : Int32)) &&& (1 : Int32)) &&& (1 : Int32)) &&& (1 : Int32)) &&& (1 : Int32)))])
    refine Go.lcmp C X846 (pc' := 420) at_419 rfl ?_
    refine Go.ifNo C X846 (pc' := 423) at_420 ((if0 _ _).trans (teq ((lw_eq _ _).mpr (own_ans M6 (by decide) (own_ag3 nf).1 rfl (by decide)))).2) rfl ?_
    refine Go.iconst C X846 (pc' := 424) (v := (1 : Int32)) at_423 rfl rfl ?_
    refine Go.goto C X846 (pc' := 428) at_424 (by decide) (by decide) ?_
    refine Go.iand C X846 (pc' := 429) at_428 rfl ?_
    refine Go.istore C X846 (pc' := 431) (Ls' := #[.val (.long x0), .second, .val (.int x1), .val (.long x2), .second, .val (.int x3), .val (.int (3 : Int32)), .val (.int (3 : Int32)), .val (.ref b687), .val (.ref b691), .val (.ref b699), .val (.ref b744), .val (.int (((((((1 : Int32) &&& (1 : Int32)) &&& (1 : Int32)) &&& (1 : Int32)) &&& (1 : Int32)) &&& (1 : Int32)) &&& (1 : Int32)))]) at_429 rfl rfl ?_
    refine Go.iload C X846 (pc' := 433) at_431 rfl rfl ?_
    refine Go.aload C X846 (pc' := 435) at_433 rfl rfl rfl ?_
    refine Go.callV C X846 (pc' := 438) (W := 1) (argsL := []) (rest := [(.int (((((((1 : Int32) &&& (1 : Int32)) &&& (1 : Int32)) &&& (1 : Int32)) &&& (1 : Int32)) &&& (1 : Int32)) &&& (1 : Int32)))]) (a := b744) (rm_fed l Z a0 hw b744 (((((((0 : Int64) + (1 : Int64)) + (1 : Int64)) + (1 : Int64)) + (1 : Int64)) + (1 : Int64)) + (1 : Int64)) h837 n0 X846.sz O837_3) O837_0 (notFace_of_selects (args := #[]) (mvT C.2.1 (hw _ (List.mem_of_getElem? (i := 71) rfl)))) (hw _ (List.mem_of_getElem? (i := 68) rfl)) (hw _ (List.mem_of_getElem? (i := 69) rfl)) (hw _ (List.mem_of_getElem? (i := 71) rfl)) (hw _ (List.mem_of_getElem? (i := 70) rfl)) (hw _ (List.mem_of_getElem? (i := 8) rfl)) (hw _ (List.mem_of_getElem? (i := 72) rfl)) (by decide) rfl rfl (lenOf own_pd8 rfl) rfl (Nat.le_of_eq rfl) (by decide) (by decide) (by decide) (by decide) at_435 rfl (fun _ _ q => Nat.le_of_eq (congrArg Array.size q.2)) (fun T847 h847 v847 X847 P847 => ?_)
    obtain ⟨rfl, rfl⟩ := P847
    show Go p e below s n0 _ _ _ T847 (mkF m 438 #[.val (.long x0), .second, .val (.int x1), .val (.long x2), .second, .val (.int x3), .val (.int (3 : Int32)), .val (.int (3 : Int32)), .val (.ref b687), .val (.ref b691), .val (.ref b699), .val (.ref b744), .val (.int (((((((1 : Int32) &&& (1 : Int32)) &&& (1 : Int32)) &&& (1 : Int32)) &&& (1 : Int32)) &&& (1 : Int32)) &&& (1 : Int32)))] [(.long (((((((0 : Int64) + (1 : Int64)) + (1 : Int64)) + (1 : Int64)) + (1 : Int64)) + (1 : Int64)) + (1 : Int64))), (.int (((((((1 : Int32) &&& (1 : Int32)) &&& (1 : Int32)) &&& (1 : Int32)) &&& (1 : Int32)) &&& (1 : Int32)) &&& (1 : Int32)))])
    refine Go.ldc2 C X847 (pc' := 441) (hw _ (List.mem_of_getElem? (i := 73) rfl)) at_438 rfl ?_
    refine Go.lcmp C X847 (pc' := 442) at_441 rfl ?_
    refine Go.ifNo C X847 (pc' := 445) at_442 ((if0 _ _).trans (teq ((lw_eq _ _).mpr rfl)).2) rfl ?_
    refine Go.iconst C X847 (pc' := 446) (v := (1 : Int32)) at_445 rfl rfl ?_
    refine Go.goto C X847 (pc' := 450) at_446 (by decide) (by decide) ?_
    refine Go.iand C X847 (pc' := 451) at_450 rfl ?_
    refine Go.istore C X847 (pc' := 453) (Ls' := #[.val (.long x0), .second, .val (.int x1), .val (.long x2), .second, .val (.int x3), .val (.int (3 : Int32)), .val (.int (3 : Int32)), .val (.ref b687), .val (.ref b691), .val (.ref b699), .val (.ref b744), .val (.int ((((((((1 : Int32) &&& (1 : Int32)) &&& (1 : Int32)) &&& (1 : Int32)) &&& (1 : Int32)) &&& (1 : Int32)) &&& (1 : Int32)) &&& (1 : Int32)))]) at_451 rfl rfl ?_
    refine Go.iload C X847 (pc' := 455) at_453 rfl rfl ?_
    exact Go.retZ (t := .boolean) C X847 (z' := ((((((((1 : Int32) &&& (1 : Int32)) &&& (1 : Int32)) &&& (1 : Int32)) &&& (1 : Int32)) &&& (1 : Int32)) &&& (1 : Int32)) &&& (1 : Int32))) (by decide) at_455 rfl (by decide) (by decide)
set_option maxRecDepth 65536 in
set_option maxHeartbeats 40000000 in
theorem comes_1 {Post : Tables → Env → Array Value → State → Outcome → State → Prop} (hpost : ∀ tb e args s v u, (limb_1_1.after args s (.returned v) u = true ∧ limb_1_2.after args s (.returned v) u = true ∧ True) → FrameEnd s (.returned v) u (Jvm.fieldLocs frame_1_writes args s ++ Jvm.arrayLocs frame_1_arrays args s ++ Jvm.staticLocs frame_1_statics s) 24 128 → Post tb e args s (.returned v) u) :
    ArmFor flags0 classFile x code maxLocals ret World_1 tables_1 room_1 Calls_1 rest_1 Pre_1 Post := by
  intro l hfl _ _ p e ha hc hk s m args below hf hA hF happ hP
  obtain ⟨hcalls, hrest, hpre⟩ := hP
  obtain ⟨-, -, -, hnamed, -, -, -, hat⟩ := (Spec.applies_iff hf).mp happ
  obtain ⟨hg, hn⟩ := and_e (Cond.before_iff.mp (show (Jvm.Cond.and given_1 narrow_1).before args s = true from hpre))
  obtain ⟨hcount, hg0⟩ := and_e hg
  obtain ⟨w0, w1, w2, w3, rfl⟩ : ∃ w0 w1 w2 w3 : Value, args = #[w0, w1, w2, w3] := by
    have hs : args.size = 4 := by simpa [Cond.value, given_1] using hcount
    obtain ⟨L⟩ := args
    match L, hs with
    | [w0, w1, w2, w3], _ => exact ⟨w0, w1, w2, w3, rfl⟩
  have hw := fun d (hd : d ∈ tables_1) => atoms_spec (ws := Jvm.Cond.code x code maxLocals ret :: tables_1) hat d (List.mem_cons_of_mem _ hd)
  have hfit : Fit s := fun {y c} hc i hi => by
    obtain ⟨ha, rfl⟩ := Array.getElem?_eq_some_iff.mp hc
    have q := List.all_eq_true.mp ((Array.all_eq_true_iff_forall_mem.mp hF) _ (Array.getElem_mem ha)) i (List.mem_range.mpr hi)
    simpa [Array.getElem?_eq_getElem hi] using q
  obtain ⟨ha0, hg1⟩ := and_e hg0
  obtain ⟨i0, e0⟩ := isL_v ha0
  obtain rfl : w0 = (.long i0) := Option.some.inj e0
  obtain ⟨ha1, hg2⟩ := and_e hg1
  obtain ⟨i1, e1⟩ := is_v ha1
  obtain rfl : w1 = (.int i1) := Option.some.inj e1
  obtain ⟨ha2, hg3⟩ := and_e hg2
  obtain ⟨i2, e2⟩ := isL_v ha2
  obtain rfl : w2 = (.long i2) := Option.some.inj e2
  obtain ⟨i3, e3⟩ := is_v hg3
  obtain rfl : w3 = (.int i3) := Option.some.inj e3
  obtain ⟨n, o, h1, h2, h3, _, L, rfl, ⟨rfl, N⟩, hq⟩ := rm0 l s _ hw i0 i1 i2 i3 s.heap s.heap.size (Nat.le_refl _)  tables_1 p e ha hc hk s m _ below hf ((Spec.applies_iff_loose hf).mp happ).1 ⟨rfl, State.Warmed39.refl s, rfl⟩ trivial
  refine ⟨n, _, h1, h2, h3, hpost _ _ _ _ _ _ ⟨Cond.after_iff.mpr rfl, Cond.after_iff.mpr (eq_i res_at (Term.int_eval (1)) rfl), trivial⟩ ⟨hq.1, hq.2.1, (hq.2.2.sift fun y hy => Or.inr (N y hy)).mono (by decide) (by decide)⟩⟩
theorem main_1_1 : Claimed_1_1 := comes_1 fun _ _ _ _ _ _ h hF => ⟨h.1, hF⟩
theorem main_1_2 : Claimed_1_2 := comes_1 fun _ _ _ _ _ _ h hF => ⟨h.2.1, hF⟩
end Jvm.Pilot.@@N@@
namespace Jvm.Pilot.@@N@@
open Jvm Jvm.ClassFile Sem Op Lib Jvm.Free Jvm.Stand Jvm.Pilot.@@N@@.Jvm.D
/-! MADE BY PROGRAM (witnessworld.py) out of the Statement's table words and the real class files: 10 classes; the members and pool entries that the words name. The judged class is class 1, her method 1. -/
namespace start1
open Jvm.ClassFile
def u (s : String) : CpInfo := .utf8 (stringToUtf16 s)
/-- a pool by its gaps: so many unusable entries, then the entry; so many at the end -/
def gap : Nat → List CpInfo → List CpInfo
  | 0, r => r
  | n + 1, r => .unusable :: gap n r
def poolList (es : List (Nat × CpInfo)) (last : Nat) : List CpInfo := es.foldr (fun e r => gap e.1 (e.2 :: r)) (gap last [])
def pool (es : List (Nat × CpInfo)) (last : Nat) : Array CpInfo := ⟨poolList es last⟩
def fileOf (pool : Array CpInfo) (this : Nat) (attrs : Array Attribute := #[]) (ms : Array MethodInfo := #[]) (fl : Nat := 33) (sup : Nat := 0) (ifs : Array Nat := #[]) (fds : Array FieldInfo := #[]) : ClassFile where
  minorVersion := 0
  majorVersion := 65
  constantPool := pool
  accessFlags := fl
  thisClass := this
  superClass := sup
  interfaces := ifs
  fields := fds
  methods := ms
  attributes := attrs
def plain (name : String) (sup : Option ClassId) : Class where
  name := name
  kind := .ordinary
  loader := none
  accessFlags := 33
  super := sup
  interfaces := #[]
  cf := none
  fields := #[]
  methods := #[]
  instanceTypes := #[]
  staticTypes := #[]
  resolved := #[]
  callSites := []
  init := .initialized
  statics := none
  mirror := none

def pool0 : Array CpInfo := pool [(5, u "<init>"), (0, u "()V"), (1, .class_ 10), (1, u "java/lang/Object")] 113

def k0c0 : Code := { maxStack := 0, maxLocals := 1, code := object_method_1_code, exceptionTable := #[], attributes := #[] }
def k0m0 : Method := { name := "<init>", desc := "()V", sig := { parameters := [], returnType := none }, accessFlags := 1, code := some k0c0 }
/-- java/lang/Object -/
def k0 : Class := { plain "java/lang/Object" none with
  accessFlags := 33
  interfaces := #[]
  cf := some (fileOf pool0 8 #[] #[{ accessFlags := 1, nameIndex := 5, descriptorIndex := 6, attributes := #[] }] 33 0 #[] #[])
  fields := #[]
  methods := #[k0m0]
  instanceTypes := #[]
  staticTypes := #[]
  resolved := Array.replicate 124 none
  statics := none }

def pool1 : Array CpInfo := pool [(2, .class_ 4), (1, u "java/lang/Object"), (0, u "<init>"), (0, u "()V"), (0, .methodref 8 9), (0, .class_ 10), (0, .nameAndType 11 12), (0, u "com/example/needlewright/needlewright/ByteMatcherFeedPinLaw"), (0, u "pick"), (0, u "(II[BIJ)B"), (0, .class_ 14), (0, u "com/example/needlewright/needlewright/ByteMatcher"), (0, .class_ 16), (0, u "com/example/needlewright/needlewright/Automaton"), (0, .methodref 15 18), (0, .nameAndType 5 19), (0, u "([I)V"), (0, .methodref 13 21), (0, .nameAndType 5 22), (0, u "(Lcom/example/needlewright/needlewright/Automaton;)V"), (0, .methodref 13 24), (0, .nameAndType 25 26), (0, u "feed"), (0, u "(B)J"), (0, .methodref 8 28), (0, .nameAndType 29 30), (0, u "expected"), (0, u "([BI[BI)J"), (0, .methodref 13 32), (0, .nameAndType 33 34), (0, u "fed"), (0, u "()J"), (0, .long 6), (1, .long 18446744073709551615), (3, u "law"), (0, u "(JIJI)Z")] 7

def k1m0 : Method := { name := "<init>", desc := "()V", sig := { parameters := [], returnType := none }, accessFlags := 1, code := none }
def k1c1 : Code := { maxStack := 8, maxLocals := 13, code := code, exceptionTable := #[], attributes := #[] }
def k1m1 : Method := { name := "law", desc := "(JIJI)Z", sig := { parameters := [.long, .int, .long, .int], returnType := some .boolean }, accessFlags := 9, code := some k1c1 }
def k1c2 : Code := { maxStack := 4, maxLocals := 7, code := method_3_code, exceptionTable := #[], attributes := #[] }
def k1m2 : Method := { name := "pick", desc := "(II[BIJ)B", sig := { parameters := [.int, .int, (.array .byte), .int, .long], returnType := some .byte }, accessFlags := 10, code := some k1c2 }
def k1c3 : Code := { maxStack := 3, maxLocals := 5, code := method_4_code, exceptionTable := #[], attributes := #[] }
def k1m3 : Method := { name := "expected", desc := "([BI[BI)J", sig := { parameters := [(.array .byte), .int, (.array .byte), .int], returnType := some .long }, accessFlags := 10, code := some k1c3 }
/-- com/example/needlewright/needlewright/ByteMatcherFeedPinLaw -/
def k1 : Class := { plain "com/example/needlewright/needlewright/ByteMatcherFeedPinLaw" (some 0) with
  accessFlags := 49
  interfaces := #[]
  cf := some (fileOf pool1 8 #[] #[{ accessFlags := 1, nameIndex := 5, descriptorIndex := 6, attributes := #[] }, { accessFlags := 9, nameIndex := 41, descriptorIndex := 42, attributes := #[] }, { accessFlags := 10, nameIndex := 11, descriptorIndex := 12, attributes := #[] }, { accessFlags := 10, nameIndex := 29, descriptorIndex := 30, attributes := #[] }] 49 2 #[] #[])
  fields := #[]
  methods := #[k1m0, k1m1, k1m2, k1m3]
  instanceTypes := #[]
  staticTypes := #[]
  resolved := Array.replicate 50 none
  statics := none }

def pool2 : Array CpInfo := pool [(1, .class_ 2), (0, u "com/example/needlewright/needlewright/ByteMatcher"), (0, .methodref 4 5), (0, .class_ 6), (0, .nameAndType 7 8), (0, u "java/lang/Object"), (0, u "<init>"), (0, u "()V"), (0, .fieldref 1 10), (0, .nameAndType 11 12), (0, u "automaton"), (0, u "Lcom/example/needlewright/needlewright/Automaton;"), (0, .methodref 14 15), (0, .class_ 16), (0, .nameAndType 17 18), (0, u "com/example/needlewright/needlewright/Automaton"), (0, u "length"), (0, u "()I"), (0, .fieldref 1 20), (0, .nameAndType 21 22), (0, u "hasSecond"), (0, u "Z"), (0, .fieldref 14 24), (0, .nameAndType 25 26), (0, u "units"), (0, u "[I"), (0, .long 255), (1, .long 72340172838076673), (1, .fieldref 1 32), (0, .nameAndType 33 34), (0, u "firstInEachByte"), (0, u "J"), (0, .fieldref 1 36), (0, .nameAndType 37 34), (0, u "secondInEachByte"), (0, .fieldref 1 39), (0, .nameAndType 40 41), (0, u "matched"), (0, u "I"), (0, .methodref 14 43), (0, .nameAndType 44 45), (0, u "fallBack"), (0, u "(II)I"), (0, .fieldref 1 47), (0, .nameAndType 48 34), (0, u "fed"), (0, .long 18446744073709551615), (25, u "WORDS"), (0, u "Ljava/lang/invoke/VarHandle;"), (34, u "ONES"), (1, u "LOW_SEVEN_BITS"), (0, u "HIGH_BITS"), (0, u "(Lcom/example/needlewright/needlewright/Automaton;)V"), (3, u "feed"), (0, u "(B)J"), (4, u "()J")] 4

def k2c0 : Code := { maxStack := 5, maxLocals := 2, code := prog_4_method_1_code, exceptionTable := #[], attributes := #[] }
def k2m0 : Method := { name := "<init>", desc := "(Lcom/example/needlewright/needlewright/Automaton;)V", sig := { parameters := [(.object "com/example/needlewright/needlewright/Automaton")], returnType := none }, accessFlags := 0, code := some k2c0 }
def k2c1 : Code := { maxStack := 5, maxLocals := 3, code := prog_4_method_2_code, exceptionTable := #[], attributes := #[] }
def k2m1 : Method := { name := "feed", desc := "(B)J", sig := { parameters := [.byte], returnType := some .long }, accessFlags := 1, code := some k2c1 }
def k2c2 : Code := { maxStack := 2, maxLocals := 1, code := prog_4_method_5_code, exceptionTable := #[], attributes := #[] }
def k2m2 : Method := { name := "fed", desc := "()J", sig := { parameters := [], returnType := some .long }, accessFlags := 1, code := some k2c2 }
/-- com/example/needlewright/needlewright/ByteMatcher -/
def k2 : Class := { plain "com/example/needlewright/needlewright/ByteMatcher" (some 0) with
  accessFlags := 49
  interfaces := #[]
  cf := some (fileOf pool2 1 #[] #[{ accessFlags := 0, nameIndex := 7, descriptorIndex := 115, attributes := #[] }, { accessFlags := 1, nameIndex := 119, descriptorIndex := 120, attributes := #[] }, { accessFlags := 1, nameIndex := 48, descriptorIndex := 125, attributes := #[] }] 49 4 #[] #[{ accessFlags := 26, nameIndex := 75, descriptorIndex := 76, attributes := #[] }, { accessFlags := 26, nameIndex := 111, descriptorIndex := 34, attributes := #[] }, { accessFlags := 26, nameIndex := 113, descriptorIndex := 34, attributes := #[] }, { accessFlags := 26, nameIndex := 114, descriptorIndex := 34, attributes := #[] }, { accessFlags := 18, nameIndex := 11, descriptorIndex := 12, attributes := #[] }, { accessFlags := 18, nameIndex := 21, descriptorIndex := 22, attributes := #[] }, { accessFlags := 18, nameIndex := 33, descriptorIndex := 34, attributes := #[] }, { accessFlags := 18, nameIndex := 37, descriptorIndex := 34, attributes := #[] }, { accessFlags := 2, nameIndex := 40, descriptorIndex := 41, attributes := #[] }, { accessFlags := 2, nameIndex := 48, descriptorIndex := 34, attributes := #[] }])
  fields := #[{ name := "WORDS", type := (.object "java/lang/invoke/VarHandle"), accessFlags := 26, slot := 0, constantValue := 0 }, { name := "ONES", type := .long, accessFlags := 26, slot := 1, constantValue := 0 }, { name := "LOW_SEVEN_BITS", type := .long, accessFlags := 26, slot := 2, constantValue := 0 }, { name := "HIGH_BITS", type := .long, accessFlags := 26, slot := 3, constantValue := 0 }, { name := "automaton", type := (.object "com/example/needlewright/needlewright/Automaton"), accessFlags := 18, slot := 0, constantValue := 0 }, { name := "hasSecond", type := .boolean, accessFlags := 18, slot := 1, constantValue := 0 }, { name := "firstInEachByte", type := .long, accessFlags := 18, slot := 2, constantValue := 0 }, { name := "secondInEachByte", type := .long, accessFlags := 18, slot := 3, constantValue := 0 }, { name := "matched", type := .int, accessFlags := 2, slot := 4, constantValue := 0 }, { name := "fed", type := .long, accessFlags := 2, slot := 5, constantValue := 0 }]
  methods := #[k2m0, k2m1, k2m2]
  instanceTypes := #[(.object "com/example/needlewright/needlewright/Automaton"), .boolean, .long, .long, .int, .long]
  staticTypes := #[(.object "java/lang/invoke/VarHandle"), .long, .long, .long]
  resolved := Array.replicate 130 none
  statics := none }

def pool3 : Array CpInfo := pool [(3, .methodref 4 5), (0, .class_ 6), (0, .nameAndType 7 8), (0, u "java/lang/Object"), (0, u "<init>"), (0, u "()V"), (7, .class_ 17), (0, u "com/example/needlewright/needlewright/Automaton"), (0, .integer 2147483648), (0, .fieldref 16 20), (0, .nameAndType 21 22), (0, u "units"), (0, u "[I"), (0, .fieldref 16 24), (0, .nameAndType 25 22), (0, u "borders"), (0, .methodref 16 27), (0, .nameAndType 28 8), (0, u "fillBorders"), (0, .methodref 16 30), (0, .nameAndType 31 32), (0, u "length"), (0, u "()I"), (0, .methodref 16 34), (0, .nameAndType 35 36), (0, u "fallBack"), (0, u "(II)I"), (0, u "BEYOND"), (0, u "I"), (1, u "([I)V")] 6

def k3c0 : Code := { maxStack := 3, maxLocals := 2, code := prog_3_method_1_code, exceptionTable := #[], attributes := #[] }
def k3m0 : Method := { name := "<init>", desc := "([I)V", sig := { parameters := [(.array .int)], returnType := none }, accessFlags := 0, code := some k3c0 }
def k3c1 : Code := { maxStack := 2, maxLocals := 1, code := prog_3_method_2_code, exceptionTable := #[], attributes := #[] }
def k3m1 : Method := { name := "length", desc := "()I", sig := { parameters := [], returnType := some .int }, accessFlags := 0, code := some k3c1 }
def k3c2 : Code := { maxStack := 2, maxLocals := 3, code := prog_3_method_3_code, exceptionTable := #[], attributes := #[] }
def k3m2 : Method := { name := "fallBack", desc := "(II)I", sig := { parameters := [.int, .int], returnType := some .int }, accessFlags := 0, code := some k3c2 }
def k3c3 : Code := { maxStack := 4, maxLocals := 3, code := prog_3_method_4_code, exceptionTable := #[], attributes := #[] }
def k3m3 : Method := { name := "fillBorders", desc := "()V", sig := { parameters := [], returnType := none }, accessFlags := 2, code := some k3c3 }
/-- com/example/needlewright/needlewright/Automaton -/
def k3 : Class := { plain "com/example/needlewright/needlewright/Automaton" (some 0) with
  accessFlags := 48
  interfaces := #[]
  cf := some (fileOf pool3 16 #[] #[{ accessFlags := 0, nameIndex := 7, descriptorIndex := 40, attributes := #[] }, { accessFlags := 0, nameIndex := 31, descriptorIndex := 32, attributes := #[] }, { accessFlags := 0, nameIndex := 35, descriptorIndex := 36, attributes := #[] }, { accessFlags := 2, nameIndex := 28, descriptorIndex := 8, attributes := #[] }] 48 4 #[] #[{ accessFlags := 26, nameIndex := 37, descriptorIndex := 38, attributes := #[] }, { accessFlags := 16, nameIndex := 21, descriptorIndex := 22, attributes := #[] }, { accessFlags := 18, nameIndex := 25, descriptorIndex := 22, attributes := #[] }])
  fields := #[{ name := "BEYOND", type := .int, accessFlags := 26, slot := 0, constantValue := 0 }, { name := "units", type := (.array .int), accessFlags := 16, slot := 0, constantValue := 0 }, { name := "borders", type := (.array .int), accessFlags := 18, slot := 1, constantValue := 0 }]
  methods := #[k3m0, k3m1, k3m2, k3m3]
  instanceTypes := #[(.array .int), (.array .int)]
  staticTypes := #[.int]
  resolved := Array.replicate 47 none
  statics := none }

def pool4 : Array CpInfo := pool [(1, u "java/lang/Cloneable"), (0, .class_ 1), (0, u "java/lang/Object"), (0, .class_ 3)] 3

/-- java/lang/Cloneable -/
def k4 : Class := { plain "java/lang/Cloneable" (some 0) with
  accessFlags := 1537
  interfaces := #[]
  cf := some (fileOf pool4 2 #[] #[] 1537 4 #[] #[])
  fields := #[]
  methods := #[]
  instanceTypes := #[]
  staticTypes := #[]
  resolved := Array.replicate 8 none
  statics := none }

def pool5 : Array CpInfo := pool [(1, u "java/io/Serializable"), (0, .class_ 1), (0, u "java/lang/Object"), (0, .class_ 3)] 3

/-- java/io/Serializable -/
def k5 : Class := { plain "java/io/Serializable" (some 0) with
  accessFlags := 1537
  interfaces := #[]
  cf := some (fileOf pool5 2 #[] #[] 1537 4 #[] #[])
  fields := #[]
  methods := #[]
  instanceTypes := #[]
  staticTypes := #[]
  resolved := Array.replicate 8 none
  statics := none }

/-- the primitive byte -/
def k6 : Class := { plain "byte" none with kind := .primitive 'B', accessFlags := 0x411 }
/-- [B -/
def k7 : Class := { plain "[B" (some 0) with kind := .array 6 .byte, interfaces := #[4, 5], accessFlags := 1041 }

/-- the primitive int -/
def k8 : Class := { plain "int" none with kind := .primitive 'I', accessFlags := 0x411 }
/-- [I -/
def k9 : Class := { plain "[I" (some 0) with kind := .array 8 .int, interfaces := #[4, 5], accessFlags := 1041 }

def heap : Heap := #[]
def classes : Array Class := #[k0, k1, k2, k3, k4, k5, k6, k7, k8, k9]
def interned : List (Array UInt16 × Addr) := []
def slotsUsed : Nat := 0
def theMethod : MethodId := ⟨1, 1⟩
def args0 : Array Value := #[.long 6422881, .int 2, .long 99, .int 100]
def aboutOver (below : List Frame) : State where
  vm := { classes := classes, interned := interned.toArray }
  heap := heap
  slotsUsed := slotsUsed
  threads := #[{ frames := .invoking theMethod args0 :: below }]
def below0 : List Frame := [.native { method := ⟨0, 0⟩, args := #[] }]
def about1 : State := aboutOver below0
def p0 : Program := .bare "" "" ""
def e0 : Env := launch0.env 0 0 0
theorem w_frames : about1.frames = Frame.invoking theMethod args0 :: below0 := rfl
set_option maxRecDepth 65536 in
theorem w_args : argsFit about1.vm theMethod args0 = true := by decide +kernel
set_option maxRecDepth 65536 in
theorem w_heap : heapFits about1 = true := by decide +kernel
set_option maxRecDepth 65536 in
theorem w_runnable : about1.curStatus? = some .runnable := by decide +kernel
set_option maxRecDepth 65536 in
theorem w_alone : about1.alone = true := by decide +kernel
set_option maxRecDepth 65536 in
theorem w_named : about1.methodNamed? x = some theMethod := by decide +kernel
set_option maxRecDepth 65536 in
theorem w_hears : about1.hears theMethod below0 = true := by decide +kernel
set_option maxRecDepth 65536 in
theorem w_ripe : about1.ripe theMethod args0 below0 = true := by decide +kernel
theorem w_running : about1.status = .running := rfl
set_option maxRecDepth 65536 in
theorem w_room : about1.hasRoom e0.platform room_1 = true :=
  launch0.hasRoom_least _ room_1 (by decide +kernel) (by decide +kernel) (by decide +kernel) (by decide +kernel) (by decide +kernel) (by decide +kernel)
theorem allAtoms_all (ts : List Jvm.Cond) (a : Array Jvm.Value) (st : Jvm.State) : (allAtoms ts).before a st = ts.all (fun c => c.before a st) := by
  induction ts with
  | nil => rfl
  | cons c t ih =>
    show (Jvm.Cond.and c (allAtoms t)).before a st = _
    rw [Jvm.Cond.before_and, ih, List.all_cons]
def words1 : List Jvm.Cond := Jvm.Cond.code x code maxLocals ret :: tables_1
/-- a 'code' word, met by the world's own term for the bytes: nothing is compared byte by byte -/
theorem code_word {y : MethodName} {bytes : ByteArray} {mx : Nat} {rt : Option FieldType} {a : Array Value} {s : State} {m : MethodId} {meth : Method} {c : Code} (h1 : s.methodNamed? y = some m) (h2 : s.vm.method? m = some meth) (h3 : meth.code = some c) (h4 : c.code = bytes)
    (h5 : (c.maxLocals == mx && c.exceptionTable.isEmpty && decide (c.maxStack ≤ mostOperands) && decide (meth.sig.returnType = rt) && !meth.locks && decide (parseMethodDescriptor y.desc = some meth.sig)) = true) : (Jvm.Cond.code y bytes mx rt).before a s = true := by
  simp only [Bool.and_eq_true, beq_iff_eq, Bool.not_eq_true', decide_eq_true_eq] at h5
  obtain ⟨⟨⟨⟨⟨g1, g2⟩, g3⟩, g4⟩, g5⟩, g6⟩ := h5
  simp [Cond.before, Cond.holds, Cond.value, h1, h2, h3, h4, g1, g2, g3, g4, g5, g6]
def isCode : Jvm.Cond → Bool
  | .code _ _ _ _ => true
  | _ => false
theorem all_split {L : List Jvm.Cond} {P : Jvm.Cond → Bool} (h1 : L.all (fun c => isCode c || P c) = true) (h2 : ∀ c ∈ L.filter isCode, P c = true) : L.all P = true := by
  refine List.all_eq_true.mpr fun c hc => ?_
  have h := List.all_eq_true.mp h1 c hc
  rcases Bool.eq_false_or_eq_true (isCode c) with hi | hi
  · exact h2 c (List.mem_filter.mpr ⟨hc, hi⟩)
  · simpa [hi] using h
set_option maxRecDepth 65536 in
theorem w_c0 : (Jvm.Cond.code x code maxLocals ret).before args0 about1 = true := code_word (m := ⟨1, 1⟩) (meth := k1m1) (c := k1c1) (by decide +kernel) rfl rfl rfl (by decide +kernel)
set_option maxRecDepth 65536 in
theorem w_c1 : (Jvm.Cond.code ({ cls := "com/example/needlewright/needlewright/ByteMatcherFeedPinLaw", name := "pick", desc := "(II[BIJ)B" } : Jvm.MethodName) method_3_code (7 : Nat) (Option.some Jvm.ClassFile.FieldType.byte)).before args0 about1 = true := code_word (m := ⟨1, 2⟩) (meth := k1m2) (c := k1c2) (by decide +kernel) rfl rfl rfl (by decide +kernel)
set_option maxRecDepth 65536 in
theorem w_c2 : (Jvm.Cond.code ({ cls := "com/example/needlewright/needlewright/Automaton", name := "<init>", desc := "([I)V" } : Jvm.MethodName) prog_3_method_1_code (2 : Nat) (Option.none : Option Jvm.ClassFile.FieldType)).before args0 about1 = true := code_word (m := ⟨3, 0⟩) (meth := k3m0) (c := k3c0) (by decide +kernel) rfl rfl rfl (by decide +kernel)
set_option maxRecDepth 65536 in
theorem w_c3 : (Jvm.Cond.code ({ cls := "java/lang/Object", name := "<init>", desc := "()V" } : Jvm.MethodName) object_method_1_code (1 : Nat) (Option.none : Option Jvm.ClassFile.FieldType)).before args0 about1 = true := code_word (m := ⟨0, 0⟩) (meth := k0m0) (c := k0c0) (by decide +kernel) rfl rfl rfl (by decide +kernel)
set_option maxRecDepth 65536 in
theorem w_c4 : (Jvm.Cond.code ({ cls := "com/example/needlewright/needlewright/Automaton", name := "fillBorders", desc := "()V" } : Jvm.MethodName) prog_3_method_4_code (3 : Nat) (Option.none : Option Jvm.ClassFile.FieldType)).before args0 about1 = true := code_word (m := ⟨3, 3⟩) (meth := k3m3) (c := k3c3) (by decide +kernel) rfl rfl rfl (by decide +kernel)
set_option maxRecDepth 65536 in
theorem w_c5 : (Jvm.Cond.code ({ cls := "com/example/needlewright/needlewright/Automaton", name := "length", desc := "()I" } : Jvm.MethodName) prog_3_method_2_code (1 : Nat) (Option.some Jvm.ClassFile.FieldType.int)).before args0 about1 = true := code_word (m := ⟨3, 1⟩) (meth := k3m1) (c := k3c1) (by decide +kernel) rfl rfl rfl (by decide +kernel)
set_option maxRecDepth 65536 in
theorem w_c6 : (Jvm.Cond.code ({ cls := "com/example/needlewright/needlewright/Automaton", name := "fallBack", desc := "(II)I" } : Jvm.MethodName) prog_3_method_3_code (3 : Nat) (Option.some Jvm.ClassFile.FieldType.int)).before args0 about1 = true := code_word (m := ⟨3, 2⟩) (meth := k3m2) (c := k3c2) (by decide +kernel) rfl rfl rfl (by decide +kernel)
set_option maxRecDepth 65536 in
theorem w_c7 : (Jvm.Cond.code ({ cls := "com/example/needlewright/needlewright/ByteMatcher", name := "<init>", desc := "(Lcom/example/needlewright/needlewright/Automaton;)V" } : Jvm.MethodName) prog_4_method_1_code (2 : Nat) (Option.none : Option Jvm.ClassFile.FieldType)).before args0 about1 = true := code_word (m := ⟨2, 0⟩) (meth := k2m0) (c := k2c0) (by decide +kernel) rfl rfl rfl (by decide +kernel)
set_option maxRecDepth 65536 in
theorem w_c8 : (Jvm.Cond.code ({ cls := "com/example/needlewright/needlewright/ByteMatcher", name := "feed", desc := "(B)J" } : Jvm.MethodName) prog_4_method_2_code (3 : Nat) (Option.some Jvm.ClassFile.FieldType.long)).before args0 about1 = true := code_word (m := ⟨2, 1⟩) (meth := k2m1) (c := k2c1) (by decide +kernel) rfl rfl rfl (by decide +kernel)
set_option maxRecDepth 65536 in
theorem w_c9 : (Jvm.Cond.code ({ cls := "com/example/needlewright/needlewright/ByteMatcherFeedPinLaw", name := "expected", desc := "([BI[BI)J" } : Jvm.MethodName) method_4_code (5 : Nat) (Option.some Jvm.ClassFile.FieldType.long)).before args0 about1 = true := code_word (m := ⟨1, 3⟩) (meth := k1m3) (c := k1c3) (by decide +kernel) rfl rfl rfl (by decide +kernel)
set_option maxRecDepth 65536 in
theorem w_c10 : (Jvm.Cond.code ({ cls := "com/example/needlewright/needlewright/ByteMatcher", name := "fed", desc := "()J" } : Jvm.MethodName) prog_4_method_5_code (1 : Nat) (Option.some Jvm.ClassFile.FieldType.long)).before args0 about1 = true := code_word (m := ⟨2, 2⟩) (meth := k2m2) (c := k2c2) (by decide +kernel) rfl rfl rfl (by decide +kernel)
def codes1 : List Jvm.Cond := [Jvm.Cond.code x code maxLocals ret, Jvm.Cond.code ({ cls := "com/example/needlewright/needlewright/ByteMatcherFeedPinLaw", name := "pick", desc := "(II[BIJ)B" } : Jvm.MethodName) method_3_code (7 : Nat) (Option.some Jvm.ClassFile.FieldType.byte), Jvm.Cond.code ({ cls := "com/example/needlewright/needlewright/Automaton", name := "<init>", desc := "([I)V" } : Jvm.MethodName) prog_3_method_1_code (2 : Nat) (Option.none : Option Jvm.ClassFile.FieldType), Jvm.Cond.code ({ cls := "java/lang/Object", name := "<init>", desc := "()V" } : Jvm.MethodName) object_method_1_code (1 : Nat) (Option.none : Option Jvm.ClassFile.FieldType), Jvm.Cond.code ({ cls := "com/example/needlewright/needlewright/Automaton", name := "fillBorders", desc := "()V" } : Jvm.MethodName) prog_3_method_4_code (3 : Nat) (Option.none : Option Jvm.ClassFile.FieldType), Jvm.Cond.code ({ cls := "com/example/needlewright/needlewright/Automaton", name := "length", desc := "()I" } : Jvm.MethodName) prog_3_method_2_code (1 : Nat) (Option.some Jvm.ClassFile.FieldType.int), Jvm.Cond.code ({ cls := "com/example/needlewright/needlewright/Automaton", name := "fallBack", desc := "(II)I" } : Jvm.MethodName) prog_3_method_3_code (3 : Nat) (Option.some Jvm.ClassFile.FieldType.int), Jvm.Cond.code ({ cls := "com/example/needlewright/needlewright/ByteMatcher", name := "<init>", desc := "(Lcom/example/needlewright/needlewright/Automaton;)V" } : Jvm.MethodName) prog_4_method_1_code (2 : Nat) (Option.none : Option Jvm.ClassFile.FieldType), Jvm.Cond.code ({ cls := "com/example/needlewright/needlewright/ByteMatcher", name := "feed", desc := "(B)J" } : Jvm.MethodName) prog_4_method_2_code (3 : Nat) (Option.some Jvm.ClassFile.FieldType.long), Jvm.Cond.code ({ cls := "com/example/needlewright/needlewright/ByteMatcherFeedPinLaw", name := "expected", desc := "([BI[BI)J" } : Jvm.MethodName) method_4_code (5 : Nat) (Option.some Jvm.ClassFile.FieldType.long), Jvm.Cond.code ({ cls := "com/example/needlewright/needlewright/ByteMatcher", name := "fed", desc := "()J" } : Jvm.MethodName) prog_4_method_5_code (1 : Nat) (Option.some Jvm.ClassFile.FieldType.long)]
set_option maxRecDepth 65536 in
theorem codes_eq : words1.filter isCode = codes1 := rfl
theorem w_codes : ∀ c ∈ words1.filter isCode, c.before args0 about1 = true := by
  rw [codes_eq]
  intro c hc
  simp only [codes1, List.mem_cons, List.not_mem_nil, or_false] at hc
  rcases hc with rfl | rfl | rfl | rfl | rfl | rfl | rfl | rfl | rfl | rfl | rfl
  · exact w_c0
  · exact w_c1
  · exact w_c2
  · exact w_c3
  · exact w_c4
  · exact w_c5
  · exact w_c6
  · exact w_c7
  · exact w_c8
  · exact w_c9
  · exact w_c10
set_option maxRecDepth 65536 in
theorem w_t1 : (words1.take 24).all (fun c => isCode c || c.before args0 about1) = true := by decide +kernel
set_option maxRecDepth 65536 in
theorem w_t2 : ((words1.drop 24).take 24).all (fun c => isCode c || c.before args0 about1) = true := by decide +kernel
set_option maxRecDepth 65536 in
theorem w_t3 : (((words1.drop 24).drop 24).take 24).all (fun c => isCode c || c.before args0 about1) = true := by decide +kernel
set_option maxRecDepth 65536 in
theorem w_t4 : (((words1.drop 24).drop 24).drop 24).all (fun c => isCode c || c.before args0 about1) = true := by decide +kernel
theorem w_tables : (allAtoms (Jvm.Cond.code x code maxLocals ret :: tables_1)).before args0 about1 = true := by
  rw [allAtoms_all]
  show words1.all (fun c => c.before args0 about1) = true
  refine all_split ?_ w_codes
  rw [← List.take_append_drop 24 words1, List.all_append, w_t1, ← List.take_append_drop 24 (words1.drop 24), List.all_append, w_t2, ← List.take_append_drop 24 ((words1.drop 24).drop 24), List.all_append, w_t3, w_t4]
  rfl
set_option maxRecDepth 65536 in
theorem w_case : (Jvm.Cond.and given_1 narrow_1).before args0 about1 = true := by decide +kernel
theorem w_applies : (headSpec (Jvm.Cond.code x code maxLocals ret :: tables_1) room_1).applies x e0.platform about1 = true :=
  (Spec.applies_iff w_frames).mpr ⟨w_running, w_runnable, w_alone, w_named, w_hears, w_ripe, w_room, w_tables⟩
theorem atStart : AtStart classFile x code maxLocals ret World_1 tables_1 room_1 Calls_1 rest_1 Pre_1 launch0 p0 e0 about1 theMethod args0 below0 :=
  ⟨lists_1, trivial, launch0.admits_env _ _ _, launch0.least_env, fairChoices_fair.cas, fairChoices_fair.clock, w_frames, w_args, w_heap, w_applies, trivial, trivial, w_case⟩
end start1
theorem witness_1 : WitnessClaimed_1 := ⟨start1.p0, start1.e0, start1.about1, start1.theMethod, start1.args0, start1.below0, start1.atStart⟩
end Jvm.Pilot.@@N@@
