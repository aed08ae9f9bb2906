import JvmDerived
import JvmDerived.Pilot.@@N@@Statement
import JvmDerived.Pilot.@@N@@Code
set_option linter.unusedVariables false
set_option linter.unusedSimpArgs false
namespace Jvm.RoadKit
open Sem ClassFile Op Lib Jvm.Stand Jvm.Free Jvm.LawKit
section Own
variable {p : Program} {l : Launch} {e : Env} {R : Room} {s : State} {m : MethodId} {args : Array Value} {below : List Frame} {meth : Method} {c : Code} {T : State} {Z : State} {a0 : Array Value} {h : Heap} {cells slots n0 rc rs : Nat} {bytes : ByteArray} {own : String} {ret : Option FieldType} {maxL : Nat} {P : Option Value → Heap → Prop} {Ls : Array Slot} {pc pc' : Nat} {st : List Value}
def Cx (p : Program) (s : State) (m : MethodId) (meth : Method) (c : Code) (Z : State) (bytes : ByteArray) (own : String) (ret : Option FieldType) (maxL : Nat) : Prop :=
  p.tables.exec = Jvm.exec ∧ Z.Warmed39 s.vm ∧ c.code = bytes ∧ s.vm.findClass own = some m.cls ∧ c.maxLocals = maxL ∧ meth.locks = false ∧ meth.sig.returnType = ret
def On (p : Program) (l : Launch) (e : Env) (R : Room) (s : State) (m : MethodId) (args : Array Value) (below : List Frame) (meth : Method) (c : Code) (n0 : Nat) (T : State) (h : Heap) (cells slots : Nat) : Prop :=
  ∃ locs, Stand p l e R s m args below meth c T locs cells slots ∧ T.heap = h ∧ Fr n0 locs ∧ n0 ≤ h.size
def Go (p : Program) (e : Env) (below : List Frame) (s : State) (n0 rc rs : Nat) (P : Option Value → Heap → Prop) (T : State) (g : JFrame) : Prop :=
  ∃ s₂ o, Steps p.tables e below (T.setTop g) s₂ ∧ s₂.status = .running ∧ Ended s₂ below o ∧ ∃ v L, o = .returned v ∧ (P v s₂.heap ∧ Fr n0 L) ∧ FrameEnd s o s₂ L rc rs
def Con (l : Launch) (Z : State) (y : MethodName) (bytes : ByteArray) (maxL : Nat) (ret : Option FieldType) (rm : Room) (as' : Array Value) (h0 : Heap) (n0 : Nat) (P : Option Value → Heap → Prop) : Prop :=
  ∀ ws, MetFree l y (head1 (Cond.code y bytes maxL ret :: ws) rm) (fun a U => a = as' ∧ Z.Warmed39 U.vm ∧ U.heap = h0) (fun _ _ _ _ _ => True) (fun _ U o U' => ∃ v L, o = .returned v ∧ (P v U'.heap ∧ Fr n0 L) ∧ FrameEnd U o U' L rm.cells rm.slots)
theorem Go.of {T' : State} {g g' : JFrame} (st : ∀ t, Steps p.tables e below (T'.setTop g') t → Steps p.tables e below (T.setTop g) t) (k : Go p e below s n0 rc rs P T' g') : Go p e below s n0 rc rs P T g := by
  obtain ⟨s₂, o, h1, h2⟩ := k
  exact ⟨s₂, o, st _ h1, h2⟩
theorem Go.tr {T' : State} {g g' : JFrame} (st : Steps p.tables e below (T.setTop g) (T'.setTop g')) (k : Go p e below s n0 rc rs P T' g') : Go p e below s n0 rc rs P T g :=
  Go.of (fun _ q => st.trans q) k
theorem Go.imp {P' : Option Value → Heap → Prop} {g : JFrame} (k : Go p e below s n0 rc rs P' T g) (hi : ∀ v h, P' v h → P v h) : Go p e below s n0 rc rs P T g := by
  obtain ⟨s₂, o, h1, h2, h3, v, L, h4, ⟨h5, h6⟩, h7⟩ := k
  exact ⟨s₂, o, h1, h2, h3, v, L, h4, ⟨hi _ _ h5, h6⟩, h7⟩
theorem Con.enter {y : MethodName} {rm : Room} {as' : Array Value} {h0 : Heap} (hpl : plainFor y = true) (hz : n0 ≤ h0.size)
    (body : ∀ p e s m below meth c T, Cx p s m meth c Z bytes y.cls ret maxL → meth.name = y.name → On p l e rm s m as' below meth c n0 T h0 0 0 → Go p e below s n0 rm.cells rm.slots P T (entryFrame m as' maxL)) :
    Con l Z y bytes maxL ret rm as' h0 n0 P := by
  intro ws
  refine MetFree.of_bodySF hpl hisR ?_
  intro p e s m args below meth c s₁ Bd hml0 hP hK
  obtain ⟨rfl, hZ, hh⟩ := hP
  have X0 := Stand.of_body Bd
  have e0 : s₁.heap = h0 := by rw [← hh, Bd.state]; rfl
  exact body p e s m below meth c s₁ ⟨Bd.exec, hZ, Bd.bytes, findClass_of_methodNamed Bd.named, hml0, BodyLoose.notSynchronized Bd, Bd.returns⟩ (name_of_methodNamed Bd.named Bd.method).1 ⟨[], X0, e0, Fr.nil n0, hz⟩
theorem On.sz (X : On p l e R s m args below meth c n0 T h cells slots) : n0 ≤ h.size := X.elim fun _ q => q.2.2.2
theorem Go.cast {g g' : JFrame} (q : g = g') (k : Go p e below s n0 rc rs P T g') : Go p e below s n0 rc rs P T g := q ▸ k
theorem Con.back {y : MethodName} {rm : Room} {as' : Array Value} {W : Nat} {P' : Option Value → Heap → Prop} {cb : ByteArray} {cm : Nat} {cr : Option FieldType} (K : Con l Z y cb cm cr rm as' h n0 P') (hZ : Z.Warmed39 s.vm) (wc : (Cond.code y cb cm cr).before a0 Z = true) (wz : (Cond.initialized y.cls).before a0 Z = true) (hf : rm.frames + 1 ≤ R.frames) (hl : W + (cm + 11) + rm.locals ≤ R.locals) :
    Back l R p e below s args y 3 W (fun A a => a = as' ∧ A.U.heap = h ∧ A.cells + rm.cells ≤ R.cells ∧ A.slots + rm.slots ≤ R.slots)
      (fun A _ v B => ∃ L, (P' v B.U.heap ∧ Fr n0 L) ∧ B.locs = A.locs ++ L ∧ B.cells = A.cells + rm.cells ∧ B.slots = A.slots + rm.slots) :=
  backOf (Q := fun v h L => P' v h ∧ Fr n0 L) (K []) hZ wc wz hf hl
theorem Go.iadd (C : Cx p s m meth c Z bytes own ret maxL) (X : On p l e R s m args below meth c n0 T h cells slots) {x y : Int32} (hd : decode bytes pc = .ok (.iadd, 1))  (hp : pc + 1 = pc') (k : Go p e below s n0 rc rs P T (mkF m pc' Ls (.int (x + y) :: st))) : Go p e below s n0 rc rs P T (mkF m pc Ls (.int y :: .int x :: st)) := by
  obtain ⟨locs, X, eT, N, hn⟩ := X; obtain ⟨hx, hZ, hby, hown, hml, hlk, hrt⟩ := C
  subst hp; exact Go.of (fun t q => XS.iadd X.here hx rfl (hb hby hd) rfl q) k
theorem Go.isub (C : Cx p s m meth c Z bytes own ret maxL) (X : On p l e R s m args below meth c n0 T h cells slots) {x y : Int32} (hd : decode bytes pc = .ok (.isub, 1))  (hp : pc + 1 = pc') (k : Go p e below s n0 rc rs P T (mkF m pc' Ls (.int (x - y) :: st))) : Go p e below s n0 rc rs P T (mkF m pc Ls (.int y :: .int x :: st)) := by
  obtain ⟨locs, X, eT, N, hn⟩ := X; obtain ⟨hx, hZ, hby, hown, hml, hlk, hrt⟩ := C
  subst hp; exact Go.of (fun t q => XS.isub X.here hx rfl (hb hby hd) rfl q) k
theorem Go.imul (C : Cx p s m meth c Z bytes own ret maxL) (X : On p l e R s m args below meth c n0 T h cells slots) {x y : Int32} (hd : decode bytes pc = .ok (.imul, 1))  (hp : pc + 1 = pc') (k : Go p e below s n0 rc rs P T (mkF m pc' Ls (.int (x * y) :: st))) : Go p e below s n0 rc rs P T (mkF m pc Ls (.int y :: .int x :: st)) := by
  obtain ⟨locs, X, eT, N, hn⟩ := X; obtain ⟨hx, hZ, hby, hown, hml, hlk, hrt⟩ := C
  subst hp; exact Go.of (fun t q => XS.imul X.here hx rfl (hb hby hd) rfl q) k
theorem Go.iand (C : Cx p s m meth c Z bytes own ret maxL) (X : On p l e R s m args below meth c n0 T h cells slots) {x y : Int32} (hd : decode bytes pc = .ok (.iand, 1))  (hp : pc + 1 = pc') (k : Go p e below s n0 rc rs P T (mkF m pc' Ls (.int (x &&& y) :: st))) : Go p e below s n0 rc rs P T (mkF m pc Ls (.int y :: .int x :: st)) := by
  obtain ⟨locs, X, eT, N, hn⟩ := X; obtain ⟨hx, hZ, hby, hown, hml, hlk, hrt⟩ := C
  subst hp; exact Go.of (fun t q => XS.iand X.here hx rfl (hb hby hd) rfl q) k
theorem Go.ior (C : Cx p s m meth c Z bytes own ret maxL) (X : On p l e R s m args below meth c n0 T h cells slots) {x y : Int32} (hd : decode bytes pc = .ok (.ior, 1))  (hp : pc + 1 = pc') (k : Go p e below s n0 rc rs P T (mkF m pc' Ls (.int (x ||| y) :: st))) : Go p e below s n0 rc rs P T (mkF m pc Ls (.int y :: .int x :: st)) := by
  obtain ⟨locs, X, eT, N, hn⟩ := X; obtain ⟨hx, hZ, hby, hown, hml, hlk, hrt⟩ := C
  subst hp; exact Go.of (fun t q => XS.ior X.here hx rfl (hb hby hd) rfl q) k
theorem Go.ixor (C : Cx p s m meth c Z bytes own ret maxL) (X : On p l e R s m args below meth c n0 T h cells slots) {x y : Int32} (hd : decode bytes pc = .ok (.ixor, 1))  (hp : pc + 1 = pc') (k : Go p e below s n0 rc rs P T (mkF m pc' Ls (.int (x ^^^ y) :: st))) : Go p e below s n0 rc rs P T (mkF m pc Ls (.int y :: .int x :: st)) := by
  obtain ⟨locs, X, eT, N, hn⟩ := X; obtain ⟨hx, hZ, hby, hown, hml, hlk, hrt⟩ := C
  subst hp; exact Go.of (fun t q => XS.ixor X.here hx rfl (hb hby hd) rfl q) k
theorem Go.ishl (C : Cx p s m meth c Z bytes own ret maxL) (X : On p l e R s m args below meth c n0 T h cells slots) {x y : Int32} (hd : decode bytes pc = .ok (.ishl, 1))  (hp : pc + 1 = pc') (k : Go p e below s n0 rc rs P T (mkF m pc' Ls (.int (x <<< (y &&& 31)) :: st))) : Go p e below s n0 rc rs P T (mkF m pc Ls (.int y :: .int x :: st)) := by
  obtain ⟨locs, X, eT, N, hn⟩ := X; obtain ⟨hx, hZ, hby, hown, hml, hlk, hrt⟩ := C
  subst hp; exact Go.of (fun t q => XS.ishl X.here hx rfl (hb hby hd) rfl q) k
theorem Go.ishr (C : Cx p s m meth c Z bytes own ret maxL) (X : On p l e R s m args below meth c n0 T h cells slots) {x y : Int32} (hd : decode bytes pc = .ok (.ishr, 1))  (hp : pc + 1 = pc') (k : Go p e below s n0 rc rs P T (mkF m pc' Ls (.int (x >>> (y &&& 31)) :: st))) : Go p e below s n0 rc rs P T (mkF m pc Ls (.int y :: .int x :: st)) := by
  obtain ⟨locs, X, eT, N, hn⟩ := X; obtain ⟨hx, hZ, hby, hown, hml, hlk, hrt⟩ := C
  subst hp; exact Go.of (fun t q => XS.ishr X.here hx rfl (hb hby hd) rfl q) k
theorem Go.iushr (C : Cx p s m meth c Z bytes own ret maxL) (X : On p l e R s m args below meth c n0 T h cells slots) {x y : Int32} (hd : decode bytes pc = .ok (.iushr, 1))  (hp : pc + 1 = pc') (k : Go p e below s n0 rc rs P T (mkF m pc' Ls (.int ((x.toUInt32 >>> (y &&& 31).toUInt32).toInt32) :: st))) : Go p e below s n0 rc rs P T (mkF m pc Ls (.int y :: .int x :: st)) := by
  obtain ⟨locs, X, eT, N, hn⟩ := X; obtain ⟨hx, hZ, hby, hown, hml, hlk, hrt⟩ := C
  subst hp; exact Go.of (fun t q => XS.iushr X.here hx rfl (hb hby hd) rfl q) k
theorem Go.ladd (C : Cx p s m meth c Z bytes own ret maxL) (X : On p l e R s m args below meth c n0 T h cells slots) {x y : Int64} (hd : decode bytes pc = .ok (.ladd, 1))  (hp : pc + 1 = pc') (k : Go p e below s n0 rc rs P T (mkF m pc' Ls (.long (x + y) :: st))) : Go p e below s n0 rc rs P T (mkF m pc Ls (.long y :: .long x :: st)) := by
  obtain ⟨locs, X, eT, N, hn⟩ := X; obtain ⟨hx, hZ, hby, hown, hml, hlk, hrt⟩ := C
  subst hp; exact Go.of (fun t q => XS.ladd X.here hx rfl (hb hby hd) rfl q) k
theorem Go.lsub (C : Cx p s m meth c Z bytes own ret maxL) (X : On p l e R s m args below meth c n0 T h cells slots) {x y : Int64} (hd : decode bytes pc = .ok (.lsub, 1))  (hp : pc + 1 = pc') (k : Go p e below s n0 rc rs P T (mkF m pc' Ls (.long (x - y) :: st))) : Go p e below s n0 rc rs P T (mkF m pc Ls (.long y :: .long x :: st)) := by
  obtain ⟨locs, X, eT, N, hn⟩ := X; obtain ⟨hx, hZ, hby, hown, hml, hlk, hrt⟩ := C
  subst hp; exact Go.of (fun t q => XS.lsub X.here hx rfl (hb hby hd) rfl q) k
theorem Go.lmul (C : Cx p s m meth c Z bytes own ret maxL) (X : On p l e R s m args below meth c n0 T h cells slots) {x y : Int64} (hd : decode bytes pc = .ok (.lmul, 1))  (hp : pc + 1 = pc') (k : Go p e below s n0 rc rs P T (mkF m pc' Ls (.long (x * y) :: st))) : Go p e below s n0 rc rs P T (mkF m pc Ls (.long y :: .long x :: st)) := by
  obtain ⟨locs, X, eT, N, hn⟩ := X; obtain ⟨hx, hZ, hby, hown, hml, hlk, hrt⟩ := C
  subst hp; exact Go.of (fun t q => XS.lmul X.here hx rfl (hb hby hd) rfl q) k
theorem Go.land (C : Cx p s m meth c Z bytes own ret maxL) (X : On p l e R s m args below meth c n0 T h cells slots) {x y : Int64} (hd : decode bytes pc = .ok (.land, 1))  (hp : pc + 1 = pc') (k : Go p e below s n0 rc rs P T (mkF m pc' Ls (.long (x &&& y) :: st))) : Go p e below s n0 rc rs P T (mkF m pc Ls (.long y :: .long x :: st)) := by
  obtain ⟨locs, X, eT, N, hn⟩ := X; obtain ⟨hx, hZ, hby, hown, hml, hlk, hrt⟩ := C
  subst hp; exact Go.of (fun t q => XS.land X.here hx rfl (hb hby hd) rfl q) k
theorem Go.lor (C : Cx p s m meth c Z bytes own ret maxL) (X : On p l e R s m args below meth c n0 T h cells slots) {x y : Int64} (hd : decode bytes pc = .ok (.lor, 1))  (hp : pc + 1 = pc') (k : Go p e below s n0 rc rs P T (mkF m pc' Ls (.long (x ||| y) :: st))) : Go p e below s n0 rc rs P T (mkF m pc Ls (.long y :: .long x :: st)) := by
  obtain ⟨locs, X, eT, N, hn⟩ := X; obtain ⟨hx, hZ, hby, hown, hml, hlk, hrt⟩ := C
  subst hp; exact Go.of (fun t q => XS.lor X.here hx rfl (hb hby hd) rfl q) k
theorem Go.lxor (C : Cx p s m meth c Z bytes own ret maxL) (X : On p l e R s m args below meth c n0 T h cells slots) {x y : Int64} (hd : decode bytes pc = .ok (.lxor, 1))  (hp : pc + 1 = pc') (k : Go p e below s n0 rc rs P T (mkF m pc' Ls (.long (x ^^^ y) :: st))) : Go p e below s n0 rc rs P T (mkF m pc Ls (.long y :: .long x :: st)) := by
  obtain ⟨locs, X, eT, N, hn⟩ := X; obtain ⟨hx, hZ, hby, hown, hml, hlk, hrt⟩ := C
  subst hp; exact Go.of (fun t q => XS.lxor X.here hx rfl (hb hby hd) rfl q) k
theorem Go.lshl (C : Cx p s m meth c Z bytes own ret maxL) (X : On p l e R s m args below meth c n0 T h cells slots) {x : Int64} {y : Int32} (hd : decode bytes pc = .ok (.lshl, 1))  (hp : pc + 1 = pc') (k : Go p e below s n0 rc rs P T (mkF m pc' Ls (.long (x <<< (y &&& 0x3f).toInt64) :: st))) : Go p e below s n0 rc rs P T (mkF m pc Ls (.int y :: .long x :: st)) := by
  obtain ⟨locs, X, eT, N, hn⟩ := X; obtain ⟨hx, hZ, hby, hown, hml, hlk, hrt⟩ := C
  subst hp; exact Go.of (fun t q => XS.lshl X.here hx rfl (hb hby hd) rfl q) k
theorem Go.lshr (C : Cx p s m meth c Z bytes own ret maxL) (X : On p l e R s m args below meth c n0 T h cells slots) {x : Int64} {y : Int32} (hd : decode bytes pc = .ok (.lshr, 1))  (hp : pc + 1 = pc') (k : Go p e below s n0 rc rs P T (mkF m pc' Ls (.long (x >>> (y &&& 0x3f).toInt64) :: st))) : Go p e below s n0 rc rs P T (mkF m pc Ls (.int y :: .long x :: st)) := by
  obtain ⟨locs, X, eT, N, hn⟩ := X; obtain ⟨hx, hZ, hby, hown, hml, hlk, hrt⟩ := C
  subst hp; exact Go.of (fun t q => XS.lshr X.here hx rfl (hb hby hd) rfl q) k
theorem Go.lushr (C : Cx p s m meth c Z bytes own ret maxL) (X : On p l e R s m args below meth c n0 T h cells slots) {x : Int64} {y : Int32} (hd : decode bytes pc = .ok (.lushr, 1))  (hp : pc + 1 = pc') (k : Go p e below s n0 rc rs P T (mkF m pc' Ls (.long ((x.toUInt64 >>> (y &&& 0x3f).toInt64.toUInt64).toInt64) :: st))) : Go p e below s n0 rc rs P T (mkF m pc Ls (.int y :: .long x :: st)) := by
  obtain ⟨locs, X, eT, N, hn⟩ := X; obtain ⟨hx, hZ, hby, hown, hml, hlk, hrt⟩ := C
  subst hp; exact Go.of (fun t q => XS.lushr X.here hx rfl (hb hby hd) rfl q) k
theorem Go.i2l (C : Cx p s m meth c Z bytes own ret maxL) (X : On p l e R s m args below meth c n0 T h cells slots) {x : Int32} (hd : decode bytes pc = .ok (.i2l, 1))  (hp : pc + 1 = pc') (k : Go p e below s n0 rc rs P T (mkF m pc' Ls (.long (x.toInt64) :: st))) : Go p e below s n0 rc rs P T (mkF m pc Ls (.int x :: st)) := by
  obtain ⟨locs, X, eT, N, hn⟩ := X; obtain ⟨hx, hZ, hby, hown, hml, hlk, hrt⟩ := C
  subst hp; exact Go.of (fun t q => XS.i2l X.here hx rfl (hb hby hd) rfl q) k
theorem Go.l2i (C : Cx p s m meth c Z bytes own ret maxL) (X : On p l e R s m args below meth c n0 T h cells slots) {x : Int64} (hd : decode bytes pc = .ok (.l2i, 1))  (hp : pc + 1 = pc') (k : Go p e below s n0 rc rs P T (mkF m pc' Ls (.int (x.toInt32) :: st))) : Go p e below s n0 rc rs P T (mkF m pc Ls (.long x :: st)) := by
  obtain ⟨locs, X, eT, N, hn⟩ := X; obtain ⟨hx, hZ, hby, hown, hml, hlk, hrt⟩ := C
  subst hp; exact Go.of (fun t q => XS.l2i X.here hx rfl (hb hby hd) rfl q) k
theorem Go.i2b (C : Cx p s m meth c Z bytes own ret maxL) (X : On p l e R s m args below meth c n0 T h cells slots) {x : Int32} (hd : decode bytes pc = .ok (.i2b, 1))  (hp : pc + 1 = pc') (k : Go p e below s n0 rc rs P T (mkF m pc' Ls (.int (x.toInt8.toInt32) :: st))) : Go p e below s n0 rc rs P T (mkF m pc Ls (.int x :: st)) := by
  obtain ⟨locs, X, eT, N, hn⟩ := X; obtain ⟨hx, hZ, hby, hown, hml, hlk, hrt⟩ := C
  subst hp; exact Go.of (fun t q => XS.i2b X.here hx rfl (hb hby hd) rfl q) k
theorem Go.i2s (C : Cx p s m meth c Z bytes own ret maxL) (X : On p l e R s m args below meth c n0 T h cells slots) {x : Int32} (hd : decode bytes pc = .ok (.i2s, 1))  (hp : pc + 1 = pc') (k : Go p e below s n0 rc rs P T (mkF m pc' Ls (.int (x.toInt16.toInt32) :: st))) : Go p e below s n0 rc rs P T (mkF m pc Ls (.int x :: st)) := by
  obtain ⟨locs, X, eT, N, hn⟩ := X; obtain ⟨hx, hZ, hby, hown, hml, hlk, hrt⟩ := C
  subst hp; exact Go.of (fun t q => XS.i2s X.here hx rfl (hb hby hd) rfl q) k
theorem Go.i2c (C : Cx p s m meth c Z bytes own ret maxL) (X : On p l e R s m args below meth c n0 T h cells slots) {x : Int32} (hd : decode bytes pc = .ok (.i2c, 1))  (hp : pc + 1 = pc') (k : Go p e below s n0 rc rs P T (mkF m pc' Ls (.int (x.toUInt32.toUInt16.toUInt32.toInt32) :: st))) : Go p e below s n0 rc rs P T (mkF m pc Ls (.int x :: st)) := by
  obtain ⟨locs, X, eT, N, hn⟩ := X; obtain ⟨hx, hZ, hby, hown, hml, hlk, hrt⟩ := C
  subst hp; exact Go.of (fun t q => XS.i2c X.here hx rfl (hb hby hd) rfl q) k
theorem Go.lneg (C : Cx p s m meth c Z bytes own ret maxL) (X : On p l e R s m args below meth c n0 T h cells slots) {x : Int64} (hd : decode bytes pc = .ok (.lneg, 1))  (hp : pc + 1 = pc') (k : Go p e below s n0 rc rs P T (mkF m pc' Ls (.long (-x) :: st))) : Go p e below s n0 rc rs P T (mkF m pc Ls (.long x :: st)) := by
  obtain ⟨locs, X, eT, N, hn⟩ := X; obtain ⟨hx, hZ, hby, hown, hml, hlk, hrt⟩ := C
  subst hp; exact Go.of (fun t q => XS.lneg X.here hx rfl (hb hby hd) rfl q) k
theorem Go.ineg (C : Cx p s m meth c Z bytes own ret maxL) (X : On p l e R s m args below meth c n0 T h cells slots) {x : Int32} (hd : decode bytes pc = .ok (.ineg, 1))  (hp : pc + 1 = pc') (k : Go p e below s n0 rc rs P T (mkF m pc' Ls (.int (-x) :: st))) : Go p e below s n0 rc rs P T (mkF m pc Ls (.int x :: st)) := by
  obtain ⟨locs, X, eT, N, hn⟩ := X; obtain ⟨hx, hZ, hby, hown, hml, hlk, hrt⟩ := C
  subst hp; exact Go.of (fun t q => XS.ineg X.here hx rfl (hb hby hd) rfl q) k
theorem Go.idiv (C : Cx p s m meth c Z bytes own ret maxL) (X : On p l e R s m args below meth c n0 T h cells slots) {x y : Int32} (hd : decode bytes pc = .ok (.idiv, 1)) (hy : y ≠ 0) (hp : pc + 1 = pc') (k : Go p e below s n0 rc rs P T (mkF m pc' Ls (.int (x / y) :: st))) : Go p e below s n0 rc rs P T (mkF m pc Ls (.int y :: .int x :: st)) := by
  obtain ⟨locs, X, eT, N, hn⟩ := X; obtain ⟨hx, hZ, hby, hown, hml, hlk, hrt⟩ := C
  subst hp; exact Go.of (fun t q => XS.idiv X.here hx rfl (hb hby hd) rfl hy q) k
theorem Go.ldiv (C : Cx p s m meth c Z bytes own ret maxL) (X : On p l e R s m args below meth c n0 T h cells slots) {x y : Int64} (hd : decode bytes pc = .ok (.ldiv, 1)) (hy : y ≠ 0) (hp : pc + 1 = pc') (k : Go p e below s n0 rc rs P T (mkF m pc' Ls (.long (x / y) :: st))) : Go p e below s n0 rc rs P T (mkF m pc Ls (.long y :: .long x :: st)) := by
  obtain ⟨locs, X, eT, N, hn⟩ := X; obtain ⟨hx, hZ, hby, hown, hml, hlk, hrt⟩ := C
  subst hp; exact Go.of (fun t q => XS.ldiv X.here hx rfl (hb hby hd) rfl hy q) k
theorem Go.irem (C : Cx p s m meth c Z bytes own ret maxL) (X : On p l e R s m args below meth c n0 T h cells slots) {x y : Int32} (hd : decode bytes pc = .ok (.irem, 1)) (hy : y ≠ 0) (hp : pc + 1 = pc') (k : Go p e below s n0 rc rs P T (mkF m pc' Ls (.int (x % y) :: st))) : Go p e below s n0 rc rs P T (mkF m pc Ls (.int y :: .int x :: st)) := by
  obtain ⟨locs, X, eT, N, hn⟩ := X; obtain ⟨hx, hZ, hby, hown, hml, hlk, hrt⟩ := C
  subst hp; exact Go.of (fun t q => iremM X hx rfl (hb hby hd) rfl hy q) k
theorem Go.lrem (C : Cx p s m meth c Z bytes own ret maxL) (X : On p l e R s m args below meth c n0 T h cells slots) {x y : Int64} (hd : decode bytes pc = .ok (.lrem, 1)) (hy : y ≠ 0) (hp : pc + 1 = pc') (k : Go p e below s n0 rc rs P T (mkF m pc' Ls (.long (x % y) :: st))) : Go p e below s n0 rc rs P T (mkF m pc Ls (.long y :: .long x :: st)) := by
  obtain ⟨locs, X, eT, N, hn⟩ := X; obtain ⟨hx, hZ, hby, hown, hml, hlk, hrt⟩ := C
  subst hp; rw [← lrem_mod] at k; exact Go.of (fun t q => XS.lrem X.here hx rfl (hb hby hd) rfl hy q) k
theorem Go.lcmp (C : Cx p s m meth c Z bytes own ret maxL) (X : On p l e R s m args below meth c n0 T h cells slots) {x y : Int64} (hd : decode bytes pc = .ok (.lcmp, 1))  (hp : pc + 1 = pc') (k : Go p e below s n0 rc rs P T (mkF m pc' Ls (.int (lcmpW x y) :: st))) : Go p e below s n0 rc rs P T (mkF m pc Ls (.long y :: .long x :: st)) := by
  obtain ⟨locs, X, eT, N, hn⟩ := X; obtain ⟨hx, hZ, hby, hown, hml, hlk, hrt⟩ := C
  subst hp; exact Go.of (fun t q => XS.lcmp X.here hx rfl (hb hby hd) rfl q) k
theorem Go.dup (C : Cx p s m meth c Z bytes own ret maxL) (X : On p l e R s m args below meth c n0 T h cells slots) {v : Value} (hd : decode bytes pc = .ok (.dup, 1)) (hc : v.category = 1) (hp : pc + 1 = pc') (k : Go p e below s n0 rc rs P T (mkF m pc' Ls (v :: v :: st))) : Go p e below s n0 rc rs P T (mkF m pc Ls (v :: st)) := by
  obtain ⟨locs, X, eT, N, hn⟩ := X; obtain ⟨hx, hZ, hby, hown, hml, hlk, hrt⟩ := C
  subst hp; exact Go.of (fun t q => XS.dup X.here hx rfl (hb hby hd) rfl hc q) k
theorem Go.pop (C : Cx p s m meth c Z bytes own ret maxL) (X : On p l e R s m args below meth c n0 T h cells slots) {v : Value} (hd : decode bytes pc = .ok (.pop, 1)) (hc : v.category = 1) (hp : pc + 1 = pc') (k : Go p e below s n0 rc rs P T (mkF m pc' Ls st)) : Go p e below s n0 rc rs P T (mkF m pc Ls (v :: st)) := by
  obtain ⟨locs, X, eT, N, hn⟩ := X; obtain ⟨hx, hZ, hby, hown, hml, hlk, hrt⟩ := C
  subst hp; exact Go.of (fun t q => XS.pop X.here hx rfl (hb hby hd) rfl hc q) k
theorem Go.dup_x1 (C : Cx p s m meth c Z bytes own ret maxL) (X : On p l e R s m args below meth c n0 T h cells slots) {v u : Value} (hd : decode bytes pc = .ok (.dup_x1, 1)) (hc : v.category = 1) (hc2 : u.category = 1) (hp : pc + 1 = pc') (k : Go p e below s n0 rc rs P T (mkF m pc' Ls (v :: u :: v :: st))) : Go p e below s n0 rc rs P T (mkF m pc Ls (v :: u :: st)) := by
  obtain ⟨locs, X, eT, N, hn⟩ := X; obtain ⟨hx, hZ, hby, hown, hml, hlk, hrt⟩ := C
  subst hp; exact Go.of (fun t q => XS.dupX1 X.here hx rfl (hb hby hd) rfl hc hc2 q) k
theorem Go.dup2 (C : Cx p s m meth c Z bytes own ret maxL) (X : On p l e R s m args below meth c n0 T h cells slots) {v u : Value} (hd : decode bytes pc = .ok (.dup2, 1)) (hc : v.category = 1) (hc2 : u.category = 1) (hp : pc + 1 = pc') (k : Go p e below s n0 rc rs P T (mkF m pc' Ls (v :: u :: v :: u :: st))) : Go p e below s n0 rc rs P T (mkF m pc Ls (v :: u :: st)) := by
  obtain ⟨locs, X, eT, N, hn⟩ := X; obtain ⟨hx, hZ, hby, hown, hml, hlk, hrt⟩ := C
  subst hp; exact Go.of (fun t q => Jvm.Free.XT.dup2 X.here hx rfl (hb hby hd) rfl hc hc2 q) k
theorem Go.dup2L (C : Cx p s m meth c Z bytes own ret maxL) (X : On p l e R s m args below meth c n0 T h cells slots) {x : Int64} (hd : decode bytes pc = .ok (.dup2, 1))  (hp : pc + 1 = pc') (k : Go p e below s n0 rc rs P T (mkF m pc' Ls (.long x :: .long x :: st))) : Go p e below s n0 rc rs P T (mkF m pc Ls (.long x :: st)) := by
  obtain ⟨locs, X, eT, N, hn⟩ := X; obtain ⟨hx, hZ, hby, hown, hml, hlk, hrt⟩ := C
  subst hp; exact Go.of (fun t q => Jvm.Free.XT.dup2L X.here hx rfl (hb hby hd) rfl q) k
theorem Go.iconst (C : Cx p s m meth c Z bytes own ret maxL) (X : On p l e R s m args below meth c n0 T h cells slots) {i : Int} {v : Int32} (hd : decode bytes pc = .ok (.iconst i, 1)) (hv : Int32.ofInt i = v) (hp : pc + 1 = pc') (k : Go p e below s n0 rc rs P T (mkF m pc' Ls (.int v :: st))) : Go p e below s n0 rc rs P T (mkF m pc Ls st) := by
  obtain ⟨locs, X, eT, N, hn⟩ := X; obtain ⟨hx, hZ, hby, hown, hml, hlk, hrt⟩ := C
  subst hp hv; exact Go.of (fun t q => XS.iconst X.here hx rfl (hb hby hd) q) k
theorem Go.bipush (C : Cx p s m meth c Z bytes own ret maxL) (X : On p l e R s m args below meth c n0 T h cells slots) {i : Int} {v : Int32} (hd : decode bytes pc = .ok (.bipush i, 2)) (hv : (Int8.ofInt i).toInt32 = v) (hp : pc + 2 = pc') (k : Go p e below s n0 rc rs P T (mkF m pc' Ls (.int v :: st))) : Go p e below s n0 rc rs P T (mkF m pc Ls st) := by
  obtain ⟨locs, X, eT, N, hn⟩ := X; obtain ⟨hx, hZ, hby, hown, hml, hlk, hrt⟩ := C
  subst hp hv; exact Go.of (fun t q => XS.bipush X.here hx rfl (hb hby hd) q) k
theorem Go.sipush (C : Cx p s m meth c Z bytes own ret maxL) (X : On p l e R s m args below meth c n0 T h cells slots) {i : Int} {v : Int32} (hd : decode bytes pc = .ok (.sipush i, 3)) (hv : (Int16.ofInt i).toInt32 = v) (hp : pc + 3 = pc') (k : Go p e below s n0 rc rs P T (mkF m pc' Ls (.int v :: st))) : Go p e below s n0 rc rs P T (mkF m pc Ls st) := by
  obtain ⟨locs, X, eT, N, hn⟩ := X; obtain ⟨hx, hZ, hby, hown, hml, hlk, hrt⟩ := C
  subst hp hv; exact Go.of (fun t q => XS.sipush X.here hx rfl (hb hby hd) q) k
theorem Go.lconst (C : Cx p s m meth c Z bytes own ret maxL) (X : On p l e R s m args below meth c n0 T h cells slots) {i : Fin 2} {v : Int64} (hd : decode bytes pc = .ok (.lconst i, 1)) (hv : Int64.ofNat i = v) (hp : pc + 1 = pc') (k : Go p e below s n0 rc rs P T (mkF m pc' Ls (.long v :: st))) : Go p e below s n0 rc rs P T (mkF m pc Ls st) := by
  obtain ⟨locs, X, eT, N, hn⟩ := X; obtain ⟨hx, hZ, hby, hown, hml, hlk, hrt⟩ := C
  subst hp hv; exact Go.of (fun t q => XS.lconst X.here hx rfl (hb hby hd) q) k
theorem Go.aconst_null (C : Cx p s m meth c Z bytes own ret maxL) (X : On p l e R s m args below meth c n0 T h cells slots)  (hd : decode bytes pc = .ok (.aconst_null, 1))  (hp : pc + 1 = pc') (k : Go p e below s n0 rc rs P T (mkF m pc' Ls (.null :: st))) : Go p e below s n0 rc rs P T (mkF m pc Ls st) := by
  obtain ⟨locs, X, eT, N, hn⟩ := X; obtain ⟨hx, hZ, hby, hown, hml, hlk, hrt⟩ := C
  subst hp; exact Go.of (fun t q => XS.aconstNull X.here hx rfl (hb hby hd)  q) k
theorem Go.ldc (C : Cx p s m meth c Z bytes own ret maxL) (X : On p l e R s m args below meth c n0 T h cells slots) {i : Nat} {v : Int32} (hc : (Cond.constant own i v).before a0 Z = true) (hd : decode bytes pc = .ok (.ldc i, 2)) (hp : pc + 2 = pc') (k : Go p e below s n0 rc rs P T (mkF m pc' Ls (.int v :: st))) : Go p e below s n0 rc rs P T (mkF m pc Ls st) := by
  obtain ⟨locs, X, eT, N, hn⟩ := X; obtain ⟨hx, hZ, hby, hown, hml, hlk, hrt⟩ := C
  subst hp; exact Go.of (X.ldcInt hx hown (mvT hZ hc) (g := mkF m pc Ls st) rfl (hb hby hd)) k
theorem Go.ldc2 (C : Cx p s m meth c Z bytes own ret maxL) (X : On p l e R s m args below meth c n0 T h cells slots) {i : Nat} {v : Int64} (hc : (Cond.constantLong own i v).before a0 Z = true) (hd : decode bytes pc = .ok (.ldc2_w i, 3)) (hp : pc + 3 = pc') (k : Go p e below s n0 rc rs P T (mkF m pc' Ls (.long v :: st))) : Go p e below s n0 rc rs P T (mkF m pc Ls st) := by
  obtain ⟨locs, X, eT, N, hn⟩ := X; obtain ⟨hx, hZ, hby, hown, hml, hlk, hrt⟩ := C
  subst hp; exact Go.of (X.ldc2Long hx hown (mvT hZ hc) (g := mkF m pc Ls st) rfl (hb hby hd)) k
theorem Go.iload (C : Cx p s m meth c Z bytes own ret maxL) (X : On p l e R s m args below meth c n0 T h cells slots) {i : Nat} {v : Int32} (hd : decode bytes pc = .ok (.iload i, 2)) (hl : Ls[i]? = some (.val (.int v))) (hp : pc + 2 = pc') (k : Go p e below s n0 rc rs P T (mkF m pc' Ls (.int v :: st))) : Go p e below s n0 rc rs P T (mkF m pc Ls st) := by
  obtain ⟨locs, X, eT, N, hn⟩ := X; obtain ⟨hx, hZ, hby, hown, hml, hlk, hrt⟩ := C
  subst hp; exact Go.of (fun t q => XS.iload X.here hx rfl (hb hby hd) hl q) k
theorem Go.iloadN (C : Cx p s m meth c Z bytes own ret maxL) (X : On p l e R s m args below meth c n0 T h cells slots) {i : Fin 4} {v : Int32} (hd : decode bytes pc = .ok (.iload_n i, 1)) (hl : Ls[i.val]? = some (.val (.int v))) (hp : pc + 1 = pc') (k : Go p e below s n0 rc rs P T (mkF m pc' Ls (.int v :: st))) : Go p e below s n0 rc rs P T (mkF m pc Ls st) := by
  obtain ⟨locs, X, eT, N, hn⟩ := X; obtain ⟨hx, hZ, hby, hown, hml, hlk, hrt⟩ := C
  subst hp; exact Go.of (fun t q => XS.iloadN X.here hx rfl (hb hby hd) hl q) k
theorem Go.istore (C : Cx p s m meth c Z bytes own ret maxL) (X : On p l e R s m args below meth c n0 T h cells slots) {i : Nat} {v : Int32} {Ls' : Array Slot} (hd : decode bytes pc = .ok (.istore i, 2)) (hl : storeLocals Ls i (.int v) = some Ls') (hp : pc + 2 = pc') (k : Go p e below s n0 rc rs P T (mkF m pc' Ls' st)) : Go p e below s n0 rc rs P T (mkF m pc Ls (.int v :: st)) := by
  obtain ⟨locs, X, eT, N, hn⟩ := X; obtain ⟨hx, hZ, hby, hown, hml, hlk, hrt⟩ := C
  subst hp; exact Go.of (fun t q => XS.istore X.here hx rfl (hb hby hd) rfl hl q) k
theorem Go.istoreN (C : Cx p s m meth c Z bytes own ret maxL) (X : On p l e R s m args below meth c n0 T h cells slots) {i : Fin 4} {v : Int32} {Ls' : Array Slot} (hd : decode bytes pc = .ok (.istore_n i, 1)) (hl : storeLocals Ls i.val (.int v) = some Ls') (hp : pc + 1 = pc') (k : Go p e below s n0 rc rs P T (mkF m pc' Ls' st)) : Go p e below s n0 rc rs P T (mkF m pc Ls (.int v :: st)) := by
  obtain ⟨locs, X, eT, N, hn⟩ := X; obtain ⟨hx, hZ, hby, hown, hml, hlk, hrt⟩ := C
  subst hp; exact Go.of (fun t q => XS.istoreN X.here hx rfl (hb hby hd) rfl hl q) k
theorem Go.lload (C : Cx p s m meth c Z bytes own ret maxL) (X : On p l e R s m args below meth c n0 T h cells slots) {i : Nat} {v : Int64} (hd : decode bytes pc = .ok (.lload i, 2)) (hl : Ls[i]? = some (.val (.long v))) (hp : pc + 2 = pc') (k : Go p e below s n0 rc rs P T (mkF m pc' Ls (.long v :: st))) : Go p e below s n0 rc rs P T (mkF m pc Ls st) := by
  obtain ⟨locs, X, eT, N, hn⟩ := X; obtain ⟨hx, hZ, hby, hown, hml, hlk, hrt⟩ := C
  subst hp; exact Go.of (fun t q => XS.lload X.here hx rfl (hb hby hd) hl q) k
theorem Go.lloadN (C : Cx p s m meth c Z bytes own ret maxL) (X : On p l e R s m args below meth c n0 T h cells slots) {i : Fin 4} {v : Int64} (hd : decode bytes pc = .ok (.lload_n i, 1)) (hl : Ls[i.val]? = some (.val (.long v))) (hp : pc + 1 = pc') (k : Go p e below s n0 rc rs P T (mkF m pc' Ls (.long v :: st))) : Go p e below s n0 rc rs P T (mkF m pc Ls st) := by
  obtain ⟨locs, X, eT, N, hn⟩ := X; obtain ⟨hx, hZ, hby, hown, hml, hlk, hrt⟩ := C
  subst hp; exact Go.of (fun t q => XS.lloadN X.here hx rfl (hb hby hd) hl q) k
theorem Go.lstore (C : Cx p s m meth c Z bytes own ret maxL) (X : On p l e R s m args below meth c n0 T h cells slots) {i : Nat} {v : Int64} {Ls' : Array Slot} (hd : decode bytes pc = .ok (.lstore i, 2)) (hl : storeLocals Ls i (.long v) = some Ls') (hp : pc + 2 = pc') (k : Go p e below s n0 rc rs P T (mkF m pc' Ls' st)) : Go p e below s n0 rc rs P T (mkF m pc Ls (.long v :: st)) := by
  obtain ⟨locs, X, eT, N, hn⟩ := X; obtain ⟨hx, hZ, hby, hown, hml, hlk, hrt⟩ := C
  subst hp; exact Go.of (fun t q => XS.lstore X.here hx rfl (hb hby hd) rfl hl q) k
theorem Go.lstoreN (C : Cx p s m meth c Z bytes own ret maxL) (X : On p l e R s m args below meth c n0 T h cells slots) {i : Fin 4} {v : Int64} {Ls' : Array Slot} (hd : decode bytes pc = .ok (.lstore_n i, 1)) (hl : storeLocals Ls i.val (.long v) = some Ls') (hp : pc + 1 = pc') (k : Go p e below s n0 rc rs P T (mkF m pc' Ls' st)) : Go p e below s n0 rc rs P T (mkF m pc Ls (.long v :: st)) := by
  obtain ⟨locs, X, eT, N, hn⟩ := X; obtain ⟨hx, hZ, hby, hown, hml, hlk, hrt⟩ := C
  subst hp; exact Go.of (fun t q => XS.lstoreN X.here hx rfl (hb hby hd) rfl hl q) k
theorem Go.aload (C : Cx p s m meth c Z bytes own ret maxL) (X : On p l e R s m args below meth c n0 T h cells slots) {i : Nat} {v : Value} (hd : decode bytes pc = .ok (.aload i, 2)) (hl : Ls[i]? = some (.val v)) (hv : v.isRef = true) (hp : pc + 2 = pc') (k : Go p e below s n0 rc rs P T (mkF m pc' Ls (v :: st))) : Go p e below s n0 rc rs P T (mkF m pc Ls st) := by
  obtain ⟨locs, X, eT, N, hn⟩ := X; obtain ⟨hx, hZ, hby, hown, hml, hlk, hrt⟩ := C
  subst hp; exact Go.of (fun t q => XS.aload X.here hx rfl (hb hby hd) hl hv q) k
theorem Go.aloadN (C : Cx p s m meth c Z bytes own ret maxL) (X : On p l e R s m args below meth c n0 T h cells slots) {i : Fin 4} {v : Value} (hd : decode bytes pc = .ok (.aload_n i, 1)) (hl : Ls[i.val]? = some (.val v)) (hv : v.isRef = true) (hp : pc + 1 = pc') (k : Go p e below s n0 rc rs P T (mkF m pc' Ls (v :: st))) : Go p e below s n0 rc rs P T (mkF m pc Ls st) := by
  obtain ⟨locs, X, eT, N, hn⟩ := X; obtain ⟨hx, hZ, hby, hown, hml, hlk, hrt⟩ := C
  subst hp; exact Go.of (fun t q => XS.aloadN X.here hx rfl (hb hby hd) hl hv q) k
theorem Go.astore (C : Cx p s m meth c Z bytes own ret maxL) (X : On p l e R s m args below meth c n0 T h cells slots) {i : Nat} {v : Value} {Ls' : Array Slot} (hd : decode bytes pc = .ok (.astore i, 2)) (hv : v.isRef = true) (hl : storeLocals Ls i v = some Ls') (hp : pc + 2 = pc') (k : Go p e below s n0 rc rs P T (mkF m pc' Ls' st)) : Go p e below s n0 rc rs P T (mkF m pc Ls (v :: st)) := by
  obtain ⟨locs, X, eT, N, hn⟩ := X; obtain ⟨hx, hZ, hby, hown, hml, hlk, hrt⟩ := C
  subst hp; exact Go.of (fun t q => XS.astore X.here hx rfl (hb hby hd) rfl hv hl q) k
theorem Go.astoreN (C : Cx p s m meth c Z bytes own ret maxL) (X : On p l e R s m args below meth c n0 T h cells slots) {i : Fin 4} {v : Value} {Ls' : Array Slot} (hd : decode bytes pc = .ok (.astore_n i, 1)) (hv : v.isRef = true) (hl : storeLocals Ls i.val v = some Ls') (hp : pc + 1 = pc') (k : Go p e below s n0 rc rs P T (mkF m pc' Ls' st)) : Go p e below s n0 rc rs P T (mkF m pc Ls (v :: st)) := by
  obtain ⟨locs, X, eT, N, hn⟩ := X; obtain ⟨hx, hZ, hby, hown, hml, hlk, hrt⟩ := C
  subst hp; exact Go.of (fun t q => XS.astoreN X.here hx rfl (hb hby hd) rfl hv hl q) k
theorem Go.iinc (C : Cx p s m meth c Z bytes own ret maxL) (X : On p l e R s m args below meth c n0 T h cells slots) {i : Nat} {d : Int} {v v' : Int32} {Ls' : Array Slot} (hd : decode bytes pc = .ok (.iinc i d, 3)) (hl : Ls[i]? = some (.val (.int v))) (hv : v + Int32.ofInt d = v') (hl' : storeLocals Ls i (.int v') = some Ls') (hp : pc + 3 = pc') (k : Go p e below s n0 rc rs P T (mkF m pc' Ls' st)) : Go p e below s n0 rc rs P T (mkF m pc Ls st) := by
  obtain ⟨locs, X, eT, N, hn⟩ := X; obtain ⟨hx, hZ, hby, hown, hml, hlk, hrt⟩ := C
  subst hp hv; exact Go.of (fun t q => XS.iinc X.here hx rfl (hb hby hd) hl hl' q) k
theorem Go.goto (C : Cx p s m meth c Z bytes own ret maxL) (X : On p l e R s m args below meth c n0 T h cells slots) {o : Int} (hd : decode bytes pc = .ok (.goto o, 3)) (ho : 0 ≤ (pc : Int) + o) (hp : ((pc : Int) + o).toNat = pc') (k : Go p e below s n0 rc rs P T (mkF m pc' Ls st)) : Go p e below s n0 rc rs P T (mkF m pc Ls st) := by
  obtain ⟨locs, X, eT, N, hn⟩ := X; obtain ⟨hx, hZ, hby, hown, hml, hlk, hrt⟩ := C
  exact Go.of (fun t q => XS.goto X.here hx rfl (pc0 := pc) rfl (hb hby hd) ho hp q) k
theorem Go.ifYes (C : Cx p s m meth c Z bytes own ret maxL) (X : On p l e R s m args below meth c n0 T h cells slots) {o : Int} {cd : ClassFile.Cond} {x : Int32} (hd : decode bytes pc = .ok (.ifCond cd o, 3)) (hc : ifCond.holds cd x = true) (ho : 0 ≤ (pc : Int) + o) (hp : ((pc : Int) + o).toNat = pc') (k : Go p e below s n0 rc rs P T (mkF m pc' Ls st)) : Go p e below s n0 rc rs P T (mkF m pc Ls (.int x :: st)) := by
  obtain ⟨locs, X, eT, N, hn⟩ := X; obtain ⟨hx, hZ, hby, hown, hml, hlk, hrt⟩ := C
  exact Go.of (fun t q => XS.ifYes X.here hx rfl (pc0 := pc) rfl (hb hby hd) rfl hc ho hp q) k
theorem Go.ifNo (C : Cx p s m meth c Z bytes own ret maxL) (X : On p l e R s m args below meth c n0 T h cells slots) {o : Int} {cd : ClassFile.Cond} {x : Int32} (hd : decode bytes pc = .ok (.ifCond cd o, 3)) (hc : ifCond.holds cd x = false) (hp : pc + 3 = pc') (k : Go p e below s n0 rc rs P T (mkF m pc' Ls st)) : Go p e below s n0 rc rs P T (mkF m pc Ls (.int x :: st)) := by
  obtain ⟨locs, X, eT, N, hn⟩ := X; obtain ⟨hx, hZ, hby, hown, hml, hlk, hrt⟩ := C
  subst hp; exact Go.of (fun t q => XS.ifNo X.here hx rfl (hb hby hd) rfl hc q) k
theorem Go.icmpYes (C : Cx p s m meth c Z bytes own ret maxL) (X : On p l e R s m args below meth c n0 T h cells slots) {o : Int} {cd : ClassFile.Cond} {x y : Int32} (hd : decode bytes pc = .ok (.if_icmp cd o, 3)) (hc : if_icmp.holds cd x y = true) (ho : 0 ≤ (pc : Int) + o) (hp : ((pc : Int) + o).toNat = pc') (k : Go p e below s n0 rc rs P T (mkF m pc' Ls st)) : Go p e below s n0 rc rs P T (mkF m pc Ls (.int y :: .int x :: st)) := by
  obtain ⟨locs, X, eT, N, hn⟩ := X; obtain ⟨hx, hZ, hby, hown, hml, hlk, hrt⟩ := C
  exact Go.of (fun t q => XS.icmpYes X.here hx rfl (pc0 := pc) rfl (hb hby hd) rfl hc ho hp q) k
theorem Go.icmpNo (C : Cx p s m meth c Z bytes own ret maxL) (X : On p l e R s m args below meth c n0 T h cells slots) {o : Int} {cd : ClassFile.Cond} {x y : Int32} (hd : decode bytes pc = .ok (.if_icmp cd o, 3)) (hc : if_icmp.holds cd x y = false) (hp : pc + 3 = pc') (k : Go p e below s n0 rc rs P T (mkF m pc' Ls st)) : Go p e below s n0 rc rs P T (mkF m pc Ls (.int y :: .int x :: st)) := by
  obtain ⟨locs, X, eT, N, hn⟩ := X; obtain ⟨hx, hZ, hby, hown, hml, hlk, hrt⟩ := C
  subst hp; exact Go.of (fun t q => XS.icmpNo X.here hx rfl (hb hby hd) rfl hc q) k
theorem Go.acmpYes (C : Cx p s m meth c Z bytes own ret maxL) (X : On p l e R s m args below meth c n0 T h cells slots) {o : Int} {cd : ClassFile.ACond} {a b : Addr} (hd : decode bytes pc = .ok (.if_acmp cd o, 3)) (hc : if_acmp.holds cd (some a) (some b) = true) (ho : 0 ≤ (pc : Int) + o) (hp : ((pc : Int) + o).toNat = pc') (k : Go p e below s n0 rc rs P T (mkF m pc' Ls st)) : Go p e below s n0 rc rs P T (mkF m pc Ls (.ref b :: .ref a :: st)) := by
  obtain ⟨locs, X, eT, N, hn⟩ := X; obtain ⟨hx, hZ, hby, hown, hml, hlk, hrt⟩ := C
  exact Go.of (fun t q => XS.acmpYes X.here hx rfl (pc0 := pc) rfl (hb hby hd) rfl hc ho hp q) k
theorem Go.acmpNo (C : Cx p s m meth c Z bytes own ret maxL) (X : On p l e R s m args below meth c n0 T h cells slots) {o : Int} {cd : ClassFile.ACond} {a b : Addr} (hd : decode bytes pc = .ok (.if_acmp cd o, 3)) (hc : if_acmp.holds cd (some a) (some b) = false) (hp : pc + 3 = pc') (k : Go p e below s n0 rc rs P T (mkF m pc' Ls st)) : Go p e below s n0 rc rs P T (mkF m pc Ls (.ref b :: .ref a :: st)) := by
  obtain ⟨locs, X, eT, N, hn⟩ := X; obtain ⟨hx, hZ, hby, hown, hml, hlk, hrt⟩ := C
  subst hp; exact Go.of (fun t q => XS.acmpNo X.here hx rfl (hb hby hd) rfl hc q) k
theorem Go.acmpV (C : Cx p s m meth c Z bytes own ret maxL) (X : On p l e R s m args below meth c n0 T h cells slots) {o : Int} {cd : ClassFile.ACond} {u v : Value} {same : Bool} (hd : decode bytes pc = .ok (.if_acmp cd o, 3)) (h1 : u.isRef = true) (h2 : v.isRef = true) (hq : decide (u = v) = same) (ho : 0 ≤ (pc : Int) + o) (hp : pc' = if acV cd same = true then ((pc : Int) + o).toNat else pc + 3) (k : Go p e below s n0 rc rs P T (mkF m pc' Ls st)) : Go p e below s n0 rc rs P T (mkF m pc Ls (v :: u :: st)) := by
  obtain ⟨locs, X, eT, N, hn⟩ := X; obtain ⟨hx, hZ, hby, hown, hml, hlk, hrt⟩ := C
  exact Go.of (fun t q => acmp X hx rfl h1 h2 (pc0 := pc) rfl (hb hby hd) rfl hq ho hp q) k
theorem Go.ifnullYes (C : Cx p s m meth c Z bytes own ret maxL) (X : On p l e R s m args below meth c n0 T h cells slots) {o : Int} (hd : decode bytes pc = .ok (.ifnull o, 3)) (ho : 0 ≤ (pc : Int) + o) (hp : ((pc : Int) + o).toNat = pc') (k : Go p e below s n0 rc rs P T (mkF m pc' Ls st)) : Go p e below s n0 rc rs P T (mkF m pc Ls (.null :: st)) := by
  obtain ⟨locs, X, eT, N, hn⟩ := X; obtain ⟨hx, hZ, hby, hown, hml, hlk, hrt⟩ := C
  exact Go.of (fun t q => XS.ifnullYes X.here hx rfl (pc0 := pc) rfl (hb hby hd) rfl ho hp q) k
theorem Go.ifnullNo (C : Cx p s m meth c Z bytes own ret maxL) (X : On p l e R s m args below meth c n0 T h cells slots) {o : Int} {a : Addr} (hd : decode bytes pc = .ok (.ifnull o, 3)) (hp : pc + 3 = pc') (k : Go p e below s n0 rc rs P T (mkF m pc' Ls st)) : Go p e below s n0 rc rs P T (mkF m pc Ls (.ref a :: st)) := by
  obtain ⟨locs, X, eT, N, hn⟩ := X; obtain ⟨hx, hZ, hby, hown, hml, hlk, hrt⟩ := C
  subst hp; exact Go.of (fun t q => XS.ifnullNo X.here hx rfl (hb hby hd) rfl q) k
theorem Go.ifnonnullYes (C : Cx p s m meth c Z bytes own ret maxL) (X : On p l e R s m args below meth c n0 T h cells slots) {o : Int} {a : Addr} (hd : decode bytes pc = .ok (.ifnonnull o, 3)) (ho : 0 ≤ (pc : Int) + o) (hp : ((pc : Int) + o).toNat = pc') (k : Go p e below s n0 rc rs P T (mkF m pc' Ls st)) : Go p e below s n0 rc rs P T (mkF m pc Ls (.ref a :: st)) := by
  obtain ⟨locs, X, eT, N, hn⟩ := X; obtain ⟨hx, hZ, hby, hown, hml, hlk, hrt⟩ := C
  exact Go.of (fun t q => XS.ifnonnullYes X.here hx rfl (pc0 := pc) rfl (hb hby hd) rfl ho hp q) k
theorem Go.ifnonnullNo (C : Cx p s m meth c Z bytes own ret maxL) (X : On p l e R s m args below meth c n0 T h cells slots) {o : Int} (hd : decode bytes pc = .ok (.ifnonnull o, 3)) (hp : pc + 3 = pc') (k : Go p e below s n0 rc rs P T (mkF m pc' Ls st)) : Go p e below s n0 rc rs P T (mkF m pc Ls (.null :: st)) := by
  obtain ⟨locs, X, eT, N, hn⟩ := X; obtain ⟨hx, hZ, hby, hown, hml, hlk, hrt⟩ := C
  subst hp; exact Go.of (fun t q => XS.ifnonnullNo X.here hx rfl (hb hby hd) rfl q) k
theorem Go.lswHit (C : Cx p s m meth c Z bytes own ret maxL) (X : On p l e R s m args below meth c n0 T h cells slots) {dflt : Int} {pairs : Array (Int × Int)} {len : Nat} {x : Int32} {a off : Int} (hd : decode bytes pc = .ok (.lookupswitch dflt pairs, len)) (hs : (pairs.toList.zip (pairs.toList.drop 1)).all (fun (a, next) => a.1 < next.1) = true) (hf : pairs.find? (·.1 == x.toInt) = some (a, off)) (ho : 0 ≤ (pc : Int) + off) (hp : ((pc : Int) + off).toNat = pc') (k : Go p e below s n0 rc rs P T (mkF m pc' Ls st)) : Go p e below s n0 rc rs P T (mkF m pc Ls (.int x :: st)) := by
  obtain ⟨locs, X, eT, N, hn⟩ := X; obtain ⟨hx, hZ, hby, hown, hml, hlk, hrt⟩ := C
  subst hp; exact Go.of (fun t q => X.lookupswitchHit hx (g := mkF m pc Ls (.int x :: st)) rfl rfl (hb hby hd) hs hf ho t q) k
theorem Go.lswMiss (C : Cx p s m meth c Z bytes own ret maxL) (X : On p l e R s m args below meth c n0 T h cells slots) {dflt : Int} {pairs : Array (Int × Int)} {len : Nat} {x : Int32} (hd : decode bytes pc = .ok (.lookupswitch dflt pairs, len)) (hs : (pairs.toList.zip (pairs.toList.drop 1)).all (fun (a, next) => a.1 < next.1) = true) (hf : pairs.find? (·.1 == x.toInt) = none) (ho : 0 ≤ (pc : Int) + dflt) (hp : ((pc : Int) + dflt).toNat = pc') (k : Go p e below s n0 rc rs P T (mkF m pc' Ls st)) : Go p e below s n0 rc rs P T (mkF m pc Ls (.int x :: st)) := by
  obtain ⟨locs, X, eT, N, hn⟩ := X; obtain ⟨hx, hZ, hby, hown, hml, hlk, hrt⟩ := C
  subst hp; exact Go.of (fun t q => X.lookupswitchMiss hx (g := mkF m pc Ls (.int x :: st)) rfl rfl (hb hby hd) hs hf ho t q) k
theorem Go.retV  (C : Cx p s m meth c Z bytes own none maxL) (X : On p l e R s m args below meth c n0 T h cells slots) (hd : decode bytes pc = .ok (.return_, 1)) (hq : P none h) (hc : cells ≤ rc) (hs : slots ≤ rs) : Go p e below s n0 rc rs P T (mkF m pc Ls []) := by
  obtain ⟨locs, X, eT, N, hn⟩ := X; obtain ⟨hx, hZ, hby, hown, hml, hlk, hrt⟩ := C
  obtain ⟨fs, hr, hrun, hended, hW, hsame⟩ := X.leave (v := none) (fun _ => rfl) hlk
  refine ⟨_, _, ?_, hrun, hended, _, _, rfl, ⟨?_, N⟩, ⟨_, rfl⟩, hW, hsame.mono hc hs⟩
  · exact X.returnOut hx hrt (hb hby hd) hr
  · show P _ T.heap; rw [eT]; exact hq
theorem own_retS {locs : List Loc} (X : Stand p l e R s m args below meth c T locs cells slots) (hx : p.tables.exec = Jvm.exec) {z z' : Int32} {t : FieldType} {rest : List Value} (hret : meth.sig.returnType = some t) (hn : narrow t (.int z) = .int z') (hd : decode c.code pc = .ok (.ireturn, 1)) {fs : List Frame}
    (hl : ∀ (f : JFrame) (acts : List Action), f.method = m → f.locked = none → f.entered = [] → (doReturn e (T.setTop f) acts (some (.int z'))).1 = T.setFrames fs) : Steps p.tables e below (T.setTop (mkF m pc Ls (.int z :: rest))) (T.setFrames fs) := by
  have hm' : T.vm.method? m = some meth := X.method'
  show Steps p.tables e below (T.setTop { method := m, pc := pc, locals := Ls, stack := _ :: rest, locked := none }) _
  jvm_step X.here [X.here.top, hx, hd, hm', hret, hn]
  first | (intro acts; rw [hl _ acts rfl rfl rfl]) | rw [hl _ _ rfl rfl rfl]
  exact Steps.refl _
theorem Go.retZ {t : FieldType} (C : Cx p s m meth c Z bytes own (some t) maxL) (X : On p l e R s m args below meth c n0 T h cells slots) {z z' : Int32} (hz : narrow t (.int z) = .int z') (hd : decode bytes pc = .ok (.ireturn, 1)) (hq : P (some (.int z')) h) (hc : cells ≤ rc) (hs : slots ≤ rs) : Go p e below s n0 rc rs P T (mkF m pc Ls (.int z :: st)) := by
  obtain ⟨locs, X, eT, N, hn⟩ := X; obtain ⟨hx, hZ, hby, hown, hml, hlk, hrt⟩ := C
  obtain ⟨fs, hr, hrun, hended, hW, hsame⟩ := X.leave (v := (some (.int z'))) (fun h => by rw [hrt] at h; cases h) hlk
  refine ⟨_, _, ?_, hrun, hended, _, _, rfl, ⟨?_, N⟩, ⟨_, rfl⟩, hW, hsame.mono hc hs⟩
  · exact own_retS X hx hrt hz (hb hby hd) hr
  · show P _ T.heap; rw [eT]; exact hq
theorem Go.retI  (C : Cx p s m meth c Z bytes own (some .int) maxL) (X : On p l e R s m args below meth c n0 T h cells slots) {z : Int32} (hd : decode bytes pc = .ok (.ireturn, 1)) (hq : P (some (.int z)) h) (hc : cells ≤ rc) (hs : slots ≤ rs) : Go p e below s n0 rc rs P T (mkF m pc Ls (.int z :: st)) := by
  obtain ⟨locs, X, eT, N, hn⟩ := X; obtain ⟨hx, hZ, hby, hown, hml, hlk, hrt⟩ := C
  obtain ⟨fs, hr, hrun, hended, hW, hsame⟩ := X.leave (v := (some (.int z))) (fun h => by rw [hrt] at h; cases h) hlk
  refine ⟨_, _, ?_, hrun, hended, _, _, rfl, ⟨?_, N⟩, ⟨_, rfl⟩, hW, hsame.mono hc hs⟩
  · exact own_retS X hx hrt rfl (hb hby hd) hr
  · show P _ T.heap; rw [eT]; exact hq
theorem Go.retL  (C : Cx p s m meth c Z bytes own (some .long) maxL) (X : On p l e R s m args below meth c n0 T h cells slots) {z : Int64} (hd : decode bytes pc = .ok (.lreturn, 1)) (hq : P (some (.long z)) h) (hc : cells ≤ rc) (hs : slots ≤ rs) : Go p e below s n0 rc rs P T (mkF m pc Ls (.long z :: st)) := by
  obtain ⟨locs, X, eT, N, hn⟩ := X; obtain ⟨hx, hZ, hby, hown, hml, hlk, hrt⟩ := C
  obtain ⟨fs, hr, hrun, hended, hW, hsame⟩ := X.leave (v := (some (.long z))) (fun h => by rw [hrt] at h; cases h) hlk
  refine ⟨_, _, ?_, hrun, hended, _, _, rfl, ⟨?_, N⟩, ⟨_, rfl⟩, hW, hsame.mono hc hs⟩
  · jvm_step X.here [X.here.top, hx, (hb hby hd), X.method', hrt, narrow]
    first | (intro acts; rw [hr _ acts rfl rfl rfl]) | rw [hr _ _ rfl rfl rfl]
    exact Steps.refl _
  · show P _ T.heap; rw [eT]; exact hq
theorem Go.retA {cn : String} (C : Cx p s m meth c Z bytes own (some (.object cn)) maxL) (X : On p l e R s m args below meth c n0 T h cells slots) {z : Value} (hz : z.isRef = true) (hd : decode bytes pc = .ok (.areturn, 1)) (hq : P (some z) h) (hc : cells ≤ rc) (hs : slots ≤ rs) : Go p e below s n0 rc rs P T (mkF m pc Ls (z :: st)) := by
  obtain ⟨locs, X, eT, N, hn⟩ := X; obtain ⟨hx, hZ, hby, hown, hml, hlk, hrt⟩ := C
  obtain ⟨fs, hr, hrun, hended, hW, hsame⟩ := X.leave (v := (some z)) (fun h => by rw [hrt] at h; cases h) hlk
  refine ⟨_, _, ?_, hrun, hended, _, _, rfl, ⟨?_, N⟩, ⟨_, rfl⟩, hW, hsame.mono hc hs⟩
  · rcases ref_cases hz with rfl | ⟨a, rfl⟩ <;>
    · jvm_step X.here [X.here.top, hx, (hb hby hd), X.method', hrt, Value.isRef, FieldType.isReference]
      first | (intro acts; rw [hr _ acts rfl rfl rfl]) | rw [hr _ _ rfl rfl rfl]
      exact Steps.refl _
  · show P _ T.heap; rw [eT]; exact hq
theorem Go.retAA {ct : FieldType} (C : Cx p s m meth c Z bytes own (some (.array ct)) maxL) (X : On p l e R s m args below meth c n0 T h cells slots) {z : Value} (hz : z.isRef = true) (hd : decode bytes pc = .ok (.areturn, 1)) (hq : P (some z) h) (hc : cells ≤ rc) (hs : slots ≤ rs) : Go p e below s n0 rc rs P T (mkF m pc Ls (z :: st)) := by
  obtain ⟨locs, X, eT, N, hn⟩ := X; obtain ⟨hx, hZ, hby, hown, hml, hlk, hrt⟩ := C
  obtain ⟨fs, hr, hrun, hended, hW, hsame⟩ := X.leave (v := (some z)) (fun h => by rw [hrt] at h; cases h) hlk
  refine ⟨_, _, ?_, hrun, hended, _, _, rfl, ⟨?_, N⟩, ⟨_, rfl⟩, hW, hsame.mono hc hs⟩
  · rcases ref_cases hz with rfl | ⟨a, rfl⟩ <;>
    · jvm_step X.here [X.here.top, hx, (hb hby hd), X.method', hrt, Value.isRef, FieldType.isReference]
      first | (intro acts; rw [hr _ acts rfl rfl rfl]) | rw [hr _ _ rfl rfl rfl]
      exact Steps.refl _
  · show P _ T.heap; rw [eT]; exact hq
theorem Go.getF (C : Cx p s m meth c Z bytes own ret maxL) (X : On p l e R s m args below meth c n0 T h cells slots) {R0 O n d host : String} {i : Nat} {a : Addr} {v : Value} (w : (Cond.fieldLink own i R0 n d).before a0 Z = true ∨ (Cond.fieldLinkNest own i R0 n d host).before a0 Z = true) (via : Via Z R0 O n d) (F : Fld Z h a O n d v) (hd : decode bytes pc = .ok (.getfield i, 3)) (hp : pc + 3 = pc')
    (k : ∀ T', On p l e R s m args below meth c n0 T' h cells slots → Go p e below s n0 rc rs P T' (mkF m pc' Ls (v :: st))) : Go p e below s n0 rc rs P T (mkF m pc Ls (.ref a :: st)) := by
  obtain ⟨locs, X, eT, N, hn⟩ := X; obtain ⟨hx, hZ, hby, hown, hml, hlk, hrt⟩ := C; subst hp
  obtain ⟨T', X', e', st'⟩ := RoadKit.getF X hx hZ hown w via eT F (g := mkF m pc Ls (.ref a :: st)) rfl rfl (hb hby hd)
  exact Go.of st' (k T' ⟨locs, X', e', N, hn⟩)
theorem Go.getS (C : Cx p s m meth c Z bytes own ret maxL) (X : On p l e R s m args below meth c n0 T h cells slots) {R0 O n d : String} {i : Nat} {v : Value} (w : (Cond.fieldLink own i R0 n d).before a0 Z = true) (via : Via Z R0 O n d) (F : Sta Z h O n d v) (hd : decode bytes pc = .ok (.getstatic i, 3)) (hp : pc + 3 = pc')
    (k : ∀ T', On p l e R s m args below meth c n0 T' h cells slots → Go p e below s n0 rc rs P T' (mkF m pc' Ls (v :: st))) : Go p e below s n0 rc rs P T (mkF m pc Ls st) := by
  obtain ⟨locs, X, eT, N, hn⟩ := X; obtain ⟨hx, hZ, hby, hown, hml, hlk, hrt⟩ := C; subst hp
  obtain ⟨T', X', e', st'⟩ := RoadKit.getS X hx hZ (host := "") hown w via eT F (g := mkF m pc Ls st) rfl (hb hby hd)
  exact Go.of st' (k T' ⟨locs, X', e', N, hn⟩)
theorem Go.putF (C : Cx p s m meth c Z bytes own ret maxL) (X : On p l e R s m args below meth c n0 T h cells slots) {R0 O n d host K : String} {i kk : Nat} {ty : FieldType} {a : Addr} {v old : Value} (w : (Cond.fieldLink own i R0 n d).before a0 Z = true ∨ (Cond.fieldLinkNest own i R0 n d host).before a0 Z = true) (via : Via Z R0 O n d) (F : Fld Z h a O n d old) (E : Exa Z h a K) (L : (Cond.lays K O n d).before a0 Z = true ∨ ((Cond.laysFinal K O n d).before a0 Z = true ∧ own = O ∧ meth.name = "<init>")) (wi : (Cond.instantiable K kk).before a0 Z = true) (ha : n0 ≤ a) (hty : parseFieldDescriptor d = some ty) (hn : narrow ty v = v) (hf : fits ty v = true) (hd : decode bytes pc = .ok (.putfield i, 3)) (hp : pc + 3 = pc')
    (k : ∀ T' h', On p l e R s m args below meth c n0 T' h' cells slots → Wr h h' a (slotOf Z O n d) v → Go p e below s n0 rc rs P T' (mkF m pc' Ls st)) : Go p e below s n0 rc rs P T (mkF m pc Ls (v :: .ref a :: st)) := by
  obtain ⟨locs, X, eT, N, hz⟩ := X; obtain ⟨hx, hZ, hby, hown, hml, hlk, hrt⟩ := C; subst hp
  obtain ⟨T', h', X', e', W, st'⟩ := RoadKit.putF X hx hZ hown w via eT F E L wi hty hn hf (g := mkF m pc Ls (v :: .ref a :: st)) rfl rfl (hb hby hd)
  exact Go.of st' (k T' h' ⟨_, X', e', Fr.snoc X' N ha, by rw [W.size]; exact hz⟩ W)
theorem Go.putFN (C : Cx p s m meth c Z bytes own ret maxL) (X : On p l e R s m args below meth c n0 T h cells slots) {R0 O n d K : String} {i kk : Nat} {ty : FieldType} {a : Addr} {v v' old : Value} (w : (Cond.fieldLink own i R0 n d).before a0 Z = true) (via : Via Z R0 O n d) (F : Fld Z h a O n d old) (E : Exa Z h a K) (L : (Cond.lays K O n d).before a0 Z = true ∨ ((Cond.laysFinal K O n d).before a0 Z = true ∧ own = O ∧ meth.name = "<init>")) (wi : (Cond.instantiable K kk).before a0 Z = true) (ha : n0 ≤ a) (hty : parseFieldDescriptor d = some ty) (hn : narrow ty v = v') (hf : fits ty v' = true) (hd : decode bytes pc = .ok (.putfield i, 3)) (hp : pc + 3 = pc')
    (k : ∀ T' h', On p l e R s m args below meth c n0 T' h' cells slots → Wr h h' a (slotOf Z O n d) v' → Go p e below s n0 rc rs P T' (mkF m pc' Ls st)) : Go p e below s n0 rc rs P T (mkF m pc Ls (v :: .ref a :: st)) := by
  obtain ⟨locs, X, eT, N, hz⟩ := X; obtain ⟨hx, hZ, hby, hown, hml, hlk, hrt⟩ := C; subst hp
  obtain ⟨T', h', X', e', W, st'⟩ := RoadKit.putFN X hx hZ hown w via eT F E L wi hty hn hf (g := mkF m pc Ls (v :: .ref a :: st)) rfl rfl (hb hby hd)
  exact Go.of st' (k T' h' ⟨_, X', e', Fr.snoc X' N ha, by rw [W.size]; exact hz⟩ W)
theorem Go.newO (C : Cx p s m meth c Z bytes own ret maxL) (X : On p l e R s m args below meth c n0 T h cells slots) {K : String} {i kk : Nat} (w : (Cond.classLink own i K).before a0 Z = true) (wi : (Cond.instantiable K kk).before a0 Z = true) (wz : (Cond.initialized K).before a0 Z = true) (hd : decode bytes pc = .ok (.new i, 3)) (hc : cells + 1 ≤ R.cells) (hl : slots + kk ≤ R.slots) (hp : pc + 3 = pc')
    (k : ∀ T' h' a, On p l e R s m args below meth c n0 T' h' (cells + 1) (slots + kk) → a = h.size → Ext h h' → Exa Z h' a K → (∀ {O nm d : String} {ty : FieldType}, Laid Z a0 K O nm d → parseFieldDescriptor d = some ty → Fld Z h' a O nm d (defaultValue ty)) → n0 ≤ a → Go p e below s n0 rc rs P T' (mkF m pc' Ls (.ref a :: st))) : Go p e below s n0 rc rs P T (mkF m pc Ls st) := by
  obtain ⟨locs, X, eT, N, hz⟩ := X; obtain ⟨hx, hZ, hby, hown, hml, hlk, hrt⟩ := C; subst hp
  obtain ⟨T', h', X', e', E, A, D, -, st'⟩ := RoadKit.newO X hx hZ hown w wi wz eT (g := mkF m pc Ls st) rfl (hb hby hd) hc hl
  exact Go.of st' (k T' h' h.size ⟨_, X', e', N, Nat.le_trans hz E.1⟩ rfl E A D hz)
theorem Go.initO (C : Cx p s m meth c Z bytes own ret maxL) (X : On p l e R s m args below meth c n0 T h cells slots) {a : Addr} (hI : ∀ locs, Stand p l e R s m args below meth c T locs cells slots → T.heap = h → ∃ T', Stand p l e R s m args below meth c T' locs cells slots ∧ T'.heap = h ∧ ∀ target, Steps p.tables e below (T'.setTop (mkF m (pc + 3) Ls st)) target → Steps p.tables e below (T.setTop (mkF m pc Ls (.ref a :: st))) target) (hp : pc + 3 = pc')
    (k : ∀ T', On p l e R s m args below meth c n0 T' h cells slots → Go p e below s n0 rc rs P T' (mkF m pc' Ls st)) : Go p e below s n0 rc rs P T (mkF m pc Ls (.ref a :: st)) := by
  obtain ⟨locs, X, eT, N, hz⟩ := X; subst hp
  obtain ⟨T', X', e', st'⟩ := hI locs X eT
  exact Go.of st' (k T' ⟨_, X', e', N, hz⟩)
theorem Go.castY (C : Cx p s m meth c Z bytes own ret maxL) (X : On p l e R s m args below meth c n0 T h cells slots) {K : String} {i : Nat} {a : Addr} (w : (Cond.classLink own i K).before a0 Z = true) (F : Ins Z h a K true) (hd : decode bytes pc = .ok (.checkcast i, 3)) (hp : pc + 3 = pc')
    (k : ∀ T', On p l e R s m args below meth c n0 T' h cells slots → Go p e below s n0 rc rs P T' (mkF m pc' Ls (.ref a :: st))) : Go p e below s n0 rc rs P T (mkF m pc Ls (.ref a :: st)) := by
  obtain ⟨locs, X, eT, N, hn⟩ := X; obtain ⟨hx, hZ, hby, hown, hml, hlk, hrt⟩ := C; subst hp
  obtain ⟨T', X', e', st'⟩ := RoadKit.castY X hx hZ hown w eT F (g := mkF m pc Ls (.ref a :: st)) rfl rfl (hb hby hd)
  exact Go.of st' (k T' ⟨locs, X', e', N, hn⟩)
theorem Go.instY (C : Cx p s m meth c Z bytes own ret maxL) (X : On p l e R s m args below meth c n0 T h cells slots) {K : String} {i : Nat} {a : Addr} (w : (Cond.classLink own i K).before a0 Z = true) (F : Ins Z h a K true) (hd : decode bytes pc = .ok (.instanceof i, 3)) (hp : pc + 3 = pc')
    (k : ∀ T', On p l e R s m args below meth c n0 T' h cells slots → Go p e below s n0 rc rs P T' (mkF m pc' Ls (.int 1 :: st))) : Go p e below s n0 rc rs P T (mkF m pc Ls (.ref a :: st)) := by
  obtain ⟨locs, X, eT, N, hn⟩ := X; obtain ⟨hx, hZ, hby, hown, hml, hlk, hrt⟩ := C; subst hp
  obtain ⟨T', X', e', st'⟩ := RoadKit.instY X hx hZ hown w eT F (g := mkF m pc Ls (.ref a :: st)) rfl rfl (hb hby hd)
  exact Go.of st' (k T' ⟨locs, X', e', N, hn⟩)
def AI (Z : State) (h : Heap) (a : Addr) (ty : FieldType) (n : Nat) (f : Nat → Int32) : Prop := ∃ cl : Cell, Arr Z h a cl ty ∧ cl.slots.size = n ∧ n < 2 ^ 31 ∧ ∀ i, i < n → cl.slots[i]? = some (.int (f i))
def AJ (Z : State) (h : Heap) (a : Addr) (n : Nat) (f : Nat → Int64) : Prop := ∃ cl : Cell, Arr Z h a cl .long ∧ cl.slots.size = n ∧ n < 2 ^ 31 ∧ ∀ i, i < n → cl.slots[i]? = some (.long (f i))
theorem clamp_of {j : Int32} {i : Nat} (hj : j.toInt = (i : Int)) : j.toNatClampNeg = i := by
  show j.toInt.toNat = i
  omega
theorem in_of {j : Int32} {i n : Nat} (hj : j.toInt = (i : Int)) (hi : i < n) {sz : Nat} (hs : sz = n) : ¬ (j < 0 ∨ sz ≤ j.toNatClampNeg) := by
  rw [clamp_of hj]
  intro q
  rcases q with q | q
  · rw [Int32.lt_iff_toInt_lt] at q
    have : (0 : Int32).toInt = 0 := rfl
    omega
  · omega
theorem len32 {z : Int32} {n : Nat} (hz : z.toInt = (n : Int)) : n.toInt32 = z := by
  apply Int32.toInt_inj.mp
  rw [hz]
  have h2 : z.toInt < 2147483648 := z.toInt_lt
  rw [hz] at h2
  exact Int32.toInt_ofNat_of_lt (by omega)
section AFacts
variable {h' : Heap} {a b : Addr} {ty : FieldType} {n sl : Nat} {f : Nat → Int32} {g : Nat → Int64} {v : Value} {ws : List Addr}
theorem AI.lt (F : AI Z h a ty n f) : a < h.size := by obtain ⟨c, A, -⟩ := F; exact A.lt
theorem AI.ext (F : AI Z h a ty n f) (E : Ext h h') : AI Z h' a ty n f := by obtain ⟨c, A, r⟩ := F; exact ⟨c, A.ext E, r⟩
theorem AI.other (F : AI Z h b ty n f) (W : Wr h h' a sl v) (q : b ≠ a) : AI Z h' b ty n f := by obtain ⟨c, A, r⟩ := F; exact ⟨c, A.other W q, r⟩
theorem AI.keep (F : AI Z h a ty n f) (K : Keep h h' ws) (q : a ∉ ws) : AI Z h' a ty n f := by obtain ⟨c, A, r⟩ := F; exact ⟨c, ⟨K.2.1 a c A.1 q, A.2⟩, r⟩
theorem AI.congr {f' : Nat → Int32} (F : AI Z h a ty n f) (q : ∀ i, i < n → f i = f' i) : AI Z h a ty n f' := by
  obtain ⟨c, A, r1, r2, r3⟩ := F; exact ⟨c, A, r1, r2, fun i hi => by rw [r3 i hi, q i hi]⟩
theorem AI.bound (F : AI Z h a ty n f) : n < 2 ^ 31 := by obtain ⟨c, A, r1, r2, r3⟩ := F; exact r2
theorem AI.set {i : Nat} {x : Int32} (F : AI Z h a ty n f) (W : Wr h h' a i (.int x)) : AI Z h' a ty n (fun k => if k = i then x else f k) := by
  obtain ⟨c, A, r1, r2, r3⟩ := F
  refine ⟨_, A.same W, by rw [sz_set]; exact r1, r2, fun k hk => ?_⟩
  by_cases q : k = i
  · subst q; simp [Cell.setSlot, r1, hk]
  · simp only [Cell.setSlot, if_neg q]
    rw [Array.getElem?_setIfInBounds_ne (fun e => q e.symm)]
    exact r3 k hk
theorem AI.new {k : ClassId} {z : Int32} {n : Nat} (hz : z.toInt = (n : Int)) (ht : defaultValue ty = .int 0) (A : Arr Z h a (newA k ty z) ty) : AI Z h a ty n (fun _ => 0) := by
  have h2 : z.toInt < 2147483648 := z.toInt_lt
  refine ⟨_, A, by rw [sz_new, clamp_of hz], by omega, fun i hi => ?_⟩
  simp [newA, clamp_of hz, hi, ht]
theorem AJ.lt (F : AJ Z h a n g) : a < h.size := by obtain ⟨c, A, -⟩ := F; exact A.lt
theorem AJ.ext (F : AJ Z h a n g) (E : Ext h h') : AJ Z h' a n g := by obtain ⟨c, A, r⟩ := F; exact ⟨c, A.ext E, r⟩
theorem AJ.other (F : AJ Z h b n g) (W : Wr h h' a sl v) (q : b ≠ a) : AJ Z h' b n g := by obtain ⟨c, A, r⟩ := F; exact ⟨c, A.other W q, r⟩
theorem AJ.keep (F : AJ Z h a n g) (K : Keep h h' ws) (q : a ∉ ws) : AJ Z h' a n g := by obtain ⟨c, A, r⟩ := F; exact ⟨c, ⟨K.2.1 a c A.1 q, A.2⟩, r⟩
theorem AJ.congr {g' : Nat → Int64} (F : AJ Z h a n g) (q : ∀ i, i < n → g i = g' i) : AJ Z h a n g' := by
  obtain ⟨c, A, r1, r2, r3⟩ := F; exact ⟨c, A, r1, r2, fun i hi => by rw [r3 i hi, q i hi]⟩
theorem AJ.set {i : Nat} {x : Int64} (F : AJ Z h a n g) (W : Wr h h' a i (.long x)) : AJ Z h' a n (fun k => if k = i then x else g k) := by
  obtain ⟨c, A, r1, r2, r3⟩ := F
  refine ⟨_, A.same W, by rw [sz_set]; exact r1, r2, fun k hk => ?_⟩
  by_cases q : k = i
  · subst q; simp [Cell.setSlot, r1, hk]
  · simp only [Cell.setSlot, if_neg q]
    rw [Array.getElem?_setIfInBounds_ne (fun e => q e.symm)]
    exact r3 k hk
theorem AJ.new {k : ClassId} {z : Int32} {n : Nat} (hz : z.toInt = (n : Int)) (A : Arr Z h a (newA k .long z) .long) : AJ Z h a n (fun _ => 0) := by
  have h2 : z.toInt < 2147483648 := z.toInt_lt
  refine ⟨_, A, by rw [sz_new, clamp_of hz], by omega, fun i hi => ?_⟩
  simp [newA, clamp_of hz, hi, defaultValue]
end AFacts
theorem Go.newP (C : Cx p s m meth c Z bytes own ret maxL) (X : On p l e R s m args below meth c n0 T h cells slots) {aty : ArrayType} {z : Int32} {nn cap : Nat} (w : (Cond.arrayClass (newarray.typeOf aty)).before a0 Z = true) (hd : decode bytes pc = .ok (.newarray aty, 2)) (hz : z.toInt = (nn : Int)) (hcap : nn ≤ cap) (hbig : cap * 8 ≤ 536870912) (hc : cells + 1 ≤ R.cells) (hl : slots + cap ≤ R.slots) (hp : pc + 2 = pc')
    (k : ∀ T' h' a cA, On p l e R s m args below meth c n0 T' h' (cells + 1) (slots + cap) → a = h.size → Ext h h' → Arr Z h' a (newA cA (newarray.typeOf aty) z) (newarray.typeOf aty) → n0 ≤ a → Go p e below s n0 rc rs P T' (mkF m pc' Ls (.ref a :: st))) : Go p e below s n0 rc rs P T (mkF m pc Ls (.int z :: st)) := by
  obtain ⟨locs, X, eT, N, hn⟩ := X; obtain ⟨hx, hZ, hby, hown, hml, hlk, hrt⟩ := C; subst hp
  obtain ⟨T', h', cA, X', e', E, A, st'⟩ := RoadKit.newP X hx hZ w eT (g := mkF m pc Ls (.int z :: st)) rfl (hb hby hd) rfl (by rw [Int32.lt_iff_toInt_lt]; have : (0 : Int32).toInt = 0 := rfl; omega) (cap := cap) (by rw [clamp_of hz]; exact hcap) hbig hc hl
  exact Go.of st' (k T' h' h.size cA ⟨_, X', e', N, Nat.le_trans hn E.1⟩ rfl E A hn)
theorem Go.alenI (C : Cx p s m meth c Z bytes own ret maxL) (X : On p l e R s m args below meth c n0 T h cells slots) {a : Addr} {ty : FieldType} {n : Nat} {f : Nat → Int32} {z : Int32} (A : AI Z h a ty n f) (hz : z.toInt = (n : Int)) (hd : decode bytes pc = .ok (.arraylength, 1)) (hp : pc + 1 = pc') (k : Go p e below s n0 rc rs P T (mkF m pc' Ls (.int z :: st))) : Go p e below s n0 rc rs P T (mkF m pc Ls (.ref a :: st)) := by
  obtain ⟨locs, X, eT, N, hn⟩ := X; obtain ⟨hx, hZ, hby, hown, hml, hlk, hrt⟩ := C; subst hp
  obtain ⟨cl, A, r1, r2, r3⟩ := A
  refine Go.of (fun t q => X.arraylength hx (by rw [eT]; exact A.1) (State.isArrayOf_alike hZ.alike A.2.1) (g := mkF m pc Ls (.ref a :: st)) rfl rfl (hb hby hd) t ?_) k
  rw [r1, len32 hz]; exact q
theorem Go.alenJ (C : Cx p s m meth c Z bytes own ret maxL) (X : On p l e R s m args below meth c n0 T h cells slots) {a : Addr} {n : Nat} {f : Nat → Int64} {z : Int32} (A : AJ Z h a n f) (hz : z.toInt = (n : Int)) (hd : decode bytes pc = .ok (.arraylength, 1)) (hp : pc + 1 = pc') (k : Go p e below s n0 rc rs P T (mkF m pc' Ls (.int z :: st))) : Go p e below s n0 rc rs P T (mkF m pc Ls (.ref a :: st)) := by
  obtain ⟨locs, X, eT, N, hn⟩ := X; obtain ⟨hx, hZ, hby, hown, hml, hlk, hrt⟩ := C; subst hp
  obtain ⟨cl, A, r1, r2, r3⟩ := A
  refine Go.of (fun t q => X.arraylength hx (by rw [eT]; exact A.1) (State.isArrayOf_alike hZ.alike A.2.1) (g := mkF m pc Ls (.ref a :: st)) rfl rfl (hb hby hd) t ?_) k
  rw [r1, len32 hz]; exact q
theorem Go.iaload (C : Cx p s m meth c Z bytes own ret maxL) (X : On p l e R s m args below meth c n0 T h cells slots) {a : Addr} {n : Nat} {f : Nat → Int32} {j : Int32} {i : Nat} {w : Int32} (A : AI Z h a .int n f) (hj : j.toInt = (i : Int)) (hi : i < n) (hw : f i = w) (hd : decode bytes pc = .ok (.iaload, 1)) (hp : pc + 1 = pc') (k : Go p e below s n0 rc rs P T (mkF m pc' Ls (.int w :: st))) : Go p e below s n0 rc rs P T (mkF m pc Ls (.int j :: .ref a :: st)) := by
  obtain ⟨locs, X, eT, N, hn⟩ := X; obtain ⟨hx, hZ, hby, hown, hml, hlk, hrt⟩ := C; subst hp hw
  obtain ⟨cl, A, r1, r2, r3⟩ := A
  exact Go.of (fun t q => X.iaload hx (j := j) (v := .int (f i)) (by rw [eT]; exact A.1) (State.isArrayOf_alike hZ.alike A.2.1) A.2.2 (in_of hj hi r1) (by rw [clamp_of hj]; exact r3 i hi) (g := mkF m pc Ls (.int j :: .ref a :: st)) rfl rfl (hb hby hd) t q) k
theorem Go.baload (C : Cx p s m meth c Z bytes own ret maxL) (X : On p l e R s m args below meth c n0 T h cells slots) {a : Addr} {n : Nat} {f : Nat → Int32} {j : Int32} {i : Nat} {w : Int32} (A : AI Z h a .byte n f) (hj : j.toInt = (i : Int)) (hi : i < n) (hw : f i = w) (hd : decode bytes pc = .ok (.baload, 1)) (hp : pc + 1 = pc') (k : Go p e below s n0 rc rs P T (mkF m pc' Ls (.int w :: st))) : Go p e below s n0 rc rs P T (mkF m pc Ls (.int j :: .ref a :: st)) := by
  obtain ⟨locs, X, eT, N, hn⟩ := X; obtain ⟨hx, hZ, hby, hown, hml, hlk, hrt⟩ := C; subst hp hw
  obtain ⟨cl, A, r1, r2, r3⟩ := A
  exact Go.of (fun t q => X.baloadBytes hx (j := j) (v := .int (f i)) (by rw [eT]; exact A.1) (State.isArrayOf_alike hZ.alike A.2.1) A.2.2 (in_of hj hi r1) (by rw [clamp_of hj]; exact r3 i hi) (g := mkF m pc Ls (.int j :: .ref a :: st)) rfl rfl (hb hby hd) t q) k
theorem Go.zaload (C : Cx p s m meth c Z bytes own ret maxL) (X : On p l e R s m args below meth c n0 T h cells slots) {a : Addr} {n : Nat} {f : Nat → Int32} {j : Int32} {i : Nat} {w : Int32} (A : AI Z h a .boolean n f) (hj : j.toInt = (i : Int)) (hi : i < n) (hw : f i = w) (hd : decode bytes pc = .ok (.baload, 1)) (hp : pc + 1 = pc') (k : Go p e below s n0 rc rs P T (mkF m pc' Ls (.int w :: st))) : Go p e below s n0 rc rs P T (mkF m pc Ls (.int j :: .ref a :: st)) := by
  obtain ⟨locs, X, eT, N, hn⟩ := X; obtain ⟨hx, hZ, hby, hown, hml, hlk, hrt⟩ := C; subst hp hw
  obtain ⟨cl, A, r1, r2, r3⟩ := A
  exact Go.of (fun t q => X.baloadBooleans hx (j := j) (v := .int (f i)) (by rw [eT]; exact A.1) (State.isArrayOf_alike hZ.alike A.2.1) A.2.2 (in_of hj hi r1) (by rw [clamp_of hj]; exact r3 i hi) (g := mkF m pc Ls (.int j :: .ref a :: st)) rfl rfl (hb hby hd) t q) k
theorem Go.caload (C : Cx p s m meth c Z bytes own ret maxL) (X : On p l e R s m args below meth c n0 T h cells slots) {a : Addr} {n : Nat} {f : Nat → Int32} {j : Int32} {i : Nat} {w : Int32} (A : AI Z h a .char n f) (hj : j.toInt = (i : Int)) (hi : i < n) (hw : f i = w) (hd : decode bytes pc = .ok (.caload, 1)) (hp : pc + 1 = pc') (k : Go p e below s n0 rc rs P T (mkF m pc' Ls (.int w :: st))) : Go p e below s n0 rc rs P T (mkF m pc Ls (.int j :: .ref a :: st)) := by
  obtain ⟨locs, X, eT, N, hn⟩ := X; obtain ⟨hx, hZ, hby, hown, hml, hlk, hrt⟩ := C; subst hp hw
  obtain ⟨cl, A, r1, r2, r3⟩ := A
  exact Go.of (fun t q => X.caload hx (j := j) (v := .int (f i)) (by rw [eT]; exact A.1) (State.isArrayOf_alike hZ.alike A.2.1) A.2.2 (in_of hj hi r1) (by rw [clamp_of hj]; exact r3 i hi) (g := mkF m pc Ls (.int j :: .ref a :: st)) rfl rfl (hb hby hd) t q) k
theorem Go.laload (C : Cx p s m meth c Z bytes own ret maxL) (X : On p l e R s m args below meth c n0 T h cells slots) {a : Addr} {n : Nat} {f : Nat → Int64} {j : Int32} {i : Nat} {w : Int64} (A : AJ Z h a n f) (hj : j.toInt = (i : Int)) (hi : i < n) (hw : f i = w) (hd : decode bytes pc = .ok (.laload, 1)) (hp : pc + 1 = pc') (k : Go p e below s n0 rc rs P T (mkF m pc' Ls (.long w :: st))) : Go p e below s n0 rc rs P T (mkF m pc Ls (.int j :: .ref a :: st)) := by
  obtain ⟨locs, X, eT, N, hn⟩ := X; obtain ⟨hx, hZ, hby, hown, hml, hlk, hrt⟩ := C; subst hp hw
  obtain ⟨cl, A, r1, r2, r3⟩ := A
  exact Go.of (fun t q => X.laload hx (j := j) (v := .long (f i)) (by rw [eT]; exact A.1) (State.isArrayOf_alike hZ.alike A.2.1) A.2.2 (in_of hj hi r1) (by rw [clamp_of hj]; exact r3 i hi) (g := mkF m pc Ls (.int j :: .ref a :: st)) rfl rfl (hb hby hd) t q) k
theorem Go.iastore (C : Cx p s m meth c Z bytes own ret maxL) (X : On p l e R s m args below meth c n0 T h cells slots) {a : Addr} {n : Nat} {f : Nat → Int32} {j x x' : Int32} {i : Nat} (A : AI Z h a .int n f) (hj : j.toInt = (i : Int)) (hi : i < n) (hv : x = x') (ha : n0 ≤ a) (hd : decode bytes pc = .ok (.iastore, 1)) (hp : pc + 1 = pc')
    (k : ∀ T' h', On p l e R s m args below meth c n0 T' h' cells slots → Wr h h' a i (.int x') → AI Z h' a .int n (fun q => if q = i then x' else f q) → Go p e below s n0 rc rs P T' (mkF m pc' Ls st)) : Go p e below s n0 rc rs P T (mkF m pc Ls (.int x :: .int j :: .ref a :: st)) := by
  obtain ⟨locs, X, eT, N, hn⟩ := X; obtain ⟨hx, hZ, hby, hown, hml, hlk, hrt⟩ := C; subst hp hv
  obtain ⟨cl, A', r1, r2, r3⟩ := id A
  obtain ⟨T', h', X', e', W, st'⟩ := RoadKit.stI X hx hZ eT A' (in_of hj hi r1) (g := mkF m pc Ls (.int x :: .int j :: .ref a :: st)) rfl rfl (hb hby hd)
  have N' := Fr.snoc X' N ha
  rw [clamp_of hj] at W
  exact Go.of st' (k T' h' ⟨_, X', e', N', by rw [W.size]; exact hn⟩ W (A.set W))
theorem Go.bastore (C : Cx p s m meth c Z bytes own ret maxL) (X : On p l e R s m args below meth c n0 T h cells slots) {a : Addr} {n : Nat} {f : Nat → Int32} {j x x' : Int32} {i : Nat} (A : AI Z h a .byte n f) (hj : j.toInt = (i : Int)) (hi : i < n) (hv : nar .byte x = x') (ha : n0 ≤ a) (hd : decode bytes pc = .ok (.bastore, 1)) (hp : pc + 1 = pc')
    (k : ∀ T' h', On p l e R s m args below meth c n0 T' h' cells slots → Wr h h' a i (.int x') → AI Z h' a .byte n (fun q => if q = i then x' else f q) → Go p e below s n0 rc rs P T' (mkF m pc' Ls st)) : Go p e below s n0 rc rs P T (mkF m pc Ls (.int x :: .int j :: .ref a :: st)) := by
  obtain ⟨locs, X, eT, N, hn⟩ := X; obtain ⟨hx, hZ, hby, hown, hml, hlk, hrt⟩ := C; subst hp hv
  obtain ⟨cl, A', r1, r2, r3⟩ := id A
  obtain ⟨T', h', X', e', W, st'⟩ := RoadKit.stB X hx hZ eT A' (in_of hj hi r1) (g := mkF m pc Ls (.int x :: .int j :: .ref a :: st)) rfl rfl (hb hby hd)
  have N' := Fr.snoc X' N ha
  rw [clamp_of hj] at W
  exact Go.of st' (k T' h' ⟨_, X', e', N', by rw [W.size]; exact hn⟩ W (A.set W))
theorem Go.castore (C : Cx p s m meth c Z bytes own ret maxL) (X : On p l e R s m args below meth c n0 T h cells slots) {a : Addr} {n : Nat} {f : Nat → Int32} {j x x' : Int32} {i : Nat} (A : AI Z h a .char n f) (hj : j.toInt = (i : Int)) (hi : i < n) (hv : nar .char x = x') (ha : n0 ≤ a) (hd : decode bytes pc = .ok (.castore, 1)) (hp : pc + 1 = pc')
    (k : ∀ T' h', On p l e R s m args below meth c n0 T' h' cells slots → Wr h h' a i (.int x') → AI Z h' a .char n (fun q => if q = i then x' else f q) → Go p e below s n0 rc rs P T' (mkF m pc' Ls st)) : Go p e below s n0 rc rs P T (mkF m pc Ls (.int x :: .int j :: .ref a :: st)) := by
  obtain ⟨locs, X, eT, N, hn⟩ := X; obtain ⟨hx, hZ, hby, hown, hml, hlk, hrt⟩ := C; subst hp hv
  obtain ⟨cl, A', r1, r2, r3⟩ := id A
  obtain ⟨T', h', X', e', W, st'⟩ := RoadKit.stC X hx hZ eT A' (in_of hj hi r1) (g := mkF m pc Ls (.int x :: .int j :: .ref a :: st)) rfl rfl (hb hby hd)
  have N' := Fr.snoc X' N ha
  rw [clamp_of hj] at W
  exact Go.of st' (k T' h' ⟨_, X', e', N', by rw [W.size]; exact hn⟩ W (A.set W))
theorem Go.zastore (C : Cx p s m meth c Z bytes own ret maxL) (X : On p l e R s m args below meth c n0 T h cells slots) {a : Addr} {n : Nat} {f : Nat → Int32} {j x x' : Int32} {i : Nat} (A : AI Z h a .boolean n f) (hj : j.toInt = (i : Int)) (hi : i < n) (hv : nar .boolean x = x') (ha : n0 ≤ a) (hd : decode bytes pc = .ok (.bastore, 1)) (hp : pc + 1 = pc')
    (k : ∀ T' h', On p l e R s m args below meth c n0 T' h' cells slots → Wr h h' a i (.int x') → AI Z h' a .boolean n (fun q => if q = i then x' else f q) → Go p e below s n0 rc rs P T' (mkF m pc' Ls st)) : Go p e below s n0 rc rs P T (mkF m pc Ls (.int x :: .int j :: .ref a :: st)) := by
  obtain ⟨locs, X, eT, N, hn⟩ := X; obtain ⟨hx, hZ, hby, hown, hml, hlk, hrt⟩ := C; subst hp hv
  obtain ⟨cl, A', r1, r2, r3⟩ := id A
  obtain ⟨T', h', X', e', W, st'⟩ := RoadKit.stZ X hx hZ eT A' (in_of hj hi r1) (g := mkF m pc Ls (.int x :: .int j :: .ref a :: st)) rfl rfl (hb hby hd)
  have N' := Fr.snoc X' N ha
  rw [clamp_of hj] at W
  exact Go.of st' (k T' h' ⟨_, X', e', N', by rw [W.size]; exact hn⟩ W (A.set W))
theorem Go.lastore (C : Cx p s m meth c Z bytes own ret maxL) (X : On p l e R s m args below meth c n0 T h cells slots) {a : Addr} {n : Nat} {f : Nat → Int64} {j : Int32} {x : Int64} {i : Nat} (A : AJ Z h a n f) (hj : j.toInt = (i : Int)) (hi : i < n) (ha : n0 ≤ a) (hd : decode bytes pc = .ok (.lastore, 1)) (hp : pc + 1 = pc')
    (k : ∀ T' h', On p l e R s m args below meth c n0 T' h' cells slots → Wr h h' a i (.long x) → AJ Z h' a n (fun q => if q = i then x else f q) → Go p e below s n0 rc rs P T' (mkF m pc' Ls st)) : Go p e below s n0 rc rs P T (mkF m pc Ls (.long x :: .int j :: .ref a :: st)) := by
  obtain ⟨locs, X, eT, N, hn⟩ := X; obtain ⟨hx, hZ, hby, hown, hml, hlk, hrt⟩ := C; subst hp
  obtain ⟨cl, A', r1, r2, r3⟩ := id A
  obtain ⟨T', h', X', e', W, st'⟩ := RoadKit.stJ X hx hZ eT A' (in_of hj hi r1) (g := mkF m pc Ls (.long x :: .int j :: .ref a :: st)) rfl rfl (hb hby hd)
  have N' := Fr.snoc X' N ha
  rw [clamp_of hj] at W
  exact Go.of st' (k T' h' ⟨_, X', e', N', by rw [W.size]; exact hn⟩ W (A.set W))
def AR (Z : State) (h : Heap) (a : Addr) (ty : FieldType) (n : Nat) (f : Nat → Value) : Prop := ∃ cl : Cell, Arr Z h a cl ty ∧ cl.slots.size = n ∧ n < 2 ^ 31 ∧ (∀ i, i < n → cl.slots[i]? = some (f i)) ∧ FitC Z cl
theorem AR.lt {a : Addr} {ty : FieldType} {n : Nat} {f : Nat → Value} (F : AR Z h a ty n f) : a < h.size := by obtain ⟨c, A, -⟩ := F; exact A.lt
theorem AR.ext {h' : Heap} {a : Addr} {ty : FieldType} {n : Nat} {f : Nat → Value} (F : AR Z h a ty n f) (E : Ext h h') : AR Z h' a ty n f := by obtain ⟨c, A, r⟩ := F; exact ⟨c, A.ext E, r⟩
theorem AR.other {h' : Heap} {a b : Addr} {sl : Nat} {v : Value} {ty : FieldType} {n : Nat} {f : Nat → Value} (F : AR Z h b ty n f) (W : Wr h h' a sl v) (q : b ≠ a) : AR Z h' b ty n f := by obtain ⟨c, A, r⟩ := F; exact ⟨c, A.other W q, r⟩
theorem AR.keep {h' : Heap} {a : Addr} {ws : List Addr} {ty : FieldType} {n : Nat} {f : Nat → Value} (F : AR Z h a ty n f) (K : Keep h h' ws) (q : a ∉ ws) : AR Z h' a ty n f := by obtain ⟨c, A, r⟩ := F; exact ⟨c, ⟨K.2.1 a c A.1 q, A.2⟩, r⟩
theorem Go.alenR (C : Cx p s m meth c Z bytes own ret maxL) (X : On p l e R s m args below meth c n0 T h cells slots) {a : Addr} {ty : FieldType} {n : Nat} {f : Nat → Value} {z : Int32} (A : AR Z h a ty n f) (hz : z.toInt = (n : Int)) (hd : decode bytes pc = .ok (.arraylength, 1)) (hp : pc + 1 = pc') (k : Go p e below s n0 rc rs P T (mkF m pc' Ls (.int z :: st))) : Go p e below s n0 rc rs P T (mkF m pc Ls (.ref a :: st)) := by
  obtain ⟨locs, X, eT, N, hn⟩ := X; obtain ⟨hx, hZ, hby, hown, hml, hlk, hrt⟩ := C; subst hp
  obtain ⟨cl, A, r1, r2, r3⟩ := A
  refine Go.of (fun t q => X.arraylength hx (by rw [eT]; exact A.1) (State.isArrayOf_alike hZ.alike A.2.1) (g := mkF m pc Ls (.ref a :: st)) rfl rfl (hb hby hd) t ?_) k
  rw [r1, len32 hz]; exact q
theorem Go.aaload (C : Cx p s m meth c Z bytes own ret maxL) (X : On p l e R s m args below meth c n0 T h cells slots) {a : Addr} {ty : FieldType} {n : Nat} {f : Nat → Value} {j : Int32} {i : Nat} {w : Value} (A : AR Z h a ty n f) (hty : ty.isReference = true) (hj : j.toInt = (i : Int)) (hi : i < n) (hw : f i = w) (hd : decode bytes pc = .ok (.aaload, 1)) (hp : pc + 1 = pc') (k : Go p e below s n0 rc rs P T (mkF m pc' Ls (w :: st))) : Go p e below s n0 rc rs P T (mkF m pc Ls (.int j :: .ref a :: st)) := by
  obtain ⟨locs, X, eT, N, hn⟩ := X; obtain ⟨hx, hZ, hby, hown, hml, hlk, hrt⟩ := C; subst hp hw
  obtain ⟨cl, A, r1, r2, r3, r4⟩ := A
  exact Go.of (fun t q => X.aaload hx (j := j) (v := f i) (by rw [eT]; exact A.1) (State.isArrayOf_alike hZ.alike A.2.1) hty A.2.2 (in_of hj hi r1) (by rw [clamp_of hj]; exact r3 i hi) (g := mkF m pc Ls (.int j :: .ref a :: st)) rfl rfl (hb hby hd) t q) k
theorem Go.cloneA (C : Cx p s m meth c Z bytes own ret maxL) (X : On p l e R s m args below meth c n0 T h cells slots) {ad : String} {i : Nat} {a : Addr} {ty : FieldType} {n W cap : Nat} {f : Nat → Value}
    (w1 : (Cond.methodLink own i ⟨ad, "clone", "()Ljava/lang/Object;"⟩).before a0 Z = true) (w2 : (Cond.sameMethod ad "java/lang/Object" "clone" "()Ljava/lang/Object;").before a0 Z = true) (w3 : (Cond.native ⟨"java/lang/Object", "clone", "()Ljava/lang/Object;"⟩).before a0 Z = true)
    (w4 : (Cond.instanceMethod ⟨"java/lang/Object", "clone", "()Ljava/lang/Object;"⟩).before a0 Z = true) (w5 : (Cond.selects ad ⟨ad, "clone", "()Ljava/lang/Object;"⟩ ⟨"java/lang/Object", "clone", "()Ljava/lang/Object;"⟩).before a0 Z = true) (w6 : (Cond.castable ad "java/lang/Cloneable").before a0 Z = true)
    (A : AR Z h a ty n f) (E : Exa Z h a ad) (hsz : Ls.size = maxL) (hd : decode bytes pc = .ok (.invokevirtual i, 3)) (hf : 1 ≤ R.frames) (hW : (st.map fun v => v.category).sum ≤ W) (hl : W + 14 ≤ R.locals) (hcap : n ≤ cap) (hc : cells + 1 ≤ R.cells) (hsl : slots + cap ≤ R.slots) (hp : pc + 3 = pc')
    (k : ∀ T' h' b, On p l e R s m args below meth c n0 T' h' (cells + 1) (slots + cap) → b = h.size → Ext h h' → AR Z h' b ty n f → Exa Z h' b ad → n0 ≤ b → Go p e below s n0 rc rs P T' (mkF m pc' Ls (.ref b :: st))) : Go p e below s n0 rc rs P T (mkF m pc Ls (.ref a :: st)) := by
  obtain ⟨locs, X, eT, N, hn⟩ := X; obtain ⟨hx, hZ, hby, hown, hml, hlk, hrt⟩ := C; subst hp
  obtain ⟨cl, A, r1, r2, r3, r4⟩ := A
  obtain ⟨T', h', X', e', ex, A', E', st'⟩ := RoadKit.cloneA X hx hZ hown w1 w2 w3 w4 w5 w6 eT A E r4 (g := mkF m pc Ls (.ref a :: st)) rfl (by rw [hml]; exact hsz) rfl (hb hby hd) hf (W := W) (cap := cap) (by simpa using hW) hl (by rw [r1]; exact hcap) hc hsl
  exact Go.of st' (k T' h' h.size ⟨_, X', e', N, Nat.le_trans hn ex.1⟩ rfl ex ⟨cloneOf cl, A', r1, r2, r3, r4⟩ E' hn)
theorem Go.callS (C : Cx p s m meth c Z bytes own ret maxL) (X : On p l e R s m args below meth c n0 T h cells slots) {y : MethodName} {cb : ByteArray} {cm : Nat} {cr : Option FieldType} {rm : Room} {as' : Array Value} {P' : Option Value → Heap → Prop} {i W : Nat} {argsL rest : List Value} (K : Con l Z y cb cm cr rm as' h n0 P') (w1 : (Cond.methodLink own i y).before a0 Z = true) (w2 : (Cond.static y).before a0 Z = true) (w3 : (Cond.initialized y.cls).before a0 Z = true) (w4 : (Cond.code y cb cm cr).before a0 Z = true) (hy : y.cls ≠ "java/lang/invoke/MethodHandle" ∧ y.cls ≠ "java/lang/invoke/VarHandle")
    (has : argsL.toArray = as') (hst : st = argsL.reverse ++ rest) (hlen : ∀ sig, parseMethodDescriptor y.desc = some sig → argsL.length = sig.parameters.length) (hsz : Ls.size = maxL) (hW : (rest.map fun v => v.category).sum ≤ W) (hf : rm.frames + 1 ≤ R.frames) (hlo : W + (cm + 11) + rm.locals ≤ R.locals) (hce : cells + rm.cells ≤ R.cells) (hsl : slots + rm.slots ≤ R.slots) (hd : decode bytes pc = .ok (.invokestatic i, 3)) (hp : pc + 3 = pc')
    (hgrow : ∀ v h', P' v h' → h.size ≤ h'.size)
    (k : ∀ T' h' v, On p l e R s m args below meth c n0 T' h' (cells + rm.cells) (slots + rm.slots) → P' v h' → Go p e below s n0 rc rs P T' (mkF m pc' Ls (v.toList ++ rest))) : Go p e below s n0 rc rs P T (mkF m pc Ls st) := by
  obtain ⟨locs, X, eT, N, hn⟩ := X; obtain ⟨hx, hZ, hby, hown, hml, hlk, hrt⟩ := C; subst hp has hst
  obtain ⟨v, _, ⟨T', L', k', n'⟩, -, X', ⟨Lc, hQ, l', y', z'⟩, st'⟩ := Jvm.LawKit.callS X hx (y := y) hown (mvT hZ w1) (mvT hZ w2) (mvT hZ w3) (mvT hZ w4) hy (K.back (W := W) hZ w4 w3 hf hlo) (g := mkF m pc Ls (argsL.reverse ++ rest)) rfl (by rw [hml]; exact hsz) (argsL := argsL) (rest := rest) hlen rfl (by simpa using hW) (hb hby hd) (fun _ _ => ⟨rfl, eT, hce, hsl⟩)
  dsimp only [Pt.U, Pt.locs, Pt.cells, Pt.slots] at X' l' y' z' st' hQ
  subst l' y' z'
  exact Go.of st' (k T' _ v ⟨_, X', rfl, Fr.app N hQ.2, Nat.le_trans hn (hgrow _ _ hQ.1)⟩ hQ.1)
theorem Go.callI (C : Cx p s m meth c Z bytes own ret maxL) (X : On p l e R s m args below meth c n0 T h cells slots) {y : MethodName} {cb : ByteArray} {cm : Nat} {cr : Option FieldType} {rm : Room} {as' : Array Value} {P' : Option Value → Heap → Prop} {i W : Nat} {argsL rest : List Value} (K : Con l Z y cb cm cr rm as' h n0 P') {a : Addr} (hy1 : y.name = "<init>") (hcr : cr = none) (w1 : (Cond.methodLink own i y).before a0 Z = true) (w2 : (Cond.instanceMethod y).before a0 Z = true) (w3 : (Cond.initialized y.cls).before a0 Z = true) (w4 : (Cond.code y cb cm cr).before a0 Z = true) (hy : y.cls ≠ "java/lang/invoke/MethodHandle" ∧ y.cls ≠ "java/lang/invoke/VarHandle")
    (has : (.ref a :: argsL).toArray = as') (hst : st = argsL.reverse ++ .ref a :: rest) (hlen : ∀ sig, parseMethodDescriptor y.desc = some sig → argsL.length = sig.parameters.length) (hsz : Ls.size = maxL) (hW : (rest.map fun v => v.category).sum ≤ W) (hf : rm.frames + 1 ≤ R.frames) (hlo : W + (cm + 11) + rm.locals ≤ R.locals) (hce : cells + rm.cells ≤ R.cells) (hsl : slots + rm.slots ≤ R.slots) (hd : decode bytes pc = .ok (.invokespecial i, 3)) (hp : pc + 3 = pc')
    (hgrow : ∀ v h', P' v h' → h.size ≤ h'.size)
    (k : ∀ T' h' v, On p l e R s m args below meth c n0 T' h' (cells + rm.cells) (slots + rm.slots) → P' v h' → Go p e below s n0 rc rs P T' (mkF m pc' Ls (v.toList ++ rest))) : Go p e below s n0 rc rs P T (mkF m pc Ls st) := by
  obtain ⟨locs, X, eT, N, hn⟩ := X; obtain ⟨hx, hZ, hby, hown, hml, hlk, hrt⟩ := C; subst hp has hst hcr
  obtain ⟨v, _, ⟨T', L', k', n'⟩, -, X', ⟨Lc, hQ, l', y', z'⟩, st'⟩ := X.specialBack hx (y := y) hy1 hown (mvT hZ w1) (mvT hZ w2) (mvT hZ w4) hy (K.back (W := W) hZ w4 w3 hf hlo) (g := mkF m pc Ls (argsL.reverse ++ .ref a :: rest)) rfl (by rw [hml]; exact hsz) (Steps.refl _) (a := a) (argsL := argsL) (rest := rest) hlen rfl (by simpa using hW) (hb hby hd) (fun _ _ => ⟨rfl, eT, hce, hsl⟩)
  dsimp only [Pt.U, Pt.locs, Pt.cells, Pt.slots] at X' l' y' z' st' hQ
  subst l' y' z'
  exact Go.tr st' (k T' _ v ⟨_, X', rfl, Fr.app N hQ.2, Nat.le_trans hn (hgrow _ _ hQ.1)⟩ hQ.1)
theorem Go.callV (C : Cx p s m meth c Z bytes own ret maxL) (X : On p l e R s m args below meth c n0 T h cells slots) {y : MethodName} {cb : ByteArray} {cm : Nat} {cr : Option FieldType} {rm : Room} {as' : Array Value} {P' : Option Value → Heap → Prop} {i W : Nat} {argsL rest : List Value} (K : Con l Z y cb cm cr rm as' h n0 P') {y0 : MethodName} {a : Addr} {Ck : String} (E : Exa Z h a Ck) (nf : NotFace s y0) (w1 : (Cond.methodLink own i y0).before a0 Z = true) (w2 : (Cond.declares y0).before a0 Z = true) (w5 : (Cond.selects Ck y0 y).before a0 Z = true) (w6 : (Cond.instanceMethod y).before a0 Z = true) (w3 : (Cond.initialized y.cls).before a0 Z = true) (w4 : (Cond.code y cb cm cr).before a0 Z = true) (hy : y0.cls ≠ "java/lang/invoke/MethodHandle" ∧ y0.cls ≠ "java/lang/invoke/VarHandle")
    (has : (.ref a :: argsL).toArray = as') (hst : st = argsL.reverse ++ .ref a :: rest) (hlen : ∀ sig, parseMethodDescriptor y0.desc = some sig → argsL.length = sig.parameters.length) (hsz : Ls.size = maxL) (hW : (rest.map fun v => v.category).sum ≤ W) (hf : rm.frames + 1 ≤ R.frames) (hlo : W + (cm + 11) + rm.locals ≤ R.locals) (hce : cells + rm.cells ≤ R.cells) (hsl : slots + rm.slots ≤ R.slots) (hd : decode bytes pc = .ok (.invokevirtual i, 3)) (hp : pc + 3 = pc')
    (hgrow : ∀ v h', P' v h' → h.size ≤ h'.size)
    (k : ∀ T' h' v, On p l e R s m args below meth c n0 T' h' (cells + rm.cells) (slots + rm.slots) → P' v h' → Go p e below s n0 rc rs P T' (mkF m pc' Ls (v.toList ++ rest))) : Go p e below s n0 rc rs P T (mkF m pc Ls st) := by
  obtain ⟨locs, X, eT, N, hn⟩ := X; obtain ⟨hx, hZ, hby, hown, hml, hlk, hrt⟩ := C; subst hp has hst
  obtain ⟨cq, kq, qa, qb, qc⟩ := isOf hZ eT E
  obtain ⟨v, _, ⟨T', L', k', n'⟩, -, X', ⟨Lc, hQ, l', y', z'⟩, st'⟩ := X.virtualBack hx (y := y0) (z := y) hown (mvT hZ w1) (mvT hZ w2) nf (mvT hZ w5) (mvT hZ w6) hy (K.back (W := W) hZ w4 w3 hf hlo) qa qc (g := mkF m pc Ls (argsL.reverse ++ .ref a :: rest)) rfl (by rw [hml]; exact hsz) (Steps.refl _) (argsL := argsL) (rest := rest) hlen rfl (by simpa using hW) (hb hby hd) (fun _ _ => ⟨rfl, eT, hce, hsl⟩)
  dsimp only [Pt.U, Pt.locs, Pt.cells, Pt.slots] at X' l' y' z' st' hQ
  subst l' y' z'
  exact Go.tr st' (k T' _ v ⟨_, X', rfl, Fr.app N hQ.2, Nat.le_trans hn (hgrow _ _ hQ.1)⟩ hQ.1)
theorem own_selp {y : MethodName} {kk : Nat} (hZ : Z.Warmed39 s.vm) (wi : (Cond.instantiable y.cls kk).before a0 Z = true) (w2 : (Cond.instanceMethod y).before a0 Z = true) (w6 : (Cond.privateMethod y).before a0 Z = true) (hy : y.cls ≠ "java/lang/invoke/MethodHandle" ∧ y.cls ≠ "java/lang/invoke/VarHandle") : (Cond.selects y.cls y y).before args s = true := by
  have wi' : (Cond.instantiable y.cls kk).before args s = true := mvT hZ wi
  obtain ⟨c2, k2, i1, i2, i3, i4, -⟩ := Cond.instantiable_spec wi'
  exact Jvm.Stand.selects_self_of_private i1 i2 (by simp only [Bool.or_eq_false_iff] at i4; exact i4.1) (Cond.privateMethod_at (mvP hZ w6 (args := #[]))) (mvT hZ w2) hy
theorem Go.callP (C : Cx p s m meth c Z bytes own ret maxL) (X : On p l e R s m args below meth c n0 T h cells slots) {y : MethodName} {cb : ByteArray} {cm : Nat} {cr : Option FieldType} {rm : Room} {as' : Array Value} {P' : Option Value → Heap → Prop} {i W : Nat} {argsL rest : List Value} (K : Con l Z y cb cm cr rm as' h n0 P') {a : Addr} {Ck : String} (E : Exa Z h a Ck) (w1 : (Cond.methodLink own i y).before a0 Z = true) (w2 : (Cond.instanceMethod y).before a0 Z = true) {kk : Nat} (w5 : (Cond.instantiable y.cls kk).before a0 Z = true) (w6 : (Cond.privateMethod y).before a0 Z = true) (w3 : (Cond.initialized y.cls).before a0 Z = true) (w4 : (Cond.code y cb cm cr).before a0 Z = true) (hy : y.cls ≠ "java/lang/invoke/MethodHandle" ∧ y.cls ≠ "java/lang/invoke/VarHandle")
    (has : (.ref a :: argsL).toArray = as') (hst : st = argsL.reverse ++ .ref a :: rest) (hlen : ∀ sig, parseMethodDescriptor y.desc = some sig → argsL.length = sig.parameters.length) (hsz : Ls.size = maxL) (hW : (rest.map fun v => v.category).sum ≤ W) (hf : rm.frames + 1 ≤ R.frames) (hlo : W + (cm + 11) + rm.locals ≤ R.locals) (hce : cells + rm.cells ≤ R.cells) (hsl : slots + rm.slots ≤ R.slots) (hd : decode bytes pc = .ok (.invokevirtual i, 3)) (hp : pc + 3 = pc')
    (hgrow : ∀ v h', P' v h' → h.size ≤ h'.size)
    (k : ∀ T' h' v, On p l e R s m args below meth c n0 T' h' (cells + rm.cells) (slots + rm.slots) → P' v h' → Go p e below s n0 rc rs P T' (mkF m pc' Ls (v.toList ++ rest))) : Go p e below s n0 rc rs P T (mkF m pc Ls st) := by
  obtain ⟨locs, X, eT, N, hn⟩ := X; obtain ⟨hx, hZ, hby, hown, hml, hlk, hrt⟩ := C; subst hp has hst
  obtain ⟨cq, qa, qb⟩ := E.cell
  obtain ⟨v, _, ⟨T', L', k', n'⟩, -, X', ⟨Lc, hQ, l', y', z'⟩, st'⟩ := X.privateBack hx (y := y) hown (mvT hZ w1) (mvT hZ w2) (own_selp hZ w5 w2 w6 hy) (Cond.privateMethod_at (mvP hZ w6 (args := #[]))) (mvT hZ w4) hy (K.back (W := W) hZ w4 w3 hf hlo) (g := mkF m pc Ls (argsL.reverse ++ .ref a :: rest)) rfl (by rw [hml]; exact hsz) (Steps.refl _) (a := a) (by rw [eT]; exact qa) qb (argsL := argsL) (rest := rest) hlen rfl (by simpa using hW) (hb hby hd) (fun _ _ => ⟨rfl, eT, hce, hsl⟩)
  dsimp only [Pt.U, Pt.locs, Pt.cells, Pt.slots] at X' l' y' z' st' hQ
  subst l' y' z'
  exact Go.tr st' (k T' _ v ⟨_, X', rfl, Fr.app N hQ.2, Nat.le_trans hn (hgrow _ _ hQ.1)⟩ hQ.1)
end Own
end Jvm.RoadKit
namespace Jvm.RoadKit
theorem own_iadd {x y : Int32} (h1 : -2147483648 ≤ x.toInt + y.toInt) (h2 : x.toInt + y.toInt < 2147483648) : (x + y).toInt = x.toInt + y.toInt := by
  have h3 := c_iadd x y; have h4 := rng32 (x + y); omega
theorem own_isub {x y : Int32} (h1 : -2147483648 ≤ x.toInt - y.toInt) (h2 : x.toInt - y.toInt < 2147483648) : (x - y).toInt = x.toInt - y.toInt := by
  have h3 := c_isub x y; have h4 := rng32 (x - y); omega
theorem own_imul {x y : Int32} (h1 : -2147483648 ≤ x.toInt * y.toInt) (h2 : x.toInt * y.toInt < 2147483648) : (x * y).toInt = x.toInt * y.toInt := by
  have h3 := c_imul x y; have h4 := rng32 (x * y); omega
theorem own_ladd {x y : Int64} (h1 : -9223372036854775808 ≤ x.toInt + y.toInt) (h2 : x.toInt + y.toInt < 9223372036854775808) : (x + y).toInt = x.toInt + y.toInt := by
  have h3 := c_ladd x y; have h4 := rng64 (x + y); omega
theorem own_lsub {x y : Int64} (h1 : -9223372036854775808 ≤ x.toInt - y.toInt) (h2 : x.toInt - y.toInt < 9223372036854775808) : (x - y).toInt = x.toInt - y.toInt := by
  have h3 := c_lsub x y; have h4 := rng64 (x - y); omega
theorem own_lmul {x y : Int64} (h1 : -9223372036854775808 ≤ x.toInt * y.toInt) (h2 : x.toInt * y.toInt < 9223372036854775808) : (x * y).toInt = x.toInt * y.toInt := by
  have h3 := c_lmul x y; have h4 := rng64 (x * y); omega
theorem own_ilt {x y : Int32} : x < y ↔ x.toInt < y.toInt := Int32.lt_iff_toInt_lt
theorem own_jlt {x y : Int64} : x < y ↔ x.toInt < y.toInt := Int64.lt_iff_toInt_lt
theorem own_ieq {x y : Int32} : x = y ↔ x.toInt = y.toInt := Int32.toInt_inj.symm
theorem own_jeq {x y : Int64} : x = y ↔ x.toInt = y.toInt := Int64.toInt_inj.symm
theorem own_nilt {x y : Int32} (h : ¬ x < y) : ¬ x.toInt < y.toInt := fun q => h (own_ilt.mpr q)
theorem own_njlt {x y : Int64} (h : ¬ x < y) : ¬ x.toInt < y.toInt := fun q => h (own_jlt.mpr q)
theorem own_nieq {x y : Int32} (h : ¬ x = y) : ¬ x.toInt = y.toInt := fun q => h (own_ieq.mpr q)
theorem own_njeq {x y : Int64} (h : ¬ x = y) : ¬ x.toInt = y.toInt := fun q => h (own_jeq.mpr q)
theorem own_inc {x y : Int32} (h : x < y) : (x + (1 : Int32)).toInt = x.toInt + 1 := by
  rw [own_ilt] at h
  have h1 := rng32 x; have h2 := rng32 y
  have e : (1 : Int32).toInt = 1 := rfl
  rw [own_iadd (by omega) (by omega), e]
theorem own_dec {x y : Int32} (h : y < x) : (x + (-1 : Int32)).toInt = x.toInt - 1 := by
  rw [own_ilt] at h
  have h1 := rng32 x; have h2 := rng32 y
  have e : (-1 : Int32).toInt = -1 := rfl
  rw [own_iadd (by omega) (by omega), e]; omega
theorem own_nat32 {x : Int32} {n : Nat} (h : x.toInt = (n : Int)) : x = Int32.ofNat n := by
  apply Int32.toInt_inj.mp
  have := rng32 x
  rw [Int32.toInt_ofNat_of_lt (by omega), h]
theorem own_pos31 (x : Int32) : 0 ≤ (x &&& (2147483647 : Int32)).toInt := by
  have h := c_mask x 2147483647 31 (by decide) (by decide)
  rw [h]; exact Int.emod_nonneg _ (by decide)
theorem own_mod (x : Int32) (k : Int32) (d : Int) (hk : k.toInt = d) (hd : 0 < d) : ((x &&& (2147483647 : Int32)) % k).toInt = (x &&& (2147483647 : Int32)).toInt % d ∧ 0 ≤ ((x &&& (2147483647 : Int32)) % k).toInt ∧ ((x &&& (2147483647 : Int32)) % k).toInt < d := by
  have h := (c_irem (x &&& (2147483647 : Int32)) k d hk).1 (own_pos31 x)
  exact ⟨h, by rw [h]; exact Int.emod_nonneg _ (by omega), by rw [h]; exact Int.emod_lt_of_pos _ hd⟩
theorem own_upd {R : Int32 → Prop} {f : Nat → Int32} {x : Int32} {i : Nat} (h : ∀ q, R (f q)) (hx : R x) : ∀ q, R ((fun q => if q = i then x else f q) q) := fun q => by
  by_cases e : q = i
  · simp only [if_pos e]; exact hx
  · simp only [if_neg e]; exact h q
theorem own_i2b (x : Int32) : -128 ≤ (x.toInt8.toInt32).toInt ∧ (x.toInt8.toInt32).toInt ≤ 127 := by have := c_i2b x; omega
theorem own_b2 (x : Int32) : x.toInt8.toInt32.toInt8.toInt32 = x.toInt8.toInt32 := by rw [Int8.toInt8_toInt32]
theorem own_and3 (x : Int32) : x &&& (3 : Int32) = 0 ∨ x &&& (3 : Int32) = 1 ∨ x &&& (3 : Int32) = 2 ∨ x &&& (3 : Int32) = 3 := by
  have h := c_mask x 3 2 (by decide) (by decide)
  have z0 : (0 : Int32).toInt = 0 := rfl
  have z1 : (1 : Int32).toInt = 1 := rfl
  have z2 : (2 : Int32).toInt = 2 := rfl
  have z3 : (3 : Int32).toInt = 3 := rfl
  have h1 : ((2 ^ 2 : Nat) : Int) = 4 := rfl
  rw [h1] at h
  rw [own_ieq, own_ieq, own_ieq, own_ieq, z0, z1, z2, z3]
  omega
theorem own_and1 (x : Int32) : x &&& (1 : Int32) = 0 ∨ x &&& (1 : Int32) = 1 := by
  have h := c_mask x 1 1 (by decide) (by decide)
  have z0 : (0 : Int32).toInt = 0 := rfl
  have z1 : (1 : Int32).toInt = 1 := rfl
  have h1 : ((2 ^ 1 : Nat) : Int) = 2 := rfl
  rw [h1] at h
  rw [own_ieq, own_ieq, z0, z1]
  omega
end Jvm.RoadKit
namespace Jvm.Pilot.@@N@@
open Jvm Jvm.ClassFile Sem Op Lib Jvm.Free Jvm.Stand Jvm.LawKit Jvm.RoadKit Bundle Jvm.Pilot.@@N@@.Jvm.D
theorem d4_0 : decode jdk_29_method_69_code 0 = .ok (.iload_n 0, 1) := by decide +kernel
theorem d4_1 : decode jdk_29_method_69_code 1 = .ok (.iload_n 1, 1) := by decide +kernel
theorem d4_2 : decode jdk_29_method_69_code 2 = .ok (.if_icmp .gt 7, 3) := by decide +kernel
theorem d4_9 : decode jdk_29_method_69_code 9 = .ok (.iload_n 1, 1) := by decide +kernel
theorem d4_10 : decode jdk_29_method_69_code 10 = .ok (.ireturn, 1) := by decide +kernel
theorem d4_5 : decode jdk_29_method_69_code 5 = .ok (.iload_n 0, 1) := by decide +kernel
theorem d4_6 : decode jdk_29_method_69_code 6 = .ok (.goto 4, 3) := by decide +kernel
def own_f_rm_min (y0 : Int32) (y1 : Int32) : Int32 := (if y1 < y0 then y1 else y0)
theorem own_pn0 : plainFor (⟨"java/lang/Math", "min", "(II)I"⟩ : MethodName) = true := by decide +kernel
theorem own_ef_rm_min (m : MethodId) (x0 : Int32) (x1 : Int32) : entryFrame m #[(.int x0), (.int x1)] 2 = mkF m 0 #[.val (.int x0), .val (.int x1)] [] := by first | (simp [entryFrame, mkF, argsToLocals, Value.category]; done) | rfl
set_option maxRecDepth 65536 in
set_option maxHeartbeats 40000000 in
theorem rm_min (l : Launch) (Z : State) (a0 : Array Value) (hw : ∀ d ∈ tables_1, d.before a0 Z = true) (y0 : Int32) (y1 : Int32) (h0 : Heap) (n0 : Nat) (Z0 : n0 ≤ h0.size)  :
    Con l Z (⟨"java/lang/Math", "min", "(II)I"⟩ : MethodName) jdk_29_method_69_code 2 (some .int) ({ frames := 0, cells := 0, slots := 0, locals := 0 } : Room) #[(.int y0), (.int y1)] h0 n0 (fun rv hv => rv = some (.int (own_f_rm_min y0 y1)) ∧ h0 = hv) := by
  refine Con.enter own_pn0 Z0 ?_
  intro p e s m below meth c T0 C hnm X0
  refine Go.cast (own_ef_rm_min m y0 y1) ?_
  refine Go.iloadN C X0 (pc' := 1) d4_0 rfl rfl ?_
  refine Go.iloadN C X0 (pc' := 2) d4_1 rfl rfl ?_
  by_cases c2 : y1 < y0
  · refine Go.icmpYes C X0 (pc' := 9) d4_2 (tlt c2).2.2.1 (by decide) (by decide) ?_
    refine Go.iloadN C X0 (pc' := 10) d4_9 rfl rfl ?_
    exact Go.retI C X0 d4_10 ⟨by show some (Value.int y1) = some (Value.int (own_f_rm_min y0 y1)); unfold own_f_rm_min; rw [if_pos c2], rfl⟩ (by decide) (by decide)
  · refine Go.icmpNo C X0 (pc' := 5) d4_2 (flt c2).2.2.1 rfl ?_
    refine Go.iloadN C X0 (pc' := 6) d4_5 rfl rfl ?_
    refine Go.goto C X0 (pc' := 10) d4_6 (by decide) (by decide) ?_
    exact Go.retI C X0 d4_10 ⟨by show some (Value.int y0) = some (Value.int (own_f_rm_min y0 y1)); unfold own_f_rm_min; rw [if_neg c2], rfl⟩ (by decide) (by decide)
theorem d7_0 : decode jdk_29_method_65_code 0 = .ok (.iload_n 0, 1) := by decide +kernel
theorem d7_1 : decode jdk_29_method_65_code 1 = .ok (.iload_n 1, 1) := by decide +kernel
theorem d7_2 : decode jdk_29_method_65_code 2 = .ok (.if_icmp .lt 7, 3) := by decide +kernel
theorem d7_9 : decode jdk_29_method_65_code 9 = .ok (.iload_n 1, 1) := by decide +kernel
theorem d7_10 : decode jdk_29_method_65_code 10 = .ok (.ireturn, 1) := by decide +kernel
theorem d7_5 : decode jdk_29_method_65_code 5 = .ok (.iload_n 0, 1) := by decide +kernel
theorem d7_6 : decode jdk_29_method_65_code 6 = .ok (.goto 4, 3) := by decide +kernel
def own_f_rm_max (y0 : Int32) (y1 : Int32) : Int32 := (if y0 < y1 then y1 else y0)
theorem own_pn1 : plainFor (⟨"java/lang/Math", "max", "(II)I"⟩ : MethodName) = true := by decide +kernel
theorem own_ef_rm_max (m : MethodId) (x0 : Int32) (x1 : Int32) : entryFrame m #[(.int x0), (.int x1)] 2 = mkF m 0 #[.val (.int x0), .val (.int x1)] [] := by first | (simp [entryFrame, mkF, argsToLocals, Value.category]; done) | rfl
set_option maxRecDepth 65536 in
set_option maxHeartbeats 40000000 in
theorem rm_max (l : Launch) (Z : State) (a0 : Array Value) (hw : ∀ d ∈ tables_1, d.before a0 Z = true) (y0 : Int32) (y1 : Int32) (h0 : Heap) (n0 : Nat) (Z0 : n0 ≤ h0.size)  :
    Con l Z (⟨"java/lang/Math", "max", "(II)I"⟩ : MethodName) jdk_29_method_65_code 2 (some .int) ({ frames := 0, cells := 0, slots := 0, locals := 0 } : Room) #[(.int y0), (.int y1)] h0 n0 (fun rv hv => rv = some (.int (own_f_rm_max y0 y1)) ∧ h0 = hv) := by
  refine Con.enter own_pn1 Z0 ?_
  intro p e s m below meth c T0 C hnm X0
  refine Go.cast (own_ef_rm_max m y0 y1) ?_
  refine Go.iloadN C X0 (pc' := 1) d7_0 rfl rfl ?_
  refine Go.iloadN C X0 (pc' := 2) d7_1 rfl rfl ?_
  by_cases c4 : y0 < y1
  · refine Go.icmpYes C X0 (pc' := 9) d7_2 (tlt c4).1 (by decide) (by decide) ?_
    refine Go.iloadN C X0 (pc' := 10) d7_9 rfl rfl ?_
    exact Go.retI C X0 d7_10 ⟨by show some (Value.int y1) = some (Value.int (own_f_rm_max y0 y1)); unfold own_f_rm_max; rw [if_pos c4], rfl⟩ (by decide) (by decide)
  · refine Go.icmpNo C X0 (pc' := 5) d7_2 (flt c4).1 rfl ?_
    refine Go.iloadN C X0 (pc' := 6) d7_5 rfl rfl ?_
    refine Go.goto C X0 (pc' := 10) d7_6 (by decide) (by decide) ?_
    exact Go.retI C X0 d7_10 ⟨by show some (Value.int y0) = some (Value.int (own_f_rm_max y0 y1)); unfold own_f_rm_max; rw [if_neg c4], rfl⟩ (by decide) (by decide)
def own_rt (g : Nat → Nat) (i : Nat) : Nat := if h : g i < i then own_rt g (g i) else i
termination_by i
decreasing_by exact h
def own_of (g : Nat → Nat) : Nat → Int32 := fun i => Int32.ofNat (g i)
def own_up (g : Nat → Nat) (k x : Nat) : Nat → Nat := fun i => if i = k then x else g i
theorem own_rt_step {g : Nat → Nat} {i : Nat} (h : g i < i) : own_rt g i = own_rt g (g i) := by rw [own_rt, dif_pos h]
theorem own_rt_root {g : Nat → Nat} {i : Nat} (h : ¬ g i < i) : own_rt g i = i := by rw [own_rt, dif_neg h]
theorem own_rt_le (g : Nat → Nat) (i : Nat) : own_rt g i ≤ i := by
  induction i using Nat.strongRecOn with
  | _ i ih =>
    by_cases h : g i < i
    · rw [own_rt_step h]; exact Nat.le_trans (ih _ h) (Nat.le_of_lt h)
    · rw [own_rt_root h]; exact Nat.le_refl _
theorem own_rt_fix {g : Nat → Nat} (i : Nat) : ¬ g (own_rt g i) < own_rt g i := by
  induction i using Nat.strongRecOn with
  | _ i ih =>
    by_cases h : g i < i
    · rw [own_rt_step h]; exact ih _ h
    · rw [own_rt_root h]; exact h
theorem own_rt_up {g : Nat → Nat} {k x : Nat} (hx : own_rt g k = x) (hlt : x < k) : ∀ i, own_rt (own_up g k x) i = own_rt g i := by
  intro i
  induction i using Nat.strongRecOn with
  | _ i ih =>
    by_cases e : i = k
    · subst e
      have h1 : own_up g i x i = x := by unfold own_up; rw [if_pos rfl]
      rw [own_rt_step (by rw [h1]; exact hlt), h1, ih x hlt, hx, ← hx]
      exact own_rt_root (own_rt_fix i)
    · have h1 : own_up g k x i = g i := by unfold own_up; rw [if_neg e]
      by_cases h : g i < i
      · rw [own_rt_step (by rw [h1]; exact h), own_rt_step h, h1]; exact ih _ h
      · rw [own_rt_root (by rw [h1]; exact h), own_rt_root h]
theorem own_rt_join {g : Nat → Nat} {k x : Nat} (hk : ¬ g k < k) (hx : ¬ g x < x) (hlt : x < k) : ∀ i, own_rt (own_up g k x) i = if own_rt g i = k then x else own_rt g i := by
  intro i
  induction i using Nat.strongRecOn with
  | _ i ih =>
    by_cases e : i = k
    · subst e
      have h1 : own_up g i x i = x := by unfold own_up; rw [if_pos rfl]
      rw [own_rt_step (by rw [h1]; exact hlt), h1, ih x hlt, own_rt_root hk, if_pos rfl, own_rt_root hx]
      rw [if_neg (by omega)]
    · have h1 : own_up g k x i = g i := by unfold own_up; rw [if_neg e]
      by_cases h : g i < i
      · rw [own_rt_step (by rw [h1]; exact h), own_rt_step h, h1]; exact ih _ h
      · rw [own_rt_root (by rw [h1]; exact h), own_rt_root h, if_neg e]
theorem own_n32 {n : Nat} (h : n < 4) : (Int32.ofNat n).toInt = (n : Int) := by
  rw [Int32.toInt_ofNat_of_lt (by omega)]
theorem own_inj {a b : Nat} (ha : a < 4) (hb : b < 4) (h : Int32.ofNat a = Int32.ofNat b) : a = b := by
  have := congrArg Int32.toInt h
  rw [own_n32 ha, own_n32 hb] at this; omega
theorem own_mn {a b : Nat} (ha : a < 4) (hb : b < 4) : own_f_rm_min (Int32.ofNat a) (Int32.ofNat b) = Int32.ofNat (min a b) := by
  unfold own_f_rm_min
  by_cases h : Int32.ofNat b < Int32.ofNat a
  · rw [if_pos h]; rw [own_ilt, own_n32 ha, own_n32 hb] at h; congr 1; omega
  · rw [if_neg h]; rw [own_ilt, own_n32 ha, own_n32 hb] at h; congr 1; omega
theorem own_mx {a b : Nat} (ha : a < 4) (hb : b < 4) : own_f_rm_max (Int32.ofNat a) (Int32.ofNat b) = Int32.ofNat (max a b) := by
  unfold own_f_rm_max
  by_cases h : Int32.ofNat a < Int32.ofNat b
  · rw [if_pos h]; rw [own_ilt, own_n32 ha, own_n32 hb] at h; congr 1; omega
  · rw [if_neg h]; rw [own_ilt, own_n32 ha, own_n32 hb] at h; congr 1; omega
theorem own_upof {g : Nat → Nat} {k x : Nat} {u : Int32} (hu : u = Int32.ofNat x) : ∀ i, i < 4 → (if i = k then u else own_of g i) = own_of (own_up g k x) i := fun i _ => by
  unfold own_of own_up
  by_cases e : i = k
  · rw [if_pos e, if_pos e, hu]
  · rw [if_neg e, if_neg e]
theorem own_less {i n : Int32} {k : Nat} (h : i < n) (h0 : 0 ≤ i.toInt) (hk : (n.toInt - i.toInt).toNat < k + 1) : (n.toInt - (i + (1 : Int32)).toInt).toNat < k := by
  rw [own_inc h]; rw [own_ilt] at h; omega
def own_fl (k : Nat) : Nat → Int32 := fun i => if i < k then Int32.ofNat i else 0
theorem own_fl0 : ∀ i, i < 4 → (fun _ => (0 : Int32)) i = own_fl 0 i := fun i _ => by unfold own_fl; rw [if_neg (by omega)]
theorem own_fl1 {u w : Int32} (h0 : 0 ≤ u.toInt) (h : u < w) : ∀ i, i < 4 → (if i = u.toInt.toNat then u else own_fl u.toInt.toNat i) = own_fl (u + (1 : Int32)).toInt.toNat i := fun i _ => by
  rw [own_inc h]
  unfold own_fl
  by_cases q : i = u.toInt.toNat
  · rw [if_pos q, if_pos (by omega)]
    exact own_nat32 (by omega)
  · rw [if_neg q]
    by_cases p : i < u.toInt.toNat
    · rw [if_pos p, if_pos (by omega)]
    · rw [if_neg p, if_neg (by omega)]
theorem own_fl2 {u w : Int32} (hw : w.toInt = 4) (h : ¬ u < w) : ∀ i, i < 4 → own_fl u.toInt.toNat i = own_of (fun i => i) i := fun i hi => by
  rw [own_ilt] at h
  unfold own_fl own_of; rw [if_pos (by omega)]
theorem own_pn2 : plainName "com/example/happenets/happenets/net/Groups" = true := by first | (simp [plainName, overriddenIn]; done) | decide +kernel
theorem own_ef_rm_in (m : MethodId) (x0 : Addr) (x1 : Int32) : entryFrame m #[(.ref x0), (.int x1)] 3 = mkF m 0 #[.val (.ref x0), .val (.int x1), .unset] [] := by first | (simp [entryFrame, mkF, argsToLocals, Value.category]; done) | rfl
theorem d1_0 : decode prog_22_method_1_code 0 = .ok (.aload_n 0, 1) := by decide +kernel
theorem d1_1 : decode prog_22_method_1_code 1 = .ok (.invokespecial 1, 3) := by decide +kernel
theorem d1_4 : decode prog_22_method_1_code 4 = .ok (.aload_n 0, 1) := by decide +kernel
theorem d1_5 : decode prog_22_method_1_code 5 = .ok (.iload_n 1, 1) := by decide +kernel
theorem d1_6 : decode prog_22_method_1_code 6 = .ok (.newarray .int, 2) := by decide +kernel
theorem d1_8 : decode prog_22_method_1_code 8 = .ok (.putfield 7, 3) := by decide +kernel
theorem d1_11 : decode prog_22_method_1_code 11 = .ok (.iconst 0, 1) := by decide +kernel
theorem d1_12 : decode prog_22_method_1_code 12 = .ok (.istore_n 2, 1) := by decide +kernel
theorem d1_13 : decode prog_22_method_1_code 13 = .ok (.iload_n 2, 1) := by decide +kernel
theorem d1_14 : decode prog_22_method_1_code 14 = .ok (.iload_n 1, 1) := by decide +kernel
theorem d1_15 : decode prog_22_method_1_code 15 = .ok (.if_icmp .ge 16, 3) := by decide +kernel
theorem d1_18 : decode prog_22_method_1_code 18 = .ok (.aload_n 0, 1) := by decide +kernel
theorem d1_19 : decode prog_22_method_1_code 19 = .ok (.getfield 7, 3) := by decide +kernel
theorem d1_22 : decode prog_22_method_1_code 22 = .ok (.iload_n 2, 1) := by decide +kernel
theorem d1_23 : decode prog_22_method_1_code 23 = .ok (.iload_n 2, 1) := by decide +kernel
theorem d1_24 : decode prog_22_method_1_code 24 = .ok (.iastore, 1) := by decide +kernel
theorem d1_25 : decode prog_22_method_1_code 25 = .ok (.iinc 2 1, 3) := by decide +kernel
theorem d1_28 : decode prog_22_method_1_code 28 = .ok (.goto (-15), 3) := by decide +kernel
theorem d1_31 : decode prog_22_method_1_code 31 = .ok (.return_, 1) := by decide +kernel
set_option maxRecDepth 65536 in
set_option maxHeartbeats 40000000 in
theorem rm_in (l : Launch) (Z : State) (a0 : Array Value) (hw : ∀ d ∈ tables_1, d.before a0 Z = true) (a : Addr) (w : Int32)  (h0 : Heap) (n0 : Nat) (Z0 : n0 ≤ h0.size) (f0 : Exa Z h0 a "com/example/happenets/happenets/net/Groups") (f1 : Fld Z h0 a "com/example/happenets/happenets/net/Groups" "roots" "[I" .null) (f2 : n0 ≤ a) (hw4 : w.toInt = ((4 : Nat) : Int)) :
    Con l Z (⟨"com/example/happenets/happenets/net/Groups", "<init>", "(I)V"⟩ : MethodName) prog_22_method_1_code 3 none ({ frames := 1, cells := 1, slots := 4, locals := 12 } : Room) #[(.ref a), (.int w)] h0 n0 (fun rv hv => ∃ t : Addr, rv = none ∧ h0.size ≤ t ∧ Keep h0 hv [a] ∧ Exa Z hv a "com/example/happenets/happenets/net/Groups" ∧ Fld Z hv a "com/example/happenets/happenets/net/Groups" "roots" "[I" (.ref t) ∧ AI Z hv t .int 4 (own_of (fun i => i))) := by
  refine Con.enter (plainFor_of_name own_pn2) Z0 ?_
  intro p e s m below meth c T0 C hnm X0
  refine Go.cast (own_ef_rm_in m a w) ?_
  refine Go.aloadN C X0 (pc' := 1) d1_0 rfl rfl rfl ?_
  refine Go.initO C X0 (pc' := 4) (fun locs X eT => RoadKit.initO X C.1 C.2.1 C.2.2.2.1 (hw _ (List.mem_of_getElem? (i := 6) rfl)) (hw _ (List.mem_of_getElem? (i := 7) rfl)) (hw _ (List.mem_of_getElem? (i := 8) rfl)) eT (g := (mkF m 1 #[.val (.ref a), .val (.int w), .unset] [(.ref a)])) rfl (by rw [C.2.2.2.2.1]; rfl) rfl (hb C.2.2.1 d1_1) (by decide) (W := 0) (by show 2 * 0 + _ ≤ _; exact Nat.le_of_eq rfl) (by decide)) rfl (fun T5 X5 => ?_)
  refine Go.aloadN C X5 (pc' := 5) d1_4 rfl rfl rfl ?_
  refine Go.iloadN C X5 (pc' := 6) d1_5 rfl rfl ?_
  refine Go.newP C X5 (pc' := 8) (nn := 4) (cap := 4) (hw _ (List.mem_of_getElem? (i := 9) rfl)) d1_6 hw4 (by decide) (by decide) (by decide) (by decide) rfl (fun T6 h6 b6 k6 X6 g6 E6 Ar6 N6 => ?_)
  have ne_a_b6 : a ≠ b6 := Nat.ne_of_lt (Nat.lt_of_lt_of_eq f0.lt g6.symm)
  have Q6 : h0.size ≤ b6 := Nat.le_trans (Keep.refl h0 [a]).1 (Nat.le_of_eq g6.symm)
  have K7 : Keep h0 h6 [a] := (Keep.refl h0 [a]).ext E6
  have E8 := f0.ext E6
  have F9 := f1.ext E6
  have A6 : AI Z h6 b6 .int 4 (fun _ => 0) := AI.new hw4 rfl Ar6
  refine Go.putF C X6 (pc' := 11) (host := "") (Or.inl (hw _ (List.mem_of_getElem? (i := 10) rfl))) Via.refl F9 E8 (Or.inr ⟨(hw _ (List.mem_of_getElem? (i := 11) rfl)), rfl, hnm⟩) (hw _ (List.mem_of_getElem? (i := 1) rfl)) f2 (ty := (.array .int)) (by decide) rfl rfl d1_8 rfl (fun T10 h10 X10 W10 => ?_)
  have Fw10 := F9.same W10
  have K11 : Keep h0 h10 [a] := K7.wr W10 (Or.inl (List.mem_of_getElem? (i := 0) rfl))
  have E12 := E8.wr W10
  have A13 := A6.other W10 (Ne.symm ne_a_b6)
  refine Go.iconst C X10 (pc' := 12) (v := (0 : Int32)) d1_11 rfl rfl ?_
  refine Go.istoreN C X10 (pc' := 13) (Ls' := #[.val (.ref a), .val (.int w), .val (.int (0 : Int32))]) d1_12 rfl rfl ?_
  have Cut13 : ∀ (fuel : Nat) (T_13 : State) (h_13 : Heap) (u2 : Int32), (w.toInt - u2.toInt).toNat < fuel → (0 ≤ u2.toInt) → On p l e ({ frames := 1, cells := 1, slots := 4, locals := 12 } : Room) s m #[(.ref a), (.int w)] below meth c n0 T_13 h_13 1 4 → Keep h0 h_13 [a] → Exa Z h_13 a "com/example/happenets/happenets/net/Groups" → Fld Z h_13 a "com/example/happenets/happenets/net/Groups" "roots" "[I" (.ref b6) → AI Z h_13 b6 .int 4 (own_fl u2.toInt.toNat) → Go p e below s n0 (({ frames := 1, cells := 1, slots := 4, locals := 12 } : Room)).cells (({ frames := 1, cells := 1, slots := 4, locals := 12 } : Room)).slots (fun rv hv => ∃ t : Addr, rv = none ∧ h0.size ≤ t ∧ Keep h0 hv [a] ∧ Exa Z hv a "com/example/happenets/happenets/net/Groups" ∧ Fld Z hv a "com/example/happenets/happenets/net/Groups" "roots" "[I" (.ref t) ∧ AI Z hv t .int 4 (own_of (fun i => i))) T_13 (mkF m 13 #[.val (.ref a), .val (.int w), .val (.int u2)] []) := by
    intro fuel
    induction fuel with
    | zero => intro T_13 h_13 u2 hM_13 h2 X_13 K_13 G13_0 G13_1 G13_2; exact absurd hM_13 (Nat.not_lt_zero _)
    | succ fuel ih_13 =>
      intro T_13 h_13 u2 hM_13 h2 X_13 K_13 G13_0 G13_1 G13_2
      refine Go.iloadN C X_13 (pc' := 14) d1_13 rfl rfl ?_
      refine Go.iloadN C X_13 (pc' := 15) d1_14 rfl rfl ?_
      by_cases c14 : u2 < w
      · refine Go.icmpNo C X_13 (pc' := 18) d1_15 (tlt c14).2.1 rfl ?_
        refine Go.aloadN C X_13 (pc' := 19) d1_18 rfl rfl rfl ?_
        refine Go.getF C X_13 (pc' := 22) (host := "") (Or.inl (hw _ (List.mem_of_getElem? (i := 10) rfl))) Via.refl G13_1 d1_19 rfl (fun T15 X15 => ?_)
        refine Go.iloadN C X15 (pc' := 23) d1_22 rfl rfl ?_
        refine Go.iloadN C X15 (pc' := 24) d1_23 rfl rfl ?_
        refine Go.iastore C X15 (pc' := 25) (i := u2.toInt.toNat) (x' := u2) G13_2 (by omega) (by have := own_ilt.mp c14; omega) rfl N6 d1_24 rfl (fun T16 h16 X16 W16 A16 => ?_)
        have K17 : Keep h0 h16 [a] := K_13.wr W16 (Or.inr Q6)
        have E18 := G13_0.wr W16
        have F19 := G13_1.other W16 (Or.inl ne_a_b6)
        refine Go.iinc C X16 (pc' := 28) (Ls' := #[.val (.ref a), .val (.int w), .val (.int (u2 + (1 : Int32)))]) (v' := (u2 + (1 : Int32))) d1_25 rfl rfl rfl rfl ?_
        refine Go.goto C X16 (pc' := 13) d1_28 (by decide) (by decide) ?_
        exact ih_13 T16 h16 (u2 + (1 : Int32)) (own_less c14 h2 hM_13) (by rw [own_inc c14]; omega) X16 K17 E18 F19 (AI.congr A16 (own_fl1 h2 c14))
      · refine Go.icmpYes C X_13 (pc' := 31) d1_15 (flt c14).2.1 (by decide) (by decide) ?_
        exact Go.retV C X_13 d1_31 ⟨b6, rfl, Q6, K_13, G13_0, G13_1, (AI.congr G13_2 (own_fl2 hw4 c14))⟩ (by decide) (by decide)
  exact Cut13 (_) T10 h10 (0 : Int32) (Nat.lt_succ_self _) (by decide) X10 K11 E12 Fw10 (AI.congr A13 own_fl0)
theorem own_upgc {gc : Nat → Nat} {m3 mm : Nat} (hgc : ∀ i, i < 4 → gc i ≤ i) (h : mm ≤ m3) : ∀ i, i < 4 → own_up gc m3 mm i ≤ i := fun i hi => by
  unfold own_up
  by_cases e : i = m3
  · rw [if_pos e]; omega
  · rw [if_neg e]; exact hgc i hi
theorem own_nr {g : Nat → Nat} {mm : Nat} {u : Int32} (hg : ∀ i, i < 4 → g i ≤ i) (hm : u.toInt = (mm : Int)) (hm4 : mm < 4) (h : ¬ own_of g mm = u) : g mm < mm := by
  have h1 := hg mm hm4
  refine Nat.lt_of_le_of_ne h1 fun e => h ?_
  unfold own_of; rw [e]; exact (own_nat32 hm).symm
theorem own_isr {g : Nat → Nat} {mm : Nat} {u : Int32} (hg : ∀ i, i < 4 → g i ≤ i) (hm : u.toInt = (mm : Int)) (hm4 : mm < 4) (h : own_of g mm = u) : g mm = mm := by
  have h1 := hg mm hm4
  have h2 := congrArg Int32.toInt h
  unfold own_of at h2
  rw [hm, own_n32 (Nat.lt_of_le_of_lt h1 hm4)] at h2; omega
theorem own_notroot {gc : Nat → Nat} {m3 mm : Nat} {u3 u2 : Int32} (h3 : u3.toInt = (m3 : Int)) (hm : u2.toInt = (mm : Int)) (h : ¬ u3 = u2) (hr : own_rt gc m3 = mm) : gc m3 < m3 := by
  refine Nat.lt_of_not_le fun q => h ?_
  have := own_rt_root (g := gc) (i := m3) (by omega)
  apply Int32.toInt_inj.mp
  omega
theorem own_ef_rm_rt (m : MethodId) (x0 : Addr) (x1 : Int32) : entryFrame m #[(.ref x0), (.int x1)] 5 = mkF m 0 #[.val (.ref x0), .val (.int x1), .unset, .unset, .unset] [] := by first | (simp [entryFrame, mkF, argsToLocals, Value.category]; done) | rfl
theorem d6_0 : decode prog_22_method_4_code 0 = .ok (.iload_n 1, 1) := by decide +kernel
theorem d6_1 : decode prog_22_method_4_code 1 = .ok (.istore_n 2, 1) := by decide +kernel
theorem d6_2 : decode prog_22_method_4_code 2 = .ok (.aload_n 0, 1) := by decide +kernel
theorem d6_3 : decode prog_22_method_4_code 3 = .ok (.getfield 7, 3) := by decide +kernel
theorem d6_6 : decode prog_22_method_4_code 6 = .ok (.iload_n 2, 1) := by decide +kernel
theorem d6_7 : decode prog_22_method_4_code 7 = .ok (.iaload, 1) := by decide +kernel
theorem d6_8 : decode prog_22_method_4_code 8 = .ok (.iload_n 2, 1) := by decide +kernel
theorem d6_9 : decode prog_22_method_4_code 9 = .ok (.if_icmp .eq 13, 3) := by decide +kernel
theorem d6_22 : decode prog_22_method_4_code 22 = .ok (.iload_n 1, 1) := by decide +kernel
theorem d6_23 : decode prog_22_method_4_code 23 = .ok (.istore_n 3, 1) := by decide +kernel
theorem d6_24 : decode prog_22_method_4_code 24 = .ok (.iload_n 3, 1) := by decide +kernel
theorem d6_25 : decode prog_22_method_4_code 25 = .ok (.iload_n 2, 1) := by decide +kernel
theorem d6_26 : decode prog_22_method_4_code 26 = .ok (.if_icmp .eq 24, 3) := by decide +kernel
theorem d6_50 : decode prog_22_method_4_code 50 = .ok (.iload_n 2, 1) := by decide +kernel
theorem d6_51 : decode prog_22_method_4_code 51 = .ok (.ireturn, 1) := by decide +kernel
theorem d6_29 : decode prog_22_method_4_code 29 = .ok (.aload_n 0, 1) := by decide +kernel
theorem d6_30 : decode prog_22_method_4_code 30 = .ok (.getfield 7, 3) := by decide +kernel
theorem d6_33 : decode prog_22_method_4_code 33 = .ok (.iload_n 3, 1) := by decide +kernel
theorem d6_34 : decode prog_22_method_4_code 34 = .ok (.iaload, 1) := by decide +kernel
theorem d6_35 : decode prog_22_method_4_code 35 = .ok (.istore 4, 2) := by decide +kernel
theorem d6_37 : decode prog_22_method_4_code 37 = .ok (.aload_n 0, 1) := by decide +kernel
theorem d6_38 : decode prog_22_method_4_code 38 = .ok (.getfield 7, 3) := by decide +kernel
theorem d6_41 : decode prog_22_method_4_code 41 = .ok (.iload_n 3, 1) := by decide +kernel
theorem d6_42 : decode prog_22_method_4_code 42 = .ok (.iload_n 2, 1) := by decide +kernel
theorem d6_43 : decode prog_22_method_4_code 43 = .ok (.iastore, 1) := by decide +kernel
theorem d6_44 : decode prog_22_method_4_code 44 = .ok (.iload 4, 2) := by decide +kernel
theorem d6_46 : decode prog_22_method_4_code 46 = .ok (.istore_n 3, 1) := by decide +kernel
theorem d6_47 : decode prog_22_method_4_code 47 = .ok (.goto (-23), 3) := by decide +kernel
theorem d6_12 : decode prog_22_method_4_code 12 = .ok (.aload_n 0, 1) := by decide +kernel
theorem d6_13 : decode prog_22_method_4_code 13 = .ok (.getfield 7, 3) := by decide +kernel
theorem d6_16 : decode prog_22_method_4_code 16 = .ok (.iload_n 2, 1) := by decide +kernel
theorem d6_17 : decode prog_22_method_4_code 17 = .ok (.iaload, 1) := by decide +kernel
theorem d6_18 : decode prog_22_method_4_code 18 = .ok (.istore_n 2, 1) := by decide +kernel
theorem d6_19 : decode prog_22_method_4_code 19 = .ok (.goto (-17), 3) := by decide +kernel
set_option maxRecDepth 65536 in
set_option maxHeartbeats 40000000 in
theorem rm_rt (l : Launch) (Z : State) (a0 : Array Value) (hw : ∀ d ∈ tables_1, d.before a0 Z = true) (a : Addr) (k : Int32) (t : Addr) (g : Nat → Nat) (R : Nat → Nat) (kk : Nat) (h0 : Heap) (n0 : Nat) (Z0 : n0 ≤ h0.size) (f0 : Fld Z h0 a "com/example/happenets/happenets/net/Groups" "roots" "[I" (.ref t)) (f1 : AI Z h0 t .int 4 (own_of g)) (f2 : n0 ≤ t) (f3 : a ≠ t) (hg : ∀ i, i < 4 → g i ≤ i) (hR : ∀ i, i < 4 → own_rt g i = R i) (hk : k.toInt = (kk : Int)) (hk4 : kk < 4) :
    Con l Z (⟨"com/example/happenets/happenets/net/Groups", "root", "(I)I"⟩ : MethodName) prog_22_method_4_code 5 (some .int) ({ frames := 0, cells := 0, slots := 0, locals := 0 } : Room) #[(.ref a), (.int k)] h0 n0 (fun rv hv => ∃ g1 : Nat → Nat, rv = some (.int (Int32.ofNat (R kk))) ∧ Keep h0 hv [t] ∧ AI Z hv t .int 4 (own_of g1) ∧ (∀ i, i < 4 → g1 i ≤ i) ∧ (∀ i, i < 4 → own_rt g1 i = R i)) := by
  refine Con.enter (plainFor_of_name own_pn2) Z0 ?_
  intro p e s m below meth c T0 C hnm X0
  refine Go.cast (own_ef_rm_rt m a k) ?_
  refine Go.iloadN C X0 (pc' := 1) d6_0 rfl rfl ?_
  refine Go.istoreN C X0 (pc' := 2) (Ls' := #[.val (.ref a), .val (.int k), .val (.int k), .unset, .unset]) d6_1 rfl rfl ?_
  have Cut2 : ∀ (fuel : Nat) (T_2 : State) (mm : Nat) (u2 : Int32), mm < fuel → (u2.toInt = (mm : Int)) → (mm < 4) → (own_rt g mm = own_rt g kk) → On p l e ({ frames := 0, cells := 0, slots := 0, locals := 0 } : Room) s m #[(.ref a), (.int k)] below meth c n0 T_2 h0 0 0 → Go p e below s n0 (({ frames := 0, cells := 0, slots := 0, locals := 0 } : Room)).cells (({ frames := 0, cells := 0, slots := 0, locals := 0 } : Room)).slots (fun rv hv => ∃ g1 : Nat → Nat, rv = some (.int (Int32.ofNat (R kk))) ∧ Keep h0 hv [t] ∧ AI Z hv t .int 4 (own_of g1) ∧ (∀ i, i < 4 → g1 i ≤ i) ∧ (∀ i, i < 4 → own_rt g1 i = R i)) T_2 (mkF m 2 #[.val (.ref a), .val (.int k), .val (.int u2), .unset, .unset] []) := by
    intro fuel
    induction fuel with
    | zero => intro T_2 mm u2 hM_2 hm hm4 hmr X_2; exact absurd hM_2 (Nat.not_lt_zero _)
    | succ fuel ih_2 =>
      intro T_2 mm u2 hM_2 hm hm4 hmr X_2
      refine Go.aloadN C X_2 (pc' := 3) d6_2 rfl rfl rfl ?_
      refine Go.getF C X_2 (pc' := 6) (host := "") (Or.inl (hw _ (List.mem_of_getElem? (i := 10) rfl))) Via.refl f0 d6_3 rfl (fun T20 X20 => ?_)
      refine Go.iloadN C X20 (pc' := 7) d6_6 rfl rfl ?_
      refine Go.iaload C X20 (pc' := 8) (i := mm) (w := (own_of g mm)) f1 hm hm4 rfl d6_7 rfl ?_
      refine Go.iloadN C X20 (pc' := 9) d6_8 rfl rfl ?_
      by_cases c21 : (own_of g mm) = u2
      · refine Go.icmpYes C X20 (pc' := 22) d6_9 (teq c21).1 (by decide) (by decide) ?_
        refine Go.iloadN C X20 (pc' := 23) d6_22 rfl rfl ?_
        refine Go.istoreN C X20 (pc' := 24) (Ls' := #[.val (.ref a), .val (.int k), .val (.int u2), .val (.int k), .unset]) d6_23 rfl rfl ?_
        have Cut24 : ∀ (fuel : Nat) (T_24 : State) (h_24 : Heap) (m3 : Nat) (gc : Nat → Nat) (u3 : Int32) (s4 : Slot), m3 < fuel → (u3.toInt = (m3 : Int)) → (m3 < 4) → (∀ i, i < 4 → gc i ≤ i) → (∀ i, i < 4 → own_rt gc i = (own_rt g) i) → (own_rt g m3 = mm) → (s4 = .unset ∨ ∃ w : Int32, s4 = .val (.int w)) → On p l e ({ frames := 0, cells := 0, slots := 0, locals := 0 } : Room) s m #[(.ref a), (.int k)] below meth c n0 T_24 h_24 0 0 → Keep h0 h_24 [t] → Fld Z h_24 a "com/example/happenets/happenets/net/Groups" "roots" "[I" (.ref t) → AI Z h_24 t .int 4 (own_of gc) → Go p e below s n0 (({ frames := 0, cells := 0, slots := 0, locals := 0 } : Room)).cells (({ frames := 0, cells := 0, slots := 0, locals := 0 } : Room)).slots (fun rv hv => ∃ g1 : Nat → Nat, rv = some (.int (Int32.ofNat (R kk))) ∧ Keep h0 hv [t] ∧ AI Z hv t .int 4 (own_of g1) ∧ (∀ i, i < 4 → g1 i ≤ i) ∧ (∀ i, i < 4 → own_rt g1 i = R i)) T_24 (mkF m 24 #[.val (.ref a), .val (.int k), .val (.int u2), .val (.int u3), s4] []) := by
          intro fuel
          induction fuel with
          | zero => intro T_24 h_24 m3 gc u3 s4 hM_24 h3 h34 hgc hrc h3r hs4 X_24 K_24 G24_0 G24_1; exact absurd hM_24 (Nat.not_lt_zero _)
          | succ fuel ih_24 =>
            intro T_24 h_24 m3 gc u3 s4 hM_24 h3 h34 hgc hrc h3r hs4 X_24 K_24 G24_0 G24_1
            refine Go.iloadN C X_24 (pc' := 25) d6_24 rfl rfl ?_
            refine Go.iloadN C X_24 (pc' := 26) d6_25 rfl rfl ?_
            by_cases c22 : u3 = u2
            · refine Go.icmpYes C X_24 (pc' := 50) d6_26 (teq c22).1 (by decide) (by decide) ?_
              refine Go.iloadN C X_24 (pc' := 51) d6_50 rfl rfl ?_
              exact Go.retI C X_24 d6_51 ⟨gc, (by rw [own_nat32 hm, ← hR kk hk4, ← hmr, own_rt_root (by rw [own_isr hg hm hm4 c21]; omega)]), K_24, G24_1, hgc, (fun i hi => (hrc i hi).trans (hR i hi))⟩ (by decide) (by decide)
            · refine Go.icmpNo C X_24 (pc' := 29) d6_26 (feq c22).1 rfl ?_
              refine Go.aloadN C X_24 (pc' := 30) d6_29 rfl rfl rfl ?_
              refine Go.getF C X_24 (pc' := 33) (host := "") (Or.inl (hw _ (List.mem_of_getElem? (i := 10) rfl))) Via.refl G24_0 d6_30 rfl (fun T23 X23 => ?_)
              refine Go.iloadN C X23 (pc' := 34) d6_33 rfl rfl ?_
              refine Go.iaload C X23 (pc' := 35) (i := m3) (w := (own_of gc m3)) G24_1 h3 h34 rfl d6_34 rfl ?_
              refine Go.istore C X23 (pc' := 37) (Ls' := #[.val (.ref a), .val (.int k), .val (.int u2), .val (.int u3), .val (.int (own_of gc m3))]) d6_35 (by rcases hs4 with rfl | ⟨w, rfl⟩ <;> rfl) rfl ?_
              refine Go.aloadN C X23 (pc' := 38) d6_37 rfl rfl rfl ?_
              refine Go.getF C X23 (pc' := 41) (host := "") (Or.inl (hw _ (List.mem_of_getElem? (i := 10) rfl))) Via.refl G24_0 d6_38 rfl (fun T24 X24 => ?_)
              refine Go.iloadN C X24 (pc' := 42) d6_41 rfl rfl ?_
              refine Go.iloadN C X24 (pc' := 43) d6_42 rfl rfl ?_
              refine Go.iastore C X24 (pc' := 44) (i := m3) (x' := u2) G24_1 h3 h34 rfl f2 d6_43 rfl (fun T25 h25 X25 W25 A25 => ?_)
              have K26 : Keep h0 h25 [t] := K_24.wr W25 (Or.inl (List.mem_of_getElem? (i := 0) rfl))
              have F27 := G24_0.other W25 (Or.inl f3)
              refine Go.iload C X25 (pc' := 46) d6_44 rfl rfl ?_
              refine Go.istoreN C X25 (pc' := 47) (Ls' := #[.val (.ref a), .val (.int k), .val (.int u2), .val (.int (own_of gc m3)), .val (.int (own_of gc m3))]) d6_46 rfl rfl ?_
              refine Go.goto C X25 (pc' := 24) d6_47 (by decide) (by decide) ?_
              exact ih_24 T25 h25 (gc m3) (own_up gc m3 mm) (own_of gc m3) (.val (.int (own_of gc m3))) (by have := (own_notroot h3 hm c22 ((hrc m3 h34).trans h3r)); omega) (own_n32 (Nat.lt_of_le_of_lt (hgc m3 h34) h34)) (Nat.lt_of_le_of_lt (hgc m3 h34) h34) (own_upgc hgc (by have := own_rt_le gc m3; rw [hrc m3 h34, h3r] at this; exact this)) (fun i hi => (own_rt_up ((hrc m3 h34).trans h3r) (by have := own_rt_le gc m3; rw [hrc m3 h34, h3r] at this; refine Nat.lt_of_le_of_ne this (fun e => c22 (Int32.toInt_inj.mp (by rw [h3, hm, e])))) i).trans (hrc i hi)) (by rw [← hrc _ (Nat.lt_of_le_of_lt (hgc m3 h34) h34), ← own_rt_step (own_notroot h3 hm c22 ((hrc m3 h34).trans h3r)), hrc m3 h34]; exact h3r) (Or.inr ⟨_, rfl⟩) X25 K26 F27 (AI.congr A25 (own_upof (own_nat32 hm)))
        exact Cut24 (_) T20 h0 kk g k (.unset) (Nat.lt_succ_self _) hk hk4 hg (fun _ _ => rfl) (by rw [← hmr]; exact own_rt_root (by rw [own_isr hg hm hm4 c21]; omega)) (Or.inl rfl) X20 (Keep.refl h0 [t]) f0 f1
      · refine Go.icmpNo C X20 (pc' := 12) d6_9 (feq c21).1 rfl ?_
        refine Go.aloadN C X20 (pc' := 13) d6_12 rfl rfl rfl ?_
        refine Go.getF C X20 (pc' := 16) (host := "") (Or.inl (hw _ (List.mem_of_getElem? (i := 10) rfl))) Via.refl f0 d6_13 rfl (fun T28 X28 => ?_)
        refine Go.iloadN C X28 (pc' := 17) d6_16 rfl rfl ?_
        refine Go.iaload C X28 (pc' := 18) (i := mm) (w := (own_of g mm)) f1 hm hm4 rfl d6_17 rfl ?_
        refine Go.istoreN C X28 (pc' := 19) (Ls' := #[.val (.ref a), .val (.int k), .val (.int (own_of g mm)), .unset, .unset]) d6_18 rfl rfl ?_
        refine Go.goto C X28 (pc' := 2) d6_19 (by decide) (by decide) ?_
        exact ih_2 T28 (g mm) (own_of g mm) (by have := own_nr hg hm hm4 c21; omega) (own_n32 (Nat.lt_of_le_of_lt (hg mm hm4) hm4)) (Nat.lt_of_le_of_lt (hg mm hm4) hm4) (by rw [← hmr]; exact (own_rt_step (own_nr hg hm hm4 c21)).symm) X28
  exact Cut2 (_) T0 kk k (Nat.lt_succ_self _) hk hk4 rfl X0
theorem own_R4 {g R : Nat → Nat} (hR : ∀ i, i < 4 → own_rt g i = R i) {i : Nat} (hi : i < 4) : R i < 4 := by
  have := own_rt_le g i; rw [hR i hi] at this; omega
def own_jn (R : Nat → Nat) (x y : Nat) : Nat → Nat := fun i => if R i = max (R x) (R y) then min (R x) (R y) else R i
theorem own_fixR {g R : Nat → Nat} (hR : ∀ i, i < 4 → own_rt g i = R i) {i : Nat} (hi : i < 4) : ¬ g (R i) < R i := by
  have := own_rt_fix (g := g) i; rw [hR i hi] at this; exact this
theorem own_joined {g R : Nat → Nat} (hR : ∀ i, i < 4 → own_rt g i = R i) {x y : Nat} (hx : x < 4) (hy : y < 4) : ∀ i, i < 4 → own_rt (own_up g (max (R x) (R y)) (min (R x) (R y))) i = own_jn R x y i := by
  intro i hi
  unfold own_jn
  have h1 := own_fixR hR hx
  have h2 := own_fixR hR hy
  by_cases e : R x = R y
  · have e1 : max (R x) (R y) = R x := by omega
    have e2 : min (R x) (R y) = R x := by omega
    rw [e1, e2]
    have hid : ∀ j, own_rt (own_up g (R x) (R x)) j = own_rt g j := by
      intro j
      induction j using Nat.strongRecOn with
      | _ j ih =>
        by_cases q : j = R x
        · have u1 : own_up g (R x) (R x) j = j := by unfold own_up; rw [if_pos q, q]
          rw [own_rt_root (by omega), own_rt_root (by rw [q]; exact h1)]
        · have u1 : own_up g (R x) (R x) j = g j := by unfold own_up; rw [if_neg q]
          by_cases h : g j < j
          · rw [own_rt_step (by rw [u1]; exact h), own_rt_step h, u1]; exact ih _ h
          · rw [own_rt_root (by rw [u1]; exact h), own_rt_root h]
    rw [hid, hR i hi]
    by_cases q : R i = R x
    · rw [if_pos q, q]
    · rw [if_neg q]
  · have hmx : ¬ g (max (R x) (R y)) < max (R x) (R y) := by
      rcases Nat.lt_or_ge (R x) (R y) with z | z
      · rw [show max (R x) (R y) = R y by omega]; exact h2
      · rw [show max (R x) (R y) = R x by omega]; exact h1
    have hmn : ¬ g (min (R x) (R y)) < min (R x) (R y) := by
      rcases Nat.lt_or_ge (R x) (R y) with z | z
      · rw [show min (R x) (R y) = R x by omega]; exact h1
      · rw [show min (R x) (R y) = R y by omega]; exact h2
    rw [own_rt_join hmx hmn (by omega), hR i hi]
theorem own_upg {g : Nat → Nat} (hg : ∀ i, i < 4 → g i ≤ i) (x y : Nat) : ∀ i, i < 4 → own_up g (max x y) (min x y) i ≤ i := fun i hi => by
  unfold own_up
  by_cases e : i = max x y
  · rw [if_pos e]; omega
  · rw [if_neg e]; exact hg i hi
theorem own_ef_rm_jn (m : MethodId) (x0 : Addr) (x1 : Int32) (x2 : Int32) : entryFrame m #[(.ref x0), (.int x1), (.int x2)] 5 = mkF m 0 #[.val (.ref x0), .val (.int x1), .val (.int x2), .unset, .unset] [] := by first | (simp [entryFrame, mkF, argsToLocals, Value.category]; done) | rfl
theorem d5_0 : decode prog_22_method_3_code 0 = .ok (.aload_n 0, 1) := by decide +kernel
theorem d5_1 : decode prog_22_method_3_code 1 = .ok (.iload_n 1, 1) := by decide +kernel
theorem d5_2 : decode prog_22_method_3_code 2 = .ok (.invokevirtual 13, 3) := by decide +kernel
theorem own_pd0 : parseMethodDescriptor "(I)I" = some ⟨[.int], some .int⟩ := by decide +kernel
theorem d5_5 : decode prog_22_method_3_code 5 = .ok (.istore_n 3, 1) := by decide +kernel
theorem d5_6 : decode prog_22_method_3_code 6 = .ok (.aload_n 0, 1) := by decide +kernel
theorem d5_7 : decode prog_22_method_3_code 7 = .ok (.iload_n 2, 1) := by decide +kernel
theorem d5_8 : decode prog_22_method_3_code 8 = .ok (.invokevirtual 13, 3) := by decide +kernel
theorem d5_11 : decode prog_22_method_3_code 11 = .ok (.istore 4, 2) := by decide +kernel
theorem d5_13 : decode prog_22_method_3_code 13 = .ok (.aload_n 0, 1) := by decide +kernel
theorem d5_14 : decode prog_22_method_3_code 14 = .ok (.getfield 7, 3) := by decide +kernel
theorem d5_17 : decode prog_22_method_3_code 17 = .ok (.iload_n 3, 1) := by decide +kernel
theorem d5_18 : decode prog_22_method_3_code 18 = .ok (.iload 4, 2) := by decide +kernel
theorem d5_20 : decode prog_22_method_3_code 20 = .ok (.invokestatic 17, 3) := by decide +kernel
theorem own_pd1 : parseMethodDescriptor "(II)I" = some ⟨[.int, .int], some .int⟩ := by decide +kernel
theorem d5_23 : decode prog_22_method_3_code 23 = .ok (.iload_n 3, 1) := by decide +kernel
theorem d5_24 : decode prog_22_method_3_code 24 = .ok (.iload 4, 2) := by decide +kernel
theorem d5_26 : decode prog_22_method_3_code 26 = .ok (.invokestatic 23, 3) := by decide +kernel
theorem d5_29 : decode prog_22_method_3_code 29 = .ok (.iastore, 1) := by decide +kernel
theorem d5_30 : decode prog_22_method_3_code 30 = .ok (.iload_n 3, 1) := by decide +kernel
theorem d5_31 : decode prog_22_method_3_code 31 = .ok (.iload 4, 2) := by decide +kernel
theorem d5_33 : decode prog_22_method_3_code 33 = .ok (.if_icmp .eq 7, 3) := by decide +kernel
theorem d5_40 : decode prog_22_method_3_code 40 = .ok (.iconst 0, 1) := by decide +kernel
theorem d5_41 : decode prog_22_method_3_code 41 = .ok (.ireturn, 1) := by decide +kernel
theorem d5_36 : decode prog_22_method_3_code 36 = .ok (.iconst 1, 1) := by decide +kernel
theorem d5_37 : decode prog_22_method_3_code 37 = .ok (.goto 4, 3) := by decide +kernel
set_option maxRecDepth 65536 in
set_option maxHeartbeats 40000000 in
theorem rm_jn (l : Launch) (Z : State) (a0 : Array Value) (hw : ∀ d ∈ tables_1, d.before a0 Z = true) (a : Addr) (x : Int32) (y : Int32) (t : Addr) (g : Nat → Nat) (R : Nat → Nat) (xx : Nat) (yy : Nat) (h0 : Heap) (n0 : Nat) (Z0 : n0 ≤ h0.size) (f0 : Exa Z h0 a "com/example/happenets/happenets/net/Groups") (f1 : Fld Z h0 a "com/example/happenets/happenets/net/Groups" "roots" "[I" (.ref t)) (f2 : AI Z h0 t .int 4 (own_of g)) (f3 : n0 ≤ t) (f4 : a ≠ t) (hg : ∀ i, i < 4 → g i ≤ i) (hR : ∀ i, i < 4 → own_rt g i = R i) (hkx : x.toInt = (xx : Int)) (hx : xx < 4) (hky : y.toInt = (yy : Int)) (hy : yy < 4) :
    Con l Z (⟨"com/example/happenets/happenets/net/Groups", "join", "(II)Z"⟩ : MethodName) prog_22_method_3_code 5 (some .boolean) ({ frames := 1, cells := 0, slots := 0, locals := 16 } : Room) #[(.ref a), (.int x), (.int y)] h0 n0 (fun rv hv => ∃ g3 : Nat → Nat, rv = some (.int (if R xx = R yy then (0 : Int32) else (1 : Int32))) ∧ Keep h0 hv [t] ∧ AI Z hv t .int 4 (own_of g3) ∧ (∀ i, i < 4 → g3 i ≤ i) ∧ (∀ i, i < 4 → own_rt g3 i = (own_jn R xx yy) i)) := by
  refine Con.enter (plainFor_of_name own_pn2) Z0 ?_
  intro p e s m below meth c T0 C hnm X0
  refine Go.cast (own_ef_rm_jn m a x y) ?_
  refine Go.aloadN C X0 (pc' := 1) d5_0 rfl rfl rfl ?_
  refine Go.iloadN C X0 (pc' := 2) d5_1 rfl rfl ?_
  refine Go.callV C X0 (pc' := 5) (W := 0) (argsL := [(.int x)]) (rest := []) (a := a) (rm_rt l Z a0 hw a x t g R xx h0 n0 X0.sz f1 f2 f3 f4 hg hR hkx hx) f0 (notFace_of_selects (args := #[]) (mvT C.2.1 (hw _ (List.mem_of_getElem? (i := 28) rfl)))) (hw _ (List.mem_of_getElem? (i := 25) rfl)) (hw _ (List.mem_of_getElem? (i := 26) rfl)) (hw _ (List.mem_of_getElem? (i := 28) rfl)) (hw _ (List.mem_of_getElem? (i := 27) rfl)) (hw _ (List.mem_of_getElem? (i := 2) rfl)) (hw _ (List.mem_of_getElem? (i := 29) rfl)) (by decide) rfl rfl (lenOf own_pd0 rfl) rfl (Nat.le_of_eq rfl) (by decide) (by decide) (by decide) (by decide) d5_2 rfl (fun _ _ q => by obtain ⟨_, _, K, _⟩ := q; exact K.1) (fun T29 h29 v29 X29 P29 => ?_)
  obtain ⟨g129, rfl, K29, O29_0, Y29_0, Y29_1⟩ := P29
  have K30 : Keep h0 h29 [t] := (Keep.refl h0 [t]).trans K29 (allS (Or.inl (List.mem_of_getElem? (i := 0) rfl)) all0)
  have E31 := f0.keep K29
  have F32 := f1.keep K29 (ninS f4 nin0)
  show Go p e below s n0 _ _ _ T29 (mkF m 5 #[.val (.ref a), .val (.int x), .val (.int y), .unset, .unset] [(.int (Int32.ofNat (R xx)))])
  refine Go.istoreN C X29 (pc' := 6) (Ls' := #[.val (.ref a), .val (.int x), .val (.int y), .val (.int (Int32.ofNat (R xx))), .unset]) d5_5 rfl rfl ?_
  refine Go.aloadN C X29 (pc' := 7) d5_6 rfl rfl rfl ?_
  refine Go.iloadN C X29 (pc' := 8) d5_7 rfl rfl ?_
  refine Go.callV C X29 (pc' := 11) (W := 0) (argsL := [(.int y)]) (rest := []) (a := a) (rm_rt l Z a0 hw a y t g129 R yy h29 n0 X29.sz F32 O29_0 f3 f4 Y29_0 Y29_1 hky hy) E31 (notFace_of_selects (args := #[]) (mvT C.2.1 (hw _ (List.mem_of_getElem? (i := 28) rfl)))) (hw _ (List.mem_of_getElem? (i := 25) rfl)) (hw _ (List.mem_of_getElem? (i := 26) rfl)) (hw _ (List.mem_of_getElem? (i := 28) rfl)) (hw _ (List.mem_of_getElem? (i := 27) rfl)) (hw _ (List.mem_of_getElem? (i := 2) rfl)) (hw _ (List.mem_of_getElem? (i := 29) rfl)) (by decide) rfl rfl (lenOf own_pd0 rfl) rfl (Nat.le_of_eq rfl) (by decide) (by decide) (by decide) (by decide) d5_8 rfl (fun _ _ q => by obtain ⟨_, _, K, _⟩ := q; exact K.1) (fun T33 h33 v33 X33 P33 => ?_)
  obtain ⟨g133, rfl, K33, O33_0, Y33_0, Y33_1⟩ := P33
  have K34 : Keep h0 h33 [t] := K30.trans K33 (allS (Or.inl (List.mem_of_getElem? (i := 0) rfl)) all0)
  have E35 := E31.keep K33
  have F36 := F32.keep K33 (ninS f4 nin0)
  show Go p e below s n0 _ _ _ T33 (mkF m 11 #[.val (.ref a), .val (.int x), .val (.int y), .val (.int (Int32.ofNat (R xx))), .unset] [(.int (Int32.ofNat (R yy)))])
  refine Go.istore C X33 (pc' := 13) (Ls' := #[.val (.ref a), .val (.int x), .val (.int y), .val (.int (Int32.ofNat (R xx))), .val (.int (Int32.ofNat (R yy)))]) d5_11 rfl rfl ?_
  refine Go.aloadN C X33 (pc' := 14) d5_13 rfl rfl rfl ?_
  refine Go.getF C X33 (pc' := 17) (host := "") (Or.inl (hw _ (List.mem_of_getElem? (i := 10) rfl))) Via.refl F36 d5_14 rfl (fun T37 X37 => ?_)
  refine Go.iloadN C X37 (pc' := 18) d5_17 rfl rfl ?_
  refine Go.iload C X37 (pc' := 20) d5_18 rfl rfl ?_
  refine Go.callS C X37 (pc' := 23) (W := 1) (argsL := [(.int (Int32.ofNat (R xx))), (.int (Int32.ofNat (R yy)))]) (rest := [(.ref t)]) (rm_max l Z a0 hw (Int32.ofNat (R xx)) (Int32.ofNat (R yy)) h33 n0 X37.sz ) (hw _ (List.mem_of_getElem? (i := 30) rfl)) (hw _ (List.mem_of_getElem? (i := 31) rfl)) (hw _ (List.mem_of_getElem? (i := 18) rfl)) (hw _ (List.mem_of_getElem? (i := 32) rfl)) (by decide) rfl rfl (lenOf own_pd1 rfl) rfl (Nat.le_of_eq rfl) (by decide) (by decide) (by decide) (by decide) d5_20 rfl (fun _ _ q => Nat.le_of_eq (congrArg Array.size q.2)) (fun T38 h38 v38 X38 P38 => ?_)
  obtain ⟨rfl, rfl⟩ := P38
  show Go p e below s n0 _ _ _ T38 (mkF m 23 #[.val (.ref a), .val (.int x), .val (.int y), .val (.int (Int32.ofNat (R xx))), .val (.int (Int32.ofNat (R yy)))] [(.int (own_f_rm_max (Int32.ofNat (R xx)) (Int32.ofNat (R yy)))), (.ref t)])
  refine Go.iloadN C X38 (pc' := 24) d5_23 rfl rfl ?_
  refine Go.iload C X38 (pc' := 26) d5_24 rfl rfl ?_
  refine Go.callS C X38 (pc' := 29) (W := 2) (argsL := [(.int (Int32.ofNat (R xx))), (.int (Int32.ofNat (R yy)))]) (rest := [(.int (own_f_rm_max (Int32.ofNat (R xx)) (Int32.ofNat (R yy)))), (.ref t)]) (rm_min l Z a0 hw (Int32.ofNat (R xx)) (Int32.ofNat (R yy)) h33 n0 X38.sz ) (hw _ (List.mem_of_getElem? (i := 33) rfl)) (hw _ (List.mem_of_getElem? (i := 17) rfl)) (hw _ (List.mem_of_getElem? (i := 18) rfl)) (hw _ (List.mem_of_getElem? (i := 19) rfl)) (by decide) rfl rfl (lenOf own_pd1 rfl) rfl (Nat.le_of_eq rfl) (by decide) (by decide) (by decide) (by decide) d5_26 rfl (fun _ _ q => Nat.le_of_eq (congrArg Array.size q.2)) (fun T39 h39 v39 X39 P39 => ?_)
  obtain ⟨rfl, rfl⟩ := P39
  show Go p e below s n0 _ _ _ T39 (mkF m 29 #[.val (.ref a), .val (.int x), .val (.int y), .val (.int (Int32.ofNat (R xx))), .val (.int (Int32.ofNat (R yy)))] [(.int (own_f_rm_min (Int32.ofNat (R xx)) (Int32.ofNat (R yy)))), (.int (own_f_rm_max (Int32.ofNat (R xx)) (Int32.ofNat (R yy)))), (.ref t)])
  refine Go.iastore C X39 (pc' := 30) (i := (max (R xx) (R yy))) (x' := (own_f_rm_min (Int32.ofNat (R xx)) (Int32.ofNat (R yy)))) O33_0 (by rw [own_mx (own_R4 hR hx) (own_R4 hR hy), own_n32 (by have := own_R4 hR hx; have := own_R4 hR hy; omega)]) (by have := own_R4 hR hx; have := own_R4 hR hy; omega) rfl f3 d5_29 rfl (fun T40 h40 X40 W40 A40 => ?_)
  have K41 : Keep h0 h40 [t] := K34.wr W40 (Or.inl (List.mem_of_getElem? (i := 0) rfl))
  have E42 := E35.wr W40
  have F43 := F36.other W40 (Or.inl f4)
  refine Go.iloadN C X40 (pc' := 31) d5_30 rfl rfl ?_
  refine Go.iload C X40 (pc' := 33) d5_31 rfl rfl ?_
  by_cases c44 : (Int32.ofNat (R xx)) = (Int32.ofNat (R yy))
  · refine Go.icmpYes C X40 (pc' := 40) d5_33 (teq c44).1 (by decide) (by decide) ?_
    refine Go.iconst C X40 (pc' := 41) (v := (0 : Int32)) d5_40 rfl rfl ?_
    exact Go.retZ (t := .boolean) C X40 (z' := (0 : Int32)) (by decide) d5_41 ⟨(own_up g133 (max (R xx) (R yy)) (min (R xx) (R yy))), (by rw [if_pos (own_inj (own_R4 hR hx) (own_R4 hR hy) c44)]), K41, (AI.congr A40 (own_upof (own_mn (own_R4 hR hx) (own_R4 hR hy)))), (own_upg Y33_0 (R xx) (R yy)), (own_joined Y33_1 hx hy)⟩ (by decide) (by decide)
  · refine Go.icmpNo C X40 (pc' := 36) d5_33 (feq c44).1 rfl ?_
    refine Go.iconst C X40 (pc' := 37) (v := (1 : Int32)) d5_36 rfl rfl ?_
    refine Go.goto C X40 (pc' := 41) d5_37 (by decide) (by decide) ?_
    exact Go.retZ (t := .boolean) C X40 (z' := (1 : Int32)) (by decide) d5_41 ⟨(own_up g133 (max (R xx) (R yy)) (min (R xx) (R yy))), (by rw [if_neg (fun q => c44 (congrArg Int32.ofNat q))]), K41, (AI.congr A40 (own_upof (own_mn (own_R4 hR hx) (own_R4 hR hy)))), (own_upg Y33_0 (R xx) (R yy)), (own_joined Y33_1 hx hy)⟩ (by decide) (by decide)
def own_lb (R : Nat → Nat) (x y j : Nat) : Nat → Int32 := fun i => if i < j then Int32.ofNat (own_jn R x y i) else Int32.ofNat (R i)
theorem own_lb0 (R : Nat → Nat) (x y : Nat) : ∀ i, i < 4 → own_of R i = own_lb R x y 0 i := fun i _ => by unfold own_lb own_of; rw [if_neg (by omega)]
theorem own_lb4 (R : Nat → Nat) (x y : Nat) : ∀ i, i < 4 → own_lb R x y 4 i = own_of (own_jn R x y) i := fun i hi => by unfold own_lb own_of; rw [if_pos hi]
theorem own_lbs {g R : Nat → Nat} (hR : ∀ i, i < 4 → own_rt g i = R i) {x y j : Nat} (hx : x < 4) (hy : y < 4) (hj : j < 4) {v : Int32} (hv : v = Int32.ofNat (own_jn R x y j)) : ∀ i, i < 4 → (if i = j then v else own_lb R x y j i) = own_lb R x y (j + 1) i := fun i _ => by
  unfold own_lb
  by_cases e : i = j
  · rw [if_pos e, if_pos (by omega), hv, e]
  · rw [if_neg e]
    by_cases h : i < j
    · rw [if_pos h, if_pos (by omega)]
    · rw [if_neg h, if_neg (by omega)]
theorem own_lbn {R : Nat → Nat} {x y j : Nat} (h : R j = own_jn R x y j) : ∀ i, i < 4 → own_lb R x y j i = own_lb R x y (j + 1) i := fun i _ => by
  unfold own_lb
  by_cases e : i = j
  · rw [if_neg (by omega), if_pos (by omega), e, h]
  · by_cases q : i < j
    · rw [if_pos q, if_pos (by omega)]
    · rw [if_neg q, if_neg (by omega)]
theorem own_hit {R : Nat → Nat} {x y j : Nat} (h : R j = R x ∨ R j = R y) : min (R x) (R y) = own_jn R x y j := by
  unfold own_jn; split
  · rfl
  · omega
theorem own_missj {R : Nat → Nat} {x y j : Nat} (h1 : ¬ R j = R x) (h2 : ¬ R j = R y) : R j = own_jn R x y j := by
  unfold own_jn; rw [if_neg (by omega)]
theorem own_lbj (R : Nat → Nat) (x y j : Nat) : own_lb R x y j j = Int32.ofNat (R j) := by unfold own_lb; rw [if_neg (by omega)]
theorem own_pn3 : plainName "com/example/happenets/happenets/net/GroupsRootPinLaw" = true := by first | (simp [plainName, overriddenIn]; done) | decide +kernel
theorem own_ef_rm_st (m : MethodId) (x0 : Addr) (x1 : Addr) (x2 : Int32) (x3 : Int32) : entryFrame m #[(.ref x0), (.ref x1), (.int x2), (.int x3)] 8 = mkF m 0 #[.val (.ref x0), .val (.ref x1), .val (.int x2), .val (.int x3), .unset, .unset, .unset, .unset] [] := by first | (simp [entryFrame, mkF, argsToLocals, Value.category]; done) | rfl
theorem d3_0 : decode method_3_code 0 = .ok (.aload_n 1, 1) := by decide +kernel
theorem d3_1 : decode method_3_code 1 = .ok (.iload_n 2, 1) := by decide +kernel
theorem d3_2 : decode method_3_code 2 = .ok (.iaload, 1) := by decide +kernel
theorem d3_3 : decode method_3_code 3 = .ok (.istore 4, 2) := by decide +kernel
theorem d3_5 : decode method_3_code 5 = .ok (.aload_n 1, 1) := by decide +kernel
theorem d3_6 : decode method_3_code 6 = .ok (.iload_n 3, 1) := by decide +kernel
theorem d3_7 : decode method_3_code 7 = .ok (.iaload, 1) := by decide +kernel
theorem d3_8 : decode method_3_code 8 = .ok (.istore 5, 2) := by decide +kernel
theorem d3_10 : decode method_3_code 10 = .ok (.iload 4, 2) := by decide +kernel
theorem d3_12 : decode method_3_code 12 = .ok (.iload 5, 2) := by decide +kernel
theorem d3_14 : decode method_3_code 14 = .ok (.invokestatic 22, 3) := by decide +kernel
theorem d3_17 : decode method_3_code 17 = .ok (.istore 6, 2) := by decide +kernel
theorem d3_103 : decode method_3_code 103 = .ok (.aload_n 0, 1) := by decide +kernel
theorem d3_104 : decode method_3_code 104 = .ok (.iload_n 2, 1) := by decide +kernel
theorem d3_105 : decode method_3_code 105 = .ok (.iload_n 3, 1) := by decide +kernel
theorem d3_106 : decode method_3_code 106 = .ok (.invokevirtual 28, 3) := by decide +kernel
theorem own_pd2 : parseMethodDescriptor "(II)Z" = some ⟨[.int, .int], some .boolean⟩ := by decide +kernel
theorem d3_109 : decode method_3_code 109 = .ok (.istore 7, 2) := by decide +kernel
theorem d3_111 : decode method_3_code 111 = .ok (.iload 7, 2) := by decide +kernel
theorem d3_113 : decode method_3_code 113 = .ok (.iload 4, 2) := by decide +kernel
theorem d3_115 : decode method_3_code 115 = .ok (.iload 5, 2) := by decide +kernel
theorem d3_117 : decode method_3_code 117 = .ok (.if_icmp .eq 7, 3) := by decide +kernel
theorem d3_124 : decode method_3_code 124 = .ok (.iconst 0, 1) := by decide +kernel
theorem d3_125 : decode method_3_code 125 = .ok (.if_icmp .ne 7, 3) := by decide +kernel
theorem d3_128 : decode method_3_code 128 = .ok (.iconst 1, 1) := by decide +kernel
theorem d3_129 : decode method_3_code 129 = .ok (.goto 4, 3) := by decide +kernel
theorem d3_133 : decode method_3_code 133 = .ok (.ireturn, 1) := by decide +kernel
theorem d3_120 : decode method_3_code 120 = .ok (.iconst 1, 1) := by decide +kernel
theorem d3_121 : decode method_3_code 121 = .ok (.goto 4, 3) := by decide +kernel
theorem d3_82 : decode method_3_code 82 = .ok (.aload_n 1, 1) := by decide +kernel
theorem d3_83 : decode method_3_code 83 = .ok (.iconst 3, 1) := by decide +kernel
theorem d3_84 : decode method_3_code 84 = .ok (.iaload, 1) := by decide +kernel
theorem d3_85 : decode method_3_code 85 = .ok (.iload 4, 2) := by decide +kernel
theorem d3_87 : decode method_3_code 87 = .ok (.if_icmp .eq 11, 3) := by decide +kernel
theorem d3_98 : decode method_3_code 98 = .ok (.aload_n 1, 1) := by decide +kernel
theorem d3_99 : decode method_3_code 99 = .ok (.iconst 3, 1) := by decide +kernel
theorem d3_100 : decode method_3_code 100 = .ok (.iload 6, 2) := by decide +kernel
theorem d3_102 : decode method_3_code 102 = .ok (.iastore, 1) := by decide +kernel
theorem d3_90 : decode method_3_code 90 = .ok (.aload_n 1, 1) := by decide +kernel
theorem d3_91 : decode method_3_code 91 = .ok (.iconst 3, 1) := by decide +kernel
theorem d3_92 : decode method_3_code 92 = .ok (.iaload, 1) := by decide +kernel
theorem d3_93 : decode method_3_code 93 = .ok (.iload 5, 2) := by decide +kernel
theorem d3_95 : decode method_3_code 95 = .ok (.if_icmp .ne 8, 3) := by decide +kernel
theorem d3_61 : decode method_3_code 61 = .ok (.aload_n 1, 1) := by decide +kernel
theorem d3_62 : decode method_3_code 62 = .ok (.iconst 2, 1) := by decide +kernel
theorem d3_63 : decode method_3_code 63 = .ok (.iaload, 1) := by decide +kernel
theorem d3_64 : decode method_3_code 64 = .ok (.iload 4, 2) := by decide +kernel
theorem d3_66 : decode method_3_code 66 = .ok (.if_icmp .eq 11, 3) := by decide +kernel
theorem d3_77 : decode method_3_code 77 = .ok (.aload_n 1, 1) := by decide +kernel
theorem d3_78 : decode method_3_code 78 = .ok (.iconst 2, 1) := by decide +kernel
theorem d3_79 : decode method_3_code 79 = .ok (.iload 6, 2) := by decide +kernel
theorem d3_81 : decode method_3_code 81 = .ok (.iastore, 1) := by decide +kernel
theorem d3_69 : decode method_3_code 69 = .ok (.aload_n 1, 1) := by decide +kernel
theorem d3_70 : decode method_3_code 70 = .ok (.iconst 2, 1) := by decide +kernel
theorem d3_71 : decode method_3_code 71 = .ok (.iaload, 1) := by decide +kernel
theorem d3_72 : decode method_3_code 72 = .ok (.iload 5, 2) := by decide +kernel
theorem d3_74 : decode method_3_code 74 = .ok (.if_icmp .ne 8, 3) := by decide +kernel
theorem d3_40 : decode method_3_code 40 = .ok (.aload_n 1, 1) := by decide +kernel
theorem d3_41 : decode method_3_code 41 = .ok (.iconst 1, 1) := by decide +kernel
theorem d3_42 : decode method_3_code 42 = .ok (.iaload, 1) := by decide +kernel
theorem d3_43 : decode method_3_code 43 = .ok (.iload 4, 2) := by decide +kernel
theorem d3_45 : decode method_3_code 45 = .ok (.if_icmp .eq 11, 3) := by decide +kernel
theorem d3_56 : decode method_3_code 56 = .ok (.aload_n 1, 1) := by decide +kernel
theorem d3_57 : decode method_3_code 57 = .ok (.iconst 1, 1) := by decide +kernel
theorem d3_58 : decode method_3_code 58 = .ok (.iload 6, 2) := by decide +kernel
theorem d3_60 : decode method_3_code 60 = .ok (.iastore, 1) := by decide +kernel
theorem d3_48 : decode method_3_code 48 = .ok (.aload_n 1, 1) := by decide +kernel
theorem d3_49 : decode method_3_code 49 = .ok (.iconst 1, 1) := by decide +kernel
theorem d3_50 : decode method_3_code 50 = .ok (.iaload, 1) := by decide +kernel
theorem d3_51 : decode method_3_code 51 = .ok (.iload 5, 2) := by decide +kernel
theorem d3_53 : decode method_3_code 53 = .ok (.if_icmp .ne 8, 3) := by decide +kernel
theorem d3_19 : decode method_3_code 19 = .ok (.aload_n 1, 1) := by decide +kernel
theorem d3_20 : decode method_3_code 20 = .ok (.iconst 0, 1) := by decide +kernel
theorem d3_21 : decode method_3_code 21 = .ok (.iaload, 1) := by decide +kernel
theorem d3_22 : decode method_3_code 22 = .ok (.iload 4, 2) := by decide +kernel
theorem d3_24 : decode method_3_code 24 = .ok (.if_icmp .eq 11, 3) := by decide +kernel
theorem d3_35 : decode method_3_code 35 = .ok (.aload_n 1, 1) := by decide +kernel
theorem d3_36 : decode method_3_code 36 = .ok (.iconst 0, 1) := by decide +kernel
theorem d3_37 : decode method_3_code 37 = .ok (.iload 6, 2) := by decide +kernel
theorem d3_39 : decode method_3_code 39 = .ok (.iastore, 1) := by decide +kernel
theorem d3_27 : decode method_3_code 27 = .ok (.aload_n 1, 1) := by decide +kernel
theorem d3_28 : decode method_3_code 28 = .ok (.iconst 0, 1) := by decide +kernel
theorem d3_29 : decode method_3_code 29 = .ok (.iaload, 1) := by decide +kernel
theorem d3_30 : decode method_3_code 30 = .ok (.iload 5, 2) := by decide +kernel
theorem d3_32 : decode method_3_code 32 = .ok (.if_icmp .ne 8, 3) := by decide +kernel
set_option maxRecDepth 65536 in
set_option maxHeartbeats 40000000 in
theorem rm_st (l : Launch) (Z : State) (a0 : Array Value) (hw : ∀ d ∈ tables_1, d.before a0 Z = true) (gp : Addr) (lab : Addr) (x : Int32) (y : Int32) (t : Addr) (g : Nat → Nat) (R : Nat → Nat) (xx : Nat) (yy : Nat) (h0 : Heap) (n0 : Nat) (Z0 : n0 ≤ h0.size) (f0 : Exa Z h0 gp "com/example/happenets/happenets/net/Groups") (f1 : Fld Z h0 gp "com/example/happenets/happenets/net/Groups" "roots" "[I" (.ref t)) (f2 : AI Z h0 t .int 4 (own_of g)) (f3 : AI Z h0 lab .int 4 (own_of R)) (f4 : n0 ≤ t) (f5 : n0 ≤ lab) (f6 : gp ≠ t) (f7 : gp ≠ lab) (f8 : lab ≠ t) (hg : ∀ i, i < 4 → g i ≤ i) (hR : ∀ i, i < 4 → own_rt g i = R i) (hkx : x.toInt = (xx : Int)) (hx : xx < 4) (hky : y.toInt = (yy : Int)) (hy : yy < 4) :
    Con l Z (⟨"com/example/happenets/happenets/net/GroupsRootPinLaw", "step", "(Lcom/example/happenets/happenets/net/Groups;[III)Z"⟩ : MethodName) method_3_code 8 (some .boolean) ({ frames := 2, cells := 0, slots := 0, locals := 32 } : Room) #[(.ref gp), (.ref lab), (.int x), (.int y)] h0 n0 (fun rv hv => ∃ g1 : Nat → Nat, ∃ R1 : Nat → Nat, rv = some (.int (1 : Int32)) ∧ Keep h0 hv [t, lab] ∧ AI Z hv t .int 4 (own_of g1) ∧ AI Z hv lab .int 4 (own_of R1) ∧ (∀ i, i < 4 → g1 i ≤ i) ∧ (∀ i, i < 4 → own_rt g1 i = R1 i)) := by
  refine Con.enter (plainFor_of_name own_pn3) Z0 ?_
  intro p e s m below meth c T0 C hnm X0
  refine Go.cast (own_ef_rm_st m gp lab x y) ?_
  refine Go.aloadN C X0 (pc' := 1) d3_0 rfl rfl rfl ?_
  refine Go.iloadN C X0 (pc' := 2) d3_1 rfl rfl ?_
  refine Go.iaload C X0 (pc' := 3) (i := xx) (w := (own_of R xx)) f3 hkx hx rfl d3_2 rfl ?_
  refine Go.istore C X0 (pc' := 5) (Ls' := #[.val (.ref gp), .val (.ref lab), .val (.int x), .val (.int y), .val (.int (own_of R xx)), .unset, .unset, .unset]) d3_3 rfl rfl ?_
  refine Go.aloadN C X0 (pc' := 6) d3_5 rfl rfl rfl ?_
  refine Go.iloadN C X0 (pc' := 7) d3_6 rfl rfl ?_
  refine Go.iaload C X0 (pc' := 8) (i := yy) (w := (own_of R yy)) f3 hky hy rfl d3_7 rfl ?_
  refine Go.istore C X0 (pc' := 10) (Ls' := #[.val (.ref gp), .val (.ref lab), .val (.int x), .val (.int y), .val (.int (own_of R xx)), .val (.int (own_of R yy)), .unset, .unset]) d3_8 rfl rfl ?_
  refine Go.iload C X0 (pc' := 12) d3_10 rfl rfl ?_
  refine Go.iload C X0 (pc' := 14) d3_12 rfl rfl ?_
  refine Go.callS C X0 (pc' := 17) (W := 0) (argsL := [(.int (own_of R xx)), (.int (own_of R yy))]) (rest := []) (rm_min l Z a0 hw (own_of R xx) (own_of R yy) h0 n0 X0.sz ) (hw _ (List.mem_of_getElem? (i := 16) rfl)) (hw _ (List.mem_of_getElem? (i := 17) rfl)) (hw _ (List.mem_of_getElem? (i := 18) rfl)) (hw _ (List.mem_of_getElem? (i := 19) rfl)) (by decide) rfl rfl (lenOf own_pd1 rfl) rfl (Nat.le_of_eq rfl) (by decide) (by decide) (by decide) (by decide) d3_14 rfl (fun _ _ q => Nat.le_of_eq (congrArg Array.size q.2)) (fun T45 h45 v45 X45 P45 => ?_)
  obtain ⟨rfl, rfl⟩ := P45
  show Go p e below s n0 _ _ _ T45 (mkF m 17 #[.val (.ref gp), .val (.ref lab), .val (.int x), .val (.int y), .val (.int (own_of R xx)), .val (.int (own_of R yy)), .unset, .unset] [(.int (own_f_rm_min (own_of R xx) (own_of R yy)))])
  refine Go.istore C X45 (pc' := 19) (Ls' := #[.val (.ref gp), .val (.ref lab), .val (.int x), .val (.int y), .val (.int (own_of R xx)), .val (.int (own_of R yy)), .val (.int (own_f_rm_min (own_of R xx) (own_of R yy))), .unset]) d3_17 rfl rfl ?_
  have A46 : AI Z h0 lab .int 4 (own_lb R xx yy 0) := AI.congr f3 (own_lb0 R xx yy)
  have Cut103 : ∀ (T_103 : State) (h_103 : Heap), On p l e ({ frames := 2, cells := 0, slots := 0, locals := 32 } : Room) s m #[(.ref gp), (.ref lab), (.int x), (.int y)] below meth c n0 T_103 h_103 0 0 → Keep h0 h_103 [t, lab] → Exa Z h_103 gp "com/example/happenets/happenets/net/Groups" → Fld Z h_103 gp "com/example/happenets/happenets/net/Groups" "roots" "[I" (.ref t) → AI Z h_103 t .int 4 (own_of g) → AI Z h_103 lab .int 4 (own_lb R xx yy 4) → Go p e below s n0 (({ frames := 2, cells := 0, slots := 0, locals := 32 } : Room)).cells (({ frames := 2, cells := 0, slots := 0, locals := 32 } : Room)).slots (fun rv hv => ∃ g1 : Nat → Nat, ∃ R1 : Nat → Nat, rv = some (.int (1 : Int32)) ∧ Keep h0 hv [t, lab] ∧ AI Z hv t .int 4 (own_of g1) ∧ AI Z hv lab .int 4 (own_of R1) ∧ (∀ i, i < 4 → g1 i ≤ i) ∧ (∀ i, i < 4 → own_rt g1 i = R1 i)) T_103 (mkF m 103 #[.val (.ref gp), .val (.ref lab), .val (.int x), .val (.int y), .val (.int (own_of R xx)), .val (.int (own_of R yy)), .val (.int (own_f_rm_min (own_of R xx) (own_of R yy))), .unset] []) := by
    intro T_103 h_103 X_103 K_103 G103_0 G103_1 G103_2 G103_3
    refine Go.aloadN C X_103 (pc' := 104) d3_103 rfl rfl rfl ?_
    refine Go.iloadN C X_103 (pc' := 105) d3_104 rfl rfl ?_
    refine Go.iloadN C X_103 (pc' := 106) d3_105 rfl rfl ?_
    refine Go.callV C X_103 (pc' := 109) (W := 0) (argsL := [(.int x), (.int y)]) (rest := []) (a := gp) (rm_jn l Z a0 hw gp x y t g R xx yy h_103 n0 X_103.sz G103_0 G103_1 G103_2 f4 f6 hg hR hkx hx hky hy) G103_0 (notFace_of_selects (args := #[]) (mvT C.2.1 (hw _ (List.mem_of_getElem? (i := 23) rfl)))) (hw _ (List.mem_of_getElem? (i := 20) rfl)) (hw _ (List.mem_of_getElem? (i := 21) rfl)) (hw _ (List.mem_of_getElem? (i := 23) rfl)) (hw _ (List.mem_of_getElem? (i := 22) rfl)) (hw _ (List.mem_of_getElem? (i := 2) rfl)) (hw _ (List.mem_of_getElem? (i := 24) rfl)) (by decide) rfl rfl (lenOf own_pd2 rfl) rfl (Nat.le_of_eq rfl) (by decide) (by decide) (by decide) (by decide) d3_106 rfl (fun _ _ q => by obtain ⟨_, _, K, _⟩ := q; exact K.1) (fun T47 h47 v47 X47 P47 => ?_)
    obtain ⟨g347, rfl, K47, O47_0, Y47_0, Y47_1⟩ := P47
    have K48 : Keep h0 h47 [t, lab] := K_103.trans K47 (allS (Or.inl (List.mem_of_getElem? (i := 0) rfl)) all0)
    have E49 := G103_0.keep K47
    have F50 := G103_1.keep K47 (ninS f6 nin0)
    have A51 := G103_3.keep K47 (ninS f8 nin0)
    show Go p e below s n0 _ _ _ T47 (mkF m 109 #[.val (.ref gp), .val (.ref lab), .val (.int x), .val (.int y), .val (.int (own_of R xx)), .val (.int (own_of R yy)), .val (.int (own_f_rm_min (own_of R xx) (own_of R yy))), .unset] [(.int (if R xx = R yy then (0 : Int32) else (1 : Int32)))])
    refine Go.istore C X47 (pc' := 111) (Ls' := #[.val (.ref gp), .val (.ref lab), .val (.int x), .val (.int y), .val (.int (own_of R xx)), .val (.int (own_of R yy)), .val (.int (own_f_rm_min (own_of R xx) (own_of R yy))), .val (.int (if R xx = R yy then (0 : Int32) else (1 : Int32)))]) d3_109 rfl rfl ?_
    refine Go.iload C X47 (pc' := 113) d3_111 rfl rfl ?_
    refine Go.iload C X47 (pc' := 115) d3_113 rfl rfl ?_
    refine Go.iload C X47 (pc' := 117) d3_115 rfl rfl ?_
    by_cases c52 : (own_of R xx) = (own_of R yy)
    · refine Go.icmpYes C X47 (pc' := 124) d3_117 (teq c52).1 (by decide) (by decide) ?_
      refine Go.iconst C X47 (pc' := 125) (v := (0 : Int32)) d3_124 rfl rfl ?_
      refine Go.icmpNo C X47 (pc' := 128) d3_125 (teq (if_pos (own_inj (own_R4 hR hx) (own_R4 hR hy) c52))).2 rfl ?_
      refine Go.iconst C X47 (pc' := 129) (v := (1 : Int32)) d3_128 rfl rfl ?_
      refine Go.goto C X47 (pc' := 133) d3_129 (by decide) (by decide) ?_
      exact Go.retZ (t := .boolean) C X47 (z' := (1 : Int32)) (by decide) d3_133 ⟨g347, (own_jn R xx yy), rfl, K48, O47_0, (AI.congr A51 (own_lb4 R xx yy)), Y47_0, Y47_1⟩ (by decide) (by decide)
    · refine Go.icmpNo C X47 (pc' := 120) d3_117 (feq c52).1 rfl ?_
      refine Go.iconst C X47 (pc' := 121) (v := (1 : Int32)) d3_120 rfl rfl ?_
      refine Go.goto C X47 (pc' := 125) d3_121 (by decide) (by decide) ?_
      refine Go.icmpNo C X47 (pc' := 128) d3_125 (teq (if_neg (fun e => c52 (congrArg Int32.ofNat e)))).2 rfl ?_
      refine Go.iconst C X47 (pc' := 129) (v := (1 : Int32)) d3_128 rfl rfl ?_
      refine Go.goto C X47 (pc' := 133) d3_129 (by decide) (by decide) ?_
      exact Go.retZ (t := .boolean) C X47 (z' := (1 : Int32)) (by decide) d3_133 ⟨g347, (own_jn R xx yy), rfl, K48, O47_0, (AI.congr A51 (own_lb4 R xx yy)), Y47_0, Y47_1⟩ (by decide) (by decide)
  have Cut82 : ∀ (T_82 : State) (h_82 : Heap), On p l e ({ frames := 2, cells := 0, slots := 0, locals := 32 } : Room) s m #[(.ref gp), (.ref lab), (.int x), (.int y)] below meth c n0 T_82 h_82 0 0 → Keep h0 h_82 [t, lab] → Exa Z h_82 gp "com/example/happenets/happenets/net/Groups" → Fld Z h_82 gp "com/example/happenets/happenets/net/Groups" "roots" "[I" (.ref t) → AI Z h_82 t .int 4 (own_of g) → AI Z h_82 lab .int 4 (own_lb R xx yy 3) → Go p e below s n0 (({ frames := 2, cells := 0, slots := 0, locals := 32 } : Room)).cells (({ frames := 2, cells := 0, slots := 0, locals := 32 } : Room)).slots (fun rv hv => ∃ g1 : Nat → Nat, ∃ R1 : Nat → Nat, rv = some (.int (1 : Int32)) ∧ Keep h0 hv [t, lab] ∧ AI Z hv t .int 4 (own_of g1) ∧ AI Z hv lab .int 4 (own_of R1) ∧ (∀ i, i < 4 → g1 i ≤ i) ∧ (∀ i, i < 4 → own_rt g1 i = R1 i)) T_82 (mkF m 82 #[.val (.ref gp), .val (.ref lab), .val (.int x), .val (.int y), .val (.int (own_of R xx)), .val (.int (own_of R yy)), .val (.int (own_f_rm_min (own_of R xx) (own_of R yy))), .unset] []) := by
    intro T_82 h_82 X_82 K_82 G82_0 G82_1 G82_2 G82_3
    refine Go.aloadN C X_82 (pc' := 83) d3_82 rfl rfl rfl ?_
    refine Go.iconst C X_82 (pc' := 84) (v := (3 : Int32)) d3_83 rfl rfl ?_
    refine Go.iaload C X_82 (pc' := 85) (i := 3) (w := (own_lb R xx yy 3 3)) G82_3 rfl (by decide) rfl d3_84 rfl ?_
    refine Go.iload C X_82 (pc' := 87) d3_85 rfl rfl ?_
    by_cases c53 : (own_lb R xx yy 3 3) = (own_of R xx)
    · refine Go.icmpYes C X_82 (pc' := 98) d3_87 (teq c53).1 (by decide) (by decide) ?_
      refine Go.aloadN C X_82 (pc' := 99) d3_98 rfl rfl rfl ?_
      refine Go.iconst C X_82 (pc' := 100) (v := (3 : Int32)) d3_99 rfl rfl ?_
      refine Go.iload C X_82 (pc' := 102) d3_100 rfl rfl ?_
      refine Go.iastore C X_82 (pc' := 103) (i := 3) (x' := (own_f_rm_min (own_of R xx) (own_of R yy))) G82_3 rfl (by decide) rfl f5 d3_102 rfl (fun T54 h54 X54 W54 A54 => ?_)
      have K55 : Keep h0 h54 [t, lab] := K_82.wr W54 (Or.inl (List.mem_of_getElem? (i := 1) rfl))
      have E56 := G82_0.wr W54
      have F57 := G82_1.other W54 (Or.inl f7)
      have A58 := G82_2.other W54 (Ne.symm f8)
      exact Cut103 T54 h54 X54 K55 E56 F57 A58 (AI.congr A54 (own_lbs hR hx hy (by decide) ((own_mn (own_R4 hR hx) (own_R4 hR hy)).trans (congrArg Int32.ofNat (own_hit (Or.inl (own_inj (own_R4 hR (by decide)) (own_R4 hR hx) (by rw [own_lbj] at c53; exact c53))))))))
    · refine Go.icmpNo C X_82 (pc' := 90) d3_87 (feq c53).1 rfl ?_
      refine Go.aloadN C X_82 (pc' := 91) d3_90 rfl rfl rfl ?_
      refine Go.iconst C X_82 (pc' := 92) (v := (3 : Int32)) d3_91 rfl rfl ?_
      refine Go.iaload C X_82 (pc' := 93) (i := 3) (w := (own_lb R xx yy 3 3)) G82_3 rfl (by decide) rfl d3_92 rfl ?_
      refine Go.iload C X_82 (pc' := 95) d3_93 rfl rfl ?_
      by_cases c59 : (own_lb R xx yy 3 3) = (own_of R yy)
      · refine Go.icmpNo C X_82 (pc' := 98) d3_95 (teq c59).2 rfl ?_
        refine Go.aloadN C X_82 (pc' := 99) d3_98 rfl rfl rfl ?_
        refine Go.iconst C X_82 (pc' := 100) (v := (3 : Int32)) d3_99 rfl rfl ?_
        refine Go.iload C X_82 (pc' := 102) d3_100 rfl rfl ?_
        refine Go.iastore C X_82 (pc' := 103) (i := 3) (x' := (own_f_rm_min (own_of R xx) (own_of R yy))) G82_3 rfl (by decide) rfl f5 d3_102 rfl (fun T60 h60 X60 W60 A60 => ?_)
        have K61 : Keep h0 h60 [t, lab] := K_82.wr W60 (Or.inl (List.mem_of_getElem? (i := 1) rfl))
        have E62 := G82_0.wr W60
        have F63 := G82_1.other W60 (Or.inl f7)
        have A64 := G82_2.other W60 (Ne.symm f8)
        exact Cut103 T60 h60 X60 K61 E62 F63 A64 (AI.congr A60 (own_lbs hR hx hy (by decide) ((own_mn (own_R4 hR hx) (own_R4 hR hy)).trans (congrArg Int32.ofNat (own_hit (Or.inr (own_inj (own_R4 hR (by decide)) (own_R4 hR hy) (by rw [own_lbj] at c59; exact c59))))))))
      · refine Go.icmpYes C X_82 (pc' := 103) d3_95 (feq c59).2 (by decide) (by decide) ?_
        exact Cut103 T_82 h_82 X_82 K_82 G82_0 G82_1 G82_2 (AI.congr G82_3 (own_lbn (own_missj (fun e => c53 (by rw [own_lbj]; exact congrArg Int32.ofNat e)) (fun e => c59 (by rw [own_lbj]; exact congrArg Int32.ofNat e)))))
  have Cut61 : ∀ (T_61 : State) (h_61 : Heap), On p l e ({ frames := 2, cells := 0, slots := 0, locals := 32 } : Room) s m #[(.ref gp), (.ref lab), (.int x), (.int y)] below meth c n0 T_61 h_61 0 0 → Keep h0 h_61 [t, lab] → Exa Z h_61 gp "com/example/happenets/happenets/net/Groups" → Fld Z h_61 gp "com/example/happenets/happenets/net/Groups" "roots" "[I" (.ref t) → AI Z h_61 t .int 4 (own_of g) → AI Z h_61 lab .int 4 (own_lb R xx yy 2) → Go p e below s n0 (({ frames := 2, cells := 0, slots := 0, locals := 32 } : Room)).cells (({ frames := 2, cells := 0, slots := 0, locals := 32 } : Room)).slots (fun rv hv => ∃ g1 : Nat → Nat, ∃ R1 : Nat → Nat, rv = some (.int (1 : Int32)) ∧ Keep h0 hv [t, lab] ∧ AI Z hv t .int 4 (own_of g1) ∧ AI Z hv lab .int 4 (own_of R1) ∧ (∀ i, i < 4 → g1 i ≤ i) ∧ (∀ i, i < 4 → own_rt g1 i = R1 i)) T_61 (mkF m 61 #[.val (.ref gp), .val (.ref lab), .val (.int x), .val (.int y), .val (.int (own_of R xx)), .val (.int (own_of R yy)), .val (.int (own_f_rm_min (own_of R xx) (own_of R yy))), .unset] []) := by
    intro T_61 h_61 X_61 K_61 G61_0 G61_1 G61_2 G61_3
    refine Go.aloadN C X_61 (pc' := 62) d3_61 rfl rfl rfl ?_
    refine Go.iconst C X_61 (pc' := 63) (v := (2 : Int32)) d3_62 rfl rfl ?_
    refine Go.iaload C X_61 (pc' := 64) (i := 2) (w := (own_lb R xx yy 2 2)) G61_3 rfl (by decide) rfl d3_63 rfl ?_
    refine Go.iload C X_61 (pc' := 66) d3_64 rfl rfl ?_
    by_cases c65 : (own_lb R xx yy 2 2) = (own_of R xx)
    · refine Go.icmpYes C X_61 (pc' := 77) d3_66 (teq c65).1 (by decide) (by decide) ?_
      refine Go.aloadN C X_61 (pc' := 78) d3_77 rfl rfl rfl ?_
      refine Go.iconst C X_61 (pc' := 79) (v := (2 : Int32)) d3_78 rfl rfl ?_
      refine Go.iload C X_61 (pc' := 81) d3_79 rfl rfl ?_
      refine Go.iastore C X_61 (pc' := 82) (i := 2) (x' := (own_f_rm_min (own_of R xx) (own_of R yy))) G61_3 rfl (by decide) rfl f5 d3_81 rfl (fun T66 h66 X66 W66 A66 => ?_)
      have K67 : Keep h0 h66 [t, lab] := K_61.wr W66 (Or.inl (List.mem_of_getElem? (i := 1) rfl))
      have E68 := G61_0.wr W66
      have F69 := G61_1.other W66 (Or.inl f7)
      have A70 := G61_2.other W66 (Ne.symm f8)
      exact Cut82 T66 h66 X66 K67 E68 F69 A70 (AI.congr A66 (own_lbs hR hx hy (by decide) ((own_mn (own_R4 hR hx) (own_R4 hR hy)).trans (congrArg Int32.ofNat (own_hit (Or.inl (own_inj (own_R4 hR (by decide)) (own_R4 hR hx) (by rw [own_lbj] at c65; exact c65))))))))
    · refine Go.icmpNo C X_61 (pc' := 69) d3_66 (feq c65).1 rfl ?_
      refine Go.aloadN C X_61 (pc' := 70) d3_69 rfl rfl rfl ?_
      refine Go.iconst C X_61 (pc' := 71) (v := (2 : Int32)) d3_70 rfl rfl ?_
      refine Go.iaload C X_61 (pc' := 72) (i := 2) (w := (own_lb R xx yy 2 2)) G61_3 rfl (by decide) rfl d3_71 rfl ?_
      refine Go.iload C X_61 (pc' := 74) d3_72 rfl rfl ?_
      by_cases c71 : (own_lb R xx yy 2 2) = (own_of R yy)
      · refine Go.icmpNo C X_61 (pc' := 77) d3_74 (teq c71).2 rfl ?_
        refine Go.aloadN C X_61 (pc' := 78) d3_77 rfl rfl rfl ?_
        refine Go.iconst C X_61 (pc' := 79) (v := (2 : Int32)) d3_78 rfl rfl ?_
        refine Go.iload C X_61 (pc' := 81) d3_79 rfl rfl ?_
        refine Go.iastore C X_61 (pc' := 82) (i := 2) (x' := (own_f_rm_min (own_of R xx) (own_of R yy))) G61_3 rfl (by decide) rfl f5 d3_81 rfl (fun T72 h72 X72 W72 A72 => ?_)
        have K73 : Keep h0 h72 [t, lab] := K_61.wr W72 (Or.inl (List.mem_of_getElem? (i := 1) rfl))
        have E74 := G61_0.wr W72
        have F75 := G61_1.other W72 (Or.inl f7)
        have A76 := G61_2.other W72 (Ne.symm f8)
        exact Cut82 T72 h72 X72 K73 E74 F75 A76 (AI.congr A72 (own_lbs hR hx hy (by decide) ((own_mn (own_R4 hR hx) (own_R4 hR hy)).trans (congrArg Int32.ofNat (own_hit (Or.inr (own_inj (own_R4 hR (by decide)) (own_R4 hR hy) (by rw [own_lbj] at c71; exact c71))))))))
      · refine Go.icmpYes C X_61 (pc' := 82) d3_74 (feq c71).2 (by decide) (by decide) ?_
        exact Cut82 T_61 h_61 X_61 K_61 G61_0 G61_1 G61_2 (AI.congr G61_3 (own_lbn (own_missj (fun e => c65 (by rw [own_lbj]; exact congrArg Int32.ofNat e)) (fun e => c71 (by rw [own_lbj]; exact congrArg Int32.ofNat e)))))
  have Cut40 : ∀ (T_40 : State) (h_40 : Heap), On p l e ({ frames := 2, cells := 0, slots := 0, locals := 32 } : Room) s m #[(.ref gp), (.ref lab), (.int x), (.int y)] below meth c n0 T_40 h_40 0 0 → Keep h0 h_40 [t, lab] → Exa Z h_40 gp "com/example/happenets/happenets/net/Groups" → Fld Z h_40 gp "com/example/happenets/happenets/net/Groups" "roots" "[I" (.ref t) → AI Z h_40 t .int 4 (own_of g) → AI Z h_40 lab .int 4 (own_lb R xx yy 1) → Go p e below s n0 (({ frames := 2, cells := 0, slots := 0, locals := 32 } : Room)).cells (({ frames := 2, cells := 0, slots := 0, locals := 32 } : Room)).slots (fun rv hv => ∃ g1 : Nat → Nat, ∃ R1 : Nat → Nat, rv = some (.int (1 : Int32)) ∧ Keep h0 hv [t, lab] ∧ AI Z hv t .int 4 (own_of g1) ∧ AI Z hv lab .int 4 (own_of R1) ∧ (∀ i, i < 4 → g1 i ≤ i) ∧ (∀ i, i < 4 → own_rt g1 i = R1 i)) T_40 (mkF m 40 #[.val (.ref gp), .val (.ref lab), .val (.int x), .val (.int y), .val (.int (own_of R xx)), .val (.int (own_of R yy)), .val (.int (own_f_rm_min (own_of R xx) (own_of R yy))), .unset] []) := by
    intro T_40 h_40 X_40 K_40 G40_0 G40_1 G40_2 G40_3
    refine Go.aloadN C X_40 (pc' := 41) d3_40 rfl rfl rfl ?_
    refine Go.iconst C X_40 (pc' := 42) (v := (1 : Int32)) d3_41 rfl rfl ?_
    refine Go.iaload C X_40 (pc' := 43) (i := 1) (w := (own_lb R xx yy 1 1)) G40_3 rfl (by decide) rfl d3_42 rfl ?_
    refine Go.iload C X_40 (pc' := 45) d3_43 rfl rfl ?_
    by_cases c77 : (own_lb R xx yy 1 1) = (own_of R xx)
    · refine Go.icmpYes C X_40 (pc' := 56) d3_45 (teq c77).1 (by decide) (by decide) ?_
      refine Go.aloadN C X_40 (pc' := 57) d3_56 rfl rfl rfl ?_
      refine Go.iconst C X_40 (pc' := 58) (v := (1 : Int32)) d3_57 rfl rfl ?_
      refine Go.iload C X_40 (pc' := 60) d3_58 rfl rfl ?_
      refine Go.iastore C X_40 (pc' := 61) (i := 1) (x' := (own_f_rm_min (own_of R xx) (own_of R yy))) G40_3 rfl (by decide) rfl f5 d3_60 rfl (fun T78 h78 X78 W78 A78 => ?_)
      have K79 : Keep h0 h78 [t, lab] := K_40.wr W78 (Or.inl (List.mem_of_getElem? (i := 1) rfl))
      have E80 := G40_0.wr W78
      have F81 := G40_1.other W78 (Or.inl f7)
      have A82 := G40_2.other W78 (Ne.symm f8)
      exact Cut61 T78 h78 X78 K79 E80 F81 A82 (AI.congr A78 (own_lbs hR hx hy (by decide) ((own_mn (own_R4 hR hx) (own_R4 hR hy)).trans (congrArg Int32.ofNat (own_hit (Or.inl (own_inj (own_R4 hR (by decide)) (own_R4 hR hx) (by rw [own_lbj] at c77; exact c77))))))))
    · refine Go.icmpNo C X_40 (pc' := 48) d3_45 (feq c77).1 rfl ?_
      refine Go.aloadN C X_40 (pc' := 49) d3_48 rfl rfl rfl ?_
      refine Go.iconst C X_40 (pc' := 50) (v := (1 : Int32)) d3_49 rfl rfl ?_
      refine Go.iaload C X_40 (pc' := 51) (i := 1) (w := (own_lb R xx yy 1 1)) G40_3 rfl (by decide) rfl d3_50 rfl ?_
      refine Go.iload C X_40 (pc' := 53) d3_51 rfl rfl ?_
      by_cases c83 : (own_lb R xx yy 1 1) = (own_of R yy)
      · refine Go.icmpNo C X_40 (pc' := 56) d3_53 (teq c83).2 rfl ?_
        refine Go.aloadN C X_40 (pc' := 57) d3_56 rfl rfl rfl ?_
        refine Go.iconst C X_40 (pc' := 58) (v := (1 : Int32)) d3_57 rfl rfl ?_
        refine Go.iload C X_40 (pc' := 60) d3_58 rfl rfl ?_
        refine Go.iastore C X_40 (pc' := 61) (i := 1) (x' := (own_f_rm_min (own_of R xx) (own_of R yy))) G40_3 rfl (by decide) rfl f5 d3_60 rfl (fun T84 h84 X84 W84 A84 => ?_)
        have K85 : Keep h0 h84 [t, lab] := K_40.wr W84 (Or.inl (List.mem_of_getElem? (i := 1) rfl))
        have E86 := G40_0.wr W84
        have F87 := G40_1.other W84 (Or.inl f7)
        have A88 := G40_2.other W84 (Ne.symm f8)
        exact Cut61 T84 h84 X84 K85 E86 F87 A88 (AI.congr A84 (own_lbs hR hx hy (by decide) ((own_mn (own_R4 hR hx) (own_R4 hR hy)).trans (congrArg Int32.ofNat (own_hit (Or.inr (own_inj (own_R4 hR (by decide)) (own_R4 hR hy) (by rw [own_lbj] at c83; exact c83))))))))
      · refine Go.icmpYes C X_40 (pc' := 61) d3_53 (feq c83).2 (by decide) (by decide) ?_
        exact Cut61 T_40 h_40 X_40 K_40 G40_0 G40_1 G40_2 (AI.congr G40_3 (own_lbn (own_missj (fun e => c77 (by rw [own_lbj]; exact congrArg Int32.ofNat e)) (fun e => c83 (by rw [own_lbj]; exact congrArg Int32.ofNat e)))))
  refine Go.aloadN C X45 (pc' := 20) d3_19 rfl rfl rfl ?_
  refine Go.iconst C X45 (pc' := 21) (v := (0 : Int32)) d3_20 rfl rfl ?_
  refine Go.iaload C X45 (pc' := 22) (i := 0) (w := (own_lb R xx yy 0 0)) A46 rfl (by decide) rfl d3_21 rfl ?_
  refine Go.iload C X45 (pc' := 24) d3_22 rfl rfl ?_
  by_cases c89 : (own_lb R xx yy 0 0) = (own_of R xx)
  · refine Go.icmpYes C X45 (pc' := 35) d3_24 (teq c89).1 (by decide) (by decide) ?_
    refine Go.aloadN C X45 (pc' := 36) d3_35 rfl rfl rfl ?_
    refine Go.iconst C X45 (pc' := 37) (v := (0 : Int32)) d3_36 rfl rfl ?_
    refine Go.iload C X45 (pc' := 39) d3_37 rfl rfl ?_
    refine Go.iastore C X45 (pc' := 40) (i := 0) (x' := (own_f_rm_min (own_of R xx) (own_of R yy))) A46 rfl (by decide) rfl f5 d3_39 rfl (fun T90 h90 X90 W90 A90 => ?_)
    have K91 : Keep h0 h90 [t, lab] := (Keep.refl h0 [t, lab]).wr W90 (Or.inl (List.mem_of_getElem? (i := 1) rfl))
    have E92 := f0.wr W90
    have F93 := f1.other W90 (Or.inl f7)
    have A94 := f2.other W90 (Ne.symm f8)
    exact Cut40 T90 h90 X90 K91 E92 F93 A94 (AI.congr A90 (own_lbs hR hx hy (by decide) ((own_mn (own_R4 hR hx) (own_R4 hR hy)).trans (congrArg Int32.ofNat (own_hit (Or.inl (own_inj (own_R4 hR (by decide)) (own_R4 hR hx) (by rw [own_lbj] at c89; exact c89))))))))
  · refine Go.icmpNo C X45 (pc' := 27) d3_24 (feq c89).1 rfl ?_
    refine Go.aloadN C X45 (pc' := 28) d3_27 rfl rfl rfl ?_
    refine Go.iconst C X45 (pc' := 29) (v := (0 : Int32)) d3_28 rfl rfl ?_
    refine Go.iaload C X45 (pc' := 30) (i := 0) (w := (own_lb R xx yy 0 0)) A46 rfl (by decide) rfl d3_29 rfl ?_
    refine Go.iload C X45 (pc' := 32) d3_30 rfl rfl ?_
    by_cases c95 : (own_lb R xx yy 0 0) = (own_of R yy)
    · refine Go.icmpNo C X45 (pc' := 35) d3_32 (teq c95).2 rfl ?_
      refine Go.aloadN C X45 (pc' := 36) d3_35 rfl rfl rfl ?_
      refine Go.iconst C X45 (pc' := 37) (v := (0 : Int32)) d3_36 rfl rfl ?_
      refine Go.iload C X45 (pc' := 39) d3_37 rfl rfl ?_
      refine Go.iastore C X45 (pc' := 40) (i := 0) (x' := (own_f_rm_min (own_of R xx) (own_of R yy))) A46 rfl (by decide) rfl f5 d3_39 rfl (fun T96 h96 X96 W96 A96 => ?_)
      have K97 : Keep h0 h96 [t, lab] := (Keep.refl h0 [t, lab]).wr W96 (Or.inl (List.mem_of_getElem? (i := 1) rfl))
      have E98 := f0.wr W96
      have F99 := f1.other W96 (Or.inl f7)
      have A100 := f2.other W96 (Ne.symm f8)
      exact Cut40 T96 h96 X96 K97 E98 F99 A100 (AI.congr A96 (own_lbs hR hx hy (by decide) ((own_mn (own_R4 hR hx) (own_R4 hR hy)).trans (congrArg Int32.ofNat (own_hit (Or.inr (own_inj (own_R4 hR (by decide)) (own_R4 hR hy) (by rw [own_lbj] at c95; exact c95))))))))
    · refine Go.icmpYes C X45 (pc' := 40) d3_32 (feq c95).2 (by decide) (by decide) ?_
      exact Cut40 T45 h0 X45 (Keep.refl h0 [t, lab]) f0 f1 f2 (AI.congr A46 (own_lbn (own_missj (fun e => c89 (by rw [own_lbj]; exact congrArg Int32.ofNat e)) (fun e => c95 (by rw [own_lbj]; exact congrArg Int32.ofNat e)))))
theorem own_id (i : Nat) : own_rt (fun i => i) i = i := own_rt_root (by omega)
theorem own_a3 (x : Int32) : (x &&& (3 : Int32)).toInt = (((x &&& (3 : Int32)).toInt.toNat : Nat) : Int) ∧ (x &&& (3 : Int32)).toInt.toNat < 4 := by
  rcases own_and3 x with q | q | q | q <;> rw [q] <;> decide
theorem own_l0 : ∀ i, i < 4 → (fun q => if q = 3 then (3 : Int32) else (fun q => if q = 2 then (2 : Int32) else (fun q => if q = 1 then (1 : Int32) else (fun q => if q = 0 then (0 : Int32) else (fun _ => 0) q) q) q) q) i = own_of (fun i => i) i := by decide
theorem own_ef_rm0 (m : MethodId) (x0 : Int32) (x1 : Int32) : entryFrame m #[(.int x0), (.int x1)] maxLocals = mkF m 0 #[.val (.int x0), .val (.int x1), .unset, .unset, .unset, .unset] [] := by first | (simp [entryFrame, mkF, argsToLocals, Value.category, maxLocals]; done) | rfl
theorem own_pd3 : parseMethodDescriptor "(I)V" = some ⟨[.int], none⟩ := by decide +kernel
theorem own_pd4 : parseMethodDescriptor "(Lcom/example/happenets/happenets/net/Groups;[III)Z" = some ⟨[(.object "com/example/happenets/happenets/net/Groups"), (.array .int), .int, .int], some .boolean⟩ := by decide +kernel
set_option maxRecDepth 65536 in
set_option maxHeartbeats 40000000 in
theorem rm0 (l : Launch) (Z : State) (a0 : Array Value) (hw : ∀ d ∈ tables_1, d.before a0 Z = true) (x0 x1 : Int32) (h0 : Heap) (n0 : Nat) (Z0 : n0 ≤ h0.size)  :
    Con l Z x code maxLocals ret room_1 #[(.int x0), (.int x1)] h0 n0 (fun rv hv => rv = some (.int 1)) := by
  refine Con.enter (plainFor_of_name own_pn3) Z0 ?_
  intro p e s m below meth c T0 C hnm X0
  refine Go.cast (own_ef_rm0 m x0 x1) ?_
  refine Go.newO C X0 (pc' := 3) (hw _ (List.mem_of_getElem? (i := 0) rfl)) (hw _ (List.mem_of_getElem? (i := 1) rfl)) (hw _ (List.mem_of_getElem? (i := 2) rfl)) at_0 (by decide) (by decide) rfl (fun T101 h101 b101 X101 g101 E101 Ex101 D101 N101 => ?_)
  have F102 : Fld Z h101 b101 "com/example/happenets/happenets/net/Groups" "roots" "[I" .null := D101 (Or.inr (hw _ (List.mem_of_getElem? (i := 11) rfl))) (ty := (.array .int)) (by decide)
  refine Go.dup C X101 (pc' := 4) at_3 rfl rfl ?_
  refine Go.iconst C X101 (pc' := 5) (v := (4 : Int32)) at_4 rfl rfl ?_
  refine Go.callI C X101 (pc' := 8) (W := 1) (argsL := [(.int (4 : Int32))]) (rest := [(.ref b101)]) (a := b101) (rm_in l Z a0 hw b101 (4 : Int32)  h101 n0 X101.sz Ex101 F102 N101 rfl) rfl rfl (hw _ (List.mem_of_getElem? (i := 3) rfl)) (hw _ (List.mem_of_getElem? (i := 4) rfl)) (hw _ (List.mem_of_getElem? (i := 2) rfl)) (hw _ (List.mem_of_getElem? (i := 5) rfl)) (by decide) rfl rfl (lenOf own_pd3 rfl) rfl (Nat.le_of_eq rfl) (by decide) (by decide) (by decide) (by decide) at_5 rfl (fun _ _ q => by obtain ⟨_, _, _, K, _⟩ := q; exact K.1) (fun T103 h103 v103 X103 P103 => ?_)
  obtain ⟨t103, rfl, D103_t, K103, O103_0, O103_1, O103_2⟩ := P103
  have ne_b101_t103 : b101 ≠ t103 := Nat.ne_of_lt (Nat.lt_of_lt_of_le Ex101.lt D103_t)
  have N_t103 : n0 ≤ t103 := Nat.le_trans X101.sz D103_t
  have E104 := Ex101.keep K103
  show Go p e below s n0 _ _ _ T103 (mkF m 8 #[.val (.int x0), .val (.int x1), .unset, .unset, .unset, .unset] [(.ref b101)])
  refine Go.astoreN C X103 (pc' := 9) (Ls' := #[.val (.int x0), .val (.int x1), .val (.ref b101), .unset, .unset, .unset]) at_8 rfl rfl rfl ?_
  refine Go.iconst C X103 (pc' := 10) (v := (4 : Int32)) at_9 rfl rfl ?_
  refine Go.newP C X103 (pc' := 12) (nn := 4) (cap := 4) (hw _ (List.mem_of_getElem? (i := 9) rfl)) at_10 rfl (by decide) (by decide) (by decide) (by decide) rfl (fun T105 h105 b105 k105 X105 g105 E105 Ar105 N105 => ?_)
  have ne_b101_b105 : b101 ≠ b105 := Nat.ne_of_lt (Nat.lt_of_lt_of_eq O103_0.lt g105.symm)
  have ne_t103_b105 : t103 ≠ b105 := Nat.ne_of_lt (Nat.lt_of_lt_of_eq O103_2.lt g105.symm)
  have E106 := O103_0.ext E105
  have F107 := O103_1.ext E105
  have A108 := O103_2.ext E105
  have A105 : AI Z h105 b105 .int 4 (fun _ => 0) := AI.new rfl rfl Ar105
  refine Go.dup C X105 (pc' := 13) at_12 rfl rfl ?_
  refine Go.iconst C X105 (pc' := 14) (v := (0 : Int32)) at_13 rfl rfl ?_
  refine Go.iconst C X105 (pc' := 15) (v := (0 : Int32)) at_14 rfl rfl ?_
  refine Go.iastore C X105 (pc' := 16) (i := 0) (x' := (0 : Int32)) A105 rfl (by decide) rfl N105 at_15 rfl (fun T109 h109 X109 W109 A109 => ?_)
  have E110 := E106.wr W109
  have F111 := F107.other W109 (Or.inl ne_b101_b105)
  have A112 := A108.other W109 ne_t103_b105
  refine Go.dup C X109 (pc' := 17) at_16 rfl rfl ?_
  refine Go.iconst C X109 (pc' := 18) (v := (1 : Int32)) at_17 rfl rfl ?_
  refine Go.iconst C X109 (pc' := 19) (v := (1 : Int32)) at_18 rfl rfl ?_
  refine Go.iastore C X109 (pc' := 20) (i := 1) (x' := (1 : Int32)) A109 rfl (by decide) rfl N105 at_19 rfl (fun T113 h113 X113 W113 A113 => ?_)
  have E114 := E110.wr W113
  have F115 := F111.other W113 (Or.inl ne_b101_b105)
  have A116 := A112.other W113 ne_t103_b105
  refine Go.dup C X113 (pc' := 21) at_20 rfl rfl ?_
  refine Go.iconst C X113 (pc' := 22) (v := (2 : Int32)) at_21 rfl rfl ?_
  refine Go.iconst C X113 (pc' := 23) (v := (2 : Int32)) at_22 rfl rfl ?_
  refine Go.iastore C X113 (pc' := 24) (i := 2) (x' := (2 : Int32)) A113 rfl (by decide) rfl N105 at_23 rfl (fun T117 h117 X117 W117 A117 => ?_)
  have E118 := E114.wr W117
  have F119 := F115.other W117 (Or.inl ne_b101_b105)
  have A120 := A116.other W117 ne_t103_b105
  refine Go.dup C X117 (pc' := 25) at_24 rfl rfl ?_
  refine Go.iconst C X117 (pc' := 26) (v := (3 : Int32)) at_25 rfl rfl ?_
  refine Go.iconst C X117 (pc' := 27) (v := (3 : Int32)) at_26 rfl rfl ?_
  refine Go.iastore C X117 (pc' := 28) (i := 3) (x' := (3 : Int32)) A117 rfl (by decide) rfl N105 at_27 rfl (fun T121 h121 X121 W121 A121 => ?_)
  have E122 := E118.wr W121
  have F123 := F119.other W121 (Or.inl ne_b101_b105)
  have A124 := A120.other W121 ne_t103_b105
  have A125 : AI Z h121 b105 .int 4 (own_of (fun i => i)) := AI.congr A121 own_l0
  refine Go.astoreN C X121 (pc' := 29) (Ls' := #[.val (.int x0), .val (.int x1), .val (.ref b101), .val (.ref b105), .unset, .unset]) at_28 rfl rfl rfl ?_
  refine Go.iconst C X121 (pc' := 30) (v := (1 : Int32)) at_29 rfl rfl ?_
  refine Go.istore C X121 (pc' := 32) (Ls' := #[.val (.int x0), .val (.int x1), .val (.ref b101), .val (.ref b105), .val (.int (1 : Int32)), .unset]) at_30 rfl rfl ?_
  refine Go.iload C X121 (pc' := 34) at_32 rfl rfl ?_
  refine Go.aloadN C X121 (pc' := 35) at_34 rfl rfl rfl ?_
  refine Go.aloadN C X121 (pc' := 36) at_35 rfl rfl rfl ?_
  refine Go.iloadN C X121 (pc' := 37) at_36 rfl rfl ?_
  refine Go.iconst C X121 (pc' := 38) (v := (3 : Int32)) at_37 rfl rfl ?_
  refine Go.iand C X121 (pc' := 39) at_38 rfl ?_
  refine Go.iloadN C X121 (pc' := 40) at_39 rfl rfl ?_
  refine Go.iconst C X121 (pc' := 41) (v := (2 : Int32)) at_40 rfl rfl ?_
  refine Go.iushr C X121 (pc' := 42) at_41 rfl ?_
  refine Go.iconst C X121 (pc' := 43) (v := (3 : Int32)) at_42 rfl rfl ?_
  refine Go.iand C X121 (pc' := 44) at_43 rfl ?_
  refine Go.callS C X121 (pc' := 47) (W := 1) (argsL := [(.ref b101), (.ref b105), (.int (x0 &&& (3 : Int32))), (.int (((x0).toUInt32 >>> ((2 : Int32) &&& 31).toUInt32).toInt32 &&& (3 : Int32)))]) (rest := [(.int (1 : Int32))]) (rm_st l Z a0 hw b101 b105 (x0 &&& (3 : Int32)) (((x0).toUInt32 >>> ((2 : Int32) &&& 31).toUInt32).toInt32 &&& (3 : Int32)) t103 (fun i => i) (fun i => i) ((x0 &&& (3 : Int32)).toInt.toNat) ((((x0).toUInt32 >>> ((2 : Int32) &&& 31).toUInt32).toInt32 &&& (3 : Int32)).toInt.toNat) h121 n0 X121.sz E122 F123 A124 A125 N_t103 N105 ne_b101_t103 ne_b101_b105 (Ne.symm ne_t103_b105) (fun i _ => Nat.le_refl i) (fun i _ => own_id i) (own_a3 (x0)).1 (own_a3 (x0)).2 (own_a3 (((x0).toUInt32 >>> ((2 : Int32) &&& 31).toUInt32).toInt32)).1 (own_a3 (((x0).toUInt32 >>> ((2 : Int32) &&& 31).toUInt32).toInt32)).2) (hw _ (List.mem_of_getElem? (i := 12) rfl)) (hw _ (List.mem_of_getElem? (i := 13) rfl)) (hw _ (List.mem_of_getElem? (i := 14) rfl)) (hw _ (List.mem_of_getElem? (i := 15) rfl)) (by decide) rfl rfl (lenOf own_pd4 rfl) rfl (Nat.le_of_eq rfl) (by decide) (by decide) (by decide) (by decide) at_44 rfl (fun _ _ q => by obtain ⟨_, _, _, K, _⟩ := q; exact K.1) (fun T126 h126 v126 X126 P126 => ?_)
  obtain ⟨g1126, R1126, rfl, K126, O126_0, O126_1, Y126_0, Y126_1⟩ := P126
  have E127 := E122.keep K126
  have F128 := F123.keep K126 (ninS ne_b101_t103 (ninS ne_b101_b105 nin0))
  show Go p e below s n0 _ _ _ T126 (mkF m 47 #[.val (.int x0), .val (.int x1), .val (.ref b101), .val (.ref b105), .val (.int (1 : Int32)), .unset] [(.int (1 : Int32)), (.int (1 : Int32))])
  refine Go.iand C X126 (pc' := 48) at_47 rfl ?_
  refine Go.istore C X126 (pc' := 50) (Ls' := #[.val (.int x0), .val (.int x1), .val (.ref b101), .val (.ref b105), .val (.int ((1 : Int32) &&& (1 : Int32))), .unset]) at_48 rfl rfl ?_
  refine Go.iload C X126 (pc' := 52) at_50 rfl rfl ?_
  refine Go.aloadN C X126 (pc' := 53) at_52 rfl rfl rfl ?_
  refine Go.aloadN C X126 (pc' := 54) at_53 rfl rfl rfl ?_
  refine Go.iloadN C X126 (pc' := 55) at_54 rfl rfl ?_
  refine Go.iconst C X126 (pc' := 56) (v := (4 : Int32)) at_55 rfl rfl ?_
  refine Go.iushr C X126 (pc' := 57) at_56 rfl ?_
  refine Go.iconst C X126 (pc' := 58) (v := (3 : Int32)) at_57 rfl rfl ?_
  refine Go.iand C X126 (pc' := 59) at_58 rfl ?_
  refine Go.iloadN C X126 (pc' := 60) at_59 rfl rfl ?_
  refine Go.bipush C X126 (pc' := 62) (v := (6 : Int32)) at_60 rfl rfl ?_
  refine Go.iushr C X126 (pc' := 63) at_62 rfl ?_
  refine Go.iconst C X126 (pc' := 64) (v := (3 : Int32)) at_63 rfl rfl ?_
  refine Go.iand C X126 (pc' := 65) at_64 rfl ?_
  refine Go.callS C X126 (pc' := 68) (W := 1) (argsL := [(.ref b101), (.ref b105), (.int (((x0).toUInt32 >>> ((4 : Int32) &&& 31).toUInt32).toInt32 &&& (3 : Int32))), (.int (((x0).toUInt32 >>> ((6 : Int32) &&& 31).toUInt32).toInt32 &&& (3 : Int32)))]) (rest := [(.int ((1 : Int32) &&& (1 : Int32)))]) (rm_st l Z a0 hw b101 b105 (((x0).toUInt32 >>> ((4 : Int32) &&& 31).toUInt32).toInt32 &&& (3 : Int32)) (((x0).toUInt32 >>> ((6 : Int32) &&& 31).toUInt32).toInt32 &&& (3 : Int32)) t103 g1126 R1126 ((((x0).toUInt32 >>> ((4 : Int32) &&& 31).toUInt32).toInt32 &&& (3 : Int32)).toInt.toNat) ((((x0).toUInt32 >>> ((6 : Int32) &&& 31).toUInt32).toInt32 &&& (3 : Int32)).toInt.toNat) h126 n0 X126.sz E127 F128 O126_0 O126_1 N_t103 N105 ne_b101_t103 ne_b101_b105 (Ne.symm ne_t103_b105) Y126_0 Y126_1 (own_a3 (((x0).toUInt32 >>> ((4 : Int32) &&& 31).toUInt32).toInt32)).1 (own_a3 (((x0).toUInt32 >>> ((4 : Int32) &&& 31).toUInt32).toInt32)).2 (own_a3 (((x0).toUInt32 >>> ((6 : Int32) &&& 31).toUInt32).toInt32)).1 (own_a3 (((x0).toUInt32 >>> ((6 : Int32) &&& 31).toUInt32).toInt32)).2) (hw _ (List.mem_of_getElem? (i := 12) rfl)) (hw _ (List.mem_of_getElem? (i := 13) rfl)) (hw _ (List.mem_of_getElem? (i := 14) rfl)) (hw _ (List.mem_of_getElem? (i := 15) rfl)) (by decide) rfl rfl (lenOf own_pd4 rfl) rfl (Nat.le_of_eq rfl) (by decide) (by decide) (by decide) (by decide) at_65 rfl (fun _ _ q => by obtain ⟨_, _, _, K, _⟩ := q; exact K.1) (fun T129 h129 v129 X129 P129 => ?_)
  obtain ⟨g1129, R1129, rfl, K129, O129_0, O129_1, Y129_0, Y129_1⟩ := P129
  have E130 := E127.keep K129
  have F131 := F128.keep K129 (ninS ne_b101_t103 (ninS ne_b101_b105 nin0))
  show Go p e below s n0 _ _ _ T129 (mkF m 68 #[.val (.int x0), .val (.int x1), .val (.ref b101), .val (.ref b105), .val (.int ((1 : Int32) &&& (1 : Int32))), .unset] [(.int (1 : Int32)), (.int ((1 : Int32) &&& (1 : Int32)))])
  refine Go.iand C X129 (pc' := 69) at_68 rfl ?_
  refine Go.istore C X129 (pc' := 71) (Ls' := #[.val (.int x0), .val (.int x1), .val (.ref b101), .val (.ref b105), .val (.int (((1 : Int32) &&& (1 : Int32)) &&& (1 : Int32))), .unset]) at_69 rfl rfl ?_
  refine Go.iload C X129 (pc' := 73) at_71 rfl rfl ?_
  refine Go.aloadN C X129 (pc' := 74) at_73 rfl rfl rfl ?_
  refine Go.aloadN C X129 (pc' := 75) at_74 rfl rfl rfl ?_
  refine Go.iloadN C X129 (pc' := 76) at_75 rfl rfl ?_
  refine Go.bipush C X129 (pc' := 78) (v := (8 : Int32)) at_76 rfl rfl ?_
  refine Go.iushr C X129 (pc' := 79) at_78 rfl ?_
  refine Go.iconst C X129 (pc' := 80) (v := (3 : Int32)) at_79 rfl rfl ?_
  refine Go.iand C X129 (pc' := 81) at_80 rfl ?_
  refine Go.iloadN C X129 (pc' := 82) at_81 rfl rfl ?_
  refine Go.bipush C X129 (pc' := 84) (v := (10 : Int32)) at_82 rfl rfl ?_
  refine Go.iushr C X129 (pc' := 85) at_84 rfl ?_
  refine Go.iconst C X129 (pc' := 86) (v := (3 : Int32)) at_85 rfl rfl ?_
  refine Go.iand C X129 (pc' := 87) at_86 rfl ?_
  refine Go.callS C X129 (pc' := 90) (W := 1) (argsL := [(.ref b101), (.ref b105), (.int (((x0).toUInt32 >>> ((8 : Int32) &&& 31).toUInt32).toInt32 &&& (3 : Int32))), (.int (((x0).toUInt32 >>> ((10 : Int32) &&& 31).toUInt32).toInt32 &&& (3 : Int32)))]) (rest := [(.int (((1 : Int32) &&& (1 : Int32)) &&& (1 : Int32)))]) (rm_st l Z a0 hw b101 b105 (((x0).toUInt32 >>> ((8 : Int32) &&& 31).toUInt32).toInt32 &&& (3 : Int32)) (((x0).toUInt32 >>> ((10 : Int32) &&& 31).toUInt32).toInt32 &&& (3 : Int32)) t103 g1129 R1129 ((((x0).toUInt32 >>> ((8 : Int32) &&& 31).toUInt32).toInt32 &&& (3 : Int32)).toInt.toNat) ((((x0).toUInt32 >>> ((10 : Int32) &&& 31).toUInt32).toInt32 &&& (3 : Int32)).toInt.toNat) h129 n0 X129.sz E130 F131 O129_0 O129_1 N_t103 N105 ne_b101_t103 ne_b101_b105 (Ne.symm ne_t103_b105) Y129_0 Y129_1 (own_a3 (((x0).toUInt32 >>> ((8 : Int32) &&& 31).toUInt32).toInt32)).1 (own_a3 (((x0).toUInt32 >>> ((8 : Int32) &&& 31).toUInt32).toInt32)).2 (own_a3 (((x0).toUInt32 >>> ((10 : Int32) &&& 31).toUInt32).toInt32)).1 (own_a3 (((x0).toUInt32 >>> ((10 : Int32) &&& 31).toUInt32).toInt32)).2) (hw _ (List.mem_of_getElem? (i := 12) rfl)) (hw _ (List.mem_of_getElem? (i := 13) rfl)) (hw _ (List.mem_of_getElem? (i := 14) rfl)) (hw _ (List.mem_of_getElem? (i := 15) rfl)) (by decide) rfl rfl (lenOf own_pd4 rfl) rfl (Nat.le_of_eq rfl) (by decide) (by decide) (by decide) (by decide) at_87 rfl (fun _ _ q => by obtain ⟨_, _, _, K, _⟩ := q; exact K.1) (fun T132 h132 v132 X132 P132 => ?_)
  obtain ⟨g1132, R1132, rfl, K132, O132_0, O132_1, Y132_0, Y132_1⟩ := P132
  have E133 := E130.keep K132
  have F134 := F131.keep K132 (ninS ne_b101_t103 (ninS ne_b101_b105 nin0))
  show Go p e below s n0 _ _ _ T132 (mkF m 90 #[.val (.int x0), .val (.int x1), .val (.ref b101), .val (.ref b105), .val (.int (((1 : Int32) &&& (1 : Int32)) &&& (1 : Int32))), .unset] [(.int (1 : Int32)), (.int (((1 : Int32) &&& (1 : Int32)) &&& (1 : Int32)))])
  refine Go.iand C X132 (pc' := 91) at_90 rfl ?_
  refine Go.istore C X132 (pc' := 93) (Ls' := #[.val (.int x0), .val (.int x1), .val (.ref b101), .val (.ref b105), .val (.int ((((1 : Int32) &&& (1 : Int32)) &&& (1 : Int32)) &&& (1 : Int32))), .unset]) at_91 rfl rfl ?_
  refine Go.iloadN C X132 (pc' := 94) at_93 rfl rfl ?_
  refine Go.iconst C X132 (pc' := 95) (v := (3 : Int32)) at_94 rfl rfl ?_
  refine Go.iand C X132 (pc' := 96) at_95 rfl ?_
  refine Go.istore C X132 (pc' := 98) (Ls' := #[.val (.int x0), .val (.int x1), .val (.ref b101), .val (.ref b105), .val (.int ((((1 : Int32) &&& (1 : Int32)) &&& (1 : Int32)) &&& (1 : Int32))), .val (.int (x1 &&& (3 : Int32)))]) at_96 rfl rfl ?_
  refine Go.iload C X132 (pc' := 100) at_98 rfl rfl ?_
  refine Go.aloadN C X132 (pc' := 101) at_100 rfl rfl rfl ?_
  refine Go.iload C X132 (pc' := 103) at_101 rfl rfl ?_
  refine Go.callV C X132 (pc' := 106) (W := 1) (argsL := [(.int (x1 &&& (3 : Int32)))]) (rest := [(.int ((((1 : Int32) &&& (1 : Int32)) &&& (1 : Int32)) &&& (1 : Int32)))]) (a := b101) (rm_rt l Z a0 hw b101 (x1 &&& (3 : Int32)) t103 g1132 R1132 ((x1 &&& (3 : Int32)).toInt.toNat) h132 n0 X132.sz F134 O132_0 N_t103 ne_b101_t103 Y132_0 Y132_1 (own_a3 (x1)).1 (own_a3 (x1)).2) E133 (notFace_of_selects (args := #[]) (mvT C.2.1 (hw _ (List.mem_of_getElem? (i := 28) rfl)))) (hw _ (List.mem_of_getElem? (i := 34) rfl)) (hw _ (List.mem_of_getElem? (i := 26) rfl)) (hw _ (List.mem_of_getElem? (i := 28) rfl)) (hw _ (List.mem_of_getElem? (i := 27) rfl)) (hw _ (List.mem_of_getElem? (i := 2) rfl)) (hw _ (List.mem_of_getElem? (i := 29) rfl)) (by decide) rfl rfl (lenOf own_pd0 rfl) rfl (Nat.le_of_eq rfl) (by decide) (by decide) (by decide) (by decide) at_103 rfl (fun _ _ q => by obtain ⟨_, _, K, _⟩ := q; exact K.1) (fun T135 h135 v135 X135 P135 => ?_)
  obtain ⟨g1135, rfl, K135, O135_0, Y135_0, Y135_1⟩ := P135
  have E136 := E133.keep K135
  have F137 := F134.keep K135 (ninS ne_b101_t103 nin0)
  have A138 := O132_1.keep K135 (ninS (Ne.symm ne_t103_b105) nin0)
  show Go p e below s n0 _ _ _ T135 (mkF m 106 #[.val (.int x0), .val (.int x1), .val (.ref b101), .val (.ref b105), .val (.int ((((1 : Int32) &&& (1 : Int32)) &&& (1 : Int32)) &&& (1 : Int32))), .val (.int (x1 &&& (3 : Int32)))] [(.int (Int32.ofNat (R1132 (x1 &&& (3 : Int32)).toInt.toNat))), (.int ((((1 : Int32) &&& (1 : Int32)) &&& (1 : Int32)) &&& (1 : Int32)))])
  refine Go.aloadN C X135 (pc' := 107) at_106 rfl rfl rfl ?_
  refine Go.iload C X135 (pc' := 109) at_107 rfl rfl ?_
  refine Go.iaload C X135 (pc' := 110) (i := (x1 &&& (3 : Int32)).toInt.toNat) (w := (own_of R1132 (x1 &&& (3 : Int32)).toInt.toNat)) A138 (own_a3 (x1)).1 (own_a3 (x1)).2 rfl at_109 rfl ?_
  refine Go.icmpNo C X135 (pc' := 113) at_110 (teq rfl).2 rfl ?_
  refine Go.iconst C X135 (pc' := 114) (v := (1 : Int32)) at_113 rfl rfl ?_
  refine Go.goto C X135 (pc' := 118) at_114 (by decide) (by decide) ?_
  refine Go.iand C X135 (pc' := 119) at_118 rfl ?_
  refine Go.istore C X135 (pc' := 121) (Ls' := #[.val (.int x0), .val (.int x1), .val (.ref b101), .val (.ref b105), .val (.int (((((1 : Int32) &&& (1 : Int32)) &&& (1 : Int32)) &&& (1 : Int32)) &&& (1 : Int32))), .val (.int (x1 &&& (3 : Int32)))]) at_119 rfl rfl ?_
  refine Go.iload C X135 (pc' := 123) at_121 rfl rfl ?_
  refine Go.aloadN C X135 (pc' := 124) at_123 rfl rfl rfl ?_
  refine Go.iconst C X135 (pc' := 125) (v := (0 : Int32)) at_124 rfl rfl ?_
  refine Go.callV C X135 (pc' := 128) (W := 1) (argsL := [(.int (0 : Int32))]) (rest := [(.int (((((1 : Int32) &&& (1 : Int32)) &&& (1 : Int32)) &&& (1 : Int32)) &&& (1 : Int32)))]) (a := b101) (rm_rt l Z a0 hw b101 (0 : Int32) t103 g1135 R1132 0 h135 n0 X135.sz F137 O135_0 N_t103 ne_b101_t103 Y135_0 Y135_1 rfl (by decide)) E136 (notFace_of_selects (args := #[]) (mvT C.2.1 (hw _ (List.mem_of_getElem? (i := 28) rfl)))) (hw _ (List.mem_of_getElem? (i := 34) rfl)) (hw _ (List.mem_of_getElem? (i := 26) rfl)) (hw _ (List.mem_of_getElem? (i := 28) rfl)) (hw _ (List.mem_of_getElem? (i := 27) rfl)) (hw _ (List.mem_of_getElem? (i := 2) rfl)) (hw _ (List.mem_of_getElem? (i := 29) rfl)) (by decide) rfl rfl (lenOf own_pd0 rfl) rfl (Nat.le_of_eq rfl) (by decide) (by decide) (by decide) (by decide) at_125 rfl (fun _ _ q => by obtain ⟨_, _, K, _⟩ := q; exact K.1) (fun T139 h139 v139 X139 P139 => ?_)
  obtain ⟨g1139, rfl, K139, O139_0, Y139_0, Y139_1⟩ := P139
  have E140 := E136.keep K139
  have F141 := F137.keep K139 (ninS ne_b101_t103 nin0)
  have A142 := A138.keep K139 (ninS (Ne.symm ne_t103_b105) nin0)
  show Go p e below s n0 _ _ _ T139 (mkF m 128 #[.val (.int x0), .val (.int x1), .val (.ref b101), .val (.ref b105), .val (.int (((((1 : Int32) &&& (1 : Int32)) &&& (1 : Int32)) &&& (1 : Int32)) &&& (1 : Int32))), .val (.int (x1 &&& (3 : Int32)))] [(.int (Int32.ofNat (R1132 0))), (.int (((((1 : Int32) &&& (1 : Int32)) &&& (1 : Int32)) &&& (1 : Int32)) &&& (1 : Int32)))])
  refine Go.aloadN C X139 (pc' := 129) at_128 rfl rfl rfl ?_
  refine Go.iconst C X139 (pc' := 130) (v := (0 : Int32)) at_129 rfl rfl ?_
  refine Go.iaload C X139 (pc' := 131) (i := 0) (w := (own_of R1132 0)) A142 rfl (by decide) rfl at_130 rfl ?_
  refine Go.icmpNo C X139 (pc' := 134) at_131 (teq rfl).2 rfl ?_
  refine Go.iconst C X139 (pc' := 135) (v := (1 : Int32)) at_134 rfl rfl ?_
  refine Go.goto C X139 (pc' := 139) at_135 (by decide) (by decide) ?_
  refine Go.iand C X139 (pc' := 140) at_139 rfl ?_
  refine Go.istore C X139 (pc' := 142) (Ls' := #[.val (.int x0), .val (.int x1), .val (.ref b101), .val (.ref b105), .val (.int ((((((1 : Int32) &&& (1 : Int32)) &&& (1 : Int32)) &&& (1 : Int32)) &&& (1 : Int32)) &&& (1 : Int32))), .val (.int (x1 &&& (3 : Int32)))]) at_140 rfl rfl ?_
  refine Go.iload C X139 (pc' := 144) at_142 rfl rfl ?_
  refine Go.aloadN C X139 (pc' := 145) at_144 rfl rfl rfl ?_
  refine Go.iconst C X139 (pc' := 146) (v := (1 : Int32)) at_145 rfl rfl ?_
  refine Go.callV C X139 (pc' := 149) (W := 1) (argsL := [(.int (1 : Int32))]) (rest := [(.int ((((((1 : Int32) &&& (1 : Int32)) &&& (1 : Int32)) &&& (1 : Int32)) &&& (1 : Int32)) &&& (1 : Int32)))]) (a := b101) (rm_rt l Z a0 hw b101 (1 : Int32) t103 g1139 R1132 1 h139 n0 X139.sz F141 O139_0 N_t103 ne_b101_t103 Y139_0 Y139_1 rfl (by decide)) E140 (notFace_of_selects (args := #[]) (mvT C.2.1 (hw _ (List.mem_of_getElem? (i := 28) rfl)))) (hw _ (List.mem_of_getElem? (i := 34) rfl)) (hw _ (List.mem_of_getElem? (i := 26) rfl)) (hw _ (List.mem_of_getElem? (i := 28) rfl)) (hw _ (List.mem_of_getElem? (i := 27) rfl)) (hw _ (List.mem_of_getElem? (i := 2) rfl)) (hw _ (List.mem_of_getElem? (i := 29) rfl)) (by decide) rfl rfl (lenOf own_pd0 rfl) rfl (Nat.le_of_eq rfl) (by decide) (by decide) (by decide) (by decide) at_146 rfl (fun _ _ q => by obtain ⟨_, _, K, _⟩ := q; exact K.1) (fun T143 h143 v143 X143 P143 => ?_)
  obtain ⟨g1143, rfl, K143, O143_0, Y143_0, Y143_1⟩ := P143
  have E144 := E140.keep K143
  have F145 := F141.keep K143 (ninS ne_b101_t103 nin0)
  have A146 := A142.keep K143 (ninS (Ne.symm ne_t103_b105) nin0)
  show Go p e below s n0 _ _ _ T143 (mkF m 149 #[.val (.int x0), .val (.int x1), .val (.ref b101), .val (.ref b105), .val (.int ((((((1 : Int32) &&& (1 : Int32)) &&& (1 : Int32)) &&& (1 : Int32)) &&& (1 : Int32)) &&& (1 : Int32))), .val (.int (x1 &&& (3 : Int32)))] [(.int (Int32.ofNat (R1132 1))), (.int ((((((1 : Int32) &&& (1 : Int32)) &&& (1 : Int32)) &&& (1 : Int32)) &&& (1 : Int32)) &&& (1 : Int32)))])
  refine Go.aloadN C X143 (pc' := 150) at_149 rfl rfl rfl ?_
  refine Go.iconst C X143 (pc' := 151) (v := (1 : Int32)) at_150 rfl rfl ?_
  refine Go.iaload C X143 (pc' := 152) (i := 1) (w := (own_of R1132 1)) A146 rfl (by decide) rfl at_151 rfl ?_
  refine Go.icmpNo C X143 (pc' := 155) at_152 (teq rfl).2 rfl ?_
  refine Go.iconst C X143 (pc' := 156) (v := (1 : Int32)) at_155 rfl rfl ?_
  refine Go.goto C X143 (pc' := 160) at_156 (by decide) (by decide) ?_
  refine Go.iand C X143 (pc' := 161) at_160 rfl ?_
  refine Go.istore C X143 (pc' := 163) (Ls' := #[.val (.int x0), .val (.int x1), .val (.ref b101), .val (.ref b105), .val (.int (((((((1 : Int32) &&& (1 : Int32)) &&& (1 : Int32)) &&& (1 : Int32)) &&& (1 : Int32)) &&& (1 : Int32)) &&& (1 : Int32))), .val (.int (x1 &&& (3 : Int32)))]) at_161 rfl rfl ?_
  refine Go.iload C X143 (pc' := 165) at_163 rfl rfl ?_
  refine Go.aloadN C X143 (pc' := 166) at_165 rfl rfl rfl ?_
  refine Go.iconst C X143 (pc' := 167) (v := (2 : Int32)) at_166 rfl rfl ?_
  refine Go.callV C X143 (pc' := 170) (W := 1) (argsL := [(.int (2 : Int32))]) (rest := [(.int (((((((1 : Int32) &&& (1 : Int32)) &&& (1 : Int32)) &&& (1 : Int32)) &&& (1 : Int32)) &&& (1 : Int32)) &&& (1 : Int32)))]) (a := b101) (rm_rt l Z a0 hw b101 (2 : Int32) t103 g1143 R1132 2 h143 n0 X143.sz F145 O143_0 N_t103 ne_b101_t103 Y143_0 Y143_1 rfl (by decide)) E144 (notFace_of_selects (args := #[]) (mvT C.2.1 (hw _ (List.mem_of_getElem? (i := 28) rfl)))) (hw _ (List.mem_of_getElem? (i := 34) rfl)) (hw _ (List.mem_of_getElem? (i := 26) rfl)) (hw _ (List.mem_of_getElem? (i := 28) rfl)) (hw _ (List.mem_of_getElem? (i := 27) rfl)) (hw _ (List.mem_of_getElem? (i := 2) rfl)) (hw _ (List.mem_of_getElem? (i := 29) rfl)) (by decide) rfl rfl (lenOf own_pd0 rfl) rfl (Nat.le_of_eq rfl) (by decide) (by decide) (by decide) (by decide) at_167 rfl (fun _ _ q => by obtain ⟨_, _, K, _⟩ := q; exact K.1) (fun T147 h147 v147 X147 P147 => ?_)
  obtain ⟨g1147, rfl, K147, O147_0, Y147_0, Y147_1⟩ := P147
  have E148 := E144.keep K147
  have F149 := F145.keep K147 (ninS ne_b101_t103 nin0)
  have A150 := A146.keep K147 (ninS (Ne.symm ne_t103_b105) nin0)
  show Go p e below s n0 _ _ _ T147 (mkF m 170 #[.val (.int x0), .val (.int x1), .val (.ref b101), .val (.ref b105), .val (.int (((((((1 : Int32) &&& (1 : Int32)) &&& (1 : Int32)) &&& (1 : Int32)) &&& (1 : Int32)) &&& (1 : Int32)) &&& (1 : Int32))), .val (.int (x1 &&& (3 : Int32)))] [(.int (Int32.ofNat (R1132 2))), (.int (((((((1 : Int32) &&& (1 : Int32)) &&& (1 : Int32)) &&& (1 : Int32)) &&& (1 : Int32)) &&& (1 : Int32)) &&& (1 : Int32)))])
  refine Go.aloadN C X147 (pc' := 171) at_170 rfl rfl rfl ?_
  refine Go.iconst C X147 (pc' := 172) (v := (2 : Int32)) at_171 rfl rfl ?_
  refine Go.iaload C X147 (pc' := 173) (i := 2) (w := (own_of R1132 2)) A150 rfl (by decide) rfl at_172 rfl ?_
  refine Go.icmpNo C X147 (pc' := 176) at_173 (teq rfl).2 rfl ?_
  refine Go.iconst C X147 (pc' := 177) (v := (1 : Int32)) at_176 rfl rfl ?_
  refine Go.goto C X147 (pc' := 181) at_177 (by decide) (by decide) ?_
  refine Go.iand C X147 (pc' := 182) at_181 rfl ?_
  refine Go.istore C X147 (pc' := 184) (Ls' := #[.val (.int x0), .val (.int x1), .val (.ref b101), .val (.ref b105), .val (.int ((((((((1 : Int32) &&& (1 : Int32)) &&& (1 : Int32)) &&& (1 : Int32)) &&& (1 : Int32)) &&& (1 : Int32)) &&& (1 : Int32)) &&& (1 : Int32))), .val (.int (x1 &&& (3 : Int32)))]) at_182 rfl rfl ?_
  refine Go.iload C X147 (pc' := 186) at_184 rfl rfl ?_
  refine Go.aloadN C X147 (pc' := 187) at_186 rfl rfl rfl ?_
  refine Go.iconst C X147 (pc' := 188) (v := (3 : Int32)) at_187 rfl rfl ?_
  refine Go.callV C X147 (pc' := 191) (W := 1) (argsL := [(.int (3 : Int32))]) (rest := [(.int ((((((((1 : Int32) &&& (1 : Int32)) &&& (1 : Int32)) &&& (1 : Int32)) &&& (1 : Int32)) &&& (1 : Int32)) &&& (1 : Int32)) &&& (1 : Int32)))]) (a := b101) (rm_rt l Z a0 hw b101 (3 : Int32) t103 g1147 R1132 3 h147 n0 X147.sz F149 O147_0 N_t103 ne_b101_t103 Y147_0 Y147_1 rfl (by decide)) E148 (notFace_of_selects (args := #[]) (mvT C.2.1 (hw _ (List.mem_of_getElem? (i := 28) rfl)))) (hw _ (List.mem_of_getElem? (i := 34) rfl)) (hw _ (List.mem_of_getElem? (i := 26) rfl)) (hw _ (List.mem_of_getElem? (i := 28) rfl)) (hw _ (List.mem_of_getElem? (i := 27) rfl)) (hw _ (List.mem_of_getElem? (i := 2) rfl)) (hw _ (List.mem_of_getElem? (i := 29) rfl)) (by decide) rfl rfl (lenOf own_pd0 rfl) rfl (Nat.le_of_eq rfl) (by decide) (by decide) (by decide) (by decide) at_188 rfl (fun _ _ q => by obtain ⟨_, _, K, _⟩ := q; exact K.1) (fun T151 h151 v151 X151 P151 => ?_)
  obtain ⟨g1151, rfl, K151, O151_0, Y151_0, Y151_1⟩ := P151
  have E152 := E148.keep K151
  have F153 := F149.keep K151 (ninS ne_b101_t103 nin0)
  have A154 := A150.keep K151 (ninS (Ne.symm ne_t103_b105) nin0)
  show Go p e below s n0 _ _ _ T151 (mkF m 191 #[.val (.int x0), .val (.int x1), .val (.ref b101), .val (.ref b105), .val (.int ((((((((1 : Int32) &&& (1 : Int32)) &&& (1 : Int32)) &&& (1 : Int32)) &&& (1 : Int32)) &&& (1 : Int32)) &&& (1 : Int32)) &&& (1 : Int32))), .val (.int (x1 &&& (3 : Int32)))] [(.int (Int32.ofNat (R1132 3))), (.int ((((((((1 : Int32) &&& (1 : Int32)) &&& (1 : Int32)) &&& (1 : Int32)) &&& (1 : Int32)) &&& (1 : Int32)) &&& (1 : Int32)) &&& (1 : Int32)))])
  refine Go.aloadN C X151 (pc' := 192) at_191 rfl rfl rfl ?_
  refine Go.iconst C X151 (pc' := 193) (v := (3 : Int32)) at_192 rfl rfl ?_
  refine Go.iaload C X151 (pc' := 194) (i := 3) (w := (own_of R1132 3)) A154 rfl (by decide) rfl at_193 rfl ?_
  refine Go.icmpNo C X151 (pc' := 197) at_194 (teq rfl).2 rfl ?_
  refine Go.iconst C X151 (pc' := 198) (v := (1 : Int32)) at_197 rfl rfl ?_
  refine Go.goto C X151 (pc' := 202) at_198 (by decide) (by decide) ?_
  refine Go.iand C X151 (pc' := 203) at_202 rfl ?_
  refine Go.istore C X151 (pc' := 205) (Ls' := #[.val (.int x0), .val (.int x1), .val (.ref b101), .val (.ref b105), .val (.int (((((((((1 : Int32) &&& (1 : Int32)) &&& (1 : Int32)) &&& (1 : Int32)) &&& (1 : Int32)) &&& (1 : Int32)) &&& (1 : Int32)) &&& (1 : Int32)) &&& (1 : Int32))), .val (.int (x1 &&& (3 : Int32)))]) at_203 rfl rfl ?_
  refine Go.iload C X151 (pc' := 207) at_205 rfl rfl ?_
  refine Go.aloadN C X151 (pc' := 208) at_207 rfl rfl rfl ?_
  refine Go.iload C X151 (pc' := 210) at_208 rfl rfl ?_
  refine Go.callV C X151 (pc' := 213) (W := 1) (argsL := [(.int (x1 &&& (3 : Int32)))]) (rest := [(.int (((((((((1 : Int32) &&& (1 : Int32)) &&& (1 : Int32)) &&& (1 : Int32)) &&& (1 : Int32)) &&& (1 : Int32)) &&& (1 : Int32)) &&& (1 : Int32)) &&& (1 : Int32)))]) (a := b101) (rm_rt l Z a0 hw b101 (x1 &&& (3 : Int32)) t103 g1151 R1132 ((x1 &&& (3 : Int32)).toInt.toNat) h151 n0 X151.sz F153 O151_0 N_t103 ne_b101_t103 Y151_0 Y151_1 (own_a3 (x1)).1 (own_a3 (x1)).2) E152 (notFace_of_selects (args := #[]) (mvT C.2.1 (hw _ (List.mem_of_getElem? (i := 28) rfl)))) (hw _ (List.mem_of_getElem? (i := 34) rfl)) (hw _ (List.mem_of_getElem? (i := 26) rfl)) (hw _ (List.mem_of_getElem? (i := 28) rfl)) (hw _ (List.mem_of_getElem? (i := 27) rfl)) (hw _ (List.mem_of_getElem? (i := 2) rfl)) (hw _ (List.mem_of_getElem? (i := 29) rfl)) (by decide) rfl rfl (lenOf own_pd0 rfl) rfl (Nat.le_of_eq rfl) (by decide) (by decide) (by decide) (by decide) at_210 rfl (fun _ _ q => by obtain ⟨_, _, K, _⟩ := q; exact K.1) (fun T155 h155 v155 X155 P155 => ?_)
  obtain ⟨g1155, rfl, K155, O155_0, Y155_0, Y155_1⟩ := P155
  have E156 := E152.keep K155
  have F157 := F153.keep K155 (ninS ne_b101_t103 nin0)
  have A158 := A154.keep K155 (ninS (Ne.symm ne_t103_b105) nin0)
  show Go p e below s n0 _ _ _ T155 (mkF m 213 #[.val (.int x0), .val (.int x1), .val (.ref b101), .val (.ref b105), .val (.int (((((((((1 : Int32) &&& (1 : Int32)) &&& (1 : Int32)) &&& (1 : Int32)) &&& (1 : Int32)) &&& (1 : Int32)) &&& (1 : Int32)) &&& (1 : Int32)) &&& (1 : Int32))), .val (.int (x1 &&& (3 : Int32)))] [(.int (Int32.ofNat (R1132 (x1 &&& (3 : Int32)).toInt.toNat))), (.int (((((((((1 : Int32) &&& (1 : Int32)) &&& (1 : Int32)) &&& (1 : Int32)) &&& (1 : Int32)) &&& (1 : Int32)) &&& (1 : Int32)) &&& (1 : Int32)) &&& (1 : Int32)))])
  refine Go.aloadN C X155 (pc' := 214) at_213 rfl rfl rfl ?_
  refine Go.iload C X155 (pc' := 216) at_214 rfl rfl ?_
  refine Go.iaload C X155 (pc' := 217) (i := (x1 &&& (3 : Int32)).toInt.toNat) (w := (own_of R1132 (x1 &&& (3 : Int32)).toInt.toNat)) A158 (own_a3 (x1)).1 (own_a3 (x1)).2 rfl at_216 rfl ?_
  refine Go.icmpNo C X155 (pc' := 220) at_217 (teq rfl).2 rfl ?_
  refine Go.iconst C X155 (pc' := 221) (v := (1 : Int32)) at_220 rfl rfl ?_
  refine Go.goto C X155 (pc' := 225) at_221 (by decide) (by decide) ?_
  refine Go.iand C X155 (pc' := 226) at_225 rfl ?_
  refine Go.istore C X155 (pc' := 228) (Ls' := #[.val (.int x0), .val (.int x1), .val (.ref b101), .val (.ref b105), .val (.int ((((((((((1 : Int32) &&& (1 : Int32)) &&& (1 : Int32)) &&& (1 : Int32)) &&& (1 : Int32)) &&& (1 : Int32)) &&& (1 : Int32)) &&& (1 : Int32)) &&& (1 : Int32)) &&& (1 : Int32))), .val (.int (x1 &&& (3 : Int32)))]) at_226 rfl rfl ?_
  refine Go.iload C X155 (pc' := 230) at_228 rfl rfl ?_
  exact Go.retZ (t := .boolean) C X155 (z' := ((((((((((1 : Int32) &&& (1 : Int32)) &&& (1 : Int32)) &&& (1 : Int32)) &&& (1 : Int32)) &&& (1 : Int32)) &&& (1 : Int32)) &&& (1 : Int32)) &&& (1 : Int32)) &&& (1 : Int32))) (by decide) at_230 rfl (by decide) (by decide)
set_option maxRecDepth 65536 in
set_option maxHeartbeats 40000000 in
theorem comes_1 {Post : Tables → Env → Array Value → State → Outcome → State → Prop} (hpost : ∀ tb e args s v u, (limb_1_1.after args s (.returned v) u = true ∧ limb_1_2.after args s (.returned v) u = true ∧ True) → FrameEnd s (.returned v) u (Jvm.fieldLocs frame_1_writes args s ++ Jvm.arrayLocs frame_1_arrays args s ++ Jvm.staticLocs frame_1_statics s) 16 128 → Post tb e args s (.returned v) u) :
    ArmFor flags0 classFile x code maxLocals ret World_1 tables_1 room_1 Calls_1 rest_1 Pre_1 Post := by
  intro l hfl _ _ p e ha hc hk s m args below hf hA hF happ hP
  obtain ⟨hcalls, hrest, hpre⟩ := hP
  obtain ⟨-, -, -, hnamed, -, -, -, hat⟩ := (Spec.applies_iff hf).mp happ
  obtain ⟨hg, hn⟩ := and_e (Cond.before_iff.mp (show (Jvm.Cond.and given_1 narrow_1).before args s = true from hpre))
  obtain ⟨hcount, hg0⟩ := and_e hg
  obtain ⟨w0, w1, rfl⟩ : ∃ w0 w1 : Value, args = #[w0, w1] := by
    have hs : args.size = 2 := by simpa [Cond.value, given_1] using hcount
    obtain ⟨L⟩ := args
    match L, hs with
    | [w0, w1], _ => exact ⟨w0, w1, rfl⟩
  have hw := fun d (hd : d ∈ tables_1) => atoms_spec (ws := Jvm.Cond.code x code maxLocals ret :: tables_1) hat d (List.mem_cons_of_mem _ hd)
  have hfit : Fit s := fun {y c} hc i hi => by
    obtain ⟨ha, rfl⟩ := Array.getElem?_eq_some_iff.mp hc
    have q := List.all_eq_true.mp ((Array.all_eq_true_iff_forall_mem.mp hF) _ (Array.getElem_mem ha)) i (List.mem_range.mpr hi)
    simpa [Array.getElem?_eq_getElem hi] using q
  obtain ⟨ha0, hg1⟩ := and_e hg0
  obtain ⟨i0, e0⟩ := is_v ha0
  obtain rfl : w0 = (.int i0) := Option.some.inj e0
  obtain ⟨i1, e1⟩ := is_v hg1
  obtain rfl : w1 = (.int i1) := Option.some.inj e1
  obtain ⟨n, o, h1, h2, h3, _, L, rfl, ⟨rfl, N⟩, hq⟩ := rm0 l s _ hw i0 i1 s.heap s.heap.size (Nat.le_refl _)  tables_1 p e ha hc hk s m _ below hf ((Spec.applies_iff_loose hf).mp happ).1 ⟨rfl, State.Warmed39.refl s, rfl⟩ trivial
  refine ⟨n, _, h1, h2, h3, hpost _ _ _ _ _ _ ⟨Cond.after_iff.mpr rfl, Cond.after_iff.mpr (eq_i res_at (Term.int_eval (1)) rfl), trivial⟩ ⟨hq.1, hq.2.1, (hq.2.2.sift fun y hy => Or.inr (N y hy)).mono (by decide) (by decide)⟩⟩
theorem main_1_1 : Claimed_1_1 := comes_1 fun _ _ _ _ _ _ h hF => ⟨h.1, hF⟩
theorem main_1_2 : Claimed_1_2 := comes_1 fun _ _ _ _ _ _ h hF => ⟨h.2.1, hF⟩
end Jvm.Pilot.@@N@@
namespace Jvm.Pilot.@@N@@
open Jvm Jvm.ClassFile Sem Op Lib Jvm.Free Jvm.Stand Jvm.Pilot.@@N@@.Jvm.D
/-! MADE BY PROGRAM (witnessworld.py) out of the Statement's table words and the real class files: 10 classes; the members and pool entries that the words name. The judged class is class 1, her method 1. -/
namespace start1
open Jvm.ClassFile
def u (s : String) : CpInfo := .utf8 (stringToUtf16 s)
/-- a pool by its gaps: so many unusable entries, then the entry; so many at the end -/
def gap : Nat → List CpInfo → List CpInfo
  | 0, r => r
  | n + 1, r => .unusable :: gap n r
def poolList (es : List (Nat × CpInfo)) (last : Nat) : List CpInfo := es.foldr (fun e r => gap e.1 (e.2 :: r)) (gap last [])
def pool (es : List (Nat × CpInfo)) (last : Nat) : Array CpInfo := ⟨poolList es last⟩
def fileOf (pool : Array CpInfo) (this : Nat) (attrs : Array Attribute := #[]) (ms : Array MethodInfo := #[]) (fl : Nat := 33) (sup : Nat := 0) (ifs : Array Nat := #[]) (fds : Array FieldInfo := #[]) : ClassFile where
  minorVersion := 0
  majorVersion := 65
  constantPool := pool
  accessFlags := fl
  thisClass := this
  superClass := sup
  interfaces := ifs
  fields := fds
  methods := ms
  attributes := attrs
def plain (name : String) (sup : Option ClassId) : Class where
  name := name
  kind := .ordinary
  loader := none
  accessFlags := 33
  super := sup
  interfaces := #[]
  cf := none
  fields := #[]
  methods := #[]
  instanceTypes := #[]
  staticTypes := #[]
  resolved := #[]
  callSites := []
  init := .initialized
  statics := none
  mirror := none

def pool0 : Array CpInfo := pool [(5, u "<init>"), (0, u "()V"), (1, .class_ 10), (1, u "java/lang/Object")] 113

def k0c0 : Code := { maxStack := 0, maxLocals := 1, code := object_method_1_code, exceptionTable := #[], attributes := #[] }
def k0m0 : Method := { name := "<init>", desc := "()V", sig := { parameters := [], returnType := none }, accessFlags := 1, code := some k0c0 }
/-- java/lang/Object -/
def k0 : Class := { plain "java/lang/Object" none with
  accessFlags := 33
  interfaces := #[]
  cf := some (fileOf pool0 8 #[] #[{ accessFlags := 1, nameIndex := 5, descriptorIndex := 6, attributes := #[] }] 33 0 #[] #[])
  fields := #[]
  methods := #[k0m0]
  instanceTypes := #[]
  staticTypes := #[]
  resolved := Array.replicate 124 none
  statics := none }

def pool1 : Array CpInfo := pool [(2, .class_ 4), (1, u "java/lang/Object"), (0, u "<init>"), (0, u "()V"), (0, .class_ 8), (0, u "com/example/happenets/happenets/net/Groups"), (0, .methodref 7 10), (0, .nameAndType 5 11), (0, u "(I)V"), (0, .methodref 13 14), (0, .class_ 15), (0, .nameAndType 16 17), (0, u "com/example/happenets/happenets/net/GroupsRootPinLaw"), (0, u "step"), (0, u "(Lcom/example/happenets/happenets/net/Groups;[III)Z"), (0, .methodref 7 19), (0, .nameAndType 20 21), (0, u "root"), (0, u "(I)I"), (0, .methodref 23 24), (0, .class_ 25), (0, .nameAndType 26 27), (0, u "java/lang/Math"), (0, u "min"), (0, u "(II)I"), (0, .methodref 7 29), (0, .nameAndType 30 31), (0, u "join"), (0, u "(II)Z"), (2, u "law")] 5

def k1m0 : Method := { name := "<init>", desc := "()V", sig := { parameters := [], returnType := none }, accessFlags := 1, code := none }
def k1c1 : Code := { maxStack := 6, maxLocals := 6, code := code, exceptionTable := #[], attributes := #[] }
def k1m1 : Method := { name := "law", desc := "(II)Z", sig := { parameters := [.int, .int], returnType := some .boolean }, accessFlags := 9, code := some k1c1 }
def k1c2 : Code := { maxStack := 3, maxLocals := 8, code := method_3_code, exceptionTable := #[], attributes := #[] }
def k1m2 : Method := { name := "step", desc := "(Lcom/example/happenets/happenets/net/Groups;[III)Z", sig := { parameters := [(.object "com/example/happenets/happenets/net/Groups"), (.array .int), .int, .int], returnType := some .boolean }, accessFlags := 10, code := some k1c2 }
/-- com/example/happenets/happenets/net/GroupsRootPinLaw -/
def k1 : Class := { plain "com/example/happenets/happenets/net/GroupsRootPinLaw" (some 0) with
  accessFlags := 49
  interfaces := #[]
  cf := some (fileOf pool1 13 #[] #[{ accessFlags := 1, nameIndex := 5, descriptorIndex := 6, attributes := #[] }, { accessFlags := 9, nameIndex := 34, descriptorIndex := 31, attributes := #[] }, { accessFlags := 10, nameIndex := 16, descriptorIndex := 17, attributes := #[] }] 49 2 #[] #[])
  fields := #[]
  methods := #[k1m0, k1m1, k1m2]
  instanceTypes := #[]
  staticTypes := #[]
  resolved := Array.replicate 40 none
  statics := none }

def pool2 : Array CpInfo := pool [(1, .methodref 2 3), (0, .class_ 4), (0, .nameAndType 5 6), (0, u "java/lang/Object"), (0, u "<init>"), (0, u "()V"), (0, .fieldref 8 9), (0, .class_ 10), (0, .nameAndType 11 12), (0, u "com/example/happenets/happenets/net/Groups"), (0, u "roots"), (0, u "[I"), (0, .methodref 8 14), (0, .nameAndType 15 16), (0, u "root"), (0, u "(I)I"), (0, .methodref 18 19), (0, .class_ 20), (0, .nameAndType 21 22), (0, u "java/lang/Math"), (0, u "max"), (0, u "(II)I"), (0, .methodref 18 24), (0, .nameAndType 25 22), (0, u "min"), (0, u "(I)V"), (4, u "join"), (0, u "(II)Z")] 2

def k2c0 : Code := { maxStack := 3, maxLocals := 3, code := prog_22_method_1_code, exceptionTable := #[], attributes := #[] }
def k2m0 : Method := { name := "<init>", desc := "(I)V", sig := { parameters := [.int], returnType := none }, accessFlags := 0, code := some k2c0 }
def k2c1 : Code := { maxStack := 4, maxLocals := 5, code := prog_22_method_3_code, exceptionTable := #[], attributes := #[] }
def k2m1 : Method := { name := "join", desc := "(II)Z", sig := { parameters := [.int, .int], returnType := some .boolean }, accessFlags := 0, code := some k2c1 }
def k2c2 : Code := { maxStack := 3, maxLocals := 5, code := prog_22_method_4_code, exceptionTable := #[], attributes := #[] }
def k2m2 : Method := { name := "root", desc := "(I)I", sig := { parameters := [.int], returnType := some .int }, accessFlags := 0, code := some k2c2 }
/-- com/example/happenets/happenets/net/Groups -/
def k2 : Class := { plain "com/example/happenets/happenets/net/Groups" (some 0) with
  accessFlags := 48
  interfaces := #[]
  cf := some (fileOf pool2 8 #[] #[{ accessFlags := 0, nameIndex := 5, descriptorIndex := 26, attributes := #[] }, { accessFlags := 0, nameIndex := 31, descriptorIndex := 32, attributes := #[] }, { accessFlags := 0, nameIndex := 15, descriptorIndex := 16, attributes := #[] }] 48 2 #[] #[{ accessFlags := 18, nameIndex := 11, descriptorIndex := 12, attributes := #[] }])
  fields := #[{ name := "roots", type := (.array .int), accessFlags := 18, slot := 0, constantValue := 0 }]
  methods := #[k2m0, k2m1, k2m2]
  instanceTypes := #[(.array .int)]
  staticTypes := #[]
  resolved := Array.replicate 35 none
  statics := none }

def pool3 : Array CpInfo := pool [(1, .class_ 2), (0, u "java/lang/Math"), (1, .class_ 6), (1, u "java/lang/Object"), (0, u "<init>"), (0, u "()V"), (89, .class_ 100), (1, u "java/lang/Math$RandomNumberGeneratorHolder"), (71, u "negativeZeroFloatBits"), (0, u "J"), (2, u "negativeZeroDoubleBits"), (21, u "max"), (2, u "min"), (43, u "$assertionsDisabled"), (0, u "Z"), (88, u "(II)I"), (2, u "twoToTheDoubleScaleDown"), (0, u "D"), (4, u "twoToTheDoubleScaleUp"), (9, u "E"), (3, u "PI"), (2, u "TAU"), (2, u "DEGREES_TO_RADIANS"), (0, u "RADIANS_TO_DEGREES")] 94

def k3m0 : Method := { name := "<init>", desc := "()V", sig := { parameters := [], returnType := none }, accessFlags := 2, code := none }
def k3c1 : Code := { maxStack := 2, maxLocals := 2, code := jdk_29_method_65_code, exceptionTable := #[], attributes := #[] }
def k3m1 : Method := { name := "max", desc := "(II)I", sig := { parameters := [.int, .int], returnType := some .int }, accessFlags := 9, code := some k3c1 }
def k3c2 : Code := { maxStack := 2, maxLocals := 2, code := jdk_29_method_69_code, exceptionTable := #[], attributes := #[] }
def k3m2 : Method := { name := "min", desc := "(II)I", sig := { parameters := [.int, .int], returnType := some .int }, accessFlags := 9, code := some k3c2 }
/-- java/lang/Math -/
def k3 : Class := { plain "java/lang/Math" (some 0) with
  accessFlags := 49
  interfaces := #[]
  cf := some (fileOf pool3 1 #[.nestMembers #[98]] #[{ accessFlags := 2, nameIndex := 7, descriptorIndex := 8, attributes := #[] }, { accessFlags := 9, nameIndex := 198, descriptorIndex := 335, attributes := #[] }, { accessFlags := 9, nameIndex := 201, descriptorIndex := 335, attributes := #[] }] 49 4 #[] #[{ accessFlags := 25, nameIndex := 354, descriptorIndex := 339, attributes := #[] }, { accessFlags := 25, nameIndex := 358, descriptorIndex := 339, attributes := #[] }, { accessFlags := 25, nameIndex := 361, descriptorIndex := 339, attributes := #[] }, { accessFlags := 26, nameIndex := 364, descriptorIndex := 339, attributes := #[] }, { accessFlags := 26, nameIndex := 365, descriptorIndex := 339, attributes := #[] }, { accessFlags := 26, nameIndex := 172, descriptorIndex := 173, attributes := #[] }, { accessFlags := 26, nameIndex := 176, descriptorIndex := 173, attributes := #[] }, { accessFlags := 8, nameIndex := 344, descriptorIndex := 339, attributes := #[] }, { accessFlags := 8, nameIndex := 338, descriptorIndex := 339, attributes := #[] }, { accessFlags := 4120, nameIndex := 245, descriptorIndex := 246, attributes := #[] }])
  fields := #[{ name := "E", type := .double, accessFlags := 25, slot := 0, constantValue := 0 }, { name := "PI", type := .double, accessFlags := 25, slot := 1, constantValue := 0 }, { name := "TAU", type := .double, accessFlags := 25, slot := 2, constantValue := 0 }, { name := "DEGREES_TO_RADIANS", type := .double, accessFlags := 26, slot := 3, constantValue := 0 }, { name := "RADIANS_TO_DEGREES", type := .double, accessFlags := 26, slot := 4, constantValue := 0 }, { name := "negativeZeroFloatBits", type := .long, accessFlags := 26, slot := 5, constantValue := 0 }, { name := "negativeZeroDoubleBits", type := .long, accessFlags := 26, slot := 6, constantValue := 0 }, { name := "twoToTheDoubleScaleUp", type := .double, accessFlags := 8, slot := 7, constantValue := 0 }, { name := "twoToTheDoubleScaleDown", type := .double, accessFlags := 8, slot := 8, constantValue := 0 }, { name := "$assertionsDisabled", type := .boolean, accessFlags := 4120, slot := 9, constantValue := 0 }]
  methods := #[k3m0, k3m1, k3m2]
  instanceTypes := #[]
  staticTypes := #[.double, .double, .double, .double, .double, .long, .long, .double, .double, .boolean]
  resolved := Array.replicate 460 none
  statics := none }

def pool4 : Array CpInfo := pool [(1, u "java/lang/Cloneable"), (0, .class_ 1), (0, u "java/lang/Object"), (0, .class_ 3)] 3

/-- java/lang/Cloneable -/
def k4 : Class := { plain "java/lang/Cloneable" (some 0) with
  accessFlags := 1537
  interfaces := #[]
  cf := some (fileOf pool4 2 #[] #[] 1537 4 #[] #[])
  fields := #[]
  methods := #[]
  instanceTypes := #[]
  staticTypes := #[]
  resolved := Array.replicate 8 none
  statics := none }

def pool5 : Array CpInfo := pool [(1, u "java/io/Serializable"), (0, .class_ 1), (0, u "java/lang/Object"), (0, .class_ 3)] 3

/-- java/io/Serializable -/
def k5 : Class := { plain "java/io/Serializable" (some 0) with
  accessFlags := 1537
  interfaces := #[]
  cf := some (fileOf pool5 2 #[] #[] 1537 4 #[] #[])
  fields := #[]
  methods := #[]
  instanceTypes := #[]
  staticTypes := #[]
  resolved := Array.replicate 8 none
  statics := none }

/-- the primitive byte -/
def k6 : Class := { plain "byte" none with kind := .primitive 'B', accessFlags := 0x411 }
/-- [B -/
def k7 : Class := { plain "[B" (some 0) with kind := .array 6 .byte, interfaces := #[4, 5], accessFlags := 1041 }

/-- the primitive int -/
def k8 : Class := { plain "int" none with kind := .primitive 'I', accessFlags := 0x411 }
/-- [I -/
def k9 : Class := { plain "[I" (some 0) with kind := .array 8 .int, interfaces := #[4, 5], accessFlags := 1041 }

def heap : Heap := #[]
def classes : Array Class := #[k0, k1, k2, k3, k4, k5, k6, k7, k8, k9]
def interned : List (Array UInt16 × Addr) := []
def slotsUsed : Nat := 0
def theMethod : MethodId := ⟨1, 1⟩
def args0 : Array Value := #[.int 27, .int 2]
def aboutOver (below : List Frame) : State where
  vm := { classes := classes, interned := interned.toArray }
  heap := heap
  slotsUsed := slotsUsed
  threads := #[{ frames := .invoking theMethod args0 :: below }]
def below0 : List Frame := [.native { method := ⟨0, 0⟩, args := #[] }]
def about1 : State := aboutOver below0
def p0 : Program := .bare "" "" ""
def e0 : Env := launch0.env 0 0 0
theorem w_frames : about1.frames = Frame.invoking theMethod args0 :: below0 := rfl
set_option maxRecDepth 65536 in
theorem w_args : argsFit about1.vm theMethod args0 = true := by decide +kernel
set_option maxRecDepth 65536 in
theorem w_heap : heapFits about1 = true := by decide +kernel
set_option maxRecDepth 65536 in
theorem w_runnable : about1.curStatus? = some .runnable := by decide +kernel
set_option maxRecDepth 65536 in
theorem w_alone : about1.alone = true := by decide +kernel
set_option maxRecDepth 65536 in
theorem w_named : about1.methodNamed? x = some theMethod := by decide +kernel
set_option maxRecDepth 65536 in
theorem w_hears : about1.hears theMethod below0 = true := by decide +kernel
set_option maxRecDepth 65536 in
theorem w_ripe : about1.ripe theMethod args0 below0 = true := by decide +kernel
theorem w_running : about1.status = .running := rfl
set_option maxRecDepth 65536 in
theorem w_room : about1.hasRoom e0.platform room_1 = true :=
  launch0.hasRoom_least _ room_1 (by decide +kernel) (by decide +kernel) (by decide +kernel) (by decide +kernel) (by decide +kernel) (by decide +kernel)
theorem allAtoms_all (ts : List Jvm.Cond) (a : Array Jvm.Value) (st : Jvm.State) : (allAtoms ts).before a st = ts.all (fun c => c.before a st) := by
  induction ts with
  | nil => rfl
  | cons c t ih =>
    show (Jvm.Cond.and c (allAtoms t)).before a st = _
    rw [Jvm.Cond.before_and, ih, List.all_cons]
def words1 : List Jvm.Cond := Jvm.Cond.code x code maxLocals ret :: tables_1
/-- a 'code' word, met by the world's own term for the bytes: nothing is compared byte by byte -/
theorem code_word {y : MethodName} {bytes : ByteArray} {mx : Nat} {rt : Option FieldType} {a : Array Value} {s : State} {m : MethodId} {meth : Method} {c : Code} (h1 : s.methodNamed? y = some m) (h2 : s.vm.method? m = some meth) (h3 : meth.code = some c) (h4 : c.code = bytes)
    (h5 : (c.maxLocals == mx && c.exceptionTable.isEmpty && decide (c.maxStack ≤ mostOperands) && decide (meth.sig.returnType = rt) && !meth.locks && decide (parseMethodDescriptor y.desc = some meth.sig)) = true) : (Jvm.Cond.code y bytes mx rt).before a s = true := by
  simp only [Bool.and_eq_true, beq_iff_eq, Bool.not_eq_true', decide_eq_true_eq] at h5
  obtain ⟨⟨⟨⟨⟨g1, g2⟩, g3⟩, g4⟩, g5⟩, g6⟩ := h5
  simp [Cond.before, Cond.holds, Cond.value, h1, h2, h3, h4, g1, g2, g3, g4, g5, g6]
def isCode : Jvm.Cond → Bool
  | .code _ _ _ _ => true
  | _ => false
theorem all_split {L : List Jvm.Cond} {P : Jvm.Cond → Bool} (h1 : L.all (fun c => isCode c || P c) = true) (h2 : ∀ c ∈ L.filter isCode, P c = true) : L.all P = true := by
  refine List.all_eq_true.mpr fun c hc => ?_
  have h := List.all_eq_true.mp h1 c hc
  rcases Bool.eq_false_or_eq_true (isCode c) with hi | hi
  · exact h2 c (List.mem_filter.mpr ⟨hc, hi⟩)
  · simpa [hi] using h
set_option maxRecDepth 65536 in
theorem w_c0 : (Jvm.Cond.code x code maxLocals ret).before args0 about1 = true := code_word (m := ⟨1, 1⟩) (meth := k1m1) (c := k1c1) (by decide +kernel) rfl rfl rfl (by decide +kernel)
set_option maxRecDepth 65536 in
theorem w_c1 : (Jvm.Cond.code ({ cls := "com/example/happenets/happenets/net/Groups", name := "<init>", desc := "(I)V" } : Jvm.MethodName) prog_22_method_1_code (3 : Nat) (Option.none : Option Jvm.ClassFile.FieldType)).before args0 about1 = true := code_word (m := ⟨2, 0⟩) (meth := k2m0) (c := k2c0) (by decide +kernel) rfl rfl rfl (by decide +kernel)
set_option maxRecDepth 65536 in
theorem w_c2 : (Jvm.Cond.code ({ cls := "java/lang/Object", name := "<init>", desc := "()V" } : Jvm.MethodName) object_method_1_code (1 : Nat) (Option.none : Option Jvm.ClassFile.FieldType)).before args0 about1 = true := code_word (m := ⟨0, 0⟩) (meth := k0m0) (c := k0c0) (by decide +kernel) rfl rfl rfl (by decide +kernel)
set_option maxRecDepth 65536 in
theorem w_c3 : (Jvm.Cond.code ({ cls := "com/example/happenets/happenets/net/GroupsRootPinLaw", name := "step", desc := "(Lcom/example/happenets/happenets/net/Groups;[III)Z" } : Jvm.MethodName) method_3_code (8 : Nat) (Option.some Jvm.ClassFile.FieldType.boolean)).before args0 about1 = true := code_word (m := ⟨1, 2⟩) (meth := k1m2) (c := k1c2) (by decide +kernel) rfl rfl rfl (by decide +kernel)
set_option maxRecDepth 65536 in
theorem w_c4 : (Jvm.Cond.code ({ cls := "java/lang/Math", name := "min", desc := "(II)I" } : Jvm.MethodName) jdk_29_method_69_code (2 : Nat) (Option.some Jvm.ClassFile.FieldType.int)).before args0 about1 = true := code_word (m := ⟨3, 2⟩) (meth := k3m2) (c := k3c2) (by decide +kernel) rfl rfl rfl (by decide +kernel)
set_option maxRecDepth 65536 in
theorem w_c5 : (Jvm.Cond.code ({ cls := "com/example/happenets/happenets/net/Groups", name := "join", desc := "(II)Z" } : Jvm.MethodName) prog_22_method_3_code (5 : Nat) (Option.some Jvm.ClassFile.FieldType.boolean)).before args0 about1 = true := code_word (m := ⟨2, 1⟩) (meth := k2m1) (c := k2c1) (by decide +kernel) rfl rfl rfl (by decide +kernel)
set_option maxRecDepth 65536 in
theorem w_c6 : (Jvm.Cond.code ({ cls := "com/example/happenets/happenets/net/Groups", name := "root", desc := "(I)I" } : Jvm.MethodName) prog_22_method_4_code (5 : Nat) (Option.some Jvm.ClassFile.FieldType.int)).before args0 about1 = true := code_word (m := ⟨2, 2⟩) (meth := k2m2) (c := k2c2) (by decide +kernel) rfl rfl rfl (by decide +kernel)
set_option maxRecDepth 65536 in
theorem w_c7 : (Jvm.Cond.code ({ cls := "java/lang/Math", name := "max", desc := "(II)I" } : Jvm.MethodName) jdk_29_method_65_code (2 : Nat) (Option.some Jvm.ClassFile.FieldType.int)).before args0 about1 = true := code_word (m := ⟨3, 1⟩) (meth := k3m1) (c := k3c1) (by decide +kernel) rfl rfl rfl (by decide +kernel)
def codes1 : List Jvm.Cond := [Jvm.Cond.code x code maxLocals ret, Jvm.Cond.code ({ cls := "com/example/happenets/happenets/net/Groups", name := "<init>", desc := "(I)V" } : Jvm.MethodName) prog_22_method_1_code (3 : Nat) (Option.none : Option Jvm.ClassFile.FieldType), Jvm.Cond.code ({ cls := "java/lang/Object", name := "<init>", desc := "()V" } : Jvm.MethodName) object_method_1_code (1 : Nat) (Option.none : Option Jvm.ClassFile.FieldType), Jvm.Cond.code ({ cls := "com/example/happenets/happenets/net/GroupsRootPinLaw", name := "step", desc := "(Lcom/example/happenets/happenets/net/Groups;[III)Z" } : Jvm.MethodName) method_3_code (8 : Nat) (Option.some Jvm.ClassFile.FieldType.boolean), Jvm.Cond.code ({ cls := "java/lang/Math", name := "min", desc := "(II)I" } : Jvm.MethodName) jdk_29_method_69_code (2 : Nat) (Option.some Jvm.ClassFile.FieldType.int), Jvm.Cond.code ({ cls := "com/example/happenets/happenets/net/Groups", name := "join", desc := "(II)Z" } : Jvm.MethodName) prog_22_method_3_code (5 : Nat) (Option.some Jvm.ClassFile.FieldType.boolean), Jvm.Cond.code ({ cls := "com/example/happenets/happenets/net/Groups", name := "root", desc := "(I)I" } : Jvm.MethodName) prog_22_method_4_code (5 : Nat) (Option.some Jvm.ClassFile.FieldType.int), Jvm.Cond.code ({ cls := "java/lang/Math", name := "max", desc := "(II)I" } : Jvm.MethodName) jdk_29_method_65_code (2 : Nat) (Option.some Jvm.ClassFile.FieldType.int)]
set_option maxRecDepth 65536 in
theorem codes_eq : words1.filter isCode = codes1 := rfl
theorem w_codes : ∀ c ∈ words1.filter isCode, c.before args0 about1 = true := by
  rw [codes_eq]
  intro c hc
  simp only [codes1, List.mem_cons, List.not_mem_nil, or_false] at hc
  rcases hc with rfl | rfl | rfl | rfl | rfl | rfl | rfl | rfl
  · exact w_c0
  · exact w_c1
  · exact w_c2
  · exact w_c3
  · exact w_c4
  · exact w_c5
  · exact w_c6
  · exact w_c7
set_option maxRecDepth 65536 in
theorem w_t1 : (words1.take 24).all (fun c => isCode c || c.before args0 about1) = true := by decide +kernel
set_option maxRecDepth 65536 in
theorem w_t2 : (words1.drop 24).all (fun c => isCode c || c.before args0 about1) = true := by decide +kernel
theorem w_tables : (allAtoms (Jvm.Cond.code x code maxLocals ret :: tables_1)).before args0 about1 = true := by
  rw [allAtoms_all]
  show words1.all (fun c => c.before args0 about1) = true
  refine all_split ?_ w_codes
  rw [← List.take_append_drop 24 words1, List.all_append, w_t1, w_t2]
  rfl
set_option maxRecDepth 65536 in
theorem w_case : (Jvm.Cond.and given_1 narrow_1).before args0 about1 = true := by decide +kernel
theorem w_applies : (headSpec (Jvm.Cond.code x code maxLocals ret :: tables_1) room_1).applies x e0.platform about1 = true :=
  (Spec.applies_iff w_frames).mpr ⟨w_running, w_runnable, w_alone, w_named, w_hears, w_ripe, w_room, w_tables⟩
theorem atStart : AtStart classFile x code maxLocals ret World_1 tables_1 room_1 Calls_1 rest_1 Pre_1 launch0 p0 e0 about1 theMethod args0 below0 :=
  ⟨lists_1, trivial, launch0.admits_env _ _ _, launch0.least_env, fairChoices_fair.cas, fairChoices_fair.clock, w_frames, w_args, w_heap, w_applies, trivial, trivial, w_case⟩
end start1
theorem witness_1 : WitnessClaimed_1 := ⟨start1.p0, start1.e0, start1.about1, start1.theMethod, start1.args0, start1.below0, start1.atStart⟩
end Jvm.Pilot.@@N@@
