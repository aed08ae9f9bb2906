import JvmDerived
import JvmDerived.Pilot.@@N@@Statement
import JvmDerived.Pilot.@@N@@Code
set_option linter.unusedVariables false
set_option linter.unusedSimpArgs false
namespace Jvm.RoadKit
open Sem ClassFile Op Lib Jvm.Stand Jvm.Free Jvm.LawKit
section Own
variable {p : Program} {l : Launch} {e : Env} {R : Room} {s : State} {m : MethodId} {args : Array Value} {below : List Frame} {meth : Method} {c : Code} {T : State} {Z : State} {a0 : Array Value} {h : Heap} {cells slots n0 rc rs : Nat} {bytes : ByteArray} {own : String} {ret : Option FieldType} {maxL : Nat} {P : Option Value → Heap → Prop} {Ls : Array Slot} {pc pc' : Nat} {st : List Value}
def Cx (p : Program) (s : State) (m : MethodId) (meth : Method) (c : Code) (Z : State) (bytes : ByteArray) (own : String) (ret : Option FieldType) (maxL : Nat) : Prop :=
  p.tables.exec = Jvm.exec ∧ Z.Warmed39 s.vm ∧ c.code = bytes ∧ s.vm.findClass own = some m.cls ∧ c.maxLocals = maxL ∧ meth.locks = false ∧ meth.sig.returnType = ret
def On (p : Program) (l : Launch) (e : Env) (R : Room) (s : State) (m : MethodId) (args : Array Value) (below : List Frame) (meth : Method) (c : Code) (n0 : Nat) (T : State) (h : Heap) (cells slots : Nat) : Prop :=
  ∃ locs, Stand p l e R s m args below meth c T locs cells slots ∧ T.heap = h ∧ Fr n0 locs ∧ n0 ≤ h.size
def Go (p : Program) (e : Env) (below : List Frame) (s : State) (n0 rc rs : Nat) (P : Option Value → Heap → Prop) (T : State) (g : JFrame) : Prop :=
  ∃ s₂ o, Steps p.tables e below (T.setTop g) s₂ ∧ s₂.status = .running ∧ Ended s₂ below o ∧ ∃ v L, o = .returned v ∧ (P v s₂.heap ∧ Fr n0 L) ∧ FrameEnd s o s₂ L rc rs
def Con (l : Launch) (Z : State) (y : MethodName) (bytes : ByteArray) (maxL : Nat) (ret : Option FieldType) (rm : Room) (as' : Array Value) (h0 : Heap) (n0 : Nat) (P : Option Value → Heap → Prop) : Prop :=
  ∀ ws, MetFree l y (head1 (Cond.code y bytes maxL ret :: ws) rm) (fun a U => a = as' ∧ Z.Warmed39 U.vm ∧ U.heap = h0) (fun _ _ _ _ _ => True) (fun _ U o U' => ∃ v L, o = .returned v ∧ (P v U'.heap ∧ Fr n0 L) ∧ FrameEnd U o U' L rm.cells rm.slots)
theorem Go.of {T' : State} {g g' : JFrame} (st : ∀ t, Steps p.tables e below (T'.setTop g') t → Steps p.tables e below (T.setTop g) t) (k : Go p e below s n0 rc rs P T' g') : Go p e below s n0 rc rs P T g := by
  obtain ⟨s₂, o, h1, h2⟩ := k
  exact ⟨s₂, o, st _ h1, h2⟩
theorem Go.tr {T' : State} {g g' : JFrame} (st : Steps p.tables e below (T.setTop g) (T'.setTop g')) (k : Go p e below s n0 rc rs P T' g') : Go p e below s n0 rc rs P T g :=
  Go.of (fun _ q => st.trans q) k
theorem Go.imp {P' : Option Value → Heap → Prop} {g : JFrame} (k : Go p e below s n0 rc rs P' T g) (hi : ∀ v h, P' v h → P v h) : Go p e below s n0 rc rs P T g := by
  obtain ⟨s₂, o, h1, h2, h3, v, L, h4, ⟨h5, h6⟩, h7⟩ := k
  exact ⟨s₂, o, h1, h2, h3, v, L, h4, ⟨hi _ _ h5, h6⟩, h7⟩
theorem Con.enter {y : MethodName} {rm : Room} {as' : Array Value} {h0 : Heap} (hpl : plainFor y = true) (hz : n0 ≤ h0.size)
    (body : ∀ p e s m below meth c T, Cx p s m meth c Z bytes y.cls ret maxL → meth.name = y.name → On p l e rm s m as' below meth c n0 T h0 0 0 → Go p e below s n0 rm.cells rm.slots P T (entryFrame m as' maxL)) :
    Con l Z y bytes maxL ret rm as' h0 n0 P := by
  intro ws
  refine MetFree.of_bodySF hpl hisR ?_
  intro p e s m args below meth c s₁ Bd hml0 hP hK
  obtain ⟨rfl, hZ, hh⟩ := hP
  have X0 := Stand.of_body Bd
  have e0 : s₁.heap = h0 := by rw [← hh, Bd.state]; rfl
  exact body p e s m below meth c s₁ ⟨Bd.exec, hZ, Bd.bytes, findClass_of_methodNamed Bd.named, hml0, BodyLoose.notSynchronized Bd, Bd.returns⟩ (name_of_methodNamed Bd.named Bd.method).1 ⟨[], X0, e0, Fr.nil n0, hz⟩
theorem On.sz (X : On p l e R s m args below meth c n0 T h cells slots) : n0 ≤ h.size := X.elim fun _ q => q.2.2.2
theorem Go.cast {g g' : JFrame} (q : g = g') (k : Go p e below s n0 rc rs P T g') : Go p e below s n0 rc rs P T g := q ▸ k
theorem Con.back {y : MethodName} {rm : Room} {as' : Array Value} {W : Nat} {P' : Option Value → Heap → Prop} {cb : ByteArray} {cm : Nat} {cr : Option FieldType} (K : Con l Z y cb cm cr rm as' h n0 P') (hZ : Z.Warmed39 s.vm) (wc : (Cond.code y cb cm cr).before a0 Z = true) (wz : (Cond.initialized y.cls).before a0 Z = true) (hf : rm.frames + 1 ≤ R.frames) (hl : W + (cm + 11) + rm.locals ≤ R.locals) :
    Back l R p e below s args y 3 W (fun A a => a = as' ∧ A.U.heap = h ∧ A.cells + rm.cells ≤ R.cells ∧ A.slots + rm.slots ≤ R.slots)
      (fun A _ v B => ∃ L, (P' v B.U.heap ∧ Fr n0 L) ∧ B.locs = A.locs ++ L ∧ B.cells = A.cells + rm.cells ∧ B.slots = A.slots + rm.slots) :=
  backOf (Q := fun v h L => P' v h ∧ Fr n0 L) (K []) hZ wc wz hf hl
theorem Go.iadd (C : Cx p s m meth c Z bytes own ret maxL) (X : On p l e R s m args below meth c n0 T h cells slots) {x y : Int32} (hd : decode bytes pc = .ok (.iadd, 1))  (hp : pc + 1 = pc') (k : Go p e below s n0 rc rs P T (mkF m pc' Ls (.int (x + y) :: st))) : Go p e below s n0 rc rs P T (mkF m pc Ls (.int y :: .int x :: st)) := by
  obtain ⟨locs, X, eT, N, hn⟩ := X; obtain ⟨hx, hZ, hby, hown, hml, hlk, hrt⟩ := C
  subst hp; exact Go.of (fun t q => XS.iadd X.here hx rfl (hb hby hd) rfl q) k
theorem Go.isub (C : Cx p s m meth c Z bytes own ret maxL) (X : On p l e R s m args below meth c n0 T h cells slots) {x y : Int32} (hd : decode bytes pc = .ok (.isub, 1))  (hp : pc + 1 = pc') (k : Go p e below s n0 rc rs P T (mkF m pc' Ls (.int (x - y) :: st))) : Go p e below s n0 rc rs P T (mkF m pc Ls (.int y :: .int x :: st)) := by
  obtain ⟨locs, X, eT, N, hn⟩ := X; obtain ⟨hx, hZ, hby, hown, hml, hlk, hrt⟩ := C
  subst hp; exact Go.of (fun t q => XS.isub X.here hx rfl (hb hby hd) rfl q) k
theorem Go.imul (C : Cx p s m meth c Z bytes own ret maxL) (X : On p l e R s m args below meth c n0 T h cells slots) {x y : Int32} (hd : decode bytes pc = .ok (.imul, 1))  (hp : pc + 1 = pc') (k : Go p e below s n0 rc rs P T (mkF m pc' Ls (.int (x * y) :: st))) : Go p e below s n0 rc rs P T (mkF m pc Ls (.int y :: .int x :: st)) := by
  obtain ⟨locs, X, eT, N, hn⟩ := X; obtain ⟨hx, hZ, hby, hown, hml, hlk, hrt⟩ := C
  subst hp; exact Go.of (fun t q => XS.imul X.here hx rfl (hb hby hd) rfl q) k
theorem Go.iand (C : Cx p s m meth c Z bytes own ret maxL) (X : On p l e R s m args below meth c n0 T h cells slots) {x y : Int32} (hd : decode bytes pc = .ok (.iand, 1))  (hp : pc + 1 = pc') (k : Go p e below s n0 rc rs P T (mkF m pc' Ls (.int (x &&& y) :: st))) : Go p e below s n0 rc rs P T (mkF m pc Ls (.int y :: .int x :: st)) := by
  obtain ⟨locs, X, eT, N, hn⟩ := X; obtain ⟨hx, hZ, hby, hown, hml, hlk, hrt⟩ := C
  subst hp; exact Go.of (fun t q => XS.iand X.here hx rfl (hb hby hd) rfl q) k
theorem Go.ior (C : Cx p s m meth c Z bytes own ret maxL) (X : On p l e R s m args below meth c n0 T h cells slots) {x y : Int32} (hd : decode bytes pc = .ok (.ior, 1))  (hp : pc + 1 = pc') (k : Go p e below s n0 rc rs P T (mkF m pc' Ls (.int (x ||| y) :: st))) : Go p e below s n0 rc rs P T (mkF m pc Ls (.int y :: .int x :: st)) := by
  obtain ⟨locs, X, eT, N, hn⟩ := X; obtain ⟨hx, hZ, hby, hown, hml, hlk, hrt⟩ := C
  subst hp; exact Go.of (fun t q => XS.ior X.here hx rfl (hb hby hd) rfl q) k
theorem Go.ixor (C : Cx p s m meth c Z bytes own ret maxL) (X : On p l e R s m args below meth c n0 T h cells slots) {x y : Int32} (hd : decode bytes pc = .ok (.ixor, 1))  (hp : pc + 1 = pc') (k : Go p e below s n0 rc rs P T (mkF m pc' Ls (.int (x ^^^ y) :: st))) : Go p e below s n0 rc rs P T (mkF m pc Ls (.int y :: .int x :: st)) := by
  obtain ⟨locs, X, eT, N, hn⟩ := X; obtain ⟨hx, hZ, hby, hown, hml, hlk, hrt⟩ := C
  subst hp; exact Go.of (fun t q => XS.ixor X.here hx rfl (hb hby hd) rfl q) k
theorem Go.ishl (C : Cx p s m meth c Z bytes own ret maxL) (X : On p l e R s m args below meth c n0 T h cells slots) {x y : Int32} (hd : decode bytes pc = .ok (.ishl, 1))  (hp : pc + 1 = pc') (k : Go p e below s n0 rc rs P T (mkF m pc' Ls (.int (x <<< (y &&& 31)) :: st))) : Go p e below s n0 rc rs P T (mkF m pc Ls (.int y :: .int x :: st)) := by
  obtain ⟨locs, X, eT, N, hn⟩ := X; obtain ⟨hx, hZ, hby, hown, hml, hlk, hrt⟩ := C
  subst hp; exact Go.of (fun t q => XS.ishl X.here hx rfl (hb hby hd) rfl q) k
theorem Go.ishr (C : Cx p s m meth c Z bytes own ret maxL) (X : On p l e R s m args below meth c n0 T h cells slots) {x y : Int32} (hd : decode bytes pc = .ok (.ishr, 1))  (hp : pc + 1 = pc') (k : Go p e below s n0 rc rs P T (mkF m pc' Ls (.int (x >>> (y &&& 31)) :: st))) : Go p e below s n0 rc rs P T (mkF m pc Ls (.int y :: .int x :: st)) := by
  obtain ⟨locs, X, eT, N, hn⟩ := X; obtain ⟨hx, hZ, hby, hown, hml, hlk, hrt⟩ := C
  subst hp; exact Go.of (fun t q => XS.ishr X.here hx rfl (hb hby hd) rfl q) k
theorem Go.iushr (C : Cx p s m meth c Z bytes own ret maxL) (X : On p l e R s m args below meth c n0 T h cells slots) {x y : Int32} (hd : decode bytes pc = .ok (.iushr, 1))  (hp : pc + 1 = pc') (k : Go p e below s n0 rc rs P T (mkF m pc' Ls (.int ((x.toUInt32 >>> (y &&& 31).toUInt32).toInt32) :: st))) : Go p e below s n0 rc rs P T (mkF m pc Ls (.int y :: .int x :: st)) := by
  obtain ⟨locs, X, eT, N, hn⟩ := X; obtain ⟨hx, hZ, hby, hown, hml, hlk, hrt⟩ := C
  subst hp; exact Go.of (fun t q => XS.iushr X.here hx rfl (hb hby hd) rfl q) k
theorem Go.ladd (C : Cx p s m meth c Z bytes own ret maxL) (X : On p l e R s m args below meth c n0 T h cells slots) {x y : Int64} (hd : decode bytes pc = .ok (.ladd, 1))  (hp : pc + 1 = pc') (k : Go p e below s n0 rc rs P T (mkF m pc' Ls (.long (x + y) :: st))) : Go p e below s n0 rc rs P T (mkF m pc Ls (.long y :: .long x :: st)) := by
  obtain ⟨locs, X, eT, N, hn⟩ := X; obtain ⟨hx, hZ, hby, hown, hml, hlk, hrt⟩ := C
  subst hp; exact Go.of (fun t q => XS.ladd X.here hx rfl (hb hby hd) rfl q) k
theorem Go.lsub (C : Cx p s m meth c Z bytes own ret maxL) (X : On p l e R s m args below meth c n0 T h cells slots) {x y : Int64} (hd : decode bytes pc = .ok (.lsub, 1))  (hp : pc + 1 = pc') (k : Go p e below s n0 rc rs P T (mkF m pc' Ls (.long (x - y) :: st))) : Go p e below s n0 rc rs P T (mkF m pc Ls (.long y :: .long x :: st)) := by
  obtain ⟨locs, X, eT, N, hn⟩ := X; obtain ⟨hx, hZ, hby, hown, hml, hlk, hrt⟩ := C
  subst hp; exact Go.of (fun t q => XS.lsub X.here hx rfl (hb hby hd) rfl q) k
theorem Go.lmul (C : Cx p s m meth c Z bytes own ret maxL) (X : On p l e R s m args below meth c n0 T h cells slots) {x y : Int64} (hd : decode bytes pc = .ok (.lmul, 1))  (hp : pc + 1 = pc') (k : Go p e below s n0 rc rs P T (mkF m pc' Ls (.long (x * y) :: st))) : Go p e below s n0 rc rs P T (mkF m pc Ls (.long y :: .long x :: st)) := by
  obtain ⟨locs, X, eT, N, hn⟩ := X; obtain ⟨hx, hZ, hby, hown, hml, hlk, hrt⟩ := C
  subst hp; exact Go.of (fun t q => XS.lmul X.here hx rfl (hb hby hd) rfl q) k
theorem Go.land (C : Cx p s m meth c Z bytes own ret maxL) (X : On p l e R s m args below meth c n0 T h cells slots) {x y : Int64} (hd : decode bytes pc = .ok (.land, 1))  (hp : pc + 1 = pc') (k : Go p e below s n0 rc rs P T (mkF m pc' Ls (.long (x &&& y) :: st))) : Go p e below s n0 rc rs P T (mkF m pc Ls (.long y :: .long x :: st)) := by
  obtain ⟨locs, X, eT, N, hn⟩ := X; obtain ⟨hx, hZ, hby, hown, hml, hlk, hrt⟩ := C
  subst hp; exact Go.of (fun t q => XS.land X.here hx rfl (hb hby hd) rfl q) k
theorem Go.lor (C : Cx p s m meth c Z bytes own ret maxL) (X : On p l e R s m args below meth c n0 T h cells slots) {x y : Int64} (hd : decode bytes pc = .ok (.lor, 1))  (hp : pc + 1 = pc') (k : Go p e below s n0 rc rs P T (mkF m pc' Ls (.long (x ||| y) :: st))) : Go p e below s n0 rc rs P T (mkF m pc Ls (.long y :: .long x :: st)) := by
  obtain ⟨locs, X, eT, N, hn⟩ := X; obtain ⟨hx, hZ, hby, hown, hml, hlk, hrt⟩ := C
  subst hp; exact Go.of (fun t q => XS.lor X.here hx rfl (hb hby hd) rfl q) k
theorem Go.lxor (C : Cx p s m meth c Z bytes own ret maxL) (X : On p l e R s m args below meth c n0 T h cells slots) {x y : Int64} (hd : decode bytes pc = .ok (.lxor, 1))  (hp : pc + 1 = pc') (k : Go p e below s n0 rc rs P T (mkF m pc' Ls (.long (x ^^^ y) :: st))) : Go p e below s n0 rc rs P T (mkF m pc Ls (.long y :: .long x :: st)) := by
  obtain ⟨locs, X, eT, N, hn⟩ := X; obtain ⟨hx, hZ, hby, hown, hml, hlk, hrt⟩ := C
  subst hp; exact Go.of (fun t q => XS.lxor X.here hx rfl (hb hby hd) rfl q) k
theorem Go.lshl (C : Cx p s m meth c Z bytes own ret maxL) (X : On p l e R s m args below meth c n0 T h cells slots) {x : Int64} {y : Int32} (hd : decode bytes pc = .ok (.lshl, 1))  (hp : pc + 1 = pc') (k : Go p e below s n0 rc rs P T (mkF m pc' Ls (.long (x <<< (y &&& 0x3f).toInt64) :: st))) : Go p e below s n0 rc rs P T (mkF m pc Ls (.int y :: .long x :: st)) := by
  obtain ⟨locs, X, eT, N, hn⟩ := X; obtain ⟨hx, hZ, hby, hown, hml, hlk, hrt⟩ := C
  subst hp; exact Go.of (fun t q => XS.lshl X.here hx rfl (hb hby hd) rfl q) k
theorem Go.lshr (C : Cx p s m meth c Z bytes own ret maxL) (X : On p l e R s m args below meth c n0 T h cells slots) {x : Int64} {y : Int32} (hd : decode bytes pc = .ok (.lshr, 1))  (hp : pc + 1 = pc') (k : Go p e below s n0 rc rs P T (mkF m pc' Ls (.long (x >>> (y &&& 0x3f).toInt64) :: st))) : Go p e below s n0 rc rs P T (mkF m pc Ls (.int y :: .long x :: st)) := by
  obtain ⟨locs, X, eT, N, hn⟩ := X; obtain ⟨hx, hZ, hby, hown, hml, hlk, hrt⟩ := C
  subst hp; exact Go.of (fun t q => XS.lshr X.here hx rfl (hb hby hd) rfl q) k
theorem Go.lushr (C : Cx p s m meth c Z bytes own ret maxL) (X : On p l e R s m args below meth c n0 T h cells slots) {x : Int64} {y : Int32} (hd : decode bytes pc = .ok (.lushr, 1))  (hp : pc + 1 = pc') (k : Go p e below s n0 rc rs P T (mkF m pc' Ls (.long ((x.toUInt64 >>> (y &&& 0x3f).toInt64.toUInt64).toInt64) :: st))) : Go p e below s n0 rc rs P T (mkF m pc Ls (.int y :: .long x :: st)) := by
  obtain ⟨locs, X, eT, N, hn⟩ := X; obtain ⟨hx, hZ, hby, hown, hml, hlk, hrt⟩ := C
  subst hp; exact Go.of (fun t q => XS.lushr X.here hx rfl (hb hby hd) rfl q) k
theorem Go.i2l (C : Cx p s m meth c Z bytes own ret maxL) (X : On p l e R s m args below meth c n0 T h cells slots) {x : Int32} (hd : decode bytes pc = .ok (.i2l, 1))  (hp : pc + 1 = pc') (k : Go p e below s n0 rc rs P T (mkF m pc' Ls (.long (x.toInt64) :: st))) : Go p e below s n0 rc rs P T (mkF m pc Ls (.int x :: st)) := by
  obtain ⟨locs, X, eT, N, hn⟩ := X; obtain ⟨hx, hZ, hby, hown, hml, hlk, hrt⟩ := C
  subst hp; exact Go.of (fun t q => XS.i2l X.here hx rfl (hb hby hd) rfl q) k
theorem Go.l2i (C : Cx p s m meth c Z bytes own ret maxL) (X : On p l e R s m args below meth c n0 T h cells slots) {x : Int64} (hd : decode bytes pc = .ok (.l2i, 1))  (hp : pc + 1 = pc') (k : Go p e below s n0 rc rs P T (mkF m pc' Ls (.int (x.toInt32) :: st))) : Go p e below s n0 rc rs P T (mkF m pc Ls (.long x :: st)) := by
  obtain ⟨locs, X, eT, N, hn⟩ := X; obtain ⟨hx, hZ, hby, hown, hml, hlk, hrt⟩ := C
  subst hp; exact Go.of (fun t q => XS.l2i X.here hx rfl (hb hby hd) rfl q) k
theorem Go.i2b (C : Cx p s m meth c Z bytes own ret maxL) (X : On p l e R s m args below meth c n0 T h cells slots) {x : Int32} (hd : decode bytes pc = .ok (.i2b, 1))  (hp : pc + 1 = pc') (k : Go p e below s n0 rc rs P T (mkF m pc' Ls (.int (x.toInt8.toInt32) :: st))) : Go p e below s n0 rc rs P T (mkF m pc Ls (.int x :: st)) := by
  obtain ⟨locs, X, eT, N, hn⟩ := X; obtain ⟨hx, hZ, hby, hown, hml, hlk, hrt⟩ := C
  subst hp; exact Go.of (fun t q => XS.i2b X.here hx rfl (hb hby hd) rfl q) k
theorem Go.i2s (C : Cx p s m meth c Z bytes own ret maxL) (X : On p l e R s m args below meth c n0 T h cells slots) {x : Int32} (hd : decode bytes pc = .ok (.i2s, 1))  (hp : pc + 1 = pc') (k : Go p e below s n0 rc rs P T (mkF m pc' Ls (.int (x.toInt16.toInt32) :: st))) : Go p e below s n0 rc rs P T (mkF m pc Ls (.int x :: st)) := by
  obtain ⟨locs, X, eT, N, hn⟩ := X; obtain ⟨hx, hZ, hby, hown, hml, hlk, hrt⟩ := C
  subst hp; exact Go.of (fun t q => XS.i2s X.here hx rfl (hb hby hd) rfl q) k
theorem Go.i2c (C : Cx p s m meth c Z bytes own ret maxL) (X : On p l e R s m args below meth c n0 T h cells slots) {x : Int32} (hd : decode bytes pc = .ok (.i2c, 1))  (hp : pc + 1 = pc') (k : Go p e below s n0 rc rs P T (mkF m pc' Ls (.int (x.toUInt32.toUInt16.toUInt32.toInt32) :: st))) : Go p e below s n0 rc rs P T (mkF m pc Ls (.int x :: st)) := by
  obtain ⟨locs, X, eT, N, hn⟩ := X; obtain ⟨hx, hZ, hby, hown, hml, hlk, hrt⟩ := C
  subst hp; exact Go.of (fun t q => XS.i2c X.here hx rfl (hb hby hd) rfl q) k
theorem Go.lneg (C : Cx p s m meth c Z bytes own ret maxL) (X : On p l e R s m args below meth c n0 T h cells slots) {x : Int64} (hd : decode bytes pc = .ok (.lneg, 1))  (hp : pc + 1 = pc') (k : Go p e below s n0 rc rs P T (mkF m pc' Ls (.long (-x) :: st))) : Go p e below s n0 rc rs P T (mkF m pc Ls (.long x :: st)) := by
  obtain ⟨locs, X, eT, N, hn⟩ := X; obtain ⟨hx, hZ, hby, hown, hml, hlk, hrt⟩ := C
  subst hp; exact Go.of (fun t q => XS.lneg X.here hx rfl (hb hby hd) rfl q) k
theorem Go.ineg (C : Cx p s m meth c Z bytes own ret maxL) (X : On p l e R s m args below meth c n0 T h cells slots) {x : Int32} (hd : decode bytes pc = .ok (.ineg, 1))  (hp : pc + 1 = pc') (k : Go p e below s n0 rc rs P T (mkF m pc' Ls (.int (-x) :: st))) : Go p e below s n0 rc rs P T (mkF m pc Ls (.int x :: st)) := by
  obtain ⟨locs, X, eT, N, hn⟩ := X; obtain ⟨hx, hZ, hby, hown, hml, hlk, hrt⟩ := C
  subst hp; exact Go.of (fun t q => XS.ineg X.here hx rfl (hb hby hd) rfl q) k
theorem Go.idiv (C : Cx p s m meth c Z bytes own ret maxL) (X : On p l e R s m args below meth c n0 T h cells slots) {x y : Int32} (hd : decode bytes pc = .ok (.idiv, 1)) (hy : y ≠ 0) (hp : pc + 1 = pc') (k : Go p e below s n0 rc rs P T (mkF m pc' Ls (.int (x / y) :: st))) : Go p e below s n0 rc rs P T (mkF m pc Ls (.int y :: .int x :: st)) := by
  obtain ⟨locs, X, eT, N, hn⟩ := X; obtain ⟨hx, hZ, hby, hown, hml, hlk, hrt⟩ := C
  subst hp; exact Go.of (fun t q => XS.idiv X.here hx rfl (hb hby hd) rfl hy q) k
theorem Go.ldiv (C : Cx p s m meth c Z bytes own ret maxL) (X : On p l e R s m args below meth c n0 T h cells slots) {x y : Int64} (hd : decode bytes pc = .ok (.ldiv, 1)) (hy : y ≠ 0) (hp : pc + 1 = pc') (k : Go p e below s n0 rc rs P T (mkF m pc' Ls (.long (x / y) :: st))) : Go p e below s n0 rc rs P T (mkF m pc Ls (.long y :: .long x :: st)) := by
  obtain ⟨locs, X, eT, N, hn⟩ := X; obtain ⟨hx, hZ, hby, hown, hml, hlk, hrt⟩ := C
  subst hp; exact Go.of (fun t q => XS.ldiv X.here hx rfl (hb hby hd) rfl hy q) k
theorem Go.irem (C : Cx p s m meth c Z bytes own ret maxL) (X : On p l e R s m args below meth c n0 T h cells slots) {x y : Int32} (hd : decode bytes pc = .ok (.irem, 1)) (hy : y ≠ 0) (hp : pc + 1 = pc') (k : Go p e below s n0 rc rs P T (mkF m pc' Ls (.int (x % y) :: st))) : Go p e below s n0 rc rs P T (mkF m pc Ls (.int y :: .int x :: st)) := by
  obtain ⟨locs, X, eT, N, hn⟩ := X; obtain ⟨hx, hZ, hby, hown, hml, hlk, hrt⟩ := C
  subst hp; exact Go.of (fun t q => iremM X hx rfl (hb hby hd) rfl hy q) k
theorem Go.lrem (C : Cx p s m meth c Z bytes own ret maxL) (X : On p l e R s m args below meth c n0 T h cells slots) {x y : Int64} (hd : decode bytes pc = .ok (.lrem, 1)) (hy : y ≠ 0) (hp : pc + 1 = pc') (k : Go p e below s n0 rc rs P T (mkF m pc' Ls (.long (x % y) :: st))) : Go p e below s n0 rc rs P T (mkF m pc Ls (.long y :: .long x :: st)) := by
  obtain ⟨locs, X, eT, N, hn⟩ := X; obtain ⟨hx, hZ, hby, hown, hml, hlk, hrt⟩ := C
  subst hp; rw [← lrem_mod] at k; exact Go.of (fun t q => XS.lrem X.here hx rfl (hb hby hd) rfl hy q) k
theorem Go.lcmp (C : Cx p s m meth c Z bytes own ret maxL) (X : On p l e R s m args below meth c n0 T h cells slots) {x y : Int64} (hd : decode bytes pc = .ok (.lcmp, 1))  (hp : pc + 1 = pc') (k : Go p e below s n0 rc rs P T (mkF m pc' Ls (.int (lcmpW x y) :: st))) : Go p e below s n0 rc rs P T (mkF m pc Ls (.long y :: .long x :: st)) := by
  obtain ⟨locs, X, eT, N, hn⟩ := X; obtain ⟨hx, hZ, hby, hown, hml, hlk, hrt⟩ := C
  subst hp; exact Go.of (fun t q => XS.lcmp X.here hx rfl (hb hby hd) rfl q) k
theorem Go.dup (C : Cx p s m meth c Z bytes own ret maxL) (X : On p l e R s m args below meth c n0 T h cells slots) {v : Value} (hd : decode bytes pc = .ok (.dup, 1)) (hc : v.category = 1) (hp : pc + 1 = pc') (k : Go p e below s n0 rc rs P T (mkF m pc' Ls (v :: v :: st))) : Go p e below s n0 rc rs P T (mkF m pc Ls (v :: st)) := by
  obtain ⟨locs, X, eT, N, hn⟩ := X; obtain ⟨hx, hZ, hby, hown, hml, hlk, hrt⟩ := C
  subst hp; exact Go.of (fun t q => XS.dup X.here hx rfl (hb hby hd) rfl hc q) k
theorem Go.pop (C : Cx p s m meth c Z bytes own ret maxL) (X : On p l e R s m args below meth c n0 T h cells slots) {v : Value} (hd : decode bytes pc = .ok (.pop, 1)) (hc : v.category = 1) (hp : pc + 1 = pc') (k : Go p e below s n0 rc rs P T (mkF m pc' Ls st)) : Go p e below s n0 rc rs P T (mkF m pc Ls (v :: st)) := by
  obtain ⟨locs, X, eT, N, hn⟩ := X; obtain ⟨hx, hZ, hby, hown, hml, hlk, hrt⟩ := C
  subst hp; exact Go.of (fun t q => XS.pop X.here hx rfl (hb hby hd) rfl hc q) k
theorem Go.dup_x1 (C : Cx p s m meth c Z bytes own ret maxL) (X : On p l e R s m args below meth c n0 T h cells slots) {v u : Value} (hd : decode bytes pc = .ok (.dup_x1, 1)) (hc : v.category = 1) (hc2 : u.category = 1) (hp : pc + 1 = pc') (k : Go p e below s n0 rc rs P T (mkF m pc' Ls (v :: u :: v :: st))) : Go p e below s n0 rc rs P T (mkF m pc Ls (v :: u :: st)) := by
  obtain ⟨locs, X, eT, N, hn⟩ := X; obtain ⟨hx, hZ, hby, hown, hml, hlk, hrt⟩ := C
  subst hp; exact Go.of (fun t q => XS.dupX1 X.here hx rfl (hb hby hd) rfl hc hc2 q) k
theorem Go.dup2 (C : Cx p s m meth c Z bytes own ret maxL) (X : On p l e R s m args below meth c n0 T h cells slots) {v u : Value} (hd : decode bytes pc = .ok (.dup2, 1)) (hc : v.category = 1) (hc2 : u.category = 1) (hp : pc + 1 = pc') (k : Go p e below s n0 rc rs P T (mkF m pc' Ls (v :: u :: v :: u :: st))) : Go p e below s n0 rc rs P T (mkF m pc Ls (v :: u :: st)) := by
  obtain ⟨locs, X, eT, N, hn⟩ := X; obtain ⟨hx, hZ, hby, hown, hml, hlk, hrt⟩ := C
  subst hp; exact Go.of (fun t q => Jvm.Free.XT.dup2 X.here hx rfl (hb hby hd) rfl hc hc2 q) k
theorem Go.dup2L (C : Cx p s m meth c Z bytes own ret maxL) (X : On p l e R s m args below meth c n0 T h cells slots) {x : Int64} (hd : decode bytes pc = .ok (.dup2, 1))  (hp : pc + 1 = pc') (k : Go p e below s n0 rc rs P T (mkF m pc' Ls (.long x :: .long x :: st))) : Go p e below s n0 rc rs P T (mkF m pc Ls (.long x :: st)) := by
  obtain ⟨locs, X, eT, N, hn⟩ := X; obtain ⟨hx, hZ, hby, hown, hml, hlk, hrt⟩ := C
  subst hp; exact Go.of (fun t q => Jvm.Free.XT.dup2L X.here hx rfl (hb hby hd) rfl q) k
theorem Go.iconst (C : Cx p s m meth c Z bytes own ret maxL) (X : On p l e R s m args below meth c n0 T h cells slots) {i : Int} {v : Int32} (hd : decode bytes pc = .ok (.iconst i, 1)) (hv : Int32.ofInt i = v) (hp : pc + 1 = pc') (k : Go p e below s n0 rc rs P T (mkF m pc' Ls (.int v :: st))) : Go p e below s n0 rc rs P T (mkF m pc Ls st) := by
  obtain ⟨locs, X, eT, N, hn⟩ := X; obtain ⟨hx, hZ, hby, hown, hml, hlk, hrt⟩ := C
  subst hp hv; exact Go.of (fun t q => XS.iconst X.here hx rfl (hb hby hd) q) k
theorem Go.bipush (C : Cx p s m meth c Z bytes own ret maxL) (X : On p l e R s m args below meth c n0 T h cells slots) {i : Int} {v : Int32} (hd : decode bytes pc = .ok (.bipush i, 2)) (hv : (Int8.ofInt i).toInt32 = v) (hp : pc + 2 = pc') (k : Go p e below s n0 rc rs P T (mkF m pc' Ls (.int v :: st))) : Go p e below s n0 rc rs P T (mkF m pc Ls st) := by
  obtain ⟨locs, X, eT, N, hn⟩ := X; obtain ⟨hx, hZ, hby, hown, hml, hlk, hrt⟩ := C
  subst hp hv; exact Go.of (fun t q => XS.bipush X.here hx rfl (hb hby hd) q) k
theorem Go.sipush (C : Cx p s m meth c Z bytes own ret maxL) (X : On p l e R s m args below meth c n0 T h cells slots) {i : Int} {v : Int32} (hd : decode bytes pc = .ok (.sipush i, 3)) (hv : (Int16.ofInt i).toInt32 = v) (hp : pc + 3 = pc') (k : Go p e below s n0 rc rs P T (mkF m pc' Ls (.int v :: st))) : Go p e below s n0 rc rs P T (mkF m pc Ls st) := by
  obtain ⟨locs, X, eT, N, hn⟩ := X; obtain ⟨hx, hZ, hby, hown, hml, hlk, hrt⟩ := C
  subst hp hv; exact Go.of (fun t q => XS.sipush X.here hx rfl (hb hby hd) q) k
theorem Go.lconst (C : Cx p s m meth c Z bytes own ret maxL) (X : On p l e R s m args below meth c n0 T h cells slots) {i : Fin 2} {v : Int64} (hd : decode bytes pc = .ok (.lconst i, 1)) (hv : Int64.ofNat i = v) (hp : pc + 1 = pc') (k : Go p e below s n0 rc rs P T (mkF m pc' Ls (.long v :: st))) : Go p e below s n0 rc rs P T (mkF m pc Ls st) := by
  obtain ⟨locs, X, eT, N, hn⟩ := X; obtain ⟨hx, hZ, hby, hown, hml, hlk, hrt⟩ := C
  subst hp hv; exact Go.of (fun t q => XS.lconst X.here hx rfl (hb hby hd) q) k
theorem Go.aconst_null (C : Cx p s m meth c Z bytes own ret maxL) (X : On p l e R s m args below meth c n0 T h cells slots)  (hd : decode bytes pc = .ok (.aconst_null, 1))  (hp : pc + 1 = pc') (k : Go p e below s n0 rc rs P T (mkF m pc' Ls (.null :: st))) : Go p e below s n0 rc rs P T (mkF m pc Ls st) := by
  obtain ⟨locs, X, eT, N, hn⟩ := X; obtain ⟨hx, hZ, hby, hown, hml, hlk, hrt⟩ := C
  subst hp; exact Go.of (fun t q => XS.aconstNull X.here hx rfl (hb hby hd)  q) k
theorem Go.ldc (C : Cx p s m meth c Z bytes own ret maxL) (X : On p l e R s m args below meth c n0 T h cells slots) {i : Nat} {v : Int32} (hc : (Cond.constant own i v).before a0 Z = true) (hd : decode bytes pc = .ok (.ldc i, 2)) (hp : pc + 2 = pc') (k : Go p e below s n0 rc rs P T (mkF m pc' Ls (.int v :: st))) : Go p e below s n0 rc rs P T (mkF m pc Ls st) := by
  obtain ⟨locs, X, eT, N, hn⟩ := X; obtain ⟨hx, hZ, hby, hown, hml, hlk, hrt⟩ := C
  subst hp; exact Go.of (X.ldcInt hx hown (mvT hZ hc) (g := mkF m pc Ls st) rfl (hb hby hd)) k
theorem Go.ldc2 (C : Cx p s m meth c Z bytes own ret maxL) (X : On p l e R s m args below meth c n0 T h cells slots) {i : Nat} {v : Int64} (hc : (Cond.constantLong own i v).before a0 Z = true) (hd : decode bytes pc = .ok (.ldc2_w i, 3)) (hp : pc + 3 = pc') (k : Go p e below s n0 rc rs P T (mkF m pc' Ls (.long v :: st))) : Go p e below s n0 rc rs P T (mkF m pc Ls st) := by
  obtain ⟨locs, X, eT, N, hn⟩ := X; obtain ⟨hx, hZ, hby, hown, hml, hlk, hrt⟩ := C
  subst hp; exact Go.of (X.ldc2Long hx hown (mvT hZ hc) (g := mkF m pc Ls st) rfl (hb hby hd)) k
theorem Go.iload (C : Cx p s m meth c Z bytes own ret maxL) (X : On p l e R s m args below meth c n0 T h cells slots) {i : Nat} {v : Int32} (hd : decode bytes pc = .ok (.iload i, 2)) (hl : Ls[i]? = some (.val (.int v))) (hp : pc + 2 = pc') (k : Go p e below s n0 rc rs P T (mkF m pc' Ls (.int v :: st))) : Go p e below s n0 rc rs P T (mkF m pc Ls st) := by
  obtain ⟨locs, X, eT, N, hn⟩ := X; obtain ⟨hx, hZ, hby, hown, hml, hlk, hrt⟩ := C
  subst hp; exact Go.of (fun t q => XS.iload X.here hx rfl (hb hby hd) hl q) k
theorem Go.iloadN (C : Cx p s m meth c Z bytes own ret maxL) (X : On p l e R s m args below meth c n0 T h cells slots) {i : Fin 4} {v : Int32} (hd : decode bytes pc = .ok (.iload_n i, 1)) (hl : Ls[i.val]? = some (.val (.int v))) (hp : pc + 1 = pc') (k : Go p e below s n0 rc rs P T (mkF m pc' Ls (.int v :: st))) : Go p e below s n0 rc rs P T (mkF m pc Ls st) := by
  obtain ⟨locs, X, eT, N, hn⟩ := X; obtain ⟨hx, hZ, hby, hown, hml, hlk, hrt⟩ := C
  subst hp; exact Go.of (fun t q => XS.iloadN X.here hx rfl (hb hby hd) hl q) k
theorem Go.istore (C : Cx p s m meth c Z bytes own ret maxL) (X : On p l e R s m args below meth c n0 T h cells slots) {i : Nat} {v : Int32} {Ls' : Array Slot} (hd : decode bytes pc = .ok (.istore i, 2)) (hl : storeLocals Ls i (.int v) = some Ls') (hp : pc + 2 = pc') (k : Go p e below s n0 rc rs P T (mkF m pc' Ls' st)) : Go p e below s n0 rc rs P T (mkF m pc Ls (.int v :: st)) := by
  obtain ⟨locs, X, eT, N, hn⟩ := X; obtain ⟨hx, hZ, hby, hown, hml, hlk, hrt⟩ := C
  subst hp; exact Go.of (fun t q => XS.istore X.here hx rfl (hb hby hd) rfl hl q) k
theorem Go.istoreN (C : Cx p s m meth c Z bytes own ret maxL) (X : On p l e R s m args below meth c n0 T h cells slots) {i : Fin 4} {v : Int32} {Ls' : Array Slot} (hd : decode bytes pc = .ok (.istore_n i, 1)) (hl : storeLocals Ls i.val (.int v) = some Ls') (hp : pc + 1 = pc') (k : Go p e below s n0 rc rs P T (mkF m pc' Ls' st)) : Go p e below s n0 rc rs P T (mkF m pc Ls (.int v :: st)) := by
  obtain ⟨locs, X, eT, N, hn⟩ := X; obtain ⟨hx, hZ, hby, hown, hml, hlk, hrt⟩ := C
  subst hp; exact Go.of (fun t q => XS.istoreN X.here hx rfl (hb hby hd) rfl hl q) k
theorem Go.lload (C : Cx p s m meth c Z bytes own ret maxL) (X : On p l e R s m args below meth c n0 T h cells slots) {i : Nat} {v : Int64} (hd : decode bytes pc = .ok (.lload i, 2)) (hl : Ls[i]? = some (.val (.long v))) (hp : pc + 2 = pc') (k : Go p e below s n0 rc rs P T (mkF m pc' Ls (.long v :: st))) : Go p e below s n0 rc rs P T (mkF m pc Ls st) := by
  obtain ⟨locs, X, eT, N, hn⟩ := X; obtain ⟨hx, hZ, hby, hown, hml, hlk, hrt⟩ := C
  subst hp; exact Go.of (fun t q => XS.lload X.here hx rfl (hb hby hd) hl q) k
theorem Go.lloadN (C : Cx p s m meth c Z bytes own ret maxL) (X : On p l e R s m args below meth c n0 T h cells slots) {i : Fin 4} {v : Int64} (hd : decode bytes pc = .ok (.lload_n i, 1)) (hl : Ls[i.val]? = some (.val (.long v))) (hp : pc + 1 = pc') (k : Go p e below s n0 rc rs P T (mkF m pc' Ls (.long v :: st))) : Go p e below s n0 rc rs P T (mkF m pc Ls st) := by
  obtain ⟨locs, X, eT, N, hn⟩ := X; obtain ⟨hx, hZ, hby, hown, hml, hlk, hrt⟩ := C
  subst hp; exact Go.of (fun t q => XS.lloadN X.here hx rfl (hb hby hd) hl q) k
theorem Go.lstore (C : Cx p s m meth c Z bytes own ret maxL) (X : On p l e R s m args below meth c n0 T h cells slots) {i : Nat} {v : Int64} {Ls' : Array Slot} (hd : decode bytes pc = .ok (.lstore i, 2)) (hl : storeLocals Ls i (.long v) = some Ls') (hp : pc + 2 = pc') (k : Go p e below s n0 rc rs P T (mkF m pc' Ls' st)) : Go p e below s n0 rc rs P T (mkF m pc Ls (.long v :: st)) := by
  obtain ⟨locs, X, eT, N, hn⟩ := X; obtain ⟨hx, hZ, hby, hown, hml, hlk, hrt⟩ := C
  subst hp; exact Go.of (fun t q => XS.lstore X.here hx rfl (hb hby hd) rfl hl q) k
theorem Go.lstoreN (C : Cx p s m meth c Z bytes own ret maxL) (X : On p l e R s m args below meth c n0 T h cells slots) {i : Fin 4} {v : Int64} {Ls' : Array Slot} (hd : decode bytes pc = .ok (.lstore_n i, 1)) (hl : storeLocals Ls i.val (.long v) = some Ls') (hp : pc + 1 = pc') (k : Go p e below s n0 rc rs P T (mkF m pc' Ls' st)) : Go p e below s n0 rc rs P T (mkF m pc Ls (.long v :: st)) := by
  obtain ⟨locs, X, eT, N, hn⟩ := X; obtain ⟨hx, hZ, hby, hown, hml, hlk, hrt⟩ := C
  subst hp; exact Go.of (fun t q => XS.lstoreN X.here hx rfl (hb hby hd) rfl hl q) k
theorem Go.aload (C : Cx p s m meth c Z bytes own ret maxL) (X : On p l e R s m args below meth c n0 T h cells slots) {i : Nat} {v : Value} (hd : decode bytes pc = .ok (.aload i, 2)) (hl : Ls[i]? = some (.val v)) (hv : v.isRef = true) (hp : pc + 2 = pc') (k : Go p e below s n0 rc rs P T (mkF m pc' Ls (v :: st))) : Go p e below s n0 rc rs P T (mkF m pc Ls st) := by
  obtain ⟨locs, X, eT, N, hn⟩ := X; obtain ⟨hx, hZ, hby, hown, hml, hlk, hrt⟩ := C
  subst hp; exact Go.of (fun t q => XS.aload X.here hx rfl (hb hby hd) hl hv q) k
theorem Go.aloadN (C : Cx p s m meth c Z bytes own ret maxL) (X : On p l e R s m args below meth c n0 T h cells slots) {i : Fin 4} {v : Value} (hd : decode bytes pc = .ok (.aload_n i, 1)) (hl : Ls[i.val]? = some (.val v)) (hv : v.isRef = true) (hp : pc + 1 = pc') (k : Go p e below s n0 rc rs P T (mkF m pc' Ls (v :: st))) : Go p e below s n0 rc rs P T (mkF m pc Ls st) := by
  obtain ⟨locs, X, eT, N, hn⟩ := X; obtain ⟨hx, hZ, hby, hown, hml, hlk, hrt⟩ := C
  subst hp; exact Go.of (fun t q => XS.aloadN X.here hx rfl (hb hby hd) hl hv q) k
theorem Go.astore (C : Cx p s m meth c Z bytes own ret maxL) (X : On p l e R s m args below meth c n0 T h cells slots) {i : Nat} {v : Value} {Ls' : Array Slot} (hd : decode bytes pc = .ok (.astore i, 2)) (hv : v.isRef = true) (hl : storeLocals Ls i v = some Ls') (hp : pc + 2 = pc') (k : Go p e below s n0 rc rs P T (mkF m pc' Ls' st)) : Go p e below s n0 rc rs P T (mkF m pc Ls (v :: st)) := by
  obtain ⟨locs, X, eT, N, hn⟩ := X; obtain ⟨hx, hZ, hby, hown, hml, hlk, hrt⟩ := C
  subst hp; exact Go.of (fun t q => XS.astore X.here hx rfl (hb hby hd) rfl hv hl q) k
theorem Go.astoreN (C : Cx p s m meth c Z bytes own ret maxL) (X : On p l e R s m args below meth c n0 T h cells slots) {i : Fin 4} {v : Value} {Ls' : Array Slot} (hd : decode bytes pc = .ok (.astore_n i, 1)) (hv : v.isRef = true) (hl : storeLocals Ls i.val v = some Ls') (hp : pc + 1 = pc') (k : Go p e below s n0 rc rs P T (mkF m pc' Ls' st)) : Go p e below s n0 rc rs P T (mkF m pc Ls (v :: st)) := by
  obtain ⟨locs, X, eT, N, hn⟩ := X; obtain ⟨hx, hZ, hby, hown, hml, hlk, hrt⟩ := C
  subst hp; exact Go.of (fun t q => XS.astoreN X.here hx rfl (hb hby hd) rfl hv hl q) k
theorem Go.iinc (C : Cx p s m meth c Z bytes own ret maxL) (X : On p l e R s m args below meth c n0 T h cells slots) {i : Nat} {d : Int} {v v' : Int32} {Ls' : Array Slot} (hd : decode bytes pc = .ok (.iinc i d, 3)) (hl : Ls[i]? = some (.val (.int v))) (hv : v + Int32.ofInt d = v') (hl' : storeLocals Ls i (.int v') = some Ls') (hp : pc + 3 = pc') (k : Go p e below s n0 rc rs P T (mkF m pc' Ls' st)) : Go p e below s n0 rc rs P T (mkF m pc Ls st) := by
  obtain ⟨locs, X, eT, N, hn⟩ := X; obtain ⟨hx, hZ, hby, hown, hml, hlk, hrt⟩ := C
  subst hp hv; exact Go.of (fun t q => XS.iinc X.here hx rfl (hb hby hd) hl hl' q) k
theorem Go.goto (C : Cx p s m meth c Z bytes own ret maxL) (X : On p l e R s m args below meth c n0 T h cells slots) {o : Int} (hd : decode bytes pc = .ok (.goto o, 3)) (ho : 0 ≤ (pc : Int) + o) (hp : ((pc : Int) + o).toNat = pc') (k : Go p e below s n0 rc rs P T (mkF m pc' Ls st)) : Go p e below s n0 rc rs P T (mkF m pc Ls st) := by
  obtain ⟨locs, X, eT, N, hn⟩ := X; obtain ⟨hx, hZ, hby, hown, hml, hlk, hrt⟩ := C
  exact Go.of (fun t q => XS.goto X.here hx rfl (pc0 := pc) rfl (hb hby hd) ho hp q) k
theorem Go.ifYes (C : Cx p s m meth c Z bytes own ret maxL) (X : On p l e R s m args below meth c n0 T h cells slots) {o : Int} {cd : ClassFile.Cond} {x : Int32} (hd : decode bytes pc = .ok (.ifCond cd o, 3)) (hc : ifCond.holds cd x = true) (ho : 0 ≤ (pc : Int) + o) (hp : ((pc : Int) + o).toNat = pc') (k : Go p e below s n0 rc rs P T (mkF m pc' Ls st)) : Go p e below s n0 rc rs P T (mkF m pc Ls (.int x :: st)) := by
  obtain ⟨locs, X, eT, N, hn⟩ := X; obtain ⟨hx, hZ, hby, hown, hml, hlk, hrt⟩ := C
  exact Go.of (fun t q => XS.ifYes X.here hx rfl (pc0 := pc) rfl (hb hby hd) rfl hc ho hp q) k
theorem Go.ifNo (C : Cx p s m meth c Z bytes own ret maxL) (X : On p l e R s m args below meth c n0 T h cells slots) {o : Int} {cd : ClassFile.Cond} {x : Int32} (hd : decode bytes pc = .ok (.ifCond cd o, 3)) (hc : ifCond.holds cd x = false) (hp : pc + 3 = pc') (k : Go p e below s n0 rc rs P T (mkF m pc' Ls st)) : Go p e below s n0 rc rs P T (mkF m pc Ls (.int x :: st)) := by
  obtain ⟨locs, X, eT, N, hn⟩ := X; obtain ⟨hx, hZ, hby, hown, hml, hlk, hrt⟩ := C
  subst hp; exact Go.of (fun t q => XS.ifNo X.here hx rfl (hb hby hd) rfl hc q) k
theorem Go.icmpYes (C : Cx p s m meth c Z bytes own ret maxL) (X : On p l e R s m args below meth c n0 T h cells slots) {o : Int} {cd : ClassFile.Cond} {x y : Int32} (hd : decode bytes pc = .ok (.if_icmp cd o, 3)) (hc : if_icmp.holds cd x y = true) (ho : 0 ≤ (pc : Int) + o) (hp : ((pc : Int) + o).toNat = pc') (k : Go p e below s n0 rc rs P T (mkF m pc' Ls st)) : Go p e below s n0 rc rs P T (mkF m pc Ls (.int y :: .int x :: st)) := by
  obtain ⟨locs, X, eT, N, hn⟩ := X; obtain ⟨hx, hZ, hby, hown, hml, hlk, hrt⟩ := C
  exact Go.of (fun t q => XS.icmpYes X.here hx rfl (pc0 := pc) rfl (hb hby hd) rfl hc ho hp q) k
theorem Go.icmpNo (C : Cx p s m meth c Z bytes own ret maxL) (X : On p l e R s m args below meth c n0 T h cells slots) {o : Int} {cd : ClassFile.Cond} {x y : Int32} (hd : decode bytes pc = .ok (.if_icmp cd o, 3)) (hc : if_icmp.holds cd x y = false) (hp : pc + 3 = pc') (k : Go p e below s n0 rc rs P T (mkF m pc' Ls st)) : Go p e below s n0 rc rs P T (mkF m pc Ls (.int y :: .int x :: st)) := by
  obtain ⟨locs, X, eT, N, hn⟩ := X; obtain ⟨hx, hZ, hby, hown, hml, hlk, hrt⟩ := C
  subst hp; exact Go.of (fun t q => XS.icmpNo X.here hx rfl (hb hby hd) rfl hc q) k
theorem Go.acmpYes (C : Cx p s m meth c Z bytes own ret maxL) (X : On p l e R s m args below meth c n0 T h cells slots) {o : Int} {cd : ClassFile.ACond} {a b : Addr} (hd : decode bytes pc = .ok (.if_acmp cd o, 3)) (hc : if_acmp.holds cd (some a) (some b) = true) (ho : 0 ≤ (pc : Int) + o) (hp : ((pc : Int) + o).toNat = pc') (k : Go p e below s n0 rc rs P T (mkF m pc' Ls st)) : Go p e below s n0 rc rs P T (mkF m pc Ls (.ref b :: .ref a :: st)) := by
  obtain ⟨locs, X, eT, N, hn⟩ := X; obtain ⟨hx, hZ, hby, hown, hml, hlk, hrt⟩ := C
  exact Go.of (fun t q => XS.acmpYes X.here hx rfl (pc0 := pc) rfl (hb hby hd) rfl hc ho hp q) k
theorem Go.acmpNo (C : Cx p s m meth c Z bytes own ret maxL) (X : On p l e R s m args below meth c n0 T h cells slots) {o : Int} {cd : ClassFile.ACond} {a b : Addr} (hd : decode bytes pc = .ok (.if_acmp cd o, 3)) (hc : if_acmp.holds cd (some a) (some b) = false) (hp : pc + 3 = pc') (k : Go p e below s n0 rc rs P T (mkF m pc' Ls st)) : Go p e below s n0 rc rs P T (mkF m pc Ls (.ref b :: .ref a :: st)) := by
  obtain ⟨locs, X, eT, N, hn⟩ := X; obtain ⟨hx, hZ, hby, hown, hml, hlk, hrt⟩ := C
  subst hp; exact Go.of (fun t q => XS.acmpNo X.here hx rfl (hb hby hd) rfl hc q) k
theorem Go.acmpV (C : Cx p s m meth c Z bytes own ret maxL) (X : On p l e R s m args below meth c n0 T h cells slots) {o : Int} {cd : ClassFile.ACond} {u v : Value} {same : Bool} (hd : decode bytes pc = .ok (.if_acmp cd o, 3)) (h1 : u.isRef = true) (h2 : v.isRef = true) (hq : decide (u = v) = same) (ho : 0 ≤ (pc : Int) + o) (hp : pc' = if acV cd same = true then ((pc : Int) + o).toNat else pc + 3) (k : Go p e below s n0 rc rs P T (mkF m pc' Ls st)) : Go p e below s n0 rc rs P T (mkF m pc Ls (v :: u :: st)) := by
  obtain ⟨locs, X, eT, N, hn⟩ := X; obtain ⟨hx, hZ, hby, hown, hml, hlk, hrt⟩ := C
  exact Go.of (fun t q => acmp X hx rfl h1 h2 (pc0 := pc) rfl (hb hby hd) rfl hq ho hp q) k
theorem Go.ifnullYes (C : Cx p s m meth c Z bytes own ret maxL) (X : On p l e R s m args below meth c n0 T h cells slots) {o : Int} (hd : decode bytes pc = .ok (.ifnull o, 3)) (ho : 0 ≤ (pc : Int) + o) (hp : ((pc : Int) + o).toNat = pc') (k : Go p e below s n0 rc rs P T (mkF m pc' Ls st)) : Go p e below s n0 rc rs P T (mkF m pc Ls (.null :: st)) := by
  obtain ⟨locs, X, eT, N, hn⟩ := X; obtain ⟨hx, hZ, hby, hown, hml, hlk, hrt⟩ := C
  exact Go.of (fun t q => XS.ifnullYes X.here hx rfl (pc0 := pc) rfl (hb hby hd) rfl ho hp q) k
theorem Go.ifnullNo (C : Cx p s m meth c Z bytes own ret maxL) (X : On p l e R s m args below meth c n0 T h cells slots) {o : Int} {a : Addr} (hd : decode bytes pc = .ok (.ifnull o, 3)) (hp : pc + 3 = pc') (k : Go p e below s n0 rc rs P T (mkF m pc' Ls st)) : Go p e below s n0 rc rs P T (mkF m pc Ls (.ref a :: st)) := by
  obtain ⟨locs, X, eT, N, hn⟩ := X; obtain ⟨hx, hZ, hby, hown, hml, hlk, hrt⟩ := C
  subst hp; exact Go.of (fun t q => XS.ifnullNo X.here hx rfl (hb hby hd) rfl q) k
theorem Go.ifnonnullYes (C : Cx p s m meth c Z bytes own ret maxL) (X : On p l e R s m args below meth c n0 T h cells slots) {o : Int} {a : Addr} (hd : decode bytes pc = .ok (.ifnonnull o, 3)) (ho : 0 ≤ (pc : Int) + o) (hp : ((pc : Int) + o).toNat = pc') (k : Go p e below s n0 rc rs P T (mkF m pc' Ls st)) : Go p e below s n0 rc rs P T (mkF m pc Ls (.ref a :: st)) := by
  obtain ⟨locs, X, eT, N, hn⟩ := X; obtain ⟨hx, hZ, hby, hown, hml, hlk, hrt⟩ := C
  exact Go.of (fun t q => XS.ifnonnullYes X.here hx rfl (pc0 := pc) rfl (hb hby hd) rfl ho hp q) k
theorem Go.ifnonnullNo (C : Cx p s m meth c Z bytes own ret maxL) (X : On p l e R s m args below meth c n0 T h cells slots) {o : Int} (hd : decode bytes pc = .ok (.ifnonnull o, 3)) (hp : pc + 3 = pc') (k : Go p e below s n0 rc rs P T (mkF m pc' Ls st)) : Go p e below s n0 rc rs P T (mkF m pc Ls (.null :: st)) := by
  obtain ⟨locs, X, eT, N, hn⟩ := X; obtain ⟨hx, hZ, hby, hown, hml, hlk, hrt⟩ := C
  subst hp; exact Go.of (fun t q => XS.ifnonnullNo X.here hx rfl (hb hby hd) rfl q) k
theorem Go.lswHit (C : Cx p s m meth c Z bytes own ret maxL) (X : On p l e R s m args below meth c n0 T h cells slots) {dflt : Int} {pairs : Array (Int × Int)} {len : Nat} {x : Int32} {a off : Int} (hd : decode bytes pc = .ok (.lookupswitch dflt pairs, len)) (hs : (pairs.toList.zip (pairs.toList.drop 1)).all (fun (a, next) => a.1 < next.1) = true) (hf : pairs.find? (·.1 == x.toInt) = some (a, off)) (ho : 0 ≤ (pc : Int) + off) (hp : ((pc : Int) + off).toNat = pc') (k : Go p e below s n0 rc rs P T (mkF m pc' Ls st)) : Go p e below s n0 rc rs P T (mkF m pc Ls (.int x :: st)) := by
  obtain ⟨locs, X, eT, N, hn⟩ := X; obtain ⟨hx, hZ, hby, hown, hml, hlk, hrt⟩ := C
  subst hp; exact Go.of (fun t q => X.lookupswitchHit hx (g := mkF m pc Ls (.int x :: st)) rfl rfl (hb hby hd) hs hf ho t q) k
theorem Go.lswMiss (C : Cx p s m meth c Z bytes own ret maxL) (X : On p l e R s m args below meth c n0 T h cells slots) {dflt : Int} {pairs : Array (Int × Int)} {len : Nat} {x : Int32} (hd : decode bytes pc = .ok (.lookupswitch dflt pairs, len)) (hs : (pairs.toList.zip (pairs.toList.drop 1)).all (fun (a, next) => a.1 < next.1) = true) (hf : pairs.find? (·.1 == x.toInt) = none) (ho : 0 ≤ (pc : Int) + dflt) (hp : ((pc : Int) + dflt).toNat = pc') (k : Go p e below s n0 rc rs P T (mkF m pc' Ls st)) : Go p e below s n0 rc rs P T (mkF m pc Ls (.int x :: st)) := by
  obtain ⟨locs, X, eT, N, hn⟩ := X; obtain ⟨hx, hZ, hby, hown, hml, hlk, hrt⟩ := C
  subst hp; exact Go.of (fun t q => X.lookupswitchMiss hx (g := mkF m pc Ls (.int x :: st)) rfl rfl (hb hby hd) hs hf ho t q) k
theorem Go.retV  (C : Cx p s m meth c Z bytes own none maxL) (X : On p l e R s m args below meth c n0 T h cells slots) (hd : decode bytes pc = .ok (.return_, 1)) (hq : P none h) (hc : cells ≤ rc) (hs : slots ≤ rs) : Go p e below s n0 rc rs P T (mkF m pc Ls []) := by
  obtain ⟨locs, X, eT, N, hn⟩ := X; obtain ⟨hx, hZ, hby, hown, hml, hlk, hrt⟩ := C
  obtain ⟨fs, hr, hrun, hended, hW, hsame⟩ := X.leave (v := none) (fun _ => rfl) hlk
  refine ⟨_, _, ?_, hrun, hended, _, _, rfl, ⟨?_, N⟩, ⟨_, rfl⟩, hW, hsame.mono hc hs⟩
  · exact X.returnOut hx hrt (hb hby hd) hr
  · show P _ T.heap; rw [eT]; exact hq
theorem own_retS {locs : List Loc} (X : Stand p l e R s m args below meth c T locs cells slots) (hx : p.tables.exec = Jvm.exec) {z z' : Int32} {t : FieldType} {rest : List Value} (hret : meth.sig.returnType = some t) (hn : narrow t (.int z) = .int z') (hd : decode c.code pc = .ok (.ireturn, 1)) {fs : List Frame}
    (hl : ∀ (f : JFrame) (acts : List Action), f.method = m → f.locked = none → f.entered = [] → (doReturn e (T.setTop f) acts (some (.int z'))).1 = T.setFrames fs) : Steps p.tables e below (T.setTop (mkF m pc Ls (.int z :: rest))) (T.setFrames fs) := by
  have hm' : T.vm.method? m = some meth := X.method'
  show Steps p.tables e below (T.setTop { method := m, pc := pc, locals := Ls, stack := _ :: rest, locked := none }) _
  jvm_step X.here [X.here.top, hx, hd, hm', hret, hn]
  first | (intro acts; rw [hl _ acts rfl rfl rfl]) | rw [hl _ _ rfl rfl rfl]
  exact Steps.refl _
theorem Go.retZ {t : FieldType} (C : Cx p s m meth c Z bytes own (some t) maxL) (X : On p l e R s m args below meth c n0 T h cells slots) {z z' : Int32} (hz : narrow t (.int z) = .int z') (hd : decode bytes pc = .ok (.ireturn, 1)) (hq : P (some (.int z')) h) (hc : cells ≤ rc) (hs : slots ≤ rs) : Go p e below s n0 rc rs P T (mkF m pc Ls (.int z :: st)) := by
  obtain ⟨locs, X, eT, N, hn⟩ := X; obtain ⟨hx, hZ, hby, hown, hml, hlk, hrt⟩ := C
  obtain ⟨fs, hr, hrun, hended, hW, hsame⟩ := X.leave (v := (some (.int z'))) (fun h => by rw [hrt] at h; cases h) hlk
  refine ⟨_, _, ?_, hrun, hended, _, _, rfl, ⟨?_, N⟩, ⟨_, rfl⟩, hW, hsame.mono hc hs⟩
  · exact own_retS X hx hrt hz (hb hby hd) hr
  · show P _ T.heap; rw [eT]; exact hq
theorem Go.retI  (C : Cx p s m meth c Z bytes own (some .int) maxL) (X : On p l e R s m args below meth c n0 T h cells slots) {z : Int32} (hd : decode bytes pc = .ok (.ireturn, 1)) (hq : P (some (.int z)) h) (hc : cells ≤ rc) (hs : slots ≤ rs) : Go p e below s n0 rc rs P T (mkF m pc Ls (.int z :: st)) := by
  obtain ⟨locs, X, eT, N, hn⟩ := X; obtain ⟨hx, hZ, hby, hown, hml, hlk, hrt⟩ := C
  obtain ⟨fs, hr, hrun, hended, hW, hsame⟩ := X.leave (v := (some (.int z))) (fun h => by rw [hrt] at h; cases h) hlk
  refine ⟨_, _, ?_, hrun, hended, _, _, rfl, ⟨?_, N⟩, ⟨_, rfl⟩, hW, hsame.mono hc hs⟩
  · exact own_retS X hx hrt rfl (hb hby hd) hr
  · show P _ T.heap; rw [eT]; exact hq
theorem Go.retL  (C : Cx p s m meth c Z bytes own (some .long) maxL) (X : On p l e R s m args below meth c n0 T h cells slots) {z : Int64} (hd : decode bytes pc = .ok (.lreturn, 1)) (hq : P (some (.long z)) h) (hc : cells ≤ rc) (hs : slots ≤ rs) : Go p e below s n0 rc rs P T (mkF m pc Ls (.long z :: st)) := by
  obtain ⟨locs, X, eT, N, hn⟩ := X; obtain ⟨hx, hZ, hby, hown, hml, hlk, hrt⟩ := C
  obtain ⟨fs, hr, hrun, hended, hW, hsame⟩ := X.leave (v := (some (.long z))) (fun h => by rw [hrt] at h; cases h) hlk
  refine ⟨_, _, ?_, hrun, hended, _, _, rfl, ⟨?_, N⟩, ⟨_, rfl⟩, hW, hsame.mono hc hs⟩
  · jvm_step X.here [X.here.top, hx, (hb hby hd), X.method', hrt, narrow]
    first | (intro acts; rw [hr _ acts rfl rfl rfl]) | rw [hr _ _ rfl rfl rfl]
    exact Steps.refl _
  · show P _ T.heap; rw [eT]; exact hq
theorem Go.retA {cn : String} (C : Cx p s m meth c Z bytes own (some (.object cn)) maxL) (X : On p l e R s m args below meth c n0 T h cells slots) {z : Value} (hz : z.isRef = true) (hd : decode bytes pc = .ok (.areturn, 1)) (hq : P (some z) h) (hc : cells ≤ rc) (hs : slots ≤ rs) : Go p e below s n0 rc rs P T (mkF m pc Ls (z :: st)) := by
  obtain ⟨locs, X, eT, N, hn⟩ := X; obtain ⟨hx, hZ, hby, hown, hml, hlk, hrt⟩ := C
  obtain ⟨fs, hr, hrun, hended, hW, hsame⟩ := X.leave (v := (some z)) (fun h => by rw [hrt] at h; cases h) hlk
  refine ⟨_, _, ?_, hrun, hended, _, _, rfl, ⟨?_, N⟩, ⟨_, rfl⟩, hW, hsame.mono hc hs⟩
  · rcases ref_cases hz with rfl | ⟨a, rfl⟩ <;>
    · jvm_step X.here [X.here.top, hx, (hb hby hd), X.method', hrt, Value.isRef, FieldType.isReference]
      first | (intro acts; rw [hr _ acts rfl rfl rfl]) | rw [hr _ _ rfl rfl rfl]
      exact Steps.refl _
  · show P _ T.heap; rw [eT]; exact hq
theorem Go.retAA {ct : FieldType} (C : Cx p s m meth c Z bytes own (some (.array ct)) maxL) (X : On p l e R s m args below meth c n0 T h cells slots) {z : Value} (hz : z.isRef = true) (hd : decode bytes pc = .ok (.areturn, 1)) (hq : P (some z) h) (hc : cells ≤ rc) (hs : slots ≤ rs) : Go p e below s n0 rc rs P T (mkF m pc Ls (z :: st)) := by
  obtain ⟨locs, X, eT, N, hn⟩ := X; obtain ⟨hx, hZ, hby, hown, hml, hlk, hrt⟩ := C
  obtain ⟨fs, hr, hrun, hended, hW, hsame⟩ := X.leave (v := (some z)) (fun h => by rw [hrt] at h; cases h) hlk
  refine ⟨_, _, ?_, hrun, hended, _, _, rfl, ⟨?_, N⟩, ⟨_, rfl⟩, hW, hsame.mono hc hs⟩
  · rcases ref_cases hz with rfl | ⟨a, rfl⟩ <;>
    · jvm_step X.here [X.here.top, hx, (hb hby hd), X.method', hrt, Value.isRef, FieldType.isReference]
      first | (intro acts; rw [hr _ acts rfl rfl rfl]) | rw [hr _ _ rfl rfl rfl]
      exact Steps.refl _
  · show P _ T.heap; rw [eT]; exact hq
theorem Go.getF (C : Cx p s m meth c Z bytes own ret maxL) (X : On p l e R s m args below meth c n0 T h cells slots) {R0 O n d host : String} {i : Nat} {a : Addr} {v : Value} (w : (Cond.fieldLink own i R0 n d).before a0 Z = true ∨ (Cond.fieldLinkNest own i R0 n d host).before a0 Z = true) (via : Via Z R0 O n d) (F : Fld Z h a O n d v) (hd : decode bytes pc = .ok (.getfield i, 3)) (hp : pc + 3 = pc')
    (k : ∀ T', On p l e R s m args below meth c n0 T' h cells slots → Go p e below s n0 rc rs P T' (mkF m pc' Ls (v :: st))) : Go p e below s n0 rc rs P T (mkF m pc Ls (.ref a :: st)) := by
  obtain ⟨locs, X, eT, N, hn⟩ := X; obtain ⟨hx, hZ, hby, hown, hml, hlk, hrt⟩ := C; subst hp
  obtain ⟨T', X', e', st'⟩ := RoadKit.getF X hx hZ hown w via eT F (g := mkF m pc Ls (.ref a :: st)) rfl rfl (hb hby hd)
  exact Go.of st' (k T' ⟨locs, X', e', N, hn⟩)
theorem Go.getS (C : Cx p s m meth c Z bytes own ret maxL) (X : On p l e R s m args below meth c n0 T h cells slots) {R0 O n d : String} {i : Nat} {v : Value} (w : (Cond.fieldLink own i R0 n d).before a0 Z = true) (via : Via Z R0 O n d) (F : Sta Z h O n d v) (hd : decode bytes pc = .ok (.getstatic i, 3)) (hp : pc + 3 = pc')
    (k : ∀ T', On p l e R s m args below meth c n0 T' h cells slots → Go p e below s n0 rc rs P T' (mkF m pc' Ls (v :: st))) : Go p e below s n0 rc rs P T (mkF m pc Ls st) := by
  obtain ⟨locs, X, eT, N, hn⟩ := X; obtain ⟨hx, hZ, hby, hown, hml, hlk, hrt⟩ := C; subst hp
  obtain ⟨T', X', e', st'⟩ := RoadKit.getS X hx hZ (host := "") hown w via eT F (g := mkF m pc Ls st) rfl (hb hby hd)
  exact Go.of st' (k T' ⟨locs, X', e', N, hn⟩)
theorem Go.putF (C : Cx p s m meth c Z bytes own ret maxL) (X : On p l e R s m args below meth c n0 T h cells slots) {R0 O n d host K : String} {i kk : Nat} {ty : FieldType} {a : Addr} {v old : Value} (w : (Cond.fieldLink own i R0 n d).before a0 Z = true ∨ (Cond.fieldLinkNest own i R0 n d host).before a0 Z = true) (via : Via Z R0 O n d) (F : Fld Z h a O n d old) (E : Exa Z h a K) (L : (Cond.lays K O n d).before a0 Z = true ∨ ((Cond.laysFinal K O n d).before a0 Z = true ∧ own = O ∧ meth.name = "<init>")) (wi : (Cond.instantiable K kk).before a0 Z = true) (ha : n0 ≤ a) (hty : parseFieldDescriptor d = some ty) (hn : narrow ty v = v) (hf : fits ty v = true) (hd : decode bytes pc = .ok (.putfield i, 3)) (hp : pc + 3 = pc')
    (k : ∀ T' h', On p l e R s m args below meth c n0 T' h' cells slots → Wr h h' a (slotOf Z O n d) v → Go p e below s n0 rc rs P T' (mkF m pc' Ls st)) : Go p e below s n0 rc rs P T (mkF m pc Ls (v :: .ref a :: st)) := by
  obtain ⟨locs, X, eT, N, hz⟩ := X; obtain ⟨hx, hZ, hby, hown, hml, hlk, hrt⟩ := C; subst hp
  obtain ⟨T', h', X', e', W, st'⟩ := RoadKit.putF X hx hZ hown w via eT F E L wi hty hn hf (g := mkF m pc Ls (v :: .ref a :: st)) rfl rfl (hb hby hd)
  exact Go.of st' (k T' h' ⟨_, X', e', Fr.snoc X' N ha, by rw [W.size]; exact hz⟩ W)
theorem Go.putFN (C : Cx p s m meth c Z bytes own ret maxL) (X : On p l e R s m args below meth c n0 T h cells slots) {R0 O n d K : String} {i kk : Nat} {ty : FieldType} {a : Addr} {v v' old : Value} (w : (Cond.fieldLink own i R0 n d).before a0 Z = true) (via : Via Z R0 O n d) (F : Fld Z h a O n d old) (E : Exa Z h a K) (L : (Cond.lays K O n d).before a0 Z = true ∨ ((Cond.laysFinal K O n d).before a0 Z = true ∧ own = O ∧ meth.name = "<init>")) (wi : (Cond.instantiable K kk).before a0 Z = true) (ha : n0 ≤ a) (hty : parseFieldDescriptor d = some ty) (hn : narrow ty v = v') (hf : fits ty v' = true) (hd : decode bytes pc = .ok (.putfield i, 3)) (hp : pc + 3 = pc')
    (k : ∀ T' h', On p l e R s m args below meth c n0 T' h' cells slots → Wr h h' a (slotOf Z O n d) v' → Go p e below s n0 rc rs P T' (mkF m pc' Ls st)) : Go p e below s n0 rc rs P T (mkF m pc Ls (v :: .ref a :: st)) := by
  obtain ⟨locs, X, eT, N, hz⟩ := X; obtain ⟨hx, hZ, hby, hown, hml, hlk, hrt⟩ := C; subst hp
  obtain ⟨T', h', X', e', W, st'⟩ := RoadKit.putFN X hx hZ hown w via eT F E L wi hty hn hf (g := mkF m pc Ls (v :: .ref a :: st)) rfl rfl (hb hby hd)
  exact Go.of st' (k T' h' ⟨_, X', e', Fr.snoc X' N ha, by rw [W.size]; exact hz⟩ W)
theorem Go.newO (C : Cx p s m meth c Z bytes own ret maxL) (X : On p l e R s m args below meth c n0 T h cells slots) {K : String} {i kk : Nat} (w : (Cond.classLink own i K).before a0 Z = true) (wi : (Cond.instantiable K kk).before a0 Z = true) (wz : (Cond.initialized K).before a0 Z = true) (hd : decode bytes pc = .ok (.new i, 3)) (hc : cells + 1 ≤ R.cells) (hl : slots + kk ≤ R.slots) (hp : pc + 3 = pc')
    (k : ∀ T' h' a, On p l e R s m args below meth c n0 T' h' (cells + 1) (slots + kk) → a = h.size → Ext h h' → Exa Z h' a K → (∀ {O nm d : String} {ty : FieldType}, Laid Z a0 K O nm d → parseFieldDescriptor d = some ty → Fld Z h' a O nm d (defaultValue ty)) → n0 ≤ a → Go p e below s n0 rc rs P T' (mkF m pc' Ls (.ref a :: st))) : Go p e below s n0 rc rs P T (mkF m pc Ls st) := by
  obtain ⟨locs, X, eT, N, hz⟩ := X; obtain ⟨hx, hZ, hby, hown, hml, hlk, hrt⟩ := C; subst hp
  obtain ⟨T', h', X', e', E, A, D, -, st'⟩ := RoadKit.newO X hx hZ hown w wi wz eT (g := mkF m pc Ls st) rfl (hb hby hd) hc hl
  exact Go.of st' (k T' h' h.size ⟨_, X', e', N, Nat.le_trans hz E.1⟩ rfl E A D hz)
theorem Go.initO (C : Cx p s m meth c Z bytes own ret maxL) (X : On p l e R s m args below meth c n0 T h cells slots) {a : Addr} (hI : ∀ locs, Stand p l e R s m args below meth c T locs cells slots → T.heap = h → ∃ T', Stand p l e R s m args below meth c T' locs cells slots ∧ T'.heap = h ∧ ∀ target, Steps p.tables e below (T'.setTop (mkF m (pc + 3) Ls st)) target → Steps p.tables e below (T.setTop (mkF m pc Ls (.ref a :: st))) target) (hp : pc + 3 = pc')
    (k : ∀ T', On p l e R s m args below meth c n0 T' h cells slots → Go p e below s n0 rc rs P T' (mkF m pc' Ls st)) : Go p e below s n0 rc rs P T (mkF m pc Ls (.ref a :: st)) := by
  obtain ⟨locs, X, eT, N, hz⟩ := X; subst hp
  obtain ⟨T', X', e', st'⟩ := hI locs X eT
  exact Go.of st' (k T' ⟨_, X', e', N, hz⟩)
theorem Go.castY (C : Cx p s m meth c Z bytes own ret maxL) (X : On p l e R s m args below meth c n0 T h cells slots) {K : String} {i : Nat} {a : Addr} (w : (Cond.classLink own i K).before a0 Z = true) (F : Ins Z h a K true) (hd : decode bytes pc = .ok (.checkcast i, 3)) (hp : pc + 3 = pc')
    (k : ∀ T', On p l e R s m args below meth c n0 T' h cells slots → Go p e below s n0 rc rs P T' (mkF m pc' Ls (.ref a :: st))) : Go p e below s n0 rc rs P T (mkF m pc Ls (.ref a :: st)) := by
  obtain ⟨locs, X, eT, N, hn⟩ := X; obtain ⟨hx, hZ, hby, hown, hml, hlk, hrt⟩ := C; subst hp
  obtain ⟨T', X', e', st'⟩ := RoadKit.castY X hx hZ hown w eT F (g := mkF m pc Ls (.ref a :: st)) rfl rfl (hb hby hd)
  exact Go.of st' (k T' ⟨locs, X', e', N, hn⟩)
theorem Go.instY (C : Cx p s m meth c Z bytes own ret maxL) (X : On p l e R s m args below meth c n0 T h cells slots) {K : String} {i : Nat} {a : Addr} (w : (Cond.classLink own i K).before a0 Z = true) (F : Ins Z h a K true) (hd : decode bytes pc = .ok (.instanceof i, 3)) (hp : pc + 3 = pc')
    (k : ∀ T', On p l e R s m args below meth c n0 T' h cells slots → Go p e below s n0 rc rs P T' (mkF m pc' Ls (.int 1 :: st))) : Go p e below s n0 rc rs P T (mkF m pc Ls (.ref a :: st)) := by
  obtain ⟨locs, X, eT, N, hn⟩ := X; obtain ⟨hx, hZ, hby, hown, hml, hlk, hrt⟩ := C; subst hp
  obtain ⟨T', X', e', st'⟩ := RoadKit.instY X hx hZ hown w eT F (g := mkF m pc Ls (.ref a :: st)) rfl rfl (hb hby hd)
  exact Go.of st' (k T' ⟨locs, X', e', N, hn⟩)
def AI (Z : State) (h : Heap) (a : Addr) (ty : FieldType) (n : Nat) (f : Nat → Int32) : Prop := ∃ cl : Cell, Arr Z h a cl ty ∧ cl.slots.size = n ∧ n < 2 ^ 31 ∧ ∀ i, i < n → cl.slots[i]? = some (.int (f i))
def AJ (Z : State) (h : Heap) (a : Addr) (n : Nat) (f : Nat → Int64) : Prop := ∃ cl : Cell, Arr Z h a cl .long ∧ cl.slots.size = n ∧ n < 2 ^ 31 ∧ ∀ i, i < n → cl.slots[i]? = some (.long (f i))
theorem clamp_of {j : Int32} {i : Nat} (hj : j.toInt = (i : Int)) : j.toNatClampNeg = i := by
  show j.toInt.toNat = i
  omega
theorem in_of {j : Int32} {i n : Nat} (hj : j.toInt = (i : Int)) (hi : i < n) {sz : Nat} (hs : sz = n) : ¬ (j < 0 ∨ sz ≤ j.toNatClampNeg) := by
  rw [clamp_of hj]
  intro q
  rcases q with q | q
  · rw [Int32.lt_iff_toInt_lt] at q
    have : (0 : Int32).toInt = 0 := rfl
    omega
  · omega
theorem len32 {z : Int32} {n : Nat} (hz : z.toInt = (n : Int)) : n.toInt32 = z := by
  apply Int32.toInt_inj.mp
  rw [hz]
  have h2 : z.toInt < 2147483648 := z.toInt_lt
  rw [hz] at h2
  exact Int32.toInt_ofNat_of_lt (by omega)
section AFacts
variable {h' : Heap} {a b : Addr} {ty : FieldType} {n sl : Nat} {f : Nat → Int32} {g : Nat → Int64} {v : Value} {ws : List Addr}
theorem AI.lt (F : AI Z h a ty n f) : a < h.size := by obtain ⟨c, A, -⟩ := F; exact A.lt
theorem AI.ext (F : AI Z h a ty n f) (E : Ext h h') : AI Z h' a ty n f := by obtain ⟨c, A, r⟩ := F; exact ⟨c, A.ext E, r⟩
theorem AI.other (F : AI Z h b ty n f) (W : Wr h h' a sl v) (q : b ≠ a) : AI Z h' b ty n f := by obtain ⟨c, A, r⟩ := F; exact ⟨c, A.other W q, r⟩
theorem AI.keep (F : AI Z h a ty n f) (K : Keep h h' ws) (q : a ∉ ws) : AI Z h' a ty n f := by obtain ⟨c, A, r⟩ := F; exact ⟨c, ⟨K.2.1 a c A.1 q, A.2⟩, r⟩
theorem AI.congr {f' : Nat → Int32} (F : AI Z h a ty n f) (q : ∀ i, i < n → f i = f' i) : AI Z h a ty n f' := by
  obtain ⟨c, A, r1, r2, r3⟩ := F; exact ⟨c, A, r1, r2, fun i hi => by rw [r3 i hi, q i hi]⟩
theorem AI.bound (F : AI Z h a ty n f) : n < 2 ^ 31 := by obtain ⟨c, A, r1, r2, r3⟩ := F; exact r2
theorem AI.set {i : Nat} {x : Int32} (F : AI Z h a ty n f) (W : Wr h h' a i (.int x)) : AI Z h' a ty n (fun k => if k = i then x else f k) := by
  obtain ⟨c, A, r1, r2, r3⟩ := F
  refine ⟨_, A.same W, by rw [sz_set]; exact r1, r2, fun k hk => ?_⟩
  by_cases q : k = i
  · subst q; simp [Cell.setSlot, r1, hk]
  · simp only [Cell.setSlot, if_neg q]
    rw [Array.getElem?_setIfInBounds_ne (fun e => q e.symm)]
    exact r3 k hk
theorem AI.new {k : ClassId} {z : Int32} {n : Nat} (hz : z.toInt = (n : Int)) (ht : defaultValue ty = .int 0) (A : Arr Z h a (newA k ty z) ty) : AI Z h a ty n (fun _ => 0) := by
  have h2 : z.toInt < 2147483648 := z.toInt_lt
  refine ⟨_, A, by rw [sz_new, clamp_of hz], by omega, fun i hi => ?_⟩
  simp [newA, clamp_of hz, hi, ht]
theorem AJ.lt (F : AJ Z h a n g) : a < h.size := by obtain ⟨c, A, -⟩ := F; exact A.lt
theorem AJ.ext (F : AJ Z h a n g) (E : Ext h h') : AJ Z h' a n g := by obtain ⟨c, A, r⟩ := F; exact ⟨c, A.ext E, r⟩
theorem AJ.other (F : AJ Z h b n g) (W : Wr h h' a sl v) (q : b ≠ a) : AJ Z h' b n g := by obtain ⟨c, A, r⟩ := F; exact ⟨c, A.other W q, r⟩
theorem AJ.keep (F : AJ Z h a n g) (K : Keep h h' ws) (q : a ∉ ws) : AJ Z h' a n g := by obtain ⟨c, A, r⟩ := F; exact ⟨c, ⟨K.2.1 a c A.1 q, A.2⟩, r⟩
theorem AJ.congr {g' : Nat → Int64} (F : AJ Z h a n g) (q : ∀ i, i < n → g i = g' i) : AJ Z h a n g' := by
  obtain ⟨c, A, r1, r2, r3⟩ := F; exact ⟨c, A, r1, r2, fun i hi => by rw [r3 i hi, q i hi]⟩
theorem AJ.set {i : Nat} {x : Int64} (F : AJ Z h a n g) (W : Wr h h' a i (.long x)) : AJ Z h' a n (fun k => if k = i then x else g k) := by
  obtain ⟨c, A, r1, r2, r3⟩ := F
  refine ⟨_, A.same W, by rw [sz_set]; exact r1, r2, fun k hk => ?_⟩
  by_cases q : k = i
  · subst q; simp [Cell.setSlot, r1, hk]
  · simp only [Cell.setSlot, if_neg q]
    rw [Array.getElem?_setIfInBounds_ne (fun e => q e.symm)]
    exact r3 k hk
theorem AJ.new {k : ClassId} {z : Int32} {n : Nat} (hz : z.toInt = (n : Int)) (A : Arr Z h a (newA k .long z) .long) : AJ Z h a n (fun _ => 0) := by
  have h2 : z.toInt < 2147483648 := z.toInt_lt
  refine ⟨_, A, by rw [sz_new, clamp_of hz], by omega, fun i hi => ?_⟩
  simp [newA, clamp_of hz, hi, defaultValue]
end AFacts
theorem Go.newP (C : Cx p s m meth c Z bytes own ret maxL) (X : On p l e R s m args below meth c n0 T h cells slots) {aty : ArrayType} {z : Int32} {nn cap : Nat} (w : (Cond.arrayClass (newarray.typeOf aty)).before a0 Z = true) (hd : decode bytes pc = .ok (.newarray aty, 2)) (hz : z.toInt = (nn : Int)) (hcap : nn ≤ cap) (hbig : cap * 8 ≤ 536870912) (hc : cells + 1 ≤ R.cells) (hl : slots + cap ≤ R.slots) (hp : pc + 2 = pc')
    (k : ∀ T' h' a cA, On p l e R s m args below meth c n0 T' h' (cells + 1) (slots + cap) → a = h.size → Ext h h' → Arr Z h' a (newA cA (newarray.typeOf aty) z) (newarray.typeOf aty) → n0 ≤ a → Go p e below s n0 rc rs P T' (mkF m pc' Ls (.ref a :: st))) : Go p e below s n0 rc rs P T (mkF m pc Ls (.int z :: st)) := by
  obtain ⟨locs, X, eT, N, hn⟩ := X; obtain ⟨hx, hZ, hby, hown, hml, hlk, hrt⟩ := C; subst hp
  obtain ⟨T', h', cA, X', e', E, A, st'⟩ := RoadKit.newP X hx hZ w eT (g := mkF m pc Ls (.int z :: st)) rfl (hb hby hd) rfl (by rw [Int32.lt_iff_toInt_lt]; have : (0 : Int32).toInt = 0 := rfl; omega) (cap := cap) (by rw [clamp_of hz]; exact hcap) hbig hc hl
  exact Go.of st' (k T' h' h.size cA ⟨_, X', e', N, Nat.le_trans hn E.1⟩ rfl E A hn)
theorem Go.alenI (C : Cx p s m meth c Z bytes own ret maxL) (X : On p l e R s m args below meth c n0 T h cells slots) {a : Addr} {ty : FieldType} {n : Nat} {f : Nat → Int32} {z : Int32} (A : AI Z h a ty n f) (hz : z.toInt = (n : Int)) (hd : decode bytes pc = .ok (.arraylength, 1)) (hp : pc + 1 = pc') (k : Go p e below s n0 rc rs P T (mkF m pc' Ls (.int z :: st))) : Go p e below s n0 rc rs P T (mkF m pc Ls (.ref a :: st)) := by
  obtain ⟨locs, X, eT, N, hn⟩ := X; obtain ⟨hx, hZ, hby, hown, hml, hlk, hrt⟩ := C; subst hp
  obtain ⟨cl, A, r1, r2, r3⟩ := A
  refine Go.of (fun t q => X.arraylength hx (by rw [eT]; exact A.1) (State.isArrayOf_alike hZ.alike A.2.1) (g := mkF m pc Ls (.ref a :: st)) rfl rfl (hb hby hd) t ?_) k
  rw [r1, len32 hz]; exact q
theorem Go.alenJ (C : Cx p s m meth c Z bytes own ret maxL) (X : On p l e R s m args below meth c n0 T h cells slots) {a : Addr} {n : Nat} {f : Nat → Int64} {z : Int32} (A : AJ Z h a n f) (hz : z.toInt = (n : Int)) (hd : decode bytes pc = .ok (.arraylength, 1)) (hp : pc + 1 = pc') (k : Go p e below s n0 rc rs P T (mkF m pc' Ls (.int z :: st))) : Go p e below s n0 rc rs P T (mkF m pc Ls (.ref a :: st)) := by
  obtain ⟨locs, X, eT, N, hn⟩ := X; obtain ⟨hx, hZ, hby, hown, hml, hlk, hrt⟩ := C; subst hp
  obtain ⟨cl, A, r1, r2, r3⟩ := A
  refine Go.of (fun t q => X.arraylength hx (by rw [eT]; exact A.1) (State.isArrayOf_alike hZ.alike A.2.1) (g := mkF m pc Ls (.ref a :: st)) rfl rfl (hb hby hd) t ?_) k
  rw [r1, len32 hz]; exact q
theorem Go.iaload (C : Cx p s m meth c Z bytes own ret maxL) (X : On p l e R s m args below meth c n0 T h cells slots) {a : Addr} {n : Nat} {f : Nat → Int32} {j : Int32} {i : Nat} {w : Int32} (A : AI Z h a .int n f) (hj : j.toInt = (i : Int)) (hi : i < n) (hw : f i = w) (hd : decode bytes pc = .ok (.iaload, 1)) (hp : pc + 1 = pc') (k : Go p e below s n0 rc rs P T (mkF m pc' Ls (.int w :: st))) : Go p e below s n0 rc rs P T (mkF m pc Ls (.int j :: .ref a :: st)) := by
  obtain ⟨locs, X, eT, N, hn⟩ := X; obtain ⟨hx, hZ, hby, hown, hml, hlk, hrt⟩ := C; subst hp hw
  obtain ⟨cl, A, r1, r2, r3⟩ := A
  exact Go.of (fun t q => X.iaload hx (j := j) (v := .int (f i)) (by rw [eT]; exact A.1) (State.isArrayOf_alike hZ.alike A.2.1) A.2.2 (in_of hj hi r1) (by rw [clamp_of hj]; exact r3 i hi) (g := mkF m pc Ls (.int j :: .ref a :: st)) rfl rfl (hb hby hd) t q) k
theorem Go.baload (C : Cx p s m meth c Z bytes own ret maxL) (X : On p l e R s m args below meth c n0 T h cells slots) {a : Addr} {n : Nat} {f : Nat → Int32} {j : Int32} {i : Nat} {w : Int32} (A : AI Z h a .byte n f) (hj : j.toInt = (i : Int)) (hi : i < n) (hw : f i = w) (hd : decode bytes pc = .ok (.baload, 1)) (hp : pc + 1 = pc') (k : Go p e below s n0 rc rs P T (mkF m pc' Ls (.int w :: st))) : Go p e below s n0 rc rs P T (mkF m pc Ls (.int j :: .ref a :: st)) := by
  obtain ⟨locs, X, eT, N, hn⟩ := X; obtain ⟨hx, hZ, hby, hown, hml, hlk, hrt⟩ := C; subst hp hw
  obtain ⟨cl, A, r1, r2, r3⟩ := A
  exact Go.of (fun t q => X.baloadBytes hx (j := j) (v := .int (f i)) (by rw [eT]; exact A.1) (State.isArrayOf_alike hZ.alike A.2.1) A.2.2 (in_of hj hi r1) (by rw [clamp_of hj]; exact r3 i hi) (g := mkF m pc Ls (.int j :: .ref a :: st)) rfl rfl (hb hby hd) t q) k
theorem Go.zaload (C : Cx p s m meth c Z bytes own ret maxL) (X : On p l e R s m args below meth c n0 T h cells slots) {a : Addr} {n : Nat} {f : Nat → Int32} {j : Int32} {i : Nat} {w : Int32} (A : AI Z h a .boolean n f) (hj : j.toInt = (i : Int)) (hi : i < n) (hw : f i = w) (hd : decode bytes pc = .ok (.baload, 1)) (hp : pc + 1 = pc') (k : Go p e below s n0 rc rs P T (mkF m pc' Ls (.int w :: st))) : Go p e below s n0 rc rs P T (mkF m pc Ls (.int j :: .ref a :: st)) := by
  obtain ⟨locs, X, eT, N, hn⟩ := X; obtain ⟨hx, hZ, hby, hown, hml, hlk, hrt⟩ := C; subst hp hw
  obtain ⟨cl, A, r1, r2, r3⟩ := A
  exact Go.of (fun t q => X.baloadBooleans hx (j := j) (v := .int (f i)) (by rw [eT]; exact A.1) (State.isArrayOf_alike hZ.alike A.2.1) A.2.2 (in_of hj hi r1) (by rw [clamp_of hj]; exact r3 i hi) (g := mkF m pc Ls (.int j :: .ref a :: st)) rfl rfl (hb hby hd) t q) k
theorem Go.caload (C : Cx p s m meth c Z bytes own ret maxL) (X : On p l e R s m args below meth c n0 T h cells slots) {a : Addr} {n : Nat} {f : Nat → Int32} {j : Int32} {i : Nat} {w : Int32} (A : AI Z h a .char n f) (hj : j.toInt = (i : Int)) (hi : i < n) (hw : f i = w) (hd : decode bytes pc = .ok (.caload, 1)) (hp : pc + 1 = pc') (k : Go p e below s n0 rc rs P T (mkF m pc' Ls (.int w :: st))) : Go p e below s n0 rc rs P T (mkF m pc Ls (.int j :: .ref a :: st)) := by
  obtain ⟨locs, X, eT, N, hn⟩ := X; obtain ⟨hx, hZ, hby, hown, hml, hlk, hrt⟩ := C; subst hp hw
  obtain ⟨cl, A, r1, r2, r3⟩ := A
  exact Go.of (fun t q => X.caload hx (j := j) (v := .int (f i)) (by rw [eT]; exact A.1) (State.isArrayOf_alike hZ.alike A.2.1) A.2.2 (in_of hj hi r1) (by rw [clamp_of hj]; exact r3 i hi) (g := mkF m pc Ls (.int j :: .ref a :: st)) rfl rfl (hb hby hd) t q) k
theorem Go.laload (C : Cx p s m meth c Z bytes own ret maxL) (X : On p l e R s m args below meth c n0 T h cells slots) {a : Addr} {n : Nat} {f : Nat → Int64} {j : Int32} {i : Nat} {w : Int64} (A : AJ Z h a n f) (hj : j.toInt = (i : Int)) (hi : i < n) (hw : f i = w) (hd : decode bytes pc = .ok (.laload, 1)) (hp : pc + 1 = pc') (k : Go p e below s n0 rc rs P T (mkF m pc' Ls (.long w :: st))) : Go p e below s n0 rc rs P T (mkF m pc Ls (.int j :: .ref a :: st)) := by
  obtain ⟨locs, X, eT, N, hn⟩ := X; obtain ⟨hx, hZ, hby, hown, hml, hlk, hrt⟩ := C; subst hp hw
  obtain ⟨cl, A, r1, r2, r3⟩ := A
  exact Go.of (fun t q => X.laload hx (j := j) (v := .long (f i)) (by rw [eT]; exact A.1) (State.isArrayOf_alike hZ.alike A.2.1) A.2.2 (in_of hj hi r1) (by rw [clamp_of hj]; exact r3 i hi) (g := mkF m pc Ls (.int j :: .ref a :: st)) rfl rfl (hb hby hd) t q) k
theorem Go.iastore (C : Cx p s m meth c Z bytes own ret maxL) (X : On p l e R s m args below meth c n0 T h cells slots) {a : Addr} {n : Nat} {f : Nat → Int32} {j x x' : Int32} {i : Nat} (A : AI Z h a .int n f) (hj : j.toInt = (i : Int)) (hi : i < n) (hv : x = x') (ha : n0 ≤ a) (hd : decode bytes pc = .ok (.iastore, 1)) (hp : pc + 1 = pc')
    (k : ∀ T' h', On p l e R s m args below meth c n0 T' h' cells slots → Wr h h' a i (.int x') → AI Z h' a .int n (fun q => if q = i then x' else f q) → Go p e below s n0 rc rs P T' (mkF m pc' Ls st)) : Go p e below s n0 rc rs P T (mkF m pc Ls (.int x :: .int j :: .ref a :: st)) := by
  obtain ⟨locs, X, eT, N, hn⟩ := X; obtain ⟨hx, hZ, hby, hown, hml, hlk, hrt⟩ := C; subst hp hv
  obtain ⟨cl, A', r1, r2, r3⟩ := id A
  obtain ⟨T', h', X', e', W, st'⟩ := RoadKit.stI X hx hZ eT A' (in_of hj hi r1) (g := mkF m pc Ls (.int x :: .int j :: .ref a :: st)) rfl rfl (hb hby hd)
  have N' := Fr.snoc X' N ha
  rw [clamp_of hj] at W
  exact Go.of st' (k T' h' ⟨_, X', e', N', by rw [W.size]; exact hn⟩ W (A.set W))
theorem Go.bastore (C : Cx p s m meth c Z bytes own ret maxL) (X : On p l e R s m args below meth c n0 T h cells slots) {a : Addr} {n : Nat} {f : Nat → Int32} {j x x' : Int32} {i : Nat} (A : AI Z h a .byte n f) (hj : j.toInt = (i : Int)) (hi : i < n) (hv : nar .byte x = x') (ha : n0 ≤ a) (hd : decode bytes pc = .ok (.bastore, 1)) (hp : pc + 1 = pc')
    (k : ∀ T' h', On p l e R s m args below meth c n0 T' h' cells slots → Wr h h' a i (.int x') → AI Z h' a .byte n (fun q => if q = i then x' else f q) → Go p e below s n0 rc rs P T' (mkF m pc' Ls st)) : Go p e below s n0 rc rs P T (mkF m pc Ls (.int x :: .int j :: .ref a :: st)) := by
  obtain ⟨locs, X, eT, N, hn⟩ := X; obtain ⟨hx, hZ, hby, hown, hml, hlk, hrt⟩ := C; subst hp hv
  obtain ⟨cl, A', r1, r2, r3⟩ := id A
  obtain ⟨T', h', X', e', W, st'⟩ := RoadKit.stB X hx hZ eT A' (in_of hj hi r1) (g := mkF m pc Ls (.int x :: .int j :: .ref a :: st)) rfl rfl (hb hby hd)
  have N' := Fr.snoc X' N ha
  rw [clamp_of hj] at W
  exact Go.of st' (k T' h' ⟨_, X', e', N', by rw [W.size]; exact hn⟩ W (A.set W))
theorem Go.castore (C : Cx p s m meth c Z bytes own ret maxL) (X : On p l e R s m args below meth c n0 T h cells slots) {a : Addr} {n : Nat} {f : Nat → Int32} {j x x' : Int32} {i : Nat} (A : AI Z h a .char n f) (hj : j.toInt = (i : Int)) (hi : i < n) (hv : nar .char x = x') (ha : n0 ≤ a) (hd : decode bytes pc = .ok (.castore, 1)) (hp : pc + 1 = pc')
    (k : ∀ T' h', On p l e R s m args below meth c n0 T' h' cells slots → Wr h h' a i (.int x') → AI Z h' a .char n (fun q => if q = i then x' else f q) → Go p e below s n0 rc rs P T' (mkF m pc' Ls st)) : Go p e below s n0 rc rs P T (mkF m pc Ls (.int x :: .int j :: .ref a :: st)) := by
  obtain ⟨locs, X, eT, N, hn⟩ := X; obtain ⟨hx, hZ, hby, hown, hml, hlk, hrt⟩ := C; subst hp hv
  obtain ⟨cl, A', r1, r2, r3⟩ := id A
  obtain ⟨T', h', X', e', W, st'⟩ := RoadKit.stC X hx hZ eT A' (in_of hj hi r1) (g := mkF m pc Ls (.int x :: .int j :: .ref a :: st)) rfl rfl (hb hby hd)
  have N' := Fr.snoc X' N ha
  rw [clamp_of hj] at W
  exact Go.of st' (k T' h' ⟨_, X', e', N', by rw [W.size]; exact hn⟩ W (A.set W))
theorem Go.zastore (C : Cx p s m meth c Z bytes own ret maxL) (X : On p l e R s m args below meth c n0 T h cells slots) {a : Addr} {n : Nat} {f : Nat → Int32} {j x x' : Int32} {i : Nat} (A : AI Z h a .boolean n f) (hj : j.toInt = (i : Int)) (hi : i < n) (hv : nar .boolean x = x') (ha : n0 ≤ a) (hd : decode bytes pc = .ok (.bastore, 1)) (hp : pc + 1 = pc')
    (k : ∀ T' h', On p l e R s m args below meth c n0 T' h' cells slots → Wr h h' a i (.int x') → AI Z h' a .boolean n (fun q => if q = i then x' else f q) → Go p e below s n0 rc rs P T' (mkF m pc' Ls st)) : Go p e below s n0 rc rs P T (mkF m pc Ls (.int x :: .int j :: .ref a :: st)) := by
  obtain ⟨locs, X, eT, N, hn⟩ := X; obtain ⟨hx, hZ, hby, hown, hml, hlk, hrt⟩ := C; subst hp hv
  obtain ⟨cl, A', r1, r2, r3⟩ := id A
  obtain ⟨T', h', X', e', W, st'⟩ := RoadKit.stZ X hx hZ eT A' (in_of hj hi r1) (g := mkF m pc Ls (.int x :: .int j :: .ref a :: st)) rfl rfl (hb hby hd)
  have N' := Fr.snoc X' N ha
  rw [clamp_of hj] at W
  exact Go.of st' (k T' h' ⟨_, X', e', N', by rw [W.size]; exact hn⟩ W (A.set W))
theorem Go.lastore (C : Cx p s m meth c Z bytes own ret maxL) (X : On p l e R s m args below meth c n0 T h cells slots) {a : Addr} {n : Nat} {f : Nat → Int64} {j : Int32} {x : Int64} {i : Nat} (A : AJ Z h a n f) (hj : j.toInt = (i : Int)) (hi : i < n) (ha : n0 ≤ a) (hd : decode bytes pc = .ok (.lastore, 1)) (hp : pc + 1 = pc')
    (k : ∀ T' h', On p l e R s m args below meth c n0 T' h' cells slots → Wr h h' a i (.long x) → AJ Z h' a n (fun q => if q = i then x else f q) → Go p e below s n0 rc rs P T' (mkF m pc' Ls st)) : Go p e below s n0 rc rs P T (mkF m pc Ls (.long x :: .int j :: .ref a :: st)) := by
  obtain ⟨locs, X, eT, N, hn⟩ := X; obtain ⟨hx, hZ, hby, hown, hml, hlk, hrt⟩ := C; subst hp
  obtain ⟨cl, A', r1, r2, r3⟩ := id A
  obtain ⟨T', h', X', e', W, st'⟩ := RoadKit.stJ X hx hZ eT A' (in_of hj hi r1) (g := mkF m pc Ls (.long x :: .int j :: .ref a :: st)) rfl rfl (hb hby hd)
  have N' := Fr.snoc X' N ha
  rw [clamp_of hj] at W
  exact Go.of st' (k T' h' ⟨_, X', e', N', by rw [W.size]; exact hn⟩ W (A.set W))
def AR (Z : State) (h : Heap) (a : Addr) (ty : FieldType) (n : Nat) (f : Nat → Value) : Prop := ∃ cl : Cell, Arr Z h a cl ty ∧ cl.slots.size = n ∧ n < 2 ^ 31 ∧ (∀ i, i < n → cl.slots[i]? = some (f i)) ∧ FitC Z cl
theorem AR.lt {a : Addr} {ty : FieldType} {n : Nat} {f : Nat → Value} (F : AR Z h a ty n f) : a < h.size := by obtain ⟨c, A, -⟩ := F; exact A.lt
theorem AR.ext {h' : Heap} {a : Addr} {ty : FieldType} {n : Nat} {f : Nat → Value} (F : AR Z h a ty n f) (E : Ext h h') : AR Z h' a ty n f := by obtain ⟨c, A, r⟩ := F; exact ⟨c, A.ext E, r⟩
theorem AR.other {h' : Heap} {a b : Addr} {sl : Nat} {v : Value} {ty : FieldType} {n : Nat} {f : Nat → Value} (F : AR Z h b ty n f) (W : Wr h h' a sl v) (q : b ≠ a) : AR Z h' b ty n f := by obtain ⟨c, A, r⟩ := F; exact ⟨c, A.other W q, r⟩
theorem AR.keep {h' : Heap} {a : Addr} {ws : List Addr} {ty : FieldType} {n : Nat} {f : Nat → Value} (F : AR Z h a ty n f) (K : Keep h h' ws) (q : a ∉ ws) : AR Z h' a ty n f := by obtain ⟨c, A, r⟩ := F; exact ⟨c, ⟨K.2.1 a c A.1 q, A.2⟩, r⟩
theorem Go.alenR (C : Cx p s m meth c Z bytes own ret maxL) (X : On p l e R s m args below meth c n0 T h cells slots) {a : Addr} {ty : FieldType} {n : Nat} {f : Nat → Value} {z : Int32} (A : AR Z h a ty n f) (hz : z.toInt = (n : Int)) (hd : decode bytes pc = .ok (.arraylength, 1)) (hp : pc + 1 = pc') (k : Go p e below s n0 rc rs P T (mkF m pc' Ls (.int z :: st))) : Go p e below s n0 rc rs P T (mkF m pc Ls (.ref a :: st)) := by
  obtain ⟨locs, X, eT, N, hn⟩ := X; obtain ⟨hx, hZ, hby, hown, hml, hlk, hrt⟩ := C; subst hp
  obtain ⟨cl, A, r1, r2, r3⟩ := A
  refine Go.of (fun t q => X.arraylength hx (by rw [eT]; exact A.1) (State.isArrayOf_alike hZ.alike A.2.1) (g := mkF m pc Ls (.ref a :: st)) rfl rfl (hb hby hd) t ?_) k
  rw [r1, len32 hz]; exact q
theorem Go.aaload (C : Cx p s m meth c Z bytes own ret maxL) (X : On p l e R s m args below meth c n0 T h cells slots) {a : Addr} {ty : FieldType} {n : Nat} {f : Nat → Value} {j : Int32} {i : Nat} {w : Value} (A : AR Z h a ty n f) (hty : ty.isReference = true) (hj : j.toInt = (i : Int)) (hi : i < n) (hw : f i = w) (hd : decode bytes pc = .ok (.aaload, 1)) (hp : pc + 1 = pc') (k : Go p e below s n0 rc rs P T (mkF m pc' Ls (w :: st))) : Go p e below s n0 rc rs P T (mkF m pc Ls (.int j :: .ref a :: st)) := by
  obtain ⟨locs, X, eT, N, hn⟩ := X; obtain ⟨hx, hZ, hby, hown, hml, hlk, hrt⟩ := C; subst hp hw
  obtain ⟨cl, A, r1, r2, r3, r4⟩ := A
  exact Go.of (fun t q => X.aaload hx (j := j) (v := f i) (by rw [eT]; exact A.1) (State.isArrayOf_alike hZ.alike A.2.1) hty A.2.2 (in_of hj hi r1) (by rw [clamp_of hj]; exact r3 i hi) (g := mkF m pc Ls (.int j :: .ref a :: st)) rfl rfl (hb hby hd) t q) k
theorem Go.cloneA (C : Cx p s m meth c Z bytes own ret maxL) (X : On p l e R s m args below meth c n0 T h cells slots) {ad : String} {i : Nat} {a : Addr} {ty : FieldType} {n W cap : Nat} {f : Nat → Value}
    (w1 : (Cond.methodLink own i ⟨ad, "clone", "()Ljava/lang/Object;"⟩).before a0 Z = true) (w2 : (Cond.sameMethod ad "java/lang/Object" "clone" "()Ljava/lang/Object;").before a0 Z = true) (w3 : (Cond.native ⟨"java/lang/Object", "clone", "()Ljava/lang/Object;"⟩).before a0 Z = true)
    (w4 : (Cond.instanceMethod ⟨"java/lang/Object", "clone", "()Ljava/lang/Object;"⟩).before a0 Z = true) (w5 : (Cond.selects ad ⟨ad, "clone", "()Ljava/lang/Object;"⟩ ⟨"java/lang/Object", "clone", "()Ljava/lang/Object;"⟩).before a0 Z = true) (w6 : (Cond.castable ad "java/lang/Cloneable").before a0 Z = true)
    (A : AR Z h a ty n f) (E : Exa Z h a ad) (hsz : Ls.size = maxL) (hd : decode bytes pc = .ok (.invokevirtual i, 3)) (hf : 1 ≤ R.frames) (hW : (st.map fun v => v.category).sum ≤ W) (hl : W + 14 ≤ R.locals) (hcap : n ≤ cap) (hc : cells + 1 ≤ R.cells) (hsl : slots + cap ≤ R.slots) (hp : pc + 3 = pc')
    (k : ∀ T' h' b, On p l e R s m args below meth c n0 T' h' (cells + 1) (slots + cap) → b = h.size → Ext h h' → AR Z h' b ty n f → Exa Z h' b ad → n0 ≤ b → Go p e below s n0 rc rs P T' (mkF m pc' Ls (.ref b :: st))) : Go p e below s n0 rc rs P T (mkF m pc Ls (.ref a :: st)) := by
  obtain ⟨locs, X, eT, N, hn⟩ := X; obtain ⟨hx, hZ, hby, hown, hml, hlk, hrt⟩ := C; subst hp
  obtain ⟨cl, A, r1, r2, r3, r4⟩ := A
  obtain ⟨T', h', X', e', ex, A', E', st'⟩ := RoadKit.cloneA X hx hZ hown w1 w2 w3 w4 w5 w6 eT A E r4 (g := mkF m pc Ls (.ref a :: st)) rfl (by rw [hml]; exact hsz) rfl (hb hby hd) hf (W := W) (cap := cap) (by simpa using hW) hl (by rw [r1]; exact hcap) hc hsl
  exact Go.of st' (k T' h' h.size ⟨_, X', e', N, Nat.le_trans hn ex.1⟩ rfl ex ⟨cloneOf cl, A', r1, r2, r3, r4⟩ E' hn)
theorem Go.callS (C : Cx p s m meth c Z bytes own ret maxL) (X : On p l e R s m args below meth c n0 T h cells slots) {y : MethodName} {cb : ByteArray} {cm : Nat} {cr : Option FieldType} {rm : Room} {as' : Array Value} {P' : Option Value → Heap → Prop} {i W : Nat} {argsL rest : List Value} (K : Con l Z y cb cm cr rm as' h n0 P') (w1 : (Cond.methodLink own i y).before a0 Z = true) (w2 : (Cond.static y).before a0 Z = true) (w3 : (Cond.initialized y.cls).before a0 Z = true) (w4 : (Cond.code y cb cm cr).before a0 Z = true) (hy : y.cls ≠ "java/lang/invoke/MethodHandle" ∧ y.cls ≠ "java/lang/invoke/VarHandle")
    (has : argsL.toArray = as') (hst : st = argsL.reverse ++ rest) (hlen : ∀ sig, parseMethodDescriptor y.desc = some sig → argsL.length = sig.parameters.length) (hsz : Ls.size = maxL) (hW : (rest.map fun v => v.category).sum ≤ W) (hf : rm.frames + 1 ≤ R.frames) (hlo : W + (cm + 11) + rm.locals ≤ R.locals) (hce : cells + rm.cells ≤ R.cells) (hsl : slots + rm.slots ≤ R.slots) (hd : decode bytes pc = .ok (.invokestatic i, 3)) (hp : pc + 3 = pc')
    (hgrow : ∀ v h', P' v h' → h.size ≤ h'.size)
    (k : ∀ T' h' v, On p l e R s m args below meth c n0 T' h' (cells + rm.cells) (slots + rm.slots) → P' v h' → Go p e below s n0 rc rs P T' (mkF m pc' Ls (v.toList ++ rest))) : Go p e below s n0 rc rs P T (mkF m pc Ls st) := by
  obtain ⟨locs, X, eT, N, hn⟩ := X; obtain ⟨hx, hZ, hby, hown, hml, hlk, hrt⟩ := C; subst hp has hst
  obtain ⟨v, _, ⟨T', L', k', n'⟩, -, X', ⟨Lc, hQ, l', y', z'⟩, st'⟩ := Jvm.LawKit.callS X hx (y := y) hown (mvT hZ w1) (mvT hZ w2) (mvT hZ w3) (mvT hZ w4) hy (K.back (W := W) hZ w4 w3 hf hlo) (g := mkF m pc Ls (argsL.reverse ++ rest)) rfl (by rw [hml]; exact hsz) (argsL := argsL) (rest := rest) hlen rfl (by simpa using hW) (hb hby hd) (fun _ _ => ⟨rfl, eT, hce, hsl⟩)
  dsimp only [Pt.U, Pt.locs, Pt.cells, Pt.slots] at X' l' y' z' st' hQ
  subst l' y' z'
  exact Go.of st' (k T' _ v ⟨_, X', rfl, Fr.app N hQ.2, Nat.le_trans hn (hgrow _ _ hQ.1)⟩ hQ.1)
theorem Go.callI (C : Cx p s m meth c Z bytes own ret maxL) (X : On p l e R s m args below meth c n0 T h cells slots) {y : MethodName} {cb : ByteArray} {cm : Nat} {cr : Option FieldType} {rm : Room} {as' : Array Value} {P' : Option Value → Heap → Prop} {i W : Nat} {argsL rest : List Value} (K : Con l Z y cb cm cr rm as' h n0 P') {a : Addr} (hy1 : y.name = "<init>") (hcr : cr = none) (w1 : (Cond.methodLink own i y).before a0 Z = true) (w2 : (Cond.instanceMethod y).before a0 Z = true) (w3 : (Cond.initialized y.cls).before a0 Z = true) (w4 : (Cond.code y cb cm cr).before a0 Z = true) (hy : y.cls ≠ "java/lang/invoke/MethodHandle" ∧ y.cls ≠ "java/lang/invoke/VarHandle")
    (has : (.ref a :: argsL).toArray = as') (hst : st = argsL.reverse ++ .ref a :: rest) (hlen : ∀ sig, parseMethodDescriptor y.desc = some sig → argsL.length = sig.parameters.length) (hsz : Ls.size = maxL) (hW : (rest.map fun v => v.category).sum ≤ W) (hf : rm.frames + 1 ≤ R.frames) (hlo : W + (cm + 11) + rm.locals ≤ R.locals) (hce : cells + rm.cells ≤ R.cells) (hsl : slots + rm.slots ≤ R.slots) (hd : decode bytes pc = .ok (.invokespecial i, 3)) (hp : pc + 3 = pc')
    (hgrow : ∀ v h', P' v h' → h.size ≤ h'.size)
    (k : ∀ T' h' v, On p l e R s m args below meth c n0 T' h' (cells + rm.cells) (slots + rm.slots) → P' v h' → Go p e below s n0 rc rs P T' (mkF m pc' Ls (v.toList ++ rest))) : Go p e below s n0 rc rs P T (mkF m pc Ls st) := by
  obtain ⟨locs, X, eT, N, hn⟩ := X; obtain ⟨hx, hZ, hby, hown, hml, hlk, hrt⟩ := C; subst hp has hst hcr
  obtain ⟨v, _, ⟨T', L', k', n'⟩, -, X', ⟨Lc, hQ, l', y', z'⟩, st'⟩ := X.specialBack hx (y := y) hy1 hown (mvT hZ w1) (mvT hZ w2) (mvT hZ w4) hy (K.back (W := W) hZ w4 w3 hf hlo) (g := mkF m pc Ls (argsL.reverse ++ .ref a :: rest)) rfl (by rw [hml]; exact hsz) (Steps.refl _) (a := a) (argsL := argsL) (rest := rest) hlen rfl (by simpa using hW) (hb hby hd) (fun _ _ => ⟨rfl, eT, hce, hsl⟩)
  dsimp only [Pt.U, Pt.locs, Pt.cells, Pt.slots] at X' l' y' z' st' hQ
  subst l' y' z'
  exact Go.tr st' (k T' _ v ⟨_, X', rfl, Fr.app N hQ.2, Nat.le_trans hn (hgrow _ _ hQ.1)⟩ hQ.1)
theorem Go.callV (C : Cx p s m meth c Z bytes own ret maxL) (X : On p l e R s m args below meth c n0 T h cells slots) {y : MethodName} {cb : ByteArray} {cm : Nat} {cr : Option FieldType} {rm : Room} {as' : Array Value} {P' : Option Value → Heap → Prop} {i W : Nat} {argsL rest : List Value} (K : Con l Z y cb cm cr rm as' h n0 P') {y0 : MethodName} {a : Addr} {Ck : String} (E : Exa Z h a Ck) (nf : NotFace s y0) (w1 : (Cond.methodLink own i y0).before a0 Z = true) (w2 : (Cond.declares y0).before a0 Z = true) (w5 : (Cond.selects Ck y0 y).before a0 Z = true) (w6 : (Cond.instanceMethod y).before a0 Z = true) (w3 : (Cond.initialized y.cls).before a0 Z = true) (w4 : (Cond.code y cb cm cr).before a0 Z = true) (hy : y0.cls ≠ "java/lang/invoke/MethodHandle" ∧ y0.cls ≠ "java/lang/invoke/VarHandle")
    (has : (.ref a :: argsL).toArray = as') (hst : st = argsL.reverse ++ .ref a :: rest) (hlen : ∀ sig, parseMethodDescriptor y0.desc = some sig → argsL.length = sig.parameters.length) (hsz : Ls.size = maxL) (hW : (rest.map fun v => v.category).sum ≤ W) (hf : rm.frames + 1 ≤ R.frames) (hlo : W + (cm + 11) + rm.locals ≤ R.locals) (hce : cells + rm.cells ≤ R.cells) (hsl : slots + rm.slots ≤ R.slots) (hd : decode bytes pc = .ok (.invokevirtual i, 3)) (hp : pc + 3 = pc')
    (hgrow : ∀ v h', P' v h' → h.size ≤ h'.size)
    (k : ∀ T' h' v, On p l e R s m args below meth c n0 T' h' (cells + rm.cells) (slots + rm.slots) → P' v h' → Go p e below s n0 rc rs P T' (mkF m pc' Ls (v.toList ++ rest))) : Go p e below s n0 rc rs P T (mkF m pc Ls st) := by
  obtain ⟨locs, X, eT, N, hn⟩ := X; obtain ⟨hx, hZ, hby, hown, hml, hlk, hrt⟩ := C; subst hp has hst
  obtain ⟨cq, kq, qa, qb, qc⟩ := isOf hZ eT E
  obtain ⟨v, _, ⟨T', L', k', n'⟩, -, X', ⟨Lc, hQ, l', y', z'⟩, st'⟩ := X.virtualBack hx (y := y0) (z := y) hown (mvT hZ w1) (mvT hZ w2) nf (mvT hZ w5) (mvT hZ w6) hy (K.back (W := W) hZ w4 w3 hf hlo) qa qc (g := mkF m pc Ls (argsL.reverse ++ .ref a :: rest)) rfl (by rw [hml]; exact hsz) (Steps.refl _) (argsL := argsL) (rest := rest) hlen rfl (by simpa using hW) (hb hby hd) (fun _ _ => ⟨rfl, eT, hce, hsl⟩)
  dsimp only [Pt.U, Pt.locs, Pt.cells, Pt.slots] at X' l' y' z' st' hQ
  subst l' y' z'
  exact Go.tr st' (k T' _ v ⟨_, X', rfl, Fr.app N hQ.2, Nat.le_trans hn (hgrow _ _ hQ.1)⟩ hQ.1)
theorem own_selp {y : MethodName} {kk : Nat} (hZ : Z.Warmed39 s.vm) (wi : (Cond.instantiable y.cls kk).before a0 Z = true) (w2 : (Cond.instanceMethod y).before a0 Z = true) (w6 : (Cond.privateMethod y).before a0 Z = true) (hy : y.cls ≠ "java/lang/invoke/MethodHandle" ∧ y.cls ≠ "java/lang/invoke/VarHandle") : (Cond.selects y.cls y y).before args s = true := by
  have wi' : (Cond.instantiable y.cls kk).before args s = true := mvT hZ wi
  obtain ⟨c2, k2, i1, i2, i3, i4, -⟩ := Cond.instantiable_spec wi'
  exact Jvm.Stand.selects_self_of_private i1 i2 (by simp only [Bool.or_eq_false_iff] at i4; exact i4.1) (Cond.privateMethod_at (mvP hZ w6 (args := #[]))) (mvT hZ w2) hy
theorem Go.callP (C : Cx p s m meth c Z bytes own ret maxL) (X : On p l e R s m args below meth c n0 T h cells slots) {y : MethodName} {cb : ByteArray} {cm : Nat} {cr : Option FieldType} {rm : Room} {as' : Array Value} {P' : Option Value → Heap → Prop} {i W : Nat} {argsL rest : List Value} (K : Con l Z y cb cm cr rm as' h n0 P') {a : Addr} {Ck : String} (E : Exa Z h a Ck) (w1 : (Cond.methodLink own i y).before a0 Z = true) (w2 : (Cond.instanceMethod y).before a0 Z = true) {kk : Nat} (w5 : (Cond.instantiable y.cls kk).before a0 Z = true) (w6 : (Cond.privateMethod y).before a0 Z = true) (w3 : (Cond.initialized y.cls).before a0 Z = true) (w4 : (Cond.code y cb cm cr).before a0 Z = true) (hy : y.cls ≠ "java/lang/invoke/MethodHandle" ∧ y.cls ≠ "java/lang/invoke/VarHandle")
    (has : (.ref a :: argsL).toArray = as') (hst : st = argsL.reverse ++ .ref a :: rest) (hlen : ∀ sig, parseMethodDescriptor y.desc = some sig → argsL.length = sig.parameters.length) (hsz : Ls.size = maxL) (hW : (rest.map fun v => v.category).sum ≤ W) (hf : rm.frames + 1 ≤ R.frames) (hlo : W + (cm + 11) + rm.locals ≤ R.locals) (hce : cells + rm.cells ≤ R.cells) (hsl : slots + rm.slots ≤ R.slots) (hd : decode bytes pc = .ok (.invokevirtual i, 3)) (hp : pc + 3 = pc')
    (hgrow : ∀ v h', P' v h' → h.size ≤ h'.size)
    (k : ∀ T' h' v, On p l e R s m args below meth c n0 T' h' (cells + rm.cells) (slots + rm.slots) → P' v h' → Go p e below s n0 rc rs P T' (mkF m pc' Ls (v.toList ++ rest))) : Go p e below s n0 rc rs P T (mkF m pc Ls st) := by
  obtain ⟨locs, X, eT, N, hn⟩ := X; obtain ⟨hx, hZ, hby, hown, hml, hlk, hrt⟩ := C; subst hp has hst
  obtain ⟨cq, qa, qb⟩ := E.cell
  obtain ⟨v, _, ⟨T', L', k', n'⟩, -, X', ⟨Lc, hQ, l', y', z'⟩, st'⟩ := X.privateBack hx (y := y) hown (mvT hZ w1) (mvT hZ w2) (own_selp hZ w5 w2 w6 hy) (Cond.privateMethod_at (mvP hZ w6 (args := #[]))) (mvT hZ w4) hy (K.back (W := W) hZ w4 w3 hf hlo) (g := mkF m pc Ls (argsL.reverse ++ .ref a :: rest)) rfl (by rw [hml]; exact hsz) (Steps.refl _) (a := a) (by rw [eT]; exact qa) qb (argsL := argsL) (rest := rest) hlen rfl (by simpa using hW) (hb hby hd) (fun _ _ => ⟨rfl, eT, hce, hsl⟩)
  dsimp only [Pt.U, Pt.locs, Pt.cells, Pt.slots] at X' l' y' z' st' hQ
  subst l' y' z'
  exact Go.tr st' (k T' _ v ⟨_, X', rfl, Fr.app N hQ.2, Nat.le_trans hn (hgrow _ _ hQ.1)⟩ hQ.1)
end Own
end Jvm.RoadKit
namespace Jvm.RoadKit
theorem own_iadd {x y : Int32} (h1 : -2147483648 ≤ x.toInt + y.toInt) (h2 : x.toInt + y.toInt < 2147483648) : (x + y).toInt = x.toInt + y.toInt := by
  have h3 := c_iadd x y; have h4 := rng32 (x + y); omega
theorem own_isub {x y : Int32} (h1 : -2147483648 ≤ x.toInt - y.toInt) (h2 : x.toInt - y.toInt < 2147483648) : (x - y).toInt = x.toInt - y.toInt := by
  have h3 := c_isub x y; have h4 := rng32 (x - y); omega
theorem own_imul {x y : Int32} (h1 : -2147483648 ≤ x.toInt * y.toInt) (h2 : x.toInt * y.toInt < 2147483648) : (x * y).toInt = x.toInt * y.toInt := by
  have h3 := c_imul x y; have h4 := rng32 (x * y); omega
theorem own_ladd {x y : Int64} (h1 : -9223372036854775808 ≤ x.toInt + y.toInt) (h2 : x.toInt + y.toInt < 9223372036854775808) : (x + y).toInt = x.toInt + y.toInt := by
  have h3 := c_ladd x y; have h4 := rng64 (x + y); omega
theorem own_lsub {x y : Int64} (h1 : -9223372036854775808 ≤ x.toInt - y.toInt) (h2 : x.toInt - y.toInt < 9223372036854775808) : (x - y).toInt = x.toInt - y.toInt := by
  have h3 := c_lsub x y; have h4 := rng64 (x - y); omega
theorem own_lmul {x y : Int64} (h1 : -9223372036854775808 ≤ x.toInt * y.toInt) (h2 : x.toInt * y.toInt < 9223372036854775808) : (x * y).toInt = x.toInt * y.toInt := by
  have h3 := c_lmul x y; have h4 := rng64 (x * y); omega
theorem own_ilt {x y : Int32} : x < y ↔ x.toInt < y.toInt := Int32.lt_iff_toInt_lt
theorem own_jlt {x y : Int64} : x < y ↔ x.toInt < y.toInt := Int64.lt_iff_toInt_lt
theorem own_ieq {x y : Int32} : x = y ↔ x.toInt = y.toInt := Int32.toInt_inj.symm
theorem own_jeq {x y : Int64} : x = y ↔ x.toInt = y.toInt := Int64.toInt_inj.symm
theorem own_inc {x y : Int32} (h : x < y) : (x + (1 : Int32)).toInt = x.toInt + 1 := by
  rw [own_ilt] at h
  have h1 := rng32 x; have h2 := rng32 y
  have e : (1 : Int32).toInt = 1 := rfl
  rw [own_iadd (by omega) (by omega), e]
theorem own_dec {x y : Int32} (h : y < x) : (x + (-1 : Int32)).toInt = x.toInt - 1 := by
  rw [own_ilt] at h
  have h1 := rng32 x; have h2 := rng32 y
  have e : (-1 : Int32).toInt = -1 := rfl
  rw [own_iadd (by omega) (by omega), e]; omega
theorem own_nat32 {x : Int32} {n : Nat} (h : x.toInt = (n : Int)) : x = Int32.ofNat n := by
  apply Int32.toInt_inj.mp
  have := rng32 x
  rw [Int32.toInt_ofNat_of_lt (by omega), h]
theorem own_pos31 (x : Int32) : 0 ≤ (x &&& (2147483647 : Int32)).toInt := by
  have h := c_mask x 2147483647 31 (by decide) (by decide)
  rw [h]; exact Int.emod_nonneg _ (by decide)
theorem own_mod (x : Int32) (k : Int32) (d : Int) (hk : k.toInt = d) (hd : 0 < d) : ((x &&& (2147483647 : Int32)) % k).toInt = (x &&& (2147483647 : Int32)).toInt % d ∧ 0 ≤ ((x &&& (2147483647 : Int32)) % k).toInt ∧ ((x &&& (2147483647 : Int32)) % k).toInt < d := by
  have h := (c_irem (x &&& (2147483647 : Int32)) k d hk).1 (own_pos31 x)
  exact ⟨h, by rw [h]; exact Int.emod_nonneg _ (by omega), by rw [h]; exact Int.emod_lt_of_pos _ hd⟩
theorem own_upd {R : Int32 → Prop} {f : Nat → Int32} {x : Int32} {i : Nat} (h : ∀ q, R (f q)) (hx : R x) : ∀ q, R ((fun q => if q = i then x else f q) q) := fun q => by
  by_cases e : q = i
  · simp only [if_pos e]; exact hx
  · simp only [if_neg e]; exact h q
theorem own_i2b (x : Int32) : -128 ≤ (x.toInt8.toInt32).toInt ∧ (x.toInt8.toInt32).toInt ≤ 127 := by have := c_i2b x; omega
theorem own_b2 (x : Int32) : x.toInt8.toInt32.toInt8.toInt32 = x.toInt8.toInt32 := by rw [Int8.toInt8_toInt32]
theorem own_and3 (x : Int32) : x &&& (3 : Int32) = 0 ∨ x &&& (3 : Int32) = 1 ∨ x &&& (3 : Int32) = 2 ∨ x &&& (3 : Int32) = 3 := by
  have h := c_mask x 3 2 (by decide) (by decide)
  have z0 : (0 : Int32).toInt = 0 := rfl
  have z1 : (1 : Int32).toInt = 1 := rfl
  have z2 : (2 : Int32).toInt = 2 := rfl
  have z3 : (3 : Int32).toInt = 3 := rfl
  have h1 : ((2 ^ 2 : Nat) : Int) = 4 := rfl
  rw [h1] at h
  rw [own_ieq, own_ieq, own_ieq, own_ieq, z0, z1, z2, z3]
  omega
theorem own_and1 (x : Int32) : x &&& (1 : Int32) = 0 ∨ x &&& (1 : Int32) = 1 := by
  have h := c_mask x 1 1 (by decide) (by decide)
  have z0 : (0 : Int32).toInt = 0 := rfl
  have z1 : (1 : Int32).toInt = 1 := rfl
  have h1 : ((2 ^ 1 : Nat) : Int) = 2 := rfl
  rw [h1] at h
  rw [own_ieq, own_ieq, z0, z1]
  omega
end Jvm.RoadKit
namespace Jvm.Pilot.@@N@@
open Jvm Jvm.ClassFile Sem Op Lib Jvm.Free Jvm.Stand Jvm.LawKit Jvm.RoadKit Bundle Jvm.Pilot.@@N@@.Jvm.D
theorem d4_0 : decode prog_26_method_32_code 0 = .ok (.iload_n 0, 1) := by decide +kernel
theorem d4_1 : decode prog_26_method_32_code 1 = .ok (.iconst 1, 1) := by decide +kernel
theorem d4_2 : decode prog_26_method_32_code 2 = .ok (.iadd, 1) := by decide +kernel
theorem d4_3 : decode prog_26_method_32_code 3 = .ok (.i2l, 1) := by decide +kernel
theorem d4_4 : decode prog_26_method_32_code 4 = .ok (.ldc2_w 194, 3) := by decide +kernel
theorem d4_7 : decode prog_26_method_32_code 7 = .ok (.lmul, 1) := by decide +kernel
theorem d4_8 : decode prog_26_method_32_code 8 = .ok (.lstore_n 1, 1) := by decide +kernel
theorem d4_9 : decode prog_26_method_32_code 9 = .ok (.lload_n 1, 1) := by decide +kernel
theorem d4_10 : decode prog_26_method_32_code 10 = .ok (.lload_n 1, 1) := by decide +kernel
theorem d4_11 : decode prog_26_method_32_code 11 = .ok (.bipush 30, 2) := by decide +kernel
theorem d4_13 : decode prog_26_method_32_code 13 = .ok (.lushr, 1) := by decide +kernel
theorem d4_14 : decode prog_26_method_32_code 14 = .ok (.lxor, 1) := by decide +kernel
theorem d4_15 : decode prog_26_method_32_code 15 = .ok (.ldc2_w 196, 3) := by decide +kernel
theorem d4_18 : decode prog_26_method_32_code 18 = .ok (.lmul, 1) := by decide +kernel
theorem d4_19 : decode prog_26_method_32_code 19 = .ok (.lstore_n 1, 1) := by decide +kernel
theorem d4_20 : decode prog_26_method_32_code 20 = .ok (.lload_n 1, 1) := by decide +kernel
theorem d4_21 : decode prog_26_method_32_code 21 = .ok (.lload_n 1, 1) := by decide +kernel
theorem d4_22 : decode prog_26_method_32_code 22 = .ok (.bipush 27, 2) := by decide +kernel
theorem d4_24 : decode prog_26_method_32_code 24 = .ok (.lushr, 1) := by decide +kernel
theorem d4_25 : decode prog_26_method_32_code 25 = .ok (.lxor, 1) := by decide +kernel
theorem d4_26 : decode prog_26_method_32_code 26 = .ok (.ldc2_w 198, 3) := by decide +kernel
theorem d4_29 : decode prog_26_method_32_code 29 = .ok (.lmul, 1) := by decide +kernel
theorem d4_30 : decode prog_26_method_32_code 30 = .ok (.lstore_n 1, 1) := by decide +kernel
theorem d4_31 : decode prog_26_method_32_code 31 = .ok (.lload_n 1, 1) := by decide +kernel
theorem d4_32 : decode prog_26_method_32_code 32 = .ok (.lload_n 1, 1) := by decide +kernel
theorem d4_33 : decode prog_26_method_32_code 33 = .ok (.bipush 31, 2) := by decide +kernel
theorem d4_35 : decode prog_26_method_32_code 35 = .ok (.lushr, 1) := by decide +kernel
theorem d4_36 : decode prog_26_method_32_code 36 = .ok (.lxor, 1) := by decide +kernel
theorem d4_37 : decode prog_26_method_32_code 37 = .ok (.lconst 1, 1) := by decide +kernel
theorem d4_38 : decode prog_26_method_32_code 38 = .ok (.lor, 1) := by decide +kernel
theorem d4_39 : decode prog_26_method_32_code 39 = .ok (.lreturn, 1) := by decide +kernel
def own_f_rm_mu (y0 : Int32) : Int64 := (((((((((y0 + (1 : Int32))).toInt64 * (-7046029254386353131 : Int64)) ^^^ (((((y0 + (1 : Int32))).toInt64 * (-7046029254386353131 : Int64))).toUInt64 >>> ((30 : Int32) &&& 0x3f).toInt64.toUInt64).toInt64) * (-4658895280553007687 : Int64)) ^^^ (((((((y0 + (1 : Int32))).toInt64 * (-7046029254386353131 : Int64)) ^^^ (((((y0 + (1 : Int32))).toInt64 * (-7046029254386353131 : Int64))).toUInt64 >>> ((30 : Int32) &&& 0x3f).toInt64.toUInt64).toInt64) * (-4658895280553007687 : Int64))).toUInt64 >>> ((27 : Int32) &&& 0x3f).toInt64.toUInt64).toInt64) * (-7723592293110705685 : Int64)) ^^^ (((((((((y0 + (1 : Int32))).toInt64 * (-7046029254386353131 : Int64)) ^^^ (((((y0 + (1 : Int32))).toInt64 * (-7046029254386353131 : Int64))).toUInt64 >>> ((30 : Int32) &&& 0x3f).toInt64.toUInt64).toInt64) * (-4658895280553007687 : Int64)) ^^^ (((((((y0 + (1 : Int32))).toInt64 * (-7046029254386353131 : Int64)) ^^^ (((((y0 + (1 : Int32))).toInt64 * (-7046029254386353131 : Int64))).toUInt64 >>> ((30 : Int32) &&& 0x3f).toInt64.toUInt64).toInt64) * (-4658895280553007687 : Int64))).toUInt64 >>> ((27 : Int32) &&& 0x3f).toInt64.toUInt64).toInt64) * (-7723592293110705685 : Int64))).toUInt64 >>> ((31 : Int32) &&& 0x3f).toInt64.toUInt64).toInt64) ||| (1 : Int64))
theorem own_pn0 : plainName "com/example/happenets/happenets/net/KeyedCounts" = true := by first | (simp [plainName, overriddenIn]; done) | decide +kernel
theorem own_ef_rm_mu (m : MethodId) (x0 : Int32) : entryFrame m #[(.int x0)] 3 = mkF m 0 #[.val (.int x0), .unset, .unset] [] := by first | (simp [entryFrame, mkF, argsToLocals, Value.category]; done) | rfl
set_option maxRecDepth 65536 in
set_option maxHeartbeats 40000000 in
theorem rm_mu (l : Launch) (Z : State) (a0 : Array Value) (hw : ∀ d ∈ tables_1, d.before a0 Z = true) (y0 : Int32) (h0 : Heap) (n0 : Nat) (Z0 : n0 ≤ h0.size)  :
    Con l Z (⟨"com/example/happenets/happenets/net/KeyedCounts", "multiplier", "(I)J"⟩ : MethodName) prog_26_method_32_code 3 (some .long) ({ frames := 0, cells := 0, slots := 0, locals := 0 } : Room) #[(.int y0)] h0 n0 (fun rv hv => rv = some (.long (own_f_rm_mu y0)) ∧ h0 = hv) := by
  refine Con.enter (plainFor_of_name own_pn0) Z0 ?_
  intro p e s m below meth c T0 C hnm X0
  refine Go.cast (own_ef_rm_mu m y0) ?_
  refine Go.iloadN C X0 (pc' := 1) d4_0 rfl rfl ?_
  refine Go.iconst C X0 (pc' := 2) (v := (1 : Int32)) d4_1 rfl rfl ?_
  refine Go.iadd C X0 (pc' := 3) d4_2 rfl ?_
  refine Go.i2l C X0 (pc' := 4) d4_3 rfl ?_
  refine Go.ldc2 C X0 (pc' := 7) (hw _ (List.mem_of_getElem? (i := 35) rfl)) d4_4 rfl ?_
  refine Go.lmul C X0 (pc' := 8) d4_7 rfl ?_
  refine Go.lstoreN C X0 (pc' := 9) (Ls' := #[.val (.int y0), .val (.long (((y0 + (1 : Int32))).toInt64 * (-7046029254386353131 : Int64))), .second]) d4_8 rfl rfl ?_
  refine Go.lloadN C X0 (pc' := 10) d4_9 rfl rfl ?_
  refine Go.lloadN C X0 (pc' := 11) d4_10 rfl rfl ?_
  refine Go.bipush C X0 (pc' := 13) (v := (30 : Int32)) d4_11 rfl rfl ?_
  refine Go.lushr C X0 (pc' := 14) d4_13 rfl ?_
  refine Go.lxor C X0 (pc' := 15) d4_14 rfl ?_
  refine Go.ldc2 C X0 (pc' := 18) (hw _ (List.mem_of_getElem? (i := 36) rfl)) d4_15 rfl ?_
  refine Go.lmul C X0 (pc' := 19) d4_18 rfl ?_
  refine Go.lstoreN C X0 (pc' := 20) (Ls' := #[.val (.int y0), .val (.long (((((y0 + (1 : Int32))).toInt64 * (-7046029254386353131 : Int64)) ^^^ (((((y0 + (1 : Int32))).toInt64 * (-7046029254386353131 : Int64))).toUInt64 >>> ((30 : Int32) &&& 0x3f).toInt64.toUInt64).toInt64) * (-4658895280553007687 : Int64))), .second]) d4_19 rfl rfl ?_
  refine Go.lloadN C X0 (pc' := 21) d4_20 rfl rfl ?_
  refine Go.lloadN C X0 (pc' := 22) d4_21 rfl rfl ?_
  refine Go.bipush C X0 (pc' := 24) (v := (27 : Int32)) d4_22 rfl rfl ?_
  refine Go.lushr C X0 (pc' := 25) d4_24 rfl ?_
  refine Go.lxor C X0 (pc' := 26) d4_25 rfl ?_
  refine Go.ldc2 C X0 (pc' := 29) (hw _ (List.mem_of_getElem? (i := 37) rfl)) d4_26 rfl ?_
  refine Go.lmul C X0 (pc' := 30) d4_29 rfl ?_
  refine Go.lstoreN C X0 (pc' := 31) (Ls' := #[.val (.int y0), .val (.long (((((((y0 + (1 : Int32))).toInt64 * (-7046029254386353131 : Int64)) ^^^ (((((y0 + (1 : Int32))).toInt64 * (-7046029254386353131 : Int64))).toUInt64 >>> ((30 : Int32) &&& 0x3f).toInt64.toUInt64).toInt64) * (-4658895280553007687 : Int64)) ^^^ (((((((y0 + (1 : Int32))).toInt64 * (-7046029254386353131 : Int64)) ^^^ (((((y0 + (1 : Int32))).toInt64 * (-7046029254386353131 : Int64))).toUInt64 >>> ((30 : Int32) &&& 0x3f).toInt64.toUInt64).toInt64) * (-4658895280553007687 : Int64))).toUInt64 >>> ((27 : Int32) &&& 0x3f).toInt64.toUInt64).toInt64) * (-7723592293110705685 : Int64))), .second]) d4_30 rfl rfl ?_
  refine Go.lloadN C X0 (pc' := 32) d4_31 rfl rfl ?_
  refine Go.lloadN C X0 (pc' := 33) d4_32 rfl rfl ?_
  refine Go.bipush C X0 (pc' := 35) (v := (31 : Int32)) d4_33 rfl rfl ?_
  refine Go.lushr C X0 (pc' := 36) d4_35 rfl ?_
  refine Go.lxor C X0 (pc' := 37) d4_36 rfl ?_
  refine Go.lconst C X0 (pc' := 38) (v := (1 : Int64)) d4_37 rfl rfl ?_
  refine Go.lor C X0 (pc' := 39) d4_38 rfl ?_
  exact Go.retL C X0 d4_39 ⟨by show some (Value.long (((((((((y0 + (1 : Int32))).toInt64 * (-7046029254386353131 : Int64)) ^^^ (((((y0 + (1 : Int32))).toInt64 * (-7046029254386353131 : Int64))).toUInt64 >>> ((30 : Int32) &&& 0x3f).toInt64.toUInt64).toInt64) * (-4658895280553007687 : Int64)) ^^^ (((((((y0 + (1 : Int32))).toInt64 * (-7046029254386353131 : Int64)) ^^^ (((((y0 + (1 : Int32))).toInt64 * (-7046029254386353131 : Int64))).toUInt64 >>> ((30 : Int32) &&& 0x3f).toInt64.toUInt64).toInt64) * (-4658895280553007687 : Int64))).toUInt64 >>> ((27 : Int32) &&& 0x3f).toInt64.toUInt64).toInt64) * (-7723592293110705685 : Int64)) ^^^ (((((((((y0 + (1 : Int32))).toInt64 * (-7046029254386353131 : Int64)) ^^^ (((((y0 + (1 : Int32))).toInt64 * (-7046029254386353131 : Int64))).toUInt64 >>> ((30 : Int32) &&& 0x3f).toInt64.toUInt64).toInt64) * (-4658895280553007687 : Int64)) ^^^ (((((((y0 + (1 : Int32))).toInt64 * (-7046029254386353131 : Int64)) ^^^ (((((y0 + (1 : Int32))).toInt64 * (-7046029254386353131 : Int64))).toUInt64 >>> ((30 : Int32) &&& 0x3f).toInt64.toUInt64).toInt64) * (-4658895280553007687 : Int64))).toUInt64 >>> ((27 : Int32) &&& 0x3f).toInt64.toUInt64).toInt64) * (-7723592293110705685 : Int64))).toUInt64 >>> ((31 : Int32) &&& 0x3f).toInt64.toUInt64).toInt64) ||| (1 : Int64))) = some (Value.long (own_f_rm_mu y0)); unfold own_f_rm_mu; rfl, rfl⟩ (by decide) (by decide)
def own_mu : Nat → Int64 := fun i => own_f_rm_mu (Int32.ofNat i)
theorem own_ef_rm_in (m : MethodId) (x0 : Addr) : entryFrame m #[(.ref x0)] 1 = mkF m 0 #[.val (.ref x0)] [] := by first | (simp [entryFrame, mkF, argsToLocals, Value.category]; done) | rfl
theorem d1_0 : decode prog_26_method_1_code 0 = .ok (.aload_n 0, 1) := by decide +kernel
theorem d1_1 : decode prog_26_method_1_code 1 = .ok (.invokespecial 5, 3) := by decide +kernel
theorem d1_4 : decode prog_26_method_1_code 4 = .ok (.aload_n 0, 1) := by decide +kernel
theorem d1_5 : decode prog_26_method_1_code 5 = .ok (.iconst 0, 1) := by decide +kernel
theorem d1_6 : decode prog_26_method_1_code 6 = .ok (.newarray .long, 2) := by decide +kernel
theorem d1_8 : decode prog_26_method_1_code 8 = .ok (.putfield 11, 3) := by decide +kernel
theorem d1_11 : decode prog_26_method_1_code 11 = .ok (.aload_n 0, 1) := by decide +kernel
theorem d1_12 : decode prog_26_method_1_code 12 = .ok (.iconst 0, 1) := by decide +kernel
theorem d1_13 : decode prog_26_method_1_code 13 = .ok (.newarray .long, 2) := by decide +kernel
theorem d1_15 : decode prog_26_method_1_code 15 = .ok (.putfield 15, 3) := by decide +kernel
theorem d1_18 : decode prog_26_method_1_code 18 = .ok (.aload_n 0, 1) := by decide +kernel
theorem d1_19 : decode prog_26_method_1_code 19 = .ok (.bipush 17, 2) := by decide +kernel
theorem d1_21 : decode prog_26_method_1_code 21 = .ok (.newarray .int, 2) := by decide +kernel
theorem d1_23 : decode prog_26_method_1_code 23 = .ok (.putfield 18, 3) := by decide +kernel
theorem d1_26 : decode prog_26_method_1_code 26 = .ok (.aload_n 0, 1) := by decide +kernel
theorem d1_27 : decode prog_26_method_1_code 27 = .ok (.bipush 16, 2) := by decide +kernel
theorem d1_29 : decode prog_26_method_1_code 29 = .ok (.newarray .int, 2) := by decide +kernel
theorem d1_31 : decode prog_26_method_1_code 31 = .ok (.putfield 22, 3) := by decide +kernel
theorem d1_34 : decode prog_26_method_1_code 34 = .ok (.aload_n 0, 1) := by decide +kernel
theorem d1_35 : decode prog_26_method_1_code 35 = .ok (.bipush 16, 2) := by decide +kernel
theorem d1_37 : decode prog_26_method_1_code 37 = .ok (.newarray .long, 2) := by decide +kernel
theorem d1_39 : decode prog_26_method_1_code 39 = .ok (.putfield 25, 3) := by decide +kernel
theorem d1_42 : decode prog_26_method_1_code 42 = .ok (.aload_n 0, 1) := by decide +kernel
theorem d1_43 : decode prog_26_method_1_code 43 = .ok (.bipush 32, 2) := by decide +kernel
theorem d1_45 : decode prog_26_method_1_code 45 = .ok (.newarray .long, 2) := by decide +kernel
theorem d1_47 : decode prog_26_method_1_code 47 = .ok (.putfield 28, 3) := by decide +kernel
theorem d1_50 : decode prog_26_method_1_code 50 = .ok (.aload_n 0, 1) := by decide +kernel
theorem d1_51 : decode prog_26_method_1_code 51 = .ok (.lconst 1, 1) := by decide +kernel
theorem d1_52 : decode prog_26_method_1_code 52 = .ok (.putfield 31, 3) := by decide +kernel
theorem d1_55 : decode prog_26_method_1_code 55 = .ok (.return_, 1) := by decide +kernel
set_option maxRecDepth 65536 in
set_option maxHeartbeats 40000000 in
theorem rm_in (l : Launch) (Z : State) (a0 : Array Value) (hw : ∀ d ∈ tables_1, d.before a0 Z = true) (a : Addr)  (h0 : Heap) (n0 : Nat) (Z0 : n0 ≤ h0.size) (f0 : Exa Z h0 a "com/example/happenets/happenets/net/KeyedCounts") (f1 : Fld Z h0 a "com/example/happenets/happenets/net/KeyedCounts" "multipliers" "[J" .null) (f2 : Fld Z h0 a "com/example/happenets/happenets/net/KeyedCounts" "keys" "[J" .null) (f3 : Fld Z h0 a "com/example/happenets/happenets/net/KeyedCounts" "starts" "[I" .null) (f4 : Fld Z h0 a "com/example/happenets/happenets/net/KeyedCounts" "hashes" "[I" .null) (f5 : Fld Z h0 a "com/example/happenets/happenets/net/KeyedCounts" "counts" "[J" .null) (f6 : Fld Z h0 a "com/example/happenets/happenets/net/KeyedCounts" "slots" "[J" .null) (f7 : Fld Z h0 a "com/example/happenets/happenets/net/KeyedCounts" "round" "J" (.long (0 : Int64))) (f8 : Fld Z h0 a "com/example/happenets/happenets/net/KeyedCounts" "words" "I" (.int (0 : Int32))) (f9 : Fld Z h0 a "com/example/happenets/happenets/net/KeyedCounts" "size" "I" (.int (0 : Int32))) (f10 : Fld Z h0 a "com/example/happenets/happenets/net/KeyedCounts" "largeCounts" "[Ljava/math/BigInteger;" .null) (f11 : n0 ≤ a) :
    Con l Z (⟨"com/example/happenets/happenets/net/KeyedCounts", "<init>", "()V"⟩ : MethodName) prog_26_method_1_code 1 none ({ frames := 1, cells := 6, slots := 81, locals := 12 } : Room) #[(.ref a)] h0 n0 (fun rv hv => ∃ t : Addr, rv = none ∧ h0.size ≤ t ∧ Keep h0 hv [a] ∧ Exa Z hv a "com/example/happenets/happenets/net/KeyedCounts" ∧ Fld Z hv a "com/example/happenets/happenets/net/KeyedCounts" "multipliers" "[J" (.ref t) ∧ Fld Z hv a "com/example/happenets/happenets/net/KeyedCounts" "words" "I" (.int (0 : Int32)) ∧ Fld Z hv a "com/example/happenets/happenets/net/KeyedCounts" "size" "I" (.int (0 : Int32)) ∧ Fld Z hv a "com/example/happenets/happenets/net/KeyedCounts" "largeCounts" "[Ljava/math/BigInteger;" .null ∧ Fld Z hv a "com/example/happenets/happenets/net/KeyedCounts" "round" "J" (.long (1 : Int64)) ∧ AJ Z hv t 0 own_mu) := by
  refine Con.enter (plainFor_of_name own_pn0) Z0 ?_
  intro p e s m below meth c T0 C hnm X0
  refine Go.cast (own_ef_rm_in m a) ?_
  refine Go.aloadN C X0 (pc' := 1) d1_0 rfl rfl rfl ?_
  refine Go.initO C X0 (pc' := 4) (fun locs X eT => RoadKit.initO X C.1 C.2.1 C.2.2.2.1 (hw _ (List.mem_of_getElem? (i := 6) rfl)) (hw _ (List.mem_of_getElem? (i := 7) rfl)) (hw _ (List.mem_of_getElem? (i := 8) rfl)) eT (g := (mkF m 1 #[.val (.ref a)] [(.ref a)])) rfl (by rw [C.2.2.2.2.1]; rfl) rfl (hb C.2.2.1 d1_1) (by decide) (W := 0) (by show 2 * 0 + _ ≤ _; exact Nat.le_of_eq rfl) (by decide)) rfl (fun T1 X1 => ?_)
  refine Go.aloadN C X1 (pc' := 5) d1_4 rfl rfl rfl ?_
  refine Go.iconst C X1 (pc' := 6) (v := (0 : Int32)) d1_5 rfl rfl ?_
  refine Go.newP C X1 (pc' := 8) (nn := 0) (cap := 0) (hw _ (List.mem_of_getElem? (i := 9) rfl)) d1_6 rfl (by decide) (by decide) (by decide) (by decide) rfl (fun T2 h2 b2 k2 X2 g2 E2 Ar2 N2 => ?_)
  have ne_a_b2 : a ≠ b2 := Nat.ne_of_lt (Nat.lt_of_lt_of_eq f0.lt g2.symm)
  have Q2 : h0.size ≤ b2 := Nat.le_trans (Keep.refl h0 [a]).1 (Nat.le_of_eq g2.symm)
  have K3 : Keep h0 h2 [a] := (Keep.refl h0 [a]).ext E2
  have E4 := f0.ext E2
  have F5 := f1.ext E2
  have F6 := f2.ext E2
  have F7 := f3.ext E2
  have F8 := f4.ext E2
  have F9 := f5.ext E2
  have F10 := f6.ext E2
  have F11 := f7.ext E2
  have F12 := f8.ext E2
  have F13 := f9.ext E2
  have F14 := f10.ext E2
  have A2 : AJ Z h2 b2 0 (fun _ => 0) := AJ.new rfl Ar2
  refine Go.putF C X2 (pc' := 11) (host := "") (Or.inl (hw _ (List.mem_of_getElem? (i := 10) rfl))) Via.refl F5 E4 (Or.inl (hw _ (List.mem_of_getElem? (i := 11) rfl))) (hw _ (List.mem_of_getElem? (i := 1) rfl)) f11 (ty := (.array .long)) (by decide) rfl rfl d1_8 rfl (fun T15 h15 X15 W15 => ?_)
  have Fw15 := F5.same W15
  have K16 : Keep h0 h15 [a] := K3.wr W15 (Or.inl (List.mem_of_getElem? (i := 0) rfl))
  have E17 := E4.wr W15
  have F18 := F6.other W15 (Or.inr (slot_ne (Or.inl (hw _ (List.mem_of_getElem? (i := 13) rfl))) (Or.inl (hw _ (List.mem_of_getElem? (i := 11) rfl))) (by decide) (t := (.array .long)) (t' := (.array .long)) (by decide) (by decide)))
  have F19 := F7.other W15 (Or.inr (slot_ne (Or.inl (hw _ (List.mem_of_getElem? (i := 16) rfl))) (Or.inl (hw _ (List.mem_of_getElem? (i := 11) rfl))) (by decide) (t := (.array .int)) (t' := (.array .long)) (by decide) (by decide)))
  have F20 := F8.other W15 (Or.inr (slot_ne (Or.inl (hw _ (List.mem_of_getElem? (i := 18) rfl))) (Or.inl (hw _ (List.mem_of_getElem? (i := 11) rfl))) (by decide) (t := (.array .int)) (t' := (.array .long)) (by decide) (by decide)))
  have F21 := F9.other W15 (Or.inr (slot_ne (Or.inl (hw _ (List.mem_of_getElem? (i := 20) rfl))) (Or.inl (hw _ (List.mem_of_getElem? (i := 11) rfl))) (by decide) (t := (.array .long)) (t' := (.array .long)) (by decide) (by decide)))
  have F22 := F10.other W15 (Or.inr (slot_ne (Or.inl (hw _ (List.mem_of_getElem? (i := 22) rfl))) (Or.inl (hw _ (List.mem_of_getElem? (i := 11) rfl))) (by decide) (t := (.array .long)) (t' := (.array .long)) (by decide) (by decide)))
  have F23 := F11.other W15 (Or.inr (slot_ne (Or.inl (hw _ (List.mem_of_getElem? (i := 24) rfl))) (Or.inl (hw _ (List.mem_of_getElem? (i := 11) rfl))) (by decide) (t := .long) (t' := (.array .long)) (by decide) (by decide)))
  have F24 := F12.other W15 (Or.inr (slot_ne (Or.inl (hw _ (List.mem_of_getElem? (i := 31) rfl))) (Or.inl (hw _ (List.mem_of_getElem? (i := 11) rfl))) (by decide) (t := .int) (t' := (.array .long)) (by decide) (by decide)))
  have F25 := F13.other W15 (Or.inr (slot_ne (Or.inl (hw _ (List.mem_of_getElem? (i := 43) rfl))) (Or.inl (hw _ (List.mem_of_getElem? (i := 11) rfl))) (by decide) (t := .int) (t' := (.array .long)) (by decide) (by decide)))
  have F26 := F14.other W15 (Or.inr (slot_ne (Or.inl (hw _ (List.mem_of_getElem? (i := 45) rfl))) (Or.inl (hw _ (List.mem_of_getElem? (i := 11) rfl))) (by decide) (t := (.array (.object "java/math/BigInteger"))) (t' := (.array .long)) (by decide) (by decide)))
  have J27 := A2.other W15 (Ne.symm ne_a_b2)
  refine Go.aloadN C X15 (pc' := 12) d1_11 rfl rfl rfl ?_
  refine Go.iconst C X15 (pc' := 13) (v := (0 : Int32)) d1_12 rfl rfl ?_
  refine Go.newP C X15 (pc' := 15) (nn := 0) (cap := 0) (hw _ (List.mem_of_getElem? (i := 9) rfl)) d1_13 rfl (by decide) (by decide) (by decide) (by decide) rfl (fun T28 h28 b28 k28 X28 g28 E28 Ar28 N28 => ?_)
  have ne_a_b28 : a ≠ b28 := Nat.ne_of_lt (Nat.lt_of_lt_of_eq E17.lt g28.symm)
  have ne_b2_b28 : b2 ≠ b28 := Nat.ne_of_lt (Nat.lt_of_lt_of_eq J27.lt g28.symm)
  have Q28 : h0.size ≤ b28 := Nat.le_trans K16.1 (Nat.le_of_eq g28.symm)
  have K29 : Keep h0 h28 [a] := K16.ext E28
  have E30 := E17.ext E28
  have F31 := F18.ext E28
  have F32 := F19.ext E28
  have F33 := F20.ext E28
  have F34 := F21.ext E28
  have F35 := F22.ext E28
  have F36 := F23.ext E28
  have F37 := F24.ext E28
  have F38 := F25.ext E28
  have F39 := F26.ext E28
  have J40 := J27.ext E28
  have F41 := Fw15.ext E28
  have A28 : AJ Z h28 b28 0 (fun _ => 0) := AJ.new rfl Ar28
  refine Go.putF C X28 (pc' := 18) (host := "") (Or.inl (hw _ (List.mem_of_getElem? (i := 12) rfl))) Via.refl F31 E30 (Or.inl (hw _ (List.mem_of_getElem? (i := 13) rfl))) (hw _ (List.mem_of_getElem? (i := 1) rfl)) f11 (ty := (.array .long)) (by decide) rfl rfl d1_15 rfl (fun T42 h42 X42 W42 => ?_)
  have Fw42 := F31.same W42
  have K43 : Keep h0 h42 [a] := K29.wr W42 (Or.inl (List.mem_of_getElem? (i := 0) rfl))
  have E44 := E30.wr W42
  have F45 := F32.other W42 (Or.inr (slot_ne (Or.inl (hw _ (List.mem_of_getElem? (i := 16) rfl))) (Or.inl (hw _ (List.mem_of_getElem? (i := 13) rfl))) (by decide) (t := (.array .int)) (t' := (.array .long)) (by decide) (by decide)))
  have F46 := F33.other W42 (Or.inr (slot_ne (Or.inl (hw _ (List.mem_of_getElem? (i := 18) rfl))) (Or.inl (hw _ (List.mem_of_getElem? (i := 13) rfl))) (by decide) (t := (.array .int)) (t' := (.array .long)) (by decide) (by decide)))
  have F47 := F34.other W42 (Or.inr (slot_ne (Or.inl (hw _ (List.mem_of_getElem? (i := 20) rfl))) (Or.inl (hw _ (List.mem_of_getElem? (i := 13) rfl))) (by decide) (t := (.array .long)) (t' := (.array .long)) (by decide) (by decide)))
  have F48 := F35.other W42 (Or.inr (slot_ne (Or.inl (hw _ (List.mem_of_getElem? (i := 22) rfl))) (Or.inl (hw _ (List.mem_of_getElem? (i := 13) rfl))) (by decide) (t := (.array .long)) (t' := (.array .long)) (by decide) (by decide)))
  have F49 := F36.other W42 (Or.inr (slot_ne (Or.inl (hw _ (List.mem_of_getElem? (i := 24) rfl))) (Or.inl (hw _ (List.mem_of_getElem? (i := 13) rfl))) (by decide) (t := .long) (t' := (.array .long)) (by decide) (by decide)))
  have F50 := F37.other W42 (Or.inr (slot_ne (Or.inl (hw _ (List.mem_of_getElem? (i := 31) rfl))) (Or.inl (hw _ (List.mem_of_getElem? (i := 13) rfl))) (by decide) (t := .int) (t' := (.array .long)) (by decide) (by decide)))
  have F51 := F38.other W42 (Or.inr (slot_ne (Or.inl (hw _ (List.mem_of_getElem? (i := 43) rfl))) (Or.inl (hw _ (List.mem_of_getElem? (i := 13) rfl))) (by decide) (t := .int) (t' := (.array .long)) (by decide) (by decide)))
  have F52 := F39.other W42 (Or.inr (slot_ne (Or.inl (hw _ (List.mem_of_getElem? (i := 45) rfl))) (Or.inl (hw _ (List.mem_of_getElem? (i := 13) rfl))) (by decide) (t := (.array (.object "java/math/BigInteger"))) (t' := (.array .long)) (by decide) (by decide)))
  have J53 := J40.other W42 (Ne.symm ne_a_b2)
  have F54 := F41.other W42 (Or.inr (slot_ne (Or.inl (hw _ (List.mem_of_getElem? (i := 11) rfl))) (Or.inl (hw _ (List.mem_of_getElem? (i := 13) rfl))) (by decide) (t := (.array .long)) (t' := (.array .long)) (by decide) (by decide)))
  have J55 := A28.other W42 (Ne.symm ne_a_b28)
  refine Go.aloadN C X42 (pc' := 19) d1_18 rfl rfl rfl ?_
  refine Go.bipush C X42 (pc' := 21) (v := (17 : Int32)) d1_19 rfl rfl ?_
  refine Go.newP C X42 (pc' := 23) (nn := 17) (cap := 17) (hw _ (List.mem_of_getElem? (i := 14) rfl)) d1_21 rfl (by decide) (by decide) (by decide) (by decide) rfl (fun T56 h56 b56 k56 X56 g56 E56 Ar56 N56 => ?_)
  have ne_a_b56 : a ≠ b56 := Nat.ne_of_lt (Nat.lt_of_lt_of_eq E44.lt g56.symm)
  have ne_b2_b56 : b2 ≠ b56 := Nat.ne_of_lt (Nat.lt_of_lt_of_eq J53.lt g56.symm)
  have ne_b28_b56 : b28 ≠ b56 := Nat.ne_of_lt (Nat.lt_of_lt_of_eq J55.lt g56.symm)
  have Q56 : h0.size ≤ b56 := Nat.le_trans K43.1 (Nat.le_of_eq g56.symm)
  have K57 : Keep h0 h56 [a] := K43.ext E56
  have E58 := E44.ext E56
  have F59 := F45.ext E56
  have F60 := F46.ext E56
  have F61 := F47.ext E56
  have F62 := F48.ext E56
  have F63 := F49.ext E56
  have F64 := F50.ext E56
  have F65 := F51.ext E56
  have F66 := F52.ext E56
  have J67 := J53.ext E56
  have F68 := F54.ext E56
  have J69 := J55.ext E56
  have F70 := Fw42.ext E56
  have A56 : AI Z h56 b56 .int 17 (fun _ => 0) := AI.new rfl rfl Ar56
  refine Go.putF C X56 (pc' := 26) (host := "") (Or.inl (hw _ (List.mem_of_getElem? (i := 15) rfl))) Via.refl F59 E58 (Or.inl (hw _ (List.mem_of_getElem? (i := 16) rfl))) (hw _ (List.mem_of_getElem? (i := 1) rfl)) f11 (ty := (.array .int)) (by decide) rfl rfl d1_23 rfl (fun T71 h71 X71 W71 => ?_)
  have Fw71 := F59.same W71
  have K72 : Keep h0 h71 [a] := K57.wr W71 (Or.inl (List.mem_of_getElem? (i := 0) rfl))
  have E73 := E58.wr W71
  have F74 := F60.other W71 (Or.inr (slot_ne (Or.inl (hw _ (List.mem_of_getElem? (i := 18) rfl))) (Or.inl (hw _ (List.mem_of_getElem? (i := 16) rfl))) (by decide) (t := (.array .int)) (t' := (.array .int)) (by decide) (by decide)))
  have F75 := F61.other W71 (Or.inr (slot_ne (Or.inl (hw _ (List.mem_of_getElem? (i := 20) rfl))) (Or.inl (hw _ (List.mem_of_getElem? (i := 16) rfl))) (by decide) (t := (.array .long)) (t' := (.array .int)) (by decide) (by decide)))
  have F76 := F62.other W71 (Or.inr (slot_ne (Or.inl (hw _ (List.mem_of_getElem? (i := 22) rfl))) (Or.inl (hw _ (List.mem_of_getElem? (i := 16) rfl))) (by decide) (t := (.array .long)) (t' := (.array .int)) (by decide) (by decide)))
  have F77 := F63.other W71 (Or.inr (slot_ne (Or.inl (hw _ (List.mem_of_getElem? (i := 24) rfl))) (Or.inl (hw _ (List.mem_of_getElem? (i := 16) rfl))) (by decide) (t := .long) (t' := (.array .int)) (by decide) (by decide)))
  have F78 := F64.other W71 (Or.inr (slot_ne (Or.inl (hw _ (List.mem_of_getElem? (i := 31) rfl))) (Or.inl (hw _ (List.mem_of_getElem? (i := 16) rfl))) (by decide) (t := .int) (t' := (.array .int)) (by decide) (by decide)))
  have F79 := F65.other W71 (Or.inr (slot_ne (Or.inl (hw _ (List.mem_of_getElem? (i := 43) rfl))) (Or.inl (hw _ (List.mem_of_getElem? (i := 16) rfl))) (by decide) (t := .int) (t' := (.array .int)) (by decide) (by decide)))
  have F80 := F66.other W71 (Or.inr (slot_ne (Or.inl (hw _ (List.mem_of_getElem? (i := 45) rfl))) (Or.inl (hw _ (List.mem_of_getElem? (i := 16) rfl))) (by decide) (t := (.array (.object "java/math/BigInteger"))) (t' := (.array .int)) (by decide) (by decide)))
  have J81 := J67.other W71 (Ne.symm ne_a_b2)
  have F82 := F68.other W71 (Or.inr (slot_ne (Or.inl (hw _ (List.mem_of_getElem? (i := 11) rfl))) (Or.inl (hw _ (List.mem_of_getElem? (i := 16) rfl))) (by decide) (t := (.array .long)) (t' := (.array .int)) (by decide) (by decide)))
  have J83 := J69.other W71 (Ne.symm ne_a_b28)
  have F84 := F70.other W71 (Or.inr (slot_ne (Or.inl (hw _ (List.mem_of_getElem? (i := 13) rfl))) (Or.inl (hw _ (List.mem_of_getElem? (i := 16) rfl))) (by decide) (t := (.array .long)) (t' := (.array .int)) (by decide) (by decide)))
  have A85 := A56.other W71 (Ne.symm ne_a_b56)
  refine Go.aloadN C X71 (pc' := 27) d1_26 rfl rfl rfl ?_
  refine Go.bipush C X71 (pc' := 29) (v := (16 : Int32)) d1_27 rfl rfl ?_
  refine Go.newP C X71 (pc' := 31) (nn := 16) (cap := 16) (hw _ (List.mem_of_getElem? (i := 14) rfl)) d1_29 rfl (by decide) (by decide) (by decide) (by decide) rfl (fun T86 h86 b86 k86 X86 g86 E86 Ar86 N86 => ?_)
  have ne_a_b86 : a ≠ b86 := Nat.ne_of_lt (Nat.lt_of_lt_of_eq E73.lt g86.symm)
  have ne_b2_b86 : b2 ≠ b86 := Nat.ne_of_lt (Nat.lt_of_lt_of_eq J81.lt g86.symm)
  have ne_b28_b86 : b28 ≠ b86 := Nat.ne_of_lt (Nat.lt_of_lt_of_eq J83.lt g86.symm)
  have ne_b56_b86 : b56 ≠ b86 := Nat.ne_of_lt (Nat.lt_of_lt_of_eq A85.lt g86.symm)
  have Q86 : h0.size ≤ b86 := Nat.le_trans K72.1 (Nat.le_of_eq g86.symm)
  have K87 : Keep h0 h86 [a] := K72.ext E86
  have E88 := E73.ext E86
  have F89 := F74.ext E86
  have F90 := F75.ext E86
  have F91 := F76.ext E86
  have F92 := F77.ext E86
  have F93 := F78.ext E86
  have F94 := F79.ext E86
  have F95 := F80.ext E86
  have J96 := J81.ext E86
  have F97 := F82.ext E86
  have J98 := J83.ext E86
  have F99 := F84.ext E86
  have A100 := A85.ext E86
  have F101 := Fw71.ext E86
  have A86 : AI Z h86 b86 .int 16 (fun _ => 0) := AI.new rfl rfl Ar86
  refine Go.putF C X86 (pc' := 34) (host := "") (Or.inl (hw _ (List.mem_of_getElem? (i := 17) rfl))) Via.refl F89 E88 (Or.inl (hw _ (List.mem_of_getElem? (i := 18) rfl))) (hw _ (List.mem_of_getElem? (i := 1) rfl)) f11 (ty := (.array .int)) (by decide) rfl rfl d1_31 rfl (fun T102 h102 X102 W102 => ?_)
  have Fw102 := F89.same W102
  have K103 : Keep h0 h102 [a] := K87.wr W102 (Or.inl (List.mem_of_getElem? (i := 0) rfl))
  have E104 := E88.wr W102
  have F105 := F90.other W102 (Or.inr (slot_ne (Or.inl (hw _ (List.mem_of_getElem? (i := 20) rfl))) (Or.inl (hw _ (List.mem_of_getElem? (i := 18) rfl))) (by decide) (t := (.array .long)) (t' := (.array .int)) (by decide) (by decide)))
  have F106 := F91.other W102 (Or.inr (slot_ne (Or.inl (hw _ (List.mem_of_getElem? (i := 22) rfl))) (Or.inl (hw _ (List.mem_of_getElem? (i := 18) rfl))) (by decide) (t := (.array .long)) (t' := (.array .int)) (by decide) (by decide)))
  have F107 := F92.other W102 (Or.inr (slot_ne (Or.inl (hw _ (List.mem_of_getElem? (i := 24) rfl))) (Or.inl (hw _ (List.mem_of_getElem? (i := 18) rfl))) (by decide) (t := .long) (t' := (.array .int)) (by decide) (by decide)))
  have F108 := F93.other W102 (Or.inr (slot_ne (Or.inl (hw _ (List.mem_of_getElem? (i := 31) rfl))) (Or.inl (hw _ (List.mem_of_getElem? (i := 18) rfl))) (by decide) (t := .int) (t' := (.array .int)) (by decide) (by decide)))
  have F109 := F94.other W102 (Or.inr (slot_ne (Or.inl (hw _ (List.mem_of_getElem? (i := 43) rfl))) (Or.inl (hw _ (List.mem_of_getElem? (i := 18) rfl))) (by decide) (t := .int) (t' := (.array .int)) (by decide) (by decide)))
  have F110 := F95.other W102 (Or.inr (slot_ne (Or.inl (hw _ (List.mem_of_getElem? (i := 45) rfl))) (Or.inl (hw _ (List.mem_of_getElem? (i := 18) rfl))) (by decide) (t := (.array (.object "java/math/BigInteger"))) (t' := (.array .int)) (by decide) (by decide)))
  have J111 := J96.other W102 (Ne.symm ne_a_b2)
  have F112 := F97.other W102 (Or.inr (slot_ne (Or.inl (hw _ (List.mem_of_getElem? (i := 11) rfl))) (Or.inl (hw _ (List.mem_of_getElem? (i := 18) rfl))) (by decide) (t := (.array .long)) (t' := (.array .int)) (by decide) (by decide)))
  have J113 := J98.other W102 (Ne.symm ne_a_b28)
  have F114 := F99.other W102 (Or.inr (slot_ne (Or.inl (hw _ (List.mem_of_getElem? (i := 13) rfl))) (Or.inl (hw _ (List.mem_of_getElem? (i := 18) rfl))) (by decide) (t := (.array .long)) (t' := (.array .int)) (by decide) (by decide)))
  have A115 := A100.other W102 (Ne.symm ne_a_b56)
  have F116 := F101.other W102 (Or.inr (slot_ne (Or.inl (hw _ (List.mem_of_getElem? (i := 16) rfl))) (Or.inl (hw _ (List.mem_of_getElem? (i := 18) rfl))) (by decide) (t := (.array .int)) (t' := (.array .int)) (by decide) (by decide)))
  have A117 := A86.other W102 (Ne.symm ne_a_b86)
  refine Go.aloadN C X102 (pc' := 35) d1_34 rfl rfl rfl ?_
  refine Go.bipush C X102 (pc' := 37) (v := (16 : Int32)) d1_35 rfl rfl ?_
  refine Go.newP C X102 (pc' := 39) (nn := 16) (cap := 16) (hw _ (List.mem_of_getElem? (i := 9) rfl)) d1_37 rfl (by decide) (by decide) (by decide) (by decide) rfl (fun T118 h118 b118 k118 X118 g118 E118 Ar118 N118 => ?_)
  have ne_a_b118 : a ≠ b118 := Nat.ne_of_lt (Nat.lt_of_lt_of_eq E104.lt g118.symm)
  have ne_b2_b118 : b2 ≠ b118 := Nat.ne_of_lt (Nat.lt_of_lt_of_eq J111.lt g118.symm)
  have ne_b28_b118 : b28 ≠ b118 := Nat.ne_of_lt (Nat.lt_of_lt_of_eq J113.lt g118.symm)
  have ne_b56_b118 : b56 ≠ b118 := Nat.ne_of_lt (Nat.lt_of_lt_of_eq A115.lt g118.symm)
  have ne_b86_b118 : b86 ≠ b118 := Nat.ne_of_lt (Nat.lt_of_lt_of_eq A117.lt g118.symm)
  have Q118 : h0.size ≤ b118 := Nat.le_trans K103.1 (Nat.le_of_eq g118.symm)
  have K119 : Keep h0 h118 [a] := K103.ext E118
  have E120 := E104.ext E118
  have F121 := F105.ext E118
  have F122 := F106.ext E118
  have F123 := F107.ext E118
  have F124 := F108.ext E118
  have F125 := F109.ext E118
  have F126 := F110.ext E118
  have J127 := J111.ext E118
  have F128 := F112.ext E118
  have J129 := J113.ext E118
  have F130 := F114.ext E118
  have A131 := A115.ext E118
  have F132 := F116.ext E118
  have A133 := A117.ext E118
  have F134 := Fw102.ext E118
  have A118 : AJ Z h118 b118 16 (fun _ => 0) := AJ.new rfl Ar118
  refine Go.putF C X118 (pc' := 42) (host := "") (Or.inl (hw _ (List.mem_of_getElem? (i := 19) rfl))) Via.refl F121 E120 (Or.inl (hw _ (List.mem_of_getElem? (i := 20) rfl))) (hw _ (List.mem_of_getElem? (i := 1) rfl)) f11 (ty := (.array .long)) (by decide) rfl rfl d1_39 rfl (fun T135 h135 X135 W135 => ?_)
  have Fw135 := F121.same W135
  have K136 : Keep h0 h135 [a] := K119.wr W135 (Or.inl (List.mem_of_getElem? (i := 0) rfl))
  have E137 := E120.wr W135
  have F138 := F122.other W135 (Or.inr (slot_ne (Or.inl (hw _ (List.mem_of_getElem? (i := 22) rfl))) (Or.inl (hw _ (List.mem_of_getElem? (i := 20) rfl))) (by decide) (t := (.array .long)) (t' := (.array .long)) (by decide) (by decide)))
  have F139 := F123.other W135 (Or.inr (slot_ne (Or.inl (hw _ (List.mem_of_getElem? (i := 24) rfl))) (Or.inl (hw _ (List.mem_of_getElem? (i := 20) rfl))) (by decide) (t := .long) (t' := (.array .long)) (by decide) (by decide)))
  have F140 := F124.other W135 (Or.inr (slot_ne (Or.inl (hw _ (List.mem_of_getElem? (i := 31) rfl))) (Or.inl (hw _ (List.mem_of_getElem? (i := 20) rfl))) (by decide) (t := .int) (t' := (.array .long)) (by decide) (by decide)))
  have F141 := F125.other W135 (Or.inr (slot_ne (Or.inl (hw _ (List.mem_of_getElem? (i := 43) rfl))) (Or.inl (hw _ (List.mem_of_getElem? (i := 20) rfl))) (by decide) (t := .int) (t' := (.array .long)) (by decide) (by decide)))
  have F142 := F126.other W135 (Or.inr (slot_ne (Or.inl (hw _ (List.mem_of_getElem? (i := 45) rfl))) (Or.inl (hw _ (List.mem_of_getElem? (i := 20) rfl))) (by decide) (t := (.array (.object "java/math/BigInteger"))) (t' := (.array .long)) (by decide) (by decide)))
  have J143 := J127.other W135 (Ne.symm ne_a_b2)
  have F144 := F128.other W135 (Or.inr (slot_ne (Or.inl (hw _ (List.mem_of_getElem? (i := 11) rfl))) (Or.inl (hw _ (List.mem_of_getElem? (i := 20) rfl))) (by decide) (t := (.array .long)) (t' := (.array .long)) (by decide) (by decide)))
  have J145 := J129.other W135 (Ne.symm ne_a_b28)
  have F146 := F130.other W135 (Or.inr (slot_ne (Or.inl (hw _ (List.mem_of_getElem? (i := 13) rfl))) (Or.inl (hw _ (List.mem_of_getElem? (i := 20) rfl))) (by decide) (t := (.array .long)) (t' := (.array .long)) (by decide) (by decide)))
  have A147 := A131.other W135 (Ne.symm ne_a_b56)
  have F148 := F132.other W135 (Or.inr (slot_ne (Or.inl (hw _ (List.mem_of_getElem? (i := 16) rfl))) (Or.inl (hw _ (List.mem_of_getElem? (i := 20) rfl))) (by decide) (t := (.array .int)) (t' := (.array .long)) (by decide) (by decide)))
  have A149 := A133.other W135 (Ne.symm ne_a_b86)
  have F150 := F134.other W135 (Or.inr (slot_ne (Or.inl (hw _ (List.mem_of_getElem? (i := 18) rfl))) (Or.inl (hw _ (List.mem_of_getElem? (i := 20) rfl))) (by decide) (t := (.array .int)) (t' := (.array .long)) (by decide) (by decide)))
  have J151 := A118.other W135 (Ne.symm ne_a_b118)
  refine Go.aloadN C X135 (pc' := 43) d1_42 rfl rfl rfl ?_
  refine Go.bipush C X135 (pc' := 45) (v := (32 : Int32)) d1_43 rfl rfl ?_
  refine Go.newP C X135 (pc' := 47) (nn := 32) (cap := 32) (hw _ (List.mem_of_getElem? (i := 9) rfl)) d1_45 rfl (by decide) (by decide) (by decide) (by decide) rfl (fun T152 h152 b152 k152 X152 g152 E152 Ar152 N152 => ?_)
  have ne_a_b152 : a ≠ b152 := Nat.ne_of_lt (Nat.lt_of_lt_of_eq E137.lt g152.symm)
  have ne_b2_b152 : b2 ≠ b152 := Nat.ne_of_lt (Nat.lt_of_lt_of_eq J143.lt g152.symm)
  have ne_b28_b152 : b28 ≠ b152 := Nat.ne_of_lt (Nat.lt_of_lt_of_eq J145.lt g152.symm)
  have ne_b56_b152 : b56 ≠ b152 := Nat.ne_of_lt (Nat.lt_of_lt_of_eq A147.lt g152.symm)
  have ne_b86_b152 : b86 ≠ b152 := Nat.ne_of_lt (Nat.lt_of_lt_of_eq A149.lt g152.symm)
  have ne_b118_b152 : b118 ≠ b152 := Nat.ne_of_lt (Nat.lt_of_lt_of_eq J151.lt g152.symm)
  have Q152 : h0.size ≤ b152 := Nat.le_trans K136.1 (Nat.le_of_eq g152.symm)
  have K153 : Keep h0 h152 [a] := K136.ext E152
  have E154 := E137.ext E152
  have F155 := F138.ext E152
  have F156 := F139.ext E152
  have F157 := F140.ext E152
  have F158 := F141.ext E152
  have F159 := F142.ext E152
  have J160 := J143.ext E152
  have F161 := F144.ext E152
  have J162 := J145.ext E152
  have F163 := F146.ext E152
  have A164 := A147.ext E152
  have F165 := F148.ext E152
  have A166 := A149.ext E152
  have F167 := F150.ext E152
  have J168 := J151.ext E152
  have F169 := Fw135.ext E152
  have A152 : AJ Z h152 b152 32 (fun _ => 0) := AJ.new rfl Ar152
  refine Go.putF C X152 (pc' := 50) (host := "") (Or.inl (hw _ (List.mem_of_getElem? (i := 21) rfl))) Via.refl F155 E154 (Or.inl (hw _ (List.mem_of_getElem? (i := 22) rfl))) (hw _ (List.mem_of_getElem? (i := 1) rfl)) f11 (ty := (.array .long)) (by decide) rfl rfl d1_47 rfl (fun T170 h170 X170 W170 => ?_)
  have Fw170 := F155.same W170
  have K171 : Keep h0 h170 [a] := K153.wr W170 (Or.inl (List.mem_of_getElem? (i := 0) rfl))
  have E172 := E154.wr W170
  have F173 := F156.other W170 (Or.inr (slot_ne (Or.inl (hw _ (List.mem_of_getElem? (i := 24) rfl))) (Or.inl (hw _ (List.mem_of_getElem? (i := 22) rfl))) (by decide) (t := .long) (t' := (.array .long)) (by decide) (by decide)))
  have F174 := F157.other W170 (Or.inr (slot_ne (Or.inl (hw _ (List.mem_of_getElem? (i := 31) rfl))) (Or.inl (hw _ (List.mem_of_getElem? (i := 22) rfl))) (by decide) (t := .int) (t' := (.array .long)) (by decide) (by decide)))
  have F175 := F158.other W170 (Or.inr (slot_ne (Or.inl (hw _ (List.mem_of_getElem? (i := 43) rfl))) (Or.inl (hw _ (List.mem_of_getElem? (i := 22) rfl))) (by decide) (t := .int) (t' := (.array .long)) (by decide) (by decide)))
  have F176 := F159.other W170 (Or.inr (slot_ne (Or.inl (hw _ (List.mem_of_getElem? (i := 45) rfl))) (Or.inl (hw _ (List.mem_of_getElem? (i := 22) rfl))) (by decide) (t := (.array (.object "java/math/BigInteger"))) (t' := (.array .long)) (by decide) (by decide)))
  have J177 := J160.other W170 (Ne.symm ne_a_b2)
  have F178 := F161.other W170 (Or.inr (slot_ne (Or.inl (hw _ (List.mem_of_getElem? (i := 11) rfl))) (Or.inl (hw _ (List.mem_of_getElem? (i := 22) rfl))) (by decide) (t := (.array .long)) (t' := (.array .long)) (by decide) (by decide)))
  have J179 := J162.other W170 (Ne.symm ne_a_b28)
  have F180 := F163.other W170 (Or.inr (slot_ne (Or.inl (hw _ (List.mem_of_getElem? (i := 13) rfl))) (Or.inl (hw _ (List.mem_of_getElem? (i := 22) rfl))) (by decide) (t := (.array .long)) (t' := (.array .long)) (by decide) (by decide)))
  have A181 := A164.other W170 (Ne.symm ne_a_b56)
  have F182 := F165.other W170 (Or.inr (slot_ne (Or.inl (hw _ (List.mem_of_getElem? (i := 16) rfl))) (Or.inl (hw _ (List.mem_of_getElem? (i := 22) rfl))) (by decide) (t := (.array .int)) (t' := (.array .long)) (by decide) (by decide)))
  have A183 := A166.other W170 (Ne.symm ne_a_b86)
  have F184 := F167.other W170 (Or.inr (slot_ne (Or.inl (hw _ (List.mem_of_getElem? (i := 18) rfl))) (Or.inl (hw _ (List.mem_of_getElem? (i := 22) rfl))) (by decide) (t := (.array .int)) (t' := (.array .long)) (by decide) (by decide)))
  have J185 := J168.other W170 (Ne.symm ne_a_b118)
  have F186 := F169.other W170 (Or.inr (slot_ne (Or.inl (hw _ (List.mem_of_getElem? (i := 20) rfl))) (Or.inl (hw _ (List.mem_of_getElem? (i := 22) rfl))) (by decide) (t := (.array .long)) (t' := (.array .long)) (by decide) (by decide)))
  have J187 := A152.other W170 (Ne.symm ne_a_b152)
  refine Go.aloadN C X170 (pc' := 51) d1_50 rfl rfl rfl ?_
  refine Go.lconst C X170 (pc' := 52) (v := (1 : Int64)) d1_51 rfl rfl ?_
  refine Go.putF C X170 (pc' := 55) (host := "") (Or.inl (hw _ (List.mem_of_getElem? (i := 23) rfl))) Via.refl F173 E172 (Or.inl (hw _ (List.mem_of_getElem? (i := 24) rfl))) (hw _ (List.mem_of_getElem? (i := 1) rfl)) f11 (ty := .long) (by decide) rfl rfl d1_52 rfl (fun T188 h188 X188 W188 => ?_)
  have Fw188 := F173.same W188
  have K189 : Keep h0 h188 [a] := K171.wr W188 (Or.inl (List.mem_of_getElem? (i := 0) rfl))
  have E190 := E172.wr W188
  have F191 := F174.other W188 (Or.inr (slot_ne (Or.inl (hw _ (List.mem_of_getElem? (i := 31) rfl))) (Or.inl (hw _ (List.mem_of_getElem? (i := 24) rfl))) (by decide) (t := .int) (t' := .long) (by decide) (by decide)))
  have F192 := F175.other W188 (Or.inr (slot_ne (Or.inl (hw _ (List.mem_of_getElem? (i := 43) rfl))) (Or.inl (hw _ (List.mem_of_getElem? (i := 24) rfl))) (by decide) (t := .int) (t' := .long) (by decide) (by decide)))
  have F193 := F176.other W188 (Or.inr (slot_ne (Or.inl (hw _ (List.mem_of_getElem? (i := 45) rfl))) (Or.inl (hw _ (List.mem_of_getElem? (i := 24) rfl))) (by decide) (t := (.array (.object "java/math/BigInteger"))) (t' := .long) (by decide) (by decide)))
  have J194 := J177.other W188 (Ne.symm ne_a_b2)
  have F195 := F178.other W188 (Or.inr (slot_ne (Or.inl (hw _ (List.mem_of_getElem? (i := 11) rfl))) (Or.inl (hw _ (List.mem_of_getElem? (i := 24) rfl))) (by decide) (t := (.array .long)) (t' := .long) (by decide) (by decide)))
  have J196 := J179.other W188 (Ne.symm ne_a_b28)
  have F197 := F180.other W188 (Or.inr (slot_ne (Or.inl (hw _ (List.mem_of_getElem? (i := 13) rfl))) (Or.inl (hw _ (List.mem_of_getElem? (i := 24) rfl))) (by decide) (t := (.array .long)) (t' := .long) (by decide) (by decide)))
  have A198 := A181.other W188 (Ne.symm ne_a_b56)
  have F199 := F182.other W188 (Or.inr (slot_ne (Or.inl (hw _ (List.mem_of_getElem? (i := 16) rfl))) (Or.inl (hw _ (List.mem_of_getElem? (i := 24) rfl))) (by decide) (t := (.array .int)) (t' := .long) (by decide) (by decide)))
  have A200 := A183.other W188 (Ne.symm ne_a_b86)
  have F201 := F184.other W188 (Or.inr (slot_ne (Or.inl (hw _ (List.mem_of_getElem? (i := 18) rfl))) (Or.inl (hw _ (List.mem_of_getElem? (i := 24) rfl))) (by decide) (t := (.array .int)) (t' := .long) (by decide) (by decide)))
  have J202 := J185.other W188 (Ne.symm ne_a_b118)
  have F203 := F186.other W188 (Or.inr (slot_ne (Or.inl (hw _ (List.mem_of_getElem? (i := 20) rfl))) (Or.inl (hw _ (List.mem_of_getElem? (i := 24) rfl))) (by decide) (t := (.array .long)) (t' := .long) (by decide) (by decide)))
  have J204 := J187.other W188 (Ne.symm ne_a_b152)
  have F205 := Fw170.other W188 (Or.inr (slot_ne (Or.inl (hw _ (List.mem_of_getElem? (i := 22) rfl))) (Or.inl (hw _ (List.mem_of_getElem? (i := 24) rfl))) (by decide) (t := (.array .long)) (t' := .long) (by decide) (by decide)))
  exact Go.retV C X188 d1_55 ⟨b2, rfl, Q2, K189, E190, F195, F191, F192, F193, Fw188, (AJ.congr J194 (fun i hi => absurd hi (Nat.not_lt_zero _)))⟩ (by decide) (by decide)
theorem own_ef_rm_em (m : MethodId) (x0 : Addr) : entryFrame m #[(.ref x0)] 1 = mkF m 0 #[.val (.ref x0)] [] := by first | (simp [entryFrame, mkF, argsToLocals, Value.category]; done) | rfl
theorem d5_0 : decode prog_26_method_4_code 0 = .ok (.aload_n 0, 1) := by decide +kernel
theorem d5_1 : decode prog_26_method_4_code 1 = .ok (.iconst 0, 1) := by decide +kernel
theorem d5_2 : decode prog_26_method_4_code 2 = .ok (.putfield 46, 3) := by decide +kernel
theorem d5_5 : decode prog_26_method_4_code 5 = .ok (.aload_n 0, 1) := by decide +kernel
theorem d5_6 : decode prog_26_method_4_code 6 = .ok (.aconst_null, 1) := by decide +kernel
theorem d5_7 : decode prog_26_method_4_code 7 = .ok (.putfield 49, 3) := by decide +kernel
theorem d5_10 : decode prog_26_method_4_code 10 = .ok (.aload_n 0, 1) := by decide +kernel
theorem d5_11 : decode prog_26_method_4_code 11 = .ok (.dup, 1) := by decide +kernel
theorem d5_12 : decode prog_26_method_4_code 12 = .ok (.getfield 31, 3) := by decide +kernel
theorem d5_15 : decode prog_26_method_4_code 15 = .ok (.lconst 1, 1) := by decide +kernel
theorem d5_16 : decode prog_26_method_4_code 16 = .ok (.ladd, 1) := by decide +kernel
theorem d5_17 : decode prog_26_method_4_code 17 = .ok (.putfield 31, 3) := by decide +kernel
theorem d5_20 : decode prog_26_method_4_code 20 = .ok (.aload_n 0, 1) := by decide +kernel
theorem d5_21 : decode prog_26_method_4_code 21 = .ok (.getfield 31, 3) := by decide +kernel
theorem d5_24 : decode prog_26_method_4_code 24 = .ok (.ldc2_w 53, 3) := by decide +kernel
theorem d5_27 : decode prog_26_method_4_code 27 = .ok (.lcmp, 1) := by decide +kernel
theorem d5_28 : decode prog_26_method_4_code 28 = .ok (.ifCond .le 16, 3) := by decide +kernel
theorem d5_44 : decode prog_26_method_4_code 44 = .ok (.return_, 1) := by decide +kernel
set_option maxRecDepth 65536 in
set_option maxHeartbeats 40000000 in
theorem rm_em (l : Launch) (Z : State) (a0 : Array Value) (hw : ∀ d ∈ tables_1, d.before a0 Z = true) (a : Addr) (t : Addr) (w0 : Int32) (r : Int64) (h0 : Heap) (n0 : Nat) (Z0 : n0 ≤ h0.size) (f0 : Exa Z h0 a "com/example/happenets/happenets/net/KeyedCounts") (f1 : Fld Z h0 a "com/example/happenets/happenets/net/KeyedCounts" "multipliers" "[J" (.ref t)) (f2 : Fld Z h0 a "com/example/happenets/happenets/net/KeyedCounts" "words" "I" (.int w0)) (f3 : Fld Z h0 a "com/example/happenets/happenets/net/KeyedCounts" "size" "I" (.int (0 : Int32))) (f4 : Fld Z h0 a "com/example/happenets/happenets/net/KeyedCounts" "largeCounts" "[Ljava/math/BigInteger;" .null) (f5 : Fld Z h0 a "com/example/happenets/happenets/net/KeyedCounts" "round" "J" (.long r)) (f6 : n0 ≤ a) (hr : ¬ (65535 : Int64) < (r + (1 : Int64))) :
    Con l Z (⟨"com/example/happenets/happenets/net/KeyedCounts", "empty", "()V"⟩ : MethodName) prog_26_method_4_code 1 none ({ frames := 0, cells := 0, slots := 0, locals := 0 } : Room) #[(.ref a)] h0 n0 (fun rv hv => rv = none ∧ Keep h0 hv [a] ∧ Exa Z hv a "com/example/happenets/happenets/net/KeyedCounts" ∧ Fld Z hv a "com/example/happenets/happenets/net/KeyedCounts" "multipliers" "[J" (.ref t) ∧ Fld Z hv a "com/example/happenets/happenets/net/KeyedCounts" "words" "I" (.int w0) ∧ Fld Z hv a "com/example/happenets/happenets/net/KeyedCounts" "size" "I" (.int (0 : Int32)) ∧ Fld Z hv a "com/example/happenets/happenets/net/KeyedCounts" "largeCounts" "[Ljava/math/BigInteger;" .null ∧ Fld Z hv a "com/example/happenets/happenets/net/KeyedCounts" "round" "J" (.long (r + (1 : Int64)))) := by
  refine Con.enter (plainFor_of_name own_pn0) Z0 ?_
  intro p e s m below meth c T0 C hnm X0
  refine Go.cast (own_ef_rm_em m a) ?_
  refine Go.aloadN C X0 (pc' := 1) d5_0 rfl rfl rfl ?_
  refine Go.iconst C X0 (pc' := 2) (v := (0 : Int32)) d5_1 rfl rfl ?_
  refine Go.putF C X0 (pc' := 5) (host := "") (Or.inl (hw _ (List.mem_of_getElem? (i := 42) rfl))) Via.refl f3 f0 (Or.inl (hw _ (List.mem_of_getElem? (i := 43) rfl))) (hw _ (List.mem_of_getElem? (i := 1) rfl)) f6 (ty := .int) (by decide) rfl rfl d5_2 rfl (fun T206 h206 X206 W206 => ?_)
  have Fw206 := f3.same W206
  have K207 : Keep h0 h206 [a] := (Keep.refl h0 [a]).wr W206 (Or.inl (List.mem_of_getElem? (i := 0) rfl))
  have E208 := f0.wr W206
  have F209 := f1.other W206 (Or.inr (slot_ne (Or.inl (hw _ (List.mem_of_getElem? (i := 11) rfl))) (Or.inl (hw _ (List.mem_of_getElem? (i := 43) rfl))) (by decide) (t := (.array .long)) (t' := .int) (by decide) (by decide)))
  have F210 := f2.other W206 (Or.inr (slot_ne (Or.inl (hw _ (List.mem_of_getElem? (i := 31) rfl))) (Or.inl (hw _ (List.mem_of_getElem? (i := 43) rfl))) (by decide) (t := .int) (t' := .int) (by decide) (by decide)))
  have F211 := f4.other W206 (Or.inr (slot_ne (Or.inl (hw _ (List.mem_of_getElem? (i := 45) rfl))) (Or.inl (hw _ (List.mem_of_getElem? (i := 43) rfl))) (by decide) (t := (.array (.object "java/math/BigInteger"))) (t' := .int) (by decide) (by decide)))
  have F212 := f5.other W206 (Or.inr (slot_ne (Or.inl (hw _ (List.mem_of_getElem? (i := 24) rfl))) (Or.inl (hw _ (List.mem_of_getElem? (i := 43) rfl))) (by decide) (t := .long) (t' := .int) (by decide) (by decide)))
  refine Go.aloadN C X206 (pc' := 6) d5_5 rfl rfl rfl ?_
  refine Go.aconst_null C X206 (pc' := 7) d5_6 rfl ?_
  refine Go.putF C X206 (pc' := 10) (host := "") (Or.inl (hw _ (List.mem_of_getElem? (i := 44) rfl))) Via.refl F211 E208 (Or.inl (hw _ (List.mem_of_getElem? (i := 45) rfl))) (hw _ (List.mem_of_getElem? (i := 1) rfl)) f6 (ty := (.array (.object "java/math/BigInteger"))) (by decide) rfl rfl d5_7 rfl (fun T213 h213 X213 W213 => ?_)
  have Fw213 := F211.same W213
  have K214 : Keep h0 h213 [a] := K207.wr W213 (Or.inl (List.mem_of_getElem? (i := 0) rfl))
  have E215 := E208.wr W213
  have F216 := F209.other W213 (Or.inr (slot_ne (Or.inl (hw _ (List.mem_of_getElem? (i := 11) rfl))) (Or.inl (hw _ (List.mem_of_getElem? (i := 45) rfl))) (by decide) (t := (.array .long)) (t' := (.array (.object "java/math/BigInteger"))) (by decide) (by decide)))
  have F217 := F210.other W213 (Or.inr (slot_ne (Or.inl (hw _ (List.mem_of_getElem? (i := 31) rfl))) (Or.inl (hw _ (List.mem_of_getElem? (i := 45) rfl))) (by decide) (t := .int) (t' := (.array (.object "java/math/BigInteger"))) (by decide) (by decide)))
  have F218 := F212.other W213 (Or.inr (slot_ne (Or.inl (hw _ (List.mem_of_getElem? (i := 24) rfl))) (Or.inl (hw _ (List.mem_of_getElem? (i := 45) rfl))) (by decide) (t := .long) (t' := (.array (.object "java/math/BigInteger"))) (by decide) (by decide)))
  have F219 := Fw206.other W213 (Or.inr (slot_ne (Or.inl (hw _ (List.mem_of_getElem? (i := 43) rfl))) (Or.inl (hw _ (List.mem_of_getElem? (i := 45) rfl))) (by decide) (t := .int) (t' := (.array (.object "java/math/BigInteger"))) (by decide) (by decide)))
  refine Go.aloadN C X213 (pc' := 11) d5_10 rfl rfl rfl ?_
  refine Go.dup C X213 (pc' := 12) d5_11 rfl rfl ?_
  refine Go.getF C X213 (pc' := 15) (host := "") (Or.inl (hw _ (List.mem_of_getElem? (i := 23) rfl))) Via.refl F218 d5_12 rfl (fun T220 X220 => ?_)
  refine Go.lconst C X220 (pc' := 16) (v := (1 : Int64)) d5_15 rfl rfl ?_
  refine Go.ladd C X220 (pc' := 17) d5_16 rfl ?_
  refine Go.putF C X220 (pc' := 20) (host := "") (Or.inl (hw _ (List.mem_of_getElem? (i := 23) rfl))) Via.refl F218 E215 (Or.inl (hw _ (List.mem_of_getElem? (i := 24) rfl))) (hw _ (List.mem_of_getElem? (i := 1) rfl)) f6 (ty := .long) (by decide) rfl rfl d5_17 rfl (fun T221 h221 X221 W221 => ?_)
  have Fw221 := F218.same W221
  have K222 : Keep h0 h221 [a] := K214.wr W221 (Or.inl (List.mem_of_getElem? (i := 0) rfl))
  have E223 := E215.wr W221
  have F224 := F216.other W221 (Or.inr (slot_ne (Or.inl (hw _ (List.mem_of_getElem? (i := 11) rfl))) (Or.inl (hw _ (List.mem_of_getElem? (i := 24) rfl))) (by decide) (t := (.array .long)) (t' := .long) (by decide) (by decide)))
  have F225 := F217.other W221 (Or.inr (slot_ne (Or.inl (hw _ (List.mem_of_getElem? (i := 31) rfl))) (Or.inl (hw _ (List.mem_of_getElem? (i := 24) rfl))) (by decide) (t := .int) (t' := .long) (by decide) (by decide)))
  have F226 := F219.other W221 (Or.inr (slot_ne (Or.inl (hw _ (List.mem_of_getElem? (i := 43) rfl))) (Or.inl (hw _ (List.mem_of_getElem? (i := 24) rfl))) (by decide) (t := .int) (t' := .long) (by decide) (by decide)))
  have F227 := Fw213.other W221 (Or.inr (slot_ne (Or.inl (hw _ (List.mem_of_getElem? (i := 45) rfl))) (Or.inl (hw _ (List.mem_of_getElem? (i := 24) rfl))) (by decide) (t := (.array (.object "java/math/BigInteger"))) (t' := .long) (by decide) (by decide)))
  refine Go.aloadN C X221 (pc' := 21) d5_20 rfl rfl rfl ?_
  refine Go.getF C X221 (pc' := 24) (host := "") (Or.inl (hw _ (List.mem_of_getElem? (i := 23) rfl))) Via.refl Fw221 d5_21 rfl (fun T228 X228 => ?_)
  refine Go.ldc2 C X228 (pc' := 27) (hw _ (List.mem_of_getElem? (i := 46) rfl)) d5_24 rfl ?_
  refine Go.lcmp C X228 (pc' := 28) d5_27 rfl ?_
  refine Go.ifYes C X228 (pc' := 44) d5_28 ((if0 _ _).trans (flt (fun q => hr ((lw_gt _ _).mp q))).2.2.2) (by decide) (by decide) ?_
  exact Go.retV C X228 d5_44 ⟨rfl, K222, E223, F224, F225, F226, F227, Fw221⟩ (by decide) (by decide)
theorem own_less {i n : Int32} {k : Nat} (h : i < n) (h0 : 0 ≤ i.toInt) (hk : (n.toInt - i.toInt).toNat < k + 1) : (n.toInt - (i + (1 : Int32)).toInt).toNat < k := by
  rw [own_inc h]; rw [own_ilt] at h; omega
def own_fl (k : Nat) : Nat → Int64 := fun i => if i < k then own_mu i else 0
theorem own_fl0 (n : Nat) : ∀ i, i < n → (fun _ => (0 : Int64)) i = own_fl 0 i := fun i _ => by unfold own_fl; rw [if_neg (by omega)]
theorem own_fl1 {u : Int32} (n : Nat) (h0 : 0 ≤ u.toInt) {w : Int32} (h : u < w) : ∀ i, i < n → (if i = u.toInt.toNat then own_f_rm_mu u else own_fl u.toInt.toNat i) = own_fl (u + (1 : Int32)).toInt.toNat i := fun i _ => by
  rw [own_inc h]
  unfold own_fl
  by_cases q : i = u.toInt.toNat
  · rw [if_pos q, if_pos (by omega)]
    unfold own_mu; congr 1
    apply own_nat32; omega
  · rw [if_neg q]
    by_cases p : i < u.toInt.toNat
    · rw [if_pos p, if_pos (by omega)]
    · rw [if_neg p, if_neg (by omega)]
theorem own_fl2 {u w : Int32} {wn : Nat} (hw : w.toInt = (wn : Int)) (h : ¬ u < w) : ∀ i, i < wn → own_fl u.toInt.toNat i = own_mu i := fun i hi => by
  rw [own_ilt] at h
  unfold own_fl; rw [if_pos (by omega)]
theorem own_ef_rm_cl (m : MethodId) (x0 : Addr) (x1 : Int32) : entryFrame m #[(.ref x0), (.int x1)] 3 = mkF m 0 #[.val (.ref x0), .val (.int x1), .unset] [] := by first | (simp [entryFrame, mkF, argsToLocals, Value.category]; done) | rfl
theorem d3_0 : decode prog_26_method_2_code 0 = .ok (.aload_n 0, 1) := by decide +kernel
theorem d3_1 : decode prog_26_method_2_code 1 = .ok (.iload_n 1, 1) := by decide +kernel
theorem d3_2 : decode prog_26_method_2_code 2 = .ok (.putfield 35, 3) := by decide +kernel
theorem d3_5 : decode prog_26_method_2_code 5 = .ok (.aload_n 0, 1) := by decide +kernel
theorem d3_6 : decode prog_26_method_2_code 6 = .ok (.getfield 11, 3) := by decide +kernel
theorem d3_9 : decode prog_26_method_2_code 9 = .ok (.arraylength, 1) := by decide +kernel
theorem d3_10 : decode prog_26_method_2_code 10 = .ok (.iload_n 1, 1) := by decide +kernel
theorem d3_11 : decode prog_26_method_2_code 11 = .ok (.if_icmp .eq 33, 3) := by decide +kernel
theorem d3_44 : decode prog_26_method_2_code 44 = .ok (.aload_n 0, 1) := by decide +kernel
theorem d3_45 : decode prog_26_method_2_code 45 = .ok (.invokevirtual 43, 3) := by decide +kernel
theorem own_pd0 : parseMethodDescriptor "()V" = some ⟨[], none⟩ := by decide +kernel
theorem d3_48 : decode prog_26_method_2_code 48 = .ok (.return_, 1) := by decide +kernel
theorem d3_14 : decode prog_26_method_2_code 14 = .ok (.aload_n 0, 1) := by decide +kernel
theorem d3_15 : decode prog_26_method_2_code 15 = .ok (.iload_n 1, 1) := by decide +kernel
theorem d3_16 : decode prog_26_method_2_code 16 = .ok (.newarray .long, 2) := by decide +kernel
theorem d3_18 : decode prog_26_method_2_code 18 = .ok (.putfield 11, 3) := by decide +kernel
theorem d3_21 : decode prog_26_method_2_code 21 = .ok (.iconst 0, 1) := by decide +kernel
theorem d3_22 : decode prog_26_method_2_code 22 = .ok (.istore_n 2, 1) := by decide +kernel
theorem d3_23 : decode prog_26_method_2_code 23 = .ok (.iload_n 2, 1) := by decide +kernel
theorem d3_24 : decode prog_26_method_2_code 24 = .ok (.iload_n 1, 1) := by decide +kernel
theorem d3_25 : decode prog_26_method_2_code 25 = .ok (.if_icmp .ge 19, 3) := by decide +kernel
theorem d3_28 : decode prog_26_method_2_code 28 = .ok (.aload_n 0, 1) := by decide +kernel
theorem d3_29 : decode prog_26_method_2_code 29 = .ok (.getfield 11, 3) := by decide +kernel
theorem d3_32 : decode prog_26_method_2_code 32 = .ok (.iload_n 2, 1) := by decide +kernel
theorem d3_33 : decode prog_26_method_2_code 33 = .ok (.iload_n 2, 1) := by decide +kernel
theorem d3_34 : decode prog_26_method_2_code 34 = .ok (.invokestatic 39, 3) := by decide +kernel
theorem own_pd1 : parseMethodDescriptor "(I)J" = some ⟨[.int], some .long⟩ := by decide +kernel
theorem d3_37 : decode prog_26_method_2_code 37 = .ok (.lastore, 1) := by decide +kernel
theorem d3_38 : decode prog_26_method_2_code 38 = .ok (.iinc 2 1, 3) := by decide +kernel
theorem d3_41 : decode prog_26_method_2_code 41 = .ok (.goto (-18), 3) := by decide +kernel
set_option maxRecDepth 65536 in
set_option maxHeartbeats 40000000 in
theorem rm_cl (l : Launch) (Z : State) (a0 : Array Value) (hw : ∀ d ∈ tables_1, d.before a0 Z = true) (a : Addr) (w1 : Int32) (t : Addr) (n : Nat) (z : Int32) (w0 : Int32) (r : Int64) (wn : Nat) (h0 : Heap) (n0 : Nat) (Z0 : n0 ≤ h0.size) (f0 : Exa Z h0 a "com/example/happenets/happenets/net/KeyedCounts") (f1 : Fld Z h0 a "com/example/happenets/happenets/net/KeyedCounts" "multipliers" "[J" (.ref t)) (f2 : Fld Z h0 a "com/example/happenets/happenets/net/KeyedCounts" "words" "I" (.int w0)) (f3 : Fld Z h0 a "com/example/happenets/happenets/net/KeyedCounts" "size" "I" (.int (0 : Int32))) (f4 : Fld Z h0 a "com/example/happenets/happenets/net/KeyedCounts" "largeCounts" "[Ljava/math/BigInteger;" .null) (f5 : Fld Z h0 a "com/example/happenets/happenets/net/KeyedCounts" "round" "J" (.long r)) (f6 : n0 ≤ a) (f7 : n0 ≤ t) (f8 : AJ Z h0 t n own_mu) (f9 : t ≠ a) (hz : z.toInt = (n : Int)) (hwn : w1.toInt = (wn : Int)) (hcap : wn ≤ 3) (hr : ¬ (65535 : Int64) < (r + (1 : Int64))) :
    Con l Z (⟨"com/example/happenets/happenets/net/KeyedCounts", "clear", "(I)V"⟩ : MethodName) prog_26_method_2_code 3 none ({ frames := 1, cells := 1, slots := 3, locals := 16 } : Room) #[(.ref a), (.int w1)] h0 n0 (fun rv hv => ∃ t1 : Addr, rv = none ∧ Keep h0 hv [a] ∧ Exa Z hv a "com/example/happenets/happenets/net/KeyedCounts" ∧ Fld Z hv a "com/example/happenets/happenets/net/KeyedCounts" "multipliers" "[J" (.ref t1) ∧ Fld Z hv a "com/example/happenets/happenets/net/KeyedCounts" "words" "I" (.int w1) ∧ Fld Z hv a "com/example/happenets/happenets/net/KeyedCounts" "size" "I" (.int (0 : Int32)) ∧ Fld Z hv a "com/example/happenets/happenets/net/KeyedCounts" "largeCounts" "[Ljava/math/BigInteger;" .null ∧ Fld Z hv a "com/example/happenets/happenets/net/KeyedCounts" "round" "J" (.long (r + (1 : Int64))) ∧ n0 ≤ t1 ∧ t1 ≠ a ∧ AJ Z hv t1 wn own_mu) := by
  refine Con.enter (plainFor_of_name own_pn0) Z0 ?_
  intro p e s m below meth c T0 C hnm X0
  refine Go.cast (own_ef_rm_cl m a w1) ?_
  refine Go.aloadN C X0 (pc' := 1) d3_0 rfl rfl rfl ?_
  refine Go.iloadN C X0 (pc' := 2) d3_1 rfl rfl ?_
  refine Go.putF C X0 (pc' := 5) (host := "") (Or.inl (hw _ (List.mem_of_getElem? (i := 30) rfl))) Via.refl f2 f0 (Or.inl (hw _ (List.mem_of_getElem? (i := 31) rfl))) (hw _ (List.mem_of_getElem? (i := 1) rfl)) f6 (ty := .int) (by decide) rfl rfl d3_2 rfl (fun T229 h229 X229 W229 => ?_)
  have Fw229 := f2.same W229
  have K230 : Keep h0 h229 [a] := (Keep.refl h0 [a]).wr W229 (Or.inl (List.mem_of_getElem? (i := 0) rfl))
  have E231 := f0.wr W229
  have F232 := f1.other W229 (Or.inr (slot_ne (Or.inl (hw _ (List.mem_of_getElem? (i := 11) rfl))) (Or.inl (hw _ (List.mem_of_getElem? (i := 31) rfl))) (by decide) (t := (.array .long)) (t' := .int) (by decide) (by decide)))
  have F233 := f3.other W229 (Or.inr (slot_ne (Or.inl (hw _ (List.mem_of_getElem? (i := 43) rfl))) (Or.inl (hw _ (List.mem_of_getElem? (i := 31) rfl))) (by decide) (t := .int) (t' := .int) (by decide) (by decide)))
  have F234 := f4.other W229 (Or.inr (slot_ne (Or.inl (hw _ (List.mem_of_getElem? (i := 45) rfl))) (Or.inl (hw _ (List.mem_of_getElem? (i := 31) rfl))) (by decide) (t := (.array (.object "java/math/BigInteger"))) (t' := .int) (by decide) (by decide)))
  have F235 := f5.other W229 (Or.inr (slot_ne (Or.inl (hw _ (List.mem_of_getElem? (i := 24) rfl))) (Or.inl (hw _ (List.mem_of_getElem? (i := 31) rfl))) (by decide) (t := .long) (t' := .int) (by decide) (by decide)))
  have J236 := f8.other W229 f9
  refine Go.aloadN C X229 (pc' := 6) d3_5 rfl rfl rfl ?_
  refine Go.getF C X229 (pc' := 9) (host := "") (Or.inl (hw _ (List.mem_of_getElem? (i := 10) rfl))) Via.refl F232 d3_6 rfl (fun T237 X237 => ?_)
  refine Go.alenJ C X237 (pc' := 10) (z := z) J236 hz d3_9 rfl ?_
  refine Go.iloadN C X237 (pc' := 11) d3_10 rfl rfl ?_
  by_cases c238 : z = w1
  · refine Go.icmpYes C X237 (pc' := 44) d3_11 (teq c238).1 (by decide) (by decide) ?_
    obtain rfl : n = wn := by have := congrArg Int32.toInt c238; omega
    refine Go.aloadN C X237 (pc' := 45) d3_44 rfl rfl rfl ?_
    refine Go.callP C X237 (pc' := 48) (W := 0) (argsL := []) (rest := []) (a := a) (rm_em l Z a0 hw a t w1 r h229 n0 X237.sz E231 F232 Fw229 F233 F234 F235 f6 hr) E231 (hw _ (List.mem_of_getElem? (i := 38) rfl)) (hw _ (List.mem_of_getElem? (i := 39) rfl)) (hw _ (List.mem_of_getElem? (i := 1) rfl)) (hw _ (List.mem_of_getElem? (i := 40) rfl)) (hw _ (List.mem_of_getElem? (i := 2) rfl)) (hw _ (List.mem_of_getElem? (i := 41) rfl)) (by decide) rfl rfl (lenOf own_pd0 rfl) rfl (Nat.le_of_eq rfl) (by decide) (by decide) (by decide) (by decide) d3_45 rfl (fun _ _ q => by obtain ⟨_, K, _⟩ := q; exact K.1) (fun T240 h240 v240 X240 P240 => ?_)
    obtain ⟨rfl, K240, O240_0, O240_1, O240_2, O240_3, O240_4, O240_5⟩ := P240
    have K241 : Keep h0 h240 [a] := K230.trans K240 (allS (Or.inl (List.mem_of_getElem? (i := 0) rfl)) all0)
    have E242 := E231.keep K240
    have J243 := J236.keep K240 (ninS f9 nin0)
    show Go p e below s n0 _ _ _ T240 (mkF m 48 #[.val (.ref a), .val (.int w1), .unset] [])
    exact Go.retV C X240 d3_48 ⟨t, rfl, K241, O240_0, O240_1, O240_2, O240_3, O240_4, O240_5, f7, f9, J243⟩ (by decide) (by decide)
  · refine Go.icmpNo C X237 (pc' := 14) d3_11 (feq c238).1 rfl ?_
    refine Go.aloadN C X237 (pc' := 15) d3_14 rfl rfl rfl ?_
    refine Go.iloadN C X237 (pc' := 16) d3_15 rfl rfl ?_
    refine Go.newP C X237 (pc' := 18) (nn := wn) (cap := 3) (hw _ (List.mem_of_getElem? (i := 9) rfl)) d3_16 hwn hcap (by decide) (by decide) (by decide) rfl (fun T244 h244 b244 k244 X244 g244 E244 Ar244 N244 => ?_)
    have ne_a_b244 : a ≠ b244 := Nat.ne_of_lt (Nat.lt_of_lt_of_eq E231.lt g244.symm)
    have ne_t_b244 : t ≠ b244 := Nat.ne_of_lt (Nat.lt_of_lt_of_eq J236.lt g244.symm)
    have Q244 : h0.size ≤ b244 := Nat.le_trans K230.1 (Nat.le_of_eq g244.symm)
    have K245 : Keep h0 h244 [a] := K230.ext E244
    have E246 := E231.ext E244
    have F247 := F232.ext E244
    have F248 := F233.ext E244
    have F249 := F234.ext E244
    have F250 := F235.ext E244
    have J251 := J236.ext E244
    have F252 := Fw229.ext E244
    have A244 : AJ Z h244 b244 wn (fun _ => 0) := AJ.new hwn Ar244
    refine Go.putF C X244 (pc' := 21) (host := "") (Or.inl (hw _ (List.mem_of_getElem? (i := 10) rfl))) Via.refl F247 E246 (Or.inl (hw _ (List.mem_of_getElem? (i := 11) rfl))) (hw _ (List.mem_of_getElem? (i := 1) rfl)) f6 (ty := (.array .long)) (by decide) rfl rfl d3_18 rfl (fun T253 h253 X253 W253 => ?_)
    have Fw253 := F247.same W253
    have K254 : Keep h0 h253 [a] := K245.wr W253 (Or.inl (List.mem_of_getElem? (i := 0) rfl))
    have E255 := E246.wr W253
    have F256 := F248.other W253 (Or.inr (slot_ne (Or.inl (hw _ (List.mem_of_getElem? (i := 43) rfl))) (Or.inl (hw _ (List.mem_of_getElem? (i := 11) rfl))) (by decide) (t := .int) (t' := (.array .long)) (by decide) (by decide)))
    have F257 := F249.other W253 (Or.inr (slot_ne (Or.inl (hw _ (List.mem_of_getElem? (i := 45) rfl))) (Or.inl (hw _ (List.mem_of_getElem? (i := 11) rfl))) (by decide) (t := (.array (.object "java/math/BigInteger"))) (t' := (.array .long)) (by decide) (by decide)))
    have F258 := F250.other W253 (Or.inr (slot_ne (Or.inl (hw _ (List.mem_of_getElem? (i := 24) rfl))) (Or.inl (hw _ (List.mem_of_getElem? (i := 11) rfl))) (by decide) (t := .long) (t' := (.array .long)) (by decide) (by decide)))
    have J259 := J251.other W253 f9
    have F260 := F252.other W253 (Or.inr (slot_ne (Or.inl (hw _ (List.mem_of_getElem? (i := 31) rfl))) (Or.inl (hw _ (List.mem_of_getElem? (i := 11) rfl))) (by decide) (t := .int) (t' := (.array .long)) (by decide) (by decide)))
    have J261 := A244.other W253 (Ne.symm ne_a_b244)
    refine Go.iconst C X253 (pc' := 22) (v := (0 : Int32)) d3_21 rfl rfl ?_
    refine Go.istoreN C X253 (pc' := 23) (Ls' := #[.val (.ref a), .val (.int w1), .val (.int (0 : Int32))]) d3_22 rfl rfl ?_
    have Cut23 : ∀ (fuel : Nat) (T_23 : State) (h_23 : Heap) (u2 : Int32), (w1.toInt - u2.toInt).toNat < fuel → (0 ≤ u2.toInt) → On p l e ({ frames := 1, cells := 1, slots := 3, locals := 16 } : Room) s m #[(.ref a), (.int w1)] below meth c n0 T_23 h_23 1 3 → Keep h0 h_23 [a] → Exa Z h_23 a "com/example/happenets/happenets/net/KeyedCounts" → Fld Z h_23 a "com/example/happenets/happenets/net/KeyedCounts" "multipliers" "[J" (.ref b244) → Fld Z h_23 a "com/example/happenets/happenets/net/KeyedCounts" "words" "I" (.int w1) → Fld Z h_23 a "com/example/happenets/happenets/net/KeyedCounts" "size" "I" (.int (0 : Int32)) → Fld Z h_23 a "com/example/happenets/happenets/net/KeyedCounts" "largeCounts" "[Ljava/math/BigInteger;" .null → Fld Z h_23 a "com/example/happenets/happenets/net/KeyedCounts" "round" "J" (.long r) → AJ Z h_23 b244 wn (own_fl u2.toInt.toNat) → Go p e below s n0 (({ frames := 1, cells := 1, slots := 3, locals := 16 } : Room)).cells (({ frames := 1, cells := 1, slots := 3, locals := 16 } : Room)).slots (fun rv hv => ∃ t1 : Addr, rv = none ∧ Keep h0 hv [a] ∧ Exa Z hv a "com/example/happenets/happenets/net/KeyedCounts" ∧ Fld Z hv a "com/example/happenets/happenets/net/KeyedCounts" "multipliers" "[J" (.ref t1) ∧ Fld Z hv a "com/example/happenets/happenets/net/KeyedCounts" "words" "I" (.int w1) ∧ Fld Z hv a "com/example/happenets/happenets/net/KeyedCounts" "size" "I" (.int (0 : Int32)) ∧ Fld Z hv a "com/example/happenets/happenets/net/KeyedCounts" "largeCounts" "[Ljava/math/BigInteger;" .null ∧ Fld Z hv a "com/example/happenets/happenets/net/KeyedCounts" "round" "J" (.long (r + (1 : Int64))) ∧ n0 ≤ t1 ∧ t1 ≠ a ∧ AJ Z hv t1 wn own_mu) T_23 (mkF m 23 #[.val (.ref a), .val (.int w1), .val (.int u2)] []) := by
      intro fuel
      induction fuel with
      | zero => intro T_23 h_23 u2 hM_23 h2 X_23 K_23 G23_0 G23_1 G23_2 G23_3 G23_4 G23_5 G23_6; exact absurd hM_23 (Nat.not_lt_zero _)
      | succ fuel ih_23 =>
        intro T_23 h_23 u2 hM_23 h2 X_23 K_23 G23_0 G23_1 G23_2 G23_3 G23_4 G23_5 G23_6
        refine Go.iloadN C X_23 (pc' := 24) d3_23 rfl rfl ?_
        refine Go.iloadN C X_23 (pc' := 25) d3_24 rfl rfl ?_
        by_cases c262 : u2 < w1
        · refine Go.icmpNo C X_23 (pc' := 28) d3_25 (tlt c262).2.1 rfl ?_
          refine Go.aloadN C X_23 (pc' := 29) d3_28 rfl rfl rfl ?_
          refine Go.getF C X_23 (pc' := 32) (host := "") (Or.inl (hw _ (List.mem_of_getElem? (i := 10) rfl))) Via.refl G23_1 d3_29 rfl (fun T263 X263 => ?_)
          refine Go.iloadN C X263 (pc' := 33) d3_32 rfl rfl ?_
          refine Go.iloadN C X263 (pc' := 34) d3_33 rfl rfl ?_
          refine Go.callS C X263 (pc' := 37) (W := 2) (argsL := [(.int u2)]) (rest := [(.int u2), (.ref b244)]) (rm_mu l Z a0 hw u2 h_23 n0 X263.sz ) (hw _ (List.mem_of_getElem? (i := 32) rfl)) (hw _ (List.mem_of_getElem? (i := 33) rfl)) (hw _ (List.mem_of_getElem? (i := 2) rfl)) (hw _ (List.mem_of_getElem? (i := 34) rfl)) (by decide) rfl rfl (lenOf own_pd1 rfl) rfl (Nat.le_of_eq rfl) (by decide) (by decide) (by decide) (by decide) d3_34 rfl (fun _ _ q => Nat.le_of_eq (congrArg Array.size q.2)) (fun T264 h264 v264 X264 P264 => ?_)
          obtain ⟨rfl, rfl⟩ := P264
          show Go p e below s n0 _ _ _ T264 (mkF m 37 #[.val (.ref a), .val (.int w1), .val (.int u2)] [(.long (own_f_rm_mu u2)), (.int u2), (.ref b244)])
          refine Go.lastore C X264 (pc' := 38) (i := u2.toInt.toNat) G23_6 (by omega) (by have := own_ilt.mp c262; omega) N244 d3_37 rfl (fun T265 h265 X265 W265 A265 => ?_)
          have K266 : Keep h0 h265 [a] := K_23.wr W265 (Or.inr Q244)
          have E267 := G23_0.wr W265
          have F268 := G23_1.other W265 (Or.inl ne_a_b244)
          have F269 := G23_2.other W265 (Or.inl ne_a_b244)
          have F270 := G23_3.other W265 (Or.inl ne_a_b244)
          have F271 := G23_4.other W265 (Or.inl ne_a_b244)
          have F272 := G23_5.other W265 (Or.inl ne_a_b244)
          refine Go.iinc C X265 (pc' := 41) (Ls' := #[.val (.ref a), .val (.int w1), .val (.int (u2 + (1 : Int32)))]) (v' := (u2 + (1 : Int32))) d3_38 rfl rfl rfl rfl ?_
          refine Go.goto C X265 (pc' := 23) d3_41 (by decide) (by decide) ?_
          exact ih_23 T265 h265 (u2 + (1 : Int32)) (own_less c262 h2 hM_23) (by rw [own_inc c262]; omega) X265 K266 E267 F268 F269 F270 F271 F272 (AJ.congr A265 (own_fl1 wn h2 c262))
        · refine Go.icmpYes C X_23 (pc' := 44) d3_25 (flt c262).2.1 (by decide) (by decide) ?_
          have A273 : AJ Z h_23 b244 wn own_mu := AJ.congr G23_6 (own_fl2 hwn c262)
          refine Go.aloadN C X_23 (pc' := 45) d3_44 rfl rfl rfl ?_
          refine Go.callP C X_23 (pc' := 48) (W := 0) (argsL := []) (rest := []) (a := a) (rm_em l Z a0 hw a b244 w1 r h_23 n0 X_23.sz G23_0 G23_1 G23_2 G23_3 G23_4 G23_5 f6 hr) G23_0 (hw _ (List.mem_of_getElem? (i := 38) rfl)) (hw _ (List.mem_of_getElem? (i := 39) rfl)) (hw _ (List.mem_of_getElem? (i := 1) rfl)) (hw _ (List.mem_of_getElem? (i := 40) rfl)) (hw _ (List.mem_of_getElem? (i := 2) rfl)) (hw _ (List.mem_of_getElem? (i := 41) rfl)) (by decide) rfl rfl (lenOf own_pd0 rfl) rfl (Nat.le_of_eq rfl) (by decide) (by decide) (by decide) (by decide) d3_45 rfl (fun _ _ q => by obtain ⟨_, K, _⟩ := q; exact K.1) (fun T274 h274 v274 X274 P274 => ?_)
          obtain ⟨rfl, K274, O274_0, O274_1, O274_2, O274_3, O274_4, O274_5⟩ := P274
          have K275 : Keep h0 h274 [a] := K_23.trans K274 (allS (Or.inl (List.mem_of_getElem? (i := 0) rfl)) all0)
          have E276 := G23_0.keep K274
          have J277 := A273.keep K274 (ninS (Ne.symm ne_a_b244) nin0)
          show Go p e below s n0 _ _ _ T274 (mkF m 48 #[.val (.ref a), .val (.int w1), .val (.int u2)] [])
          exact Go.retV C X274 d3_48 ⟨b244, rfl, K275, O274_0, O274_1, O274_2, O274_3, O274_4, O274_5, N244, (Ne.symm ne_a_b244), J277⟩ (by decide) (by decide)
    exact Cut23 (_) T253 h253 (0 : Int32) (Nat.lt_succ_self _) (by decide) X253 K254 E255 Fw253 F260 F256 F257 F258 (AJ.congr J261 (own_fl0 wn))
def own_s (mu g : Nat → Int64) : Nat → Nat → Int64 → Int64
  | _, 0, r => r
  | i, k + 1, r => own_s mu g (i + 1) k (r + (g i * mu i))
theorem own_back {mu f : Nat → Int64} {r u : Int64} {i n : Int32} (hr : own_s mu f i.toInt.toNat (n.toInt - i.toInt).toNat u = r) (h : i < n) (h0 : 0 ≤ i.toInt) :
    own_s mu f (i + (1 : Int32)).toInt.toNat (n.toInt - (i + (1 : Int32)).toInt).toNat (u + (f i.toInt.toNat * mu i.toInt.toNat)) = r := by
  rw [own_inc h]
  rw [own_ilt] at h
  have e1 : (n.toInt - i.toInt).toNat = (n.toInt - (i.toInt + 1)).toNat + 1 := by omega
  have e2 : (i.toInt + 1).toNat = i.toInt.toNat + 1 := by omega
  rw [e2]; rw [e1] at hr; exact hr
theorem own_end {mu f : Nat → Int64} {r u : Int64} {i n : Int32} (hr : own_s mu f i.toInt.toNat (n.toInt - i.toInt).toNat u = r) (h : ¬ i < n) : u = r := by
  rw [own_ilt] at h
  have e1 : (n.toInt - i.toInt).toNat = 0 := by omega
  rw [e1] at hr; exact hr
theorem own_ef_rm_su (m : MethodId) (x0 : Addr) (x1 : Addr) : entryFrame m #[(.ref x0), (.ref x1)] 5 = mkF m 0 #[.val (.ref x0), .val (.ref x1), .unset, .unset, .unset] [] := by first | (simp [entryFrame, mkF, argsToLocals, Value.category]; done) | rfl
theorem d6_0 : decode prog_26_method_29_code 0 = .ok (.lconst 0, 1) := by decide +kernel
theorem d6_1 : decode prog_26_method_29_code 1 = .ok (.lstore_n 2, 1) := by decide +kernel
theorem d6_2 : decode prog_26_method_29_code 2 = .ok (.iconst 0, 1) := by decide +kernel
theorem d6_3 : decode prog_26_method_29_code 3 = .ok (.istore 4, 2) := by decide +kernel
theorem d6_5 : decode prog_26_method_29_code 5 = .ok (.iload 4, 2) := by decide +kernel
theorem d6_7 : decode prog_26_method_29_code 7 = .ok (.aload_n 0, 1) := by decide +kernel
theorem d6_8 : decode prog_26_method_29_code 8 = .ok (.getfield 35, 3) := by decide +kernel
theorem d6_11 : decode prog_26_method_29_code 11 = .ok (.if_icmp .ge 24, 3) := by decide +kernel
theorem d6_14 : decode prog_26_method_29_code 14 = .ok (.lload_n 2, 1) := by decide +kernel
theorem d6_15 : decode prog_26_method_29_code 15 = .ok (.aload_n 1, 1) := by decide +kernel
theorem d6_16 : decode prog_26_method_29_code 16 = .ok (.iload 4, 2) := by decide +kernel
theorem d6_18 : decode prog_26_method_29_code 18 = .ok (.laload, 1) := by decide +kernel
theorem d6_19 : decode prog_26_method_29_code 19 = .ok (.aload_n 0, 1) := by decide +kernel
theorem d6_20 : decode prog_26_method_29_code 20 = .ok (.getfield 11, 3) := by decide +kernel
theorem d6_23 : decode prog_26_method_29_code 23 = .ok (.iload 4, 2) := by decide +kernel
theorem d6_25 : decode prog_26_method_29_code 25 = .ok (.laload, 1) := by decide +kernel
theorem d6_26 : decode prog_26_method_29_code 26 = .ok (.lmul, 1) := by decide +kernel
theorem d6_27 : decode prog_26_method_29_code 27 = .ok (.ladd, 1) := by decide +kernel
theorem d6_28 : decode prog_26_method_29_code 28 = .ok (.lstore_n 2, 1) := by decide +kernel
theorem d6_29 : decode prog_26_method_29_code 29 = .ok (.iinc 4 1, 3) := by decide +kernel
theorem d6_32 : decode prog_26_method_29_code 32 = .ok (.goto (-27), 3) := by decide +kernel
theorem d6_35 : decode prog_26_method_29_code 35 = .ok (.lload_n 2, 1) := by decide +kernel
theorem d6_36 : decode prog_26_method_29_code 36 = .ok (.lreturn, 1) := by decide +kernel
set_option maxRecDepth 65536 in
set_option maxHeartbeats 40000000 in
theorem rm_su (l : Launch) (Z : State) (a0 : Array Value) (hw : ∀ d ∈ tables_1, d.before a0 Z = true) (a : Addr) (ky : Addr) (t : Addr) (w1 : Int32) (wn : Nat) (kf : Nat → Int64) (h0 : Heap) (n0 : Nat) (Z0 : n0 ≤ h0.size) (f0 : Fld Z h0 a "com/example/happenets/happenets/net/KeyedCounts" "multipliers" "[J" (.ref t)) (f1 : Fld Z h0 a "com/example/happenets/happenets/net/KeyedCounts" "words" "I" (.int w1)) (f2 : AJ Z h0 t wn own_mu) (f3 : AJ Z h0 ky 3 kf) (hwn : w1.toInt = (wn : Int)) (hcap : wn ≤ 3) :
    Con l Z (⟨"com/example/happenets/happenets/net/KeyedCounts", "sum", "([J)J"⟩ : MethodName) prog_26_method_29_code 5 (some .long) ({ frames := 0, cells := 0, slots := 0, locals := 0 } : Room) #[(.ref a), (.ref ky)] h0 n0 (fun rv hv => rv = some (.long (own_s own_mu kf 0 wn 0)) ∧ h0 = hv) := by
  refine Con.enter (plainFor_of_name own_pn0) Z0 ?_
  intro p e s m below meth c T0 C hnm X0
  refine Go.cast (own_ef_rm_su m a ky) ?_
  refine Go.lconst C X0 (pc' := 1) (v := (0 : Int64)) d6_0 rfl rfl ?_
  refine Go.lstoreN C X0 (pc' := 2) (Ls' := #[.val (.ref a), .val (.ref ky), .val (.long (0 : Int64)), .second, .unset]) d6_1 rfl rfl ?_
  refine Go.iconst C X0 (pc' := 3) (v := (0 : Int32)) d6_2 rfl rfl ?_
  refine Go.istore C X0 (pc' := 5) (Ls' := #[.val (.ref a), .val (.ref ky), .val (.long (0 : Int64)), .second, .val (.int (0 : Int32))]) d6_3 rfl rfl ?_
  have Cut5 : ∀ (fuel : Nat) (T_5 : State) (u2 : Int64) (u4 : Int32), (w1.toInt - u4.toInt).toNat < fuel → (0 ≤ u4.toInt) → (own_s own_mu kf u4.toInt.toNat (w1.toInt - u4.toInt).toNat u2 = own_s own_mu kf 0 wn 0) → On p l e ({ frames := 0, cells := 0, slots := 0, locals := 0 } : Room) s m #[(.ref a), (.ref ky)] below meth c n0 T_5 h0 0 0 → Go p e below s n0 (({ frames := 0, cells := 0, slots := 0, locals := 0 } : Room)).cells (({ frames := 0, cells := 0, slots := 0, locals := 0 } : Room)).slots (fun rv hv => rv = some (.long (own_s own_mu kf 0 wn 0)) ∧ h0 = hv) T_5 (mkF m 5 #[.val (.ref a), .val (.ref ky), .val (.long u2), .second, .val (.int u4)] []) := by
    intro fuel
    induction fuel with
    | zero => intro T_5 u2 u4 hM_5 h4 hr X_5; exact absurd hM_5 (Nat.not_lt_zero _)
    | succ fuel ih_5 =>
      intro T_5 u2 u4 hM_5 h4 hr X_5
      refine Go.iload C X_5 (pc' := 7) d6_5 rfl rfl ?_
      refine Go.aloadN C X_5 (pc' := 8) d6_7 rfl rfl rfl ?_
      refine Go.getF C X_5 (pc' := 11) (host := "") (Or.inl (hw _ (List.mem_of_getElem? (i := 30) rfl))) Via.refl f1 d6_8 rfl (fun T278 X278 => ?_)
      by_cases c279 : u4 < w1
      · refine Go.icmpNo C X278 (pc' := 14) d6_11 (tlt c279).2.1 rfl ?_
        refine Go.lloadN C X278 (pc' := 15) d6_14 rfl rfl ?_
        refine Go.aloadN C X278 (pc' := 16) d6_15 rfl rfl rfl ?_
        refine Go.iload C X278 (pc' := 18) d6_16 rfl rfl ?_
        refine Go.laload C X278 (pc' := 19) (i := u4.toInt.toNat) (w := (kf u4.toInt.toNat)) f3 (by omega) (by have := own_ilt.mp c279; omega) rfl d6_18 rfl ?_
        refine Go.aloadN C X278 (pc' := 20) d6_19 rfl rfl rfl ?_
        refine Go.getF C X278 (pc' := 23) (host := "") (Or.inl (hw _ (List.mem_of_getElem? (i := 10) rfl))) Via.refl f0 d6_20 rfl (fun T280 X280 => ?_)
        refine Go.iload C X280 (pc' := 25) d6_23 rfl rfl ?_
        refine Go.laload C X280 (pc' := 26) (i := u4.toInt.toNat) (w := (own_mu u4.toInt.toNat)) f2 (by omega) (by have := own_ilt.mp c279; omega) rfl d6_25 rfl ?_
        refine Go.lmul C X280 (pc' := 27) d6_26 rfl ?_
        refine Go.ladd C X280 (pc' := 28) d6_27 rfl ?_
        refine Go.lstoreN C X280 (pc' := 29) (Ls' := #[.val (.ref a), .val (.ref ky), .val (.long (u2 + ((kf u4.toInt.toNat) * (own_mu u4.toInt.toNat)))), .second, .val (.int u4)]) d6_28 rfl rfl ?_
        refine Go.iinc C X280 (pc' := 32) (Ls' := #[.val (.ref a), .val (.ref ky), .val (.long (u2 + ((kf u4.toInt.toNat) * (own_mu u4.toInt.toNat)))), .second, .val (.int (u4 + (1 : Int32)))]) (v' := (u4 + (1 : Int32))) d6_29 rfl rfl rfl rfl ?_
        refine Go.goto C X280 (pc' := 5) d6_32 (by decide) (by decide) ?_
        exact ih_5 T280 (u2 + ((kf u4.toInt.toNat) * (own_mu u4.toInt.toNat))) (u4 + (1 : Int32)) (own_less c279 h4 hM_5) (by rw [own_inc c279]; omega) (own_back hr c279 h4) X280
      · refine Go.icmpYes C X278 (pc' := 35) d6_11 (flt c279).2.1 (by decide) (by decide) ?_
        refine Go.lloadN C X278 (pc' := 36) d6_35 rfl rfl ?_
        exact Go.retL C X278 d6_36 ⟨(by rw [own_end hr c279]), rfl⟩ (by decide) (by decide)
  exact Cut5 (_) T0 (0 : Int64) (0 : Int32) (Nat.lt_succ_self _) (by decide) (by rw [hwn]; rfl) X0
theorem own_bn (x : Int32) : (x &&& (3 : Int32)).toInt = (((x &&& (3 : Int32)).toInt.toNat : Nat) : Int) ∧ (x &&& (3 : Int32)).toInt.toNat ≤ 3 := by
  rcases own_and3 x with q | q | q | q <;> rw [q] <;> decide
theorem own_mu0 : own_mu 0 = own_f_rm_mu (0 : Int32) := congrArg own_f_rm_mu (by decide : Int32.ofNat 0 = 0)
theorem own_mu1 : own_mu 1 = own_f_rm_mu (1 : Int32) := congrArg own_f_rm_mu (by decide : Int32.ofNat 1 = 1)
theorem own_mu2 : own_mu 2 = own_f_rm_mu (2 : Int32) := congrArg own_f_rm_mu (by decide : Int32.ofNat 2 = 2)
theorem own_s0 (mu g : Nat → Int64) : own_s mu g 0 0 0 = (0 : Int64) := rfl
theorem own_s1 (mu g : Nat → Int64) : own_s mu g 0 1 0 = ((0 : Int64) + (g 0 * mu 0)) := rfl
theorem own_s2 (mu g : Nat → Int64) : own_s mu g 0 2 0 = (((0 : Int64) + (g 0 * mu 0)) + (g 1 * mu 1)) := rfl
theorem own_s3 (mu g : Nat → Int64) : own_s mu g 0 3 0 = ((((0 : Int64) + (g 0 * mu 0)) + (g 1 * mu 1)) + (g 2 * mu 2)) := rfl
theorem own_pn1 : plainName "com/example/happenets/happenets/net/KeyedCountsSumPinLaw" = true := by first | (simp [plainName, overriddenIn]; done) | decide +kernel
theorem own_ef_rm0 (m : MethodId) (x0 : Int64) (x1 : Int64) (x2 : Int64) (x3 : Int32) (x4 : Int32) : entryFrame m #[(.long x0), (.long x1), (.long x2), (.int x3), (.int x4)] maxLocals = mkF m 0 #[.val (.long x0), .second, .val (.long x1), .second, .val (.long x2), .second, .val (.int x3), .val (.int x4), .unset, .unset, .unset, .unset, .unset, .unset, .unset, .unset] [] := by first | (simp [entryFrame, mkF, argsToLocals, Value.category, maxLocals]; done) | rfl
theorem own_pd2 : parseMethodDescriptor "(I)V" = some ⟨[.int], none⟩ := by decide +kernel
theorem own_pd3 : parseMethodDescriptor "([J)J" = some ⟨[(.array .long)], some .long⟩ := by decide +kernel
set_option maxRecDepth 65536 in
set_option maxHeartbeats 40000000 in
theorem rm0 (l : Launch) (Z : State) (a0 : Array Value) (hw : ∀ d ∈ tables_1, d.before a0 Z = true) (x0 x1 x2 : Int64) (x3 x4 : Int32) (h0 : Heap) (n0 : Nat) (Z0 : n0 ≤ h0.size)  :
    Con l Z x code maxLocals ret room_1 #[(.long x0), (.long x1), (.long x2), (.int x3), (.int x4)] h0 n0 (fun rv hv => rv = some (.int 1)) := by
  refine Con.enter (plainFor_of_name own_pn1) Z0 ?_
  intro p e s m below meth c T0 C hnm X0
  refine Go.cast (own_ef_rm0 m x0 x1 x2 x3 x4) ?_
  refine Go.iload C X0 (pc' := 2) at_0 rfl rfl ?_
  refine Go.iconst C X0 (pc' := 3) (v := (3 : Int32)) at_2 rfl rfl ?_
  refine Go.iand C X0 (pc' := 4) at_3 rfl ?_
  refine Go.istore C X0 (pc' := 6) (Ls' := #[.val (.long x0), .second, .val (.long x1), .second, .val (.long x2), .second, .val (.int x3), .val (.int x4), .val (.int (x3 &&& (3 : Int32))), .unset, .unset, .unset, .unset, .unset, .unset, .unset]) at_4 rfl rfl ?_
  rcases own_and3 x3 with q281 | q281 | q281 | q281
  · rw [q281]
    refine Go.iload C X0 (pc' := 8) at_6 rfl rfl ?_
    refine Go.iconst C X0 (pc' := 9) (v := (3 : Int32)) at_8 rfl rfl ?_
    refine Go.iand C X0 (pc' := 10) at_9 rfl ?_
    refine Go.istore C X0 (pc' := 12) (Ls' := #[.val (.long x0), .second, .val (.long x1), .second, .val (.long x2), .second, .val (.int x3), .val (.int x4), .val (.int (0 : Int32)), .val (.int (x4 &&& (3 : Int32))), .unset, .unset, .unset, .unset, .unset, .unset]) at_10 rfl rfl ?_
    refine Go.newO C X0 (pc' := 15) (hw _ (List.mem_of_getElem? (i := 0) rfl)) (hw _ (List.mem_of_getElem? (i := 1) rfl)) (hw _ (List.mem_of_getElem? (i := 2) rfl)) at_12 (by decide) (by decide) rfl (fun T282 h282 b282 X282 g282 E282 Ex282 D282 N282 => ?_)
    have F283 : Fld Z h282 b282 "com/example/happenets/happenets/net/KeyedCounts" "multipliers" "[J" .null := D282 (Or.inl (hw _ (List.mem_of_getElem? (i := 11) rfl))) (ty := (.array .long)) (by decide)
    have F284 : Fld Z h282 b282 "com/example/happenets/happenets/net/KeyedCounts" "keys" "[J" .null := D282 (Or.inl (hw _ (List.mem_of_getElem? (i := 13) rfl))) (ty := (.array .long)) (by decide)
    have F285 : Fld Z h282 b282 "com/example/happenets/happenets/net/KeyedCounts" "starts" "[I" .null := D282 (Or.inl (hw _ (List.mem_of_getElem? (i := 16) rfl))) (ty := (.array .int)) (by decide)
    have F286 : Fld Z h282 b282 "com/example/happenets/happenets/net/KeyedCounts" "hashes" "[I" .null := D282 (Or.inl (hw _ (List.mem_of_getElem? (i := 18) rfl))) (ty := (.array .int)) (by decide)
    have F287 : Fld Z h282 b282 "com/example/happenets/happenets/net/KeyedCounts" "counts" "[J" .null := D282 (Or.inl (hw _ (List.mem_of_getElem? (i := 20) rfl))) (ty := (.array .long)) (by decide)
    have F288 : Fld Z h282 b282 "com/example/happenets/happenets/net/KeyedCounts" "slots" "[J" .null := D282 (Or.inl (hw _ (List.mem_of_getElem? (i := 22) rfl))) (ty := (.array .long)) (by decide)
    have F289 : Fld Z h282 b282 "com/example/happenets/happenets/net/KeyedCounts" "round" "J" (.long (0 : Int64)) := D282 (Or.inl (hw _ (List.mem_of_getElem? (i := 24) rfl))) (ty := .long) (by decide)
    have F290 : Fld Z h282 b282 "com/example/happenets/happenets/net/KeyedCounts" "words" "I" (.int (0 : Int32)) := D282 (Or.inl (hw _ (List.mem_of_getElem? (i := 31) rfl))) (ty := .int) (by decide)
    have F291 : Fld Z h282 b282 "com/example/happenets/happenets/net/KeyedCounts" "size" "I" (.int (0 : Int32)) := D282 (Or.inl (hw _ (List.mem_of_getElem? (i := 43) rfl))) (ty := .int) (by decide)
    have F292 : Fld Z h282 b282 "com/example/happenets/happenets/net/KeyedCounts" "largeCounts" "[Ljava/math/BigInteger;" .null := D282 (Or.inl (hw _ (List.mem_of_getElem? (i := 45) rfl))) (ty := (.array (.object "java/math/BigInteger"))) (by decide)
    refine Go.dup C X282 (pc' := 16) at_15 rfl rfl ?_
    refine Go.callI C X282 (pc' := 19) (W := 1) (argsL := []) (rest := [(.ref b282)]) (a := b282) (rm_in l Z a0 hw b282  h282 n0 X282.sz Ex282 F283 F284 F285 F286 F287 F288 F289 F290 F291 F292 N282) rfl rfl (hw _ (List.mem_of_getElem? (i := 3) rfl)) (hw _ (List.mem_of_getElem? (i := 4) rfl)) (hw _ (List.mem_of_getElem? (i := 2) rfl)) (hw _ (List.mem_of_getElem? (i := 5) rfl)) (by decide) rfl rfl (lenOf own_pd0 rfl) rfl (Nat.le_of_eq rfl) (by decide) (by decide) (by decide) (by decide) at_16 rfl (fun _ _ q => by obtain ⟨_, _, _, K, _⟩ := q; exact K.1) (fun T293 h293 v293 X293 P293 => ?_)
    obtain ⟨t293, rfl, D293_t, K293, O293_0, O293_1, O293_2, O293_3, O293_4, O293_5, O293_6⟩ := P293
    have ne_b282_t293 : b282 ≠ t293 := Nat.ne_of_lt (Nat.lt_of_lt_of_le Ex282.lt D293_t)
    have N_t293 : n0 ≤ t293 := Nat.le_trans X282.sz D293_t
    have E294 := Ex282.keep K293
    show Go p e below s n0 _ _ _ T293 (mkF m 19 #[.val (.long x0), .second, .val (.long x1), .second, .val (.long x2), .second, .val (.int x3), .val (.int x4), .val (.int (0 : Int32)), .val (.int (x4 &&& (3 : Int32))), .unset, .unset, .unset, .unset, .unset, .unset] [(.ref b282)])
    refine Go.astore C X293 (pc' := 21) (Ls' := #[.val (.long x0), .second, .val (.long x1), .second, .val (.long x2), .second, .val (.int x3), .val (.int x4), .val (.int (0 : Int32)), .val (.int (x4 &&& (3 : Int32))), .val (.ref b282), .unset, .unset, .unset, .unset, .unset]) at_19 rfl rfl rfl ?_
    refine Go.aload C X293 (pc' := 23) at_21 rfl rfl rfl ?_
    refine Go.iload C X293 (pc' := 25) at_23 rfl rfl ?_
    refine Go.callV C X293 (pc' := 28) (W := 0) (argsL := [(.int (x4 &&& (3 : Int32)))]) (rest := []) (a := b282) (rm_cl l Z a0 hw b282 (x4 &&& (3 : Int32)) t293 0 (0 : Int32) (0 : Int32) (1 : Int64) ((x4 &&& (3 : Int32)).toInt.toNat) h293 n0 X293.sz O293_0 O293_1 O293_2 O293_3 O293_4 O293_5 N282 N_t293 O293_6 (Ne.symm ne_b282_t293) rfl (own_bn x4).1 (own_bn x4).2 (by decide)) O293_0 (notFace_of_selects (args := #[]) (mvT C.2.1 (hw _ (List.mem_of_getElem? (i := 28) rfl)))) (hw _ (List.mem_of_getElem? (i := 25) rfl)) (hw _ (List.mem_of_getElem? (i := 26) rfl)) (hw _ (List.mem_of_getElem? (i := 28) rfl)) (hw _ (List.mem_of_getElem? (i := 27) rfl)) (hw _ (List.mem_of_getElem? (i := 2) rfl)) (hw _ (List.mem_of_getElem? (i := 29) rfl)) (by decide) rfl rfl (lenOf own_pd2 rfl) rfl (Nat.le_of_eq rfl) (by decide) (by decide) (by decide) (by decide) at_25 rfl (fun _ _ q => by obtain ⟨_, _, K, _⟩ := q; exact K.1) (fun T295 h295 v295 X295 P295 => ?_)
    obtain ⟨t1295, rfl, K295, O295_0, O295_1, O295_2, O295_3, O295_4, O295_5, O295_6, O295_7, O295_8⟩ := P295
    have E296 := O293_0.keep K295
    have J297 := O293_6.keep K295 (ninS (Ne.symm ne_b282_t293) nin0)
    show Go p e below s n0 _ _ _ T295 (mkF m 28 #[.val (.long x0), .second, .val (.long x1), .second, .val (.long x2), .second, .val (.int x3), .val (.int x4), .val (.int (0 : Int32)), .val (.int (x4 &&& (3 : Int32))), .val (.ref b282), .unset, .unset, .unset, .unset, .unset] [])
    refine Go.aload C X295 (pc' := 30) at_28 rfl rfl rfl ?_
    refine Go.iload C X295 (pc' := 32) at_30 rfl rfl ?_
    refine Go.callV C X295 (pc' := 35) (W := 0) (argsL := [(.int (0 : Int32))]) (rest := []) (a := b282) (rm_cl l Z a0 hw b282 (0 : Int32) t1295 ((x4 &&& (3 : Int32)).toInt.toNat) (x4 &&& (3 : Int32)) (x4 &&& (3 : Int32)) ((1 : Int64) + (1 : Int64)) 0 h295 n0 X295.sz O295_0 O295_1 O295_2 O295_3 O295_4 O295_5 N282 O295_6 O295_8 O295_7 (own_bn x4).1 rfl (by decide) (by decide)) O295_0 (notFace_of_selects (args := #[]) (mvT C.2.1 (hw _ (List.mem_of_getElem? (i := 28) rfl)))) (hw _ (List.mem_of_getElem? (i := 25) rfl)) (hw _ (List.mem_of_getElem? (i := 26) rfl)) (hw _ (List.mem_of_getElem? (i := 28) rfl)) (hw _ (List.mem_of_getElem? (i := 27) rfl)) (hw _ (List.mem_of_getElem? (i := 2) rfl)) (hw _ (List.mem_of_getElem? (i := 29) rfl)) (by decide) rfl rfl (lenOf own_pd2 rfl) rfl (Nat.le_of_eq rfl) (by decide) (by decide) (by decide) (by decide) at_32 rfl (fun _ _ q => by obtain ⟨_, _, K, _⟩ := q; exact K.1) (fun T298 h298 v298 X298 P298 => ?_)
    obtain ⟨t1298, rfl, K298, O298_0, O298_1, O298_2, O298_3, O298_4, O298_5, O298_6, O298_7, O298_8⟩ := P298
    have E299 := O295_0.keep K298
    have J300 := J297.keep K298 (ninS (Ne.symm ne_b282_t293) nin0)
    have J301 := O295_8.keep K298 (ninS O295_7 nin0)
    show Go p e below s n0 _ _ _ T298 (mkF m 35 #[.val (.long x0), .second, .val (.long x1), .second, .val (.long x2), .second, .val (.int x3), .val (.int x4), .val (.int (0 : Int32)), .val (.int (x4 &&& (3 : Int32))), .val (.ref b282), .unset, .unset, .unset, .unset, .unset] [])
    refine Go.iconst C X298 (pc' := 36) (v := (3 : Int32)) at_35 rfl rfl ?_
    refine Go.newP C X298 (pc' := 38) (nn := 3) (cap := 3) (hw _ (List.mem_of_getElem? (i := 9) rfl)) at_36 rfl (by decide) (by decide) (by decide) (by decide) rfl (fun T302 h302 b302 k302 X302 g302 E302 Ar302 N302 => ?_)
    have ne_b282_b302 : b282 ≠ b302 := Nat.ne_of_lt (Nat.lt_of_lt_of_eq O298_0.lt g302.symm)
    have ne_t293_b302 : t293 ≠ b302 := Nat.ne_of_lt (Nat.lt_of_lt_of_eq J300.lt g302.symm)
    have ne_t1295_b302 : t1295 ≠ b302 := Nat.ne_of_lt (Nat.lt_of_lt_of_eq J301.lt g302.symm)
    have ne_t1298_b302 : t1298 ≠ b302 := Nat.ne_of_lt (Nat.lt_of_lt_of_eq O298_8.lt g302.symm)
    have E303 := O298_0.ext E302
    have J304 := J300.ext E302
    have J305 := J301.ext E302
    have F306 := O298_1.ext E302
    have F307 := O298_2.ext E302
    have F308 := O298_3.ext E302
    have F309 := O298_4.ext E302
    have F310 := O298_5.ext E302
    have J311 := O298_8.ext E302
    have A302 : AJ Z h302 b302 3 (fun _ => 0) := AJ.new rfl Ar302
    refine Go.astore C X302 (pc' := 40) (Ls' := #[.val (.long x0), .second, .val (.long x1), .second, .val (.long x2), .second, .val (.int x3), .val (.int x4), .val (.int (0 : Int32)), .val (.int (x4 &&& (3 : Int32))), .val (.ref b282), .val (.ref b302), .unset, .unset, .unset, .unset]) at_38 rfl rfl rfl ?_
    refine Go.aload C X302 (pc' := 42) at_40 rfl rfl rfl ?_
    refine Go.iconst C X302 (pc' := 43) (v := (0 : Int32)) at_42 rfl rfl ?_
    refine Go.lloadN C X302 (pc' := 44) at_43 rfl rfl ?_
    refine Go.lastore C X302 (pc' := 45) (i := 0) A302 rfl (by decide) N302 at_44 rfl (fun T312 h312 X312 W312 A312 => ?_)
    have E313 := E303.wr W312
    have J314 := J304.other W312 ne_t293_b302
    have J315 := J305.other W312 ne_t1295_b302
    have F316 := F306.other W312 (Or.inl ne_b282_b302)
    have F317 := F307.other W312 (Or.inl ne_b282_b302)
    have F318 := F308.other W312 (Or.inl ne_b282_b302)
    have F319 := F309.other W312 (Or.inl ne_b282_b302)
    have F320 := F310.other W312 (Or.inl ne_b282_b302)
    have J321 := J311.other W312 ne_t1298_b302
    refine Go.aload C X312 (pc' := 47) at_45 rfl rfl rfl ?_
    refine Go.iconst C X312 (pc' := 48) (v := (1 : Int32)) at_47 rfl rfl ?_
    refine Go.lloadN C X312 (pc' := 49) at_48 rfl rfl ?_
    refine Go.lastore C X312 (pc' := 50) (i := 1) A312 rfl (by decide) N302 at_49 rfl (fun T322 h322 X322 W322 A322 => ?_)
    have E323 := E313.wr W322
    have J324 := J314.other W322 ne_t293_b302
    have J325 := J315.other W322 ne_t1295_b302
    have F326 := F316.other W322 (Or.inl ne_b282_b302)
    have F327 := F317.other W322 (Or.inl ne_b282_b302)
    have F328 := F318.other W322 (Or.inl ne_b282_b302)
    have F329 := F319.other W322 (Or.inl ne_b282_b302)
    have F330 := F320.other W322 (Or.inl ne_b282_b302)
    have J331 := J321.other W322 ne_t1298_b302
    refine Go.aload C X322 (pc' := 52) at_50 rfl rfl rfl ?_
    refine Go.iconst C X322 (pc' := 53) (v := (2 : Int32)) at_52 rfl rfl ?_
    refine Go.lload C X322 (pc' := 55) at_53 rfl rfl ?_
    refine Go.lastore C X322 (pc' := 56) (i := 2) A322 rfl (by decide) N302 at_55 rfl (fun T332 h332 X332 W332 A332 => ?_)
    have E333 := E323.wr W332
    have J334 := J324.other W332 ne_t293_b302
    have J335 := J325.other W332 ne_t1295_b302
    have F336 := F326.other W332 (Or.inl ne_b282_b302)
    have F337 := F327.other W332 (Or.inl ne_b282_b302)
    have F338 := F328.other W332 (Or.inl ne_b282_b302)
    have F339 := F329.other W332 (Or.inl ne_b282_b302)
    have F340 := F330.other W332 (Or.inl ne_b282_b302)
    have J341 := J331.other W332 ne_t1298_b302
    refine Go.lconst C X332 (pc' := 57) (v := (0 : Int64)) at_56 rfl rfl ?_
    refine Go.lstore C X332 (pc' := 59) (Ls' := #[.val (.long x0), .second, .val (.long x1), .second, .val (.long x2), .second, .val (.int x3), .val (.int x4), .val (.int (0 : Int32)), .val (.int (x4 &&& (3 : Int32))), .val (.ref b282), .val (.ref b302), .val (.long (0 : Int64)), .second, .unset, .unset]) at_57 rfl rfl ?_
    refine Go.iload C X332 (pc' := 61) at_59 rfl rfl ?_
    refine Go.iconst C X332 (pc' := 62) (v := (1 : Int32)) at_61 rfl rfl ?_
    refine Go.icmpYes C X332 (pc' := 76) at_62 (tlt (by decide)).1 (by decide) (by decide) ?_
    refine Go.iload C X332 (pc' := 78) at_76 rfl rfl ?_
    refine Go.iconst C X332 (pc' := 79) (v := (2 : Int32)) at_78 rfl rfl ?_
    refine Go.icmpYes C X332 (pc' := 93) at_79 (tlt (by decide)).1 (by decide) (by decide) ?_
    refine Go.iload C X332 (pc' := 95) at_93 rfl rfl ?_
    refine Go.iconst C X332 (pc' := 96) (v := (3 : Int32)) at_95 rfl rfl ?_
    refine Go.icmpYes C X332 (pc' := 111) at_96 (tlt (by decide)).1 (by decide) (by decide) ?_
    refine Go.aload C X332 (pc' := 113) at_111 rfl rfl rfl ?_
    refine Go.aload C X332 (pc' := 115) at_113 rfl rfl rfl ?_
    refine Go.callV C X332 (pc' := 118) (W := 0) (argsL := [(.ref b302)]) (rest := []) (a := b282) (rm_su l Z a0 hw b282 b302 t1298 (0 : Int32) 0 (fun q => if q = 2 then x2 else (fun q => if q = 1 then x1 else (fun q => if q = 0 then x0 else (fun _ => 0) q) q) q) h332 n0 X332.sz F336 F337 J341 A332 rfl (by decide)) E333 (notFace_of_selects (args := #[]) (mvT C.2.1 (hw _ (List.mem_of_getElem? (i := 51) rfl)))) (hw _ (List.mem_of_getElem? (i := 48) rfl)) (hw _ (List.mem_of_getElem? (i := 49) rfl)) (hw _ (List.mem_of_getElem? (i := 51) rfl)) (hw _ (List.mem_of_getElem? (i := 50) rfl)) (hw _ (List.mem_of_getElem? (i := 2) rfl)) (hw _ (List.mem_of_getElem? (i := 52) rfl)) (by decide) rfl rfl (lenOf own_pd3 rfl) rfl (Nat.le_of_eq rfl) (by decide) (by decide) (by decide) (by decide) at_115 rfl (fun _ _ q => Nat.le_of_eq (congrArg Array.size q.2)) (fun T342 h342 v342 X342 P342 => ?_)
    obtain ⟨rfl, rfl⟩ := P342
    show Go p e below s n0 _ _ _ T342 (mkF m 118 #[.val (.long x0), .second, .val (.long x1), .second, .val (.long x2), .second, .val (.int x3), .val (.int x4), .val (.int (0 : Int32)), .val (.int (x4 &&& (3 : Int32))), .val (.ref b282), .val (.ref b302), .val (.long (0 : Int64)), .second, .unset, .unset] [(.long (own_s own_mu (fun q => if q = 2 then x2 else (fun q => if q = 1 then x1 else (fun q => if q = 0 then x0 else (fun _ => 0) q) q) q) 0 0 0))])
    refine Go.lstore C X342 (pc' := 120) (Ls' := #[.val (.long x0), .second, .val (.long x1), .second, .val (.long x2), .second, .val (.int x3), .val (.int x4), .val (.int (0 : Int32)), .val (.int (x4 &&& (3 : Int32))), .val (.ref b282), .val (.ref b302), .val (.long (0 : Int64)), .second, .val (.long (own_s own_mu (fun q => if q = 2 then x2 else (fun q => if q = 1 then x1 else (fun q => if q = 0 then x0 else (fun _ => 0) q) q) q) 0 0 0)), .second]) at_118 rfl rfl ?_
    refine Go.lload C X342 (pc' := 122) at_120 rfl rfl ?_
    refine Go.lload C X342 (pc' := 124) at_122 rfl rfl ?_
    refine Go.lcmp C X342 (pc' := 125) at_124 rfl ?_
    refine Go.ifNo C X342 (pc' := 128) at_125 ((if0 _ _).trans (teq ((lw_eq _ _).mpr (own_s0 _ _))).2) rfl ?_
    refine Go.aload C X342 (pc' := 130) at_128 rfl rfl rfl ?_
    refine Go.iconst C X342 (pc' := 131) (v := (0 : Int32)) at_130 rfl rfl ?_
    refine Go.laload C X342 (pc' := 132) (i := 0) (w := ((fun q => if q = 2 then x2 else (fun q => if q = 1 then x1 else (fun q => if q = 0 then x0 else (fun _ => 0) q) q) q) 0)) A332 rfl (by decide) rfl at_131 rfl ?_
    refine Go.lloadN C X342 (pc' := 133) at_132 rfl rfl ?_
    refine Go.lcmp C X342 (pc' := 134) at_133 rfl ?_
    refine Go.ifNo C X342 (pc' := 137) at_134 ((if0 _ _).trans (teq ((lw_eq _ _).mpr (by rfl))).2) rfl ?_
    refine Go.aload C X342 (pc' := 139) at_137 rfl rfl rfl ?_
    refine Go.iconst C X342 (pc' := 140) (v := (1 : Int32)) at_139 rfl rfl ?_
    refine Go.laload C X342 (pc' := 141) (i := 1) (w := ((fun q => if q = 2 then x2 else (fun q => if q = 1 then x1 else (fun q => if q = 0 then x0 else (fun _ => 0) q) q) q) 1)) A332 rfl (by decide) rfl at_140 rfl ?_
    refine Go.lloadN C X342 (pc' := 142) at_141 rfl rfl ?_
    refine Go.lcmp C X342 (pc' := 143) at_142 rfl ?_
    refine Go.ifNo C X342 (pc' := 146) at_143 ((if0 _ _).trans (teq ((lw_eq _ _).mpr (by rfl))).2) rfl ?_
    refine Go.aload C X342 (pc' := 148) at_146 rfl rfl rfl ?_
    refine Go.iconst C X342 (pc' := 149) (v := (2 : Int32)) at_148 rfl rfl ?_
    refine Go.laload C X342 (pc' := 150) (i := 2) (w := ((fun q => if q = 2 then x2 else (fun q => if q = 1 then x1 else (fun q => if q = 0 then x0 else (fun _ => 0) q) q) q) 2)) A332 rfl (by decide) rfl at_149 rfl ?_
    refine Go.lload C X342 (pc' := 152) at_150 rfl rfl ?_
    refine Go.lcmp C X342 (pc' := 153) at_152 rfl ?_
    refine Go.ifNo C X342 (pc' := 156) at_153 ((if0 _ _).trans (teq ((lw_eq _ _).mpr (by rfl))).2) rfl ?_
    refine Go.iconst C X342 (pc' := 157) (v := (1 : Int32)) at_156 rfl rfl ?_
    refine Go.goto C X342 (pc' := 161) at_157 (by decide) (by decide) ?_
    exact Go.retZ (t := .boolean) C X342 (z' := (1 : Int32)) (by decide) at_161 rfl (by decide) (by decide)
  · rw [q281]
    refine Go.iload C X0 (pc' := 8) at_6 rfl rfl ?_
    refine Go.iconst C X0 (pc' := 9) (v := (3 : Int32)) at_8 rfl rfl ?_
    refine Go.iand C X0 (pc' := 10) at_9 rfl ?_
    refine Go.istore C X0 (pc' := 12) (Ls' := #[.val (.long x0), .second, .val (.long x1), .second, .val (.long x2), .second, .val (.int x3), .val (.int x4), .val (.int (1 : Int32)), .val (.int (x4 &&& (3 : Int32))), .unset, .unset, .unset, .unset, .unset, .unset]) at_10 rfl rfl ?_
    refine Go.newO C X0 (pc' := 15) (hw _ (List.mem_of_getElem? (i := 0) rfl)) (hw _ (List.mem_of_getElem? (i := 1) rfl)) (hw _ (List.mem_of_getElem? (i := 2) rfl)) at_12 (by decide) (by decide) rfl (fun T343 h343 b343 X343 g343 E343 Ex343 D343 N343 => ?_)
    have F344 : Fld Z h343 b343 "com/example/happenets/happenets/net/KeyedCounts" "multipliers" "[J" .null := D343 (Or.inl (hw _ (List.mem_of_getElem? (i := 11) rfl))) (ty := (.array .long)) (by decide)
    have F345 : Fld Z h343 b343 "com/example/happenets/happenets/net/KeyedCounts" "keys" "[J" .null := D343 (Or.inl (hw _ (List.mem_of_getElem? (i := 13) rfl))) (ty := (.array .long)) (by decide)
    have F346 : Fld Z h343 b343 "com/example/happenets/happenets/net/KeyedCounts" "starts" "[I" .null := D343 (Or.inl (hw _ (List.mem_of_getElem? (i := 16) rfl))) (ty := (.array .int)) (by decide)
    have F347 : Fld Z h343 b343 "com/example/happenets/happenets/net/KeyedCounts" "hashes" "[I" .null := D343 (Or.inl (hw _ (List.mem_of_getElem? (i := 18) rfl))) (ty := (.array .int)) (by decide)
    have F348 : Fld Z h343 b343 "com/example/happenets/happenets/net/KeyedCounts" "counts" "[J" .null := D343 (Or.inl (hw _ (List.mem_of_getElem? (i := 20) rfl))) (ty := (.array .long)) (by decide)
    have F349 : Fld Z h343 b343 "com/example/happenets/happenets/net/KeyedCounts" "slots" "[J" .null := D343 (Or.inl (hw _ (List.mem_of_getElem? (i := 22) rfl))) (ty := (.array .long)) (by decide)
    have F350 : Fld Z h343 b343 "com/example/happenets/happenets/net/KeyedCounts" "round" "J" (.long (0 : Int64)) := D343 (Or.inl (hw _ (List.mem_of_getElem? (i := 24) rfl))) (ty := .long) (by decide)
    have F351 : Fld Z h343 b343 "com/example/happenets/happenets/net/KeyedCounts" "words" "I" (.int (0 : Int32)) := D343 (Or.inl (hw _ (List.mem_of_getElem? (i := 31) rfl))) (ty := .int) (by decide)
    have F352 : Fld Z h343 b343 "com/example/happenets/happenets/net/KeyedCounts" "size" "I" (.int (0 : Int32)) := D343 (Or.inl (hw _ (List.mem_of_getElem? (i := 43) rfl))) (ty := .int) (by decide)
    have F353 : Fld Z h343 b343 "com/example/happenets/happenets/net/KeyedCounts" "largeCounts" "[Ljava/math/BigInteger;" .null := D343 (Or.inl (hw _ (List.mem_of_getElem? (i := 45) rfl))) (ty := (.array (.object "java/math/BigInteger"))) (by decide)
    refine Go.dup C X343 (pc' := 16) at_15 rfl rfl ?_
    refine Go.callI C X343 (pc' := 19) (W := 1) (argsL := []) (rest := [(.ref b343)]) (a := b343) (rm_in l Z a0 hw b343  h343 n0 X343.sz Ex343 F344 F345 F346 F347 F348 F349 F350 F351 F352 F353 N343) rfl rfl (hw _ (List.mem_of_getElem? (i := 3) rfl)) (hw _ (List.mem_of_getElem? (i := 4) rfl)) (hw _ (List.mem_of_getElem? (i := 2) rfl)) (hw _ (List.mem_of_getElem? (i := 5) rfl)) (by decide) rfl rfl (lenOf own_pd0 rfl) rfl (Nat.le_of_eq rfl) (by decide) (by decide) (by decide) (by decide) at_16 rfl (fun _ _ q => by obtain ⟨_, _, _, K, _⟩ := q; exact K.1) (fun T354 h354 v354 X354 P354 => ?_)
    obtain ⟨t354, rfl, D354_t, K354, O354_0, O354_1, O354_2, O354_3, O354_4, O354_5, O354_6⟩ := P354
    have ne_b343_t354 : b343 ≠ t354 := Nat.ne_of_lt (Nat.lt_of_lt_of_le Ex343.lt D354_t)
    have N_t354 : n0 ≤ t354 := Nat.le_trans X343.sz D354_t
    have E355 := Ex343.keep K354
    show Go p e below s n0 _ _ _ T354 (mkF m 19 #[.val (.long x0), .second, .val (.long x1), .second, .val (.long x2), .second, .val (.int x3), .val (.int x4), .val (.int (1 : Int32)), .val (.int (x4 &&& (3 : Int32))), .unset, .unset, .unset, .unset, .unset, .unset] [(.ref b343)])
    refine Go.astore C X354 (pc' := 21) (Ls' := #[.val (.long x0), .second, .val (.long x1), .second, .val (.long x2), .second, .val (.int x3), .val (.int x4), .val (.int (1 : Int32)), .val (.int (x4 &&& (3 : Int32))), .val (.ref b343), .unset, .unset, .unset, .unset, .unset]) at_19 rfl rfl rfl ?_
    refine Go.aload C X354 (pc' := 23) at_21 rfl rfl rfl ?_
    refine Go.iload C X354 (pc' := 25) at_23 rfl rfl ?_
    refine Go.callV C X354 (pc' := 28) (W := 0) (argsL := [(.int (x4 &&& (3 : Int32)))]) (rest := []) (a := b343) (rm_cl l Z a0 hw b343 (x4 &&& (3 : Int32)) t354 0 (0 : Int32) (0 : Int32) (1 : Int64) ((x4 &&& (3 : Int32)).toInt.toNat) h354 n0 X354.sz O354_0 O354_1 O354_2 O354_3 O354_4 O354_5 N343 N_t354 O354_6 (Ne.symm ne_b343_t354) rfl (own_bn x4).1 (own_bn x4).2 (by decide)) O354_0 (notFace_of_selects (args := #[]) (mvT C.2.1 (hw _ (List.mem_of_getElem? (i := 28) rfl)))) (hw _ (List.mem_of_getElem? (i := 25) rfl)) (hw _ (List.mem_of_getElem? (i := 26) rfl)) (hw _ (List.mem_of_getElem? (i := 28) rfl)) (hw _ (List.mem_of_getElem? (i := 27) rfl)) (hw _ (List.mem_of_getElem? (i := 2) rfl)) (hw _ (List.mem_of_getElem? (i := 29) rfl)) (by decide) rfl rfl (lenOf own_pd2 rfl) rfl (Nat.le_of_eq rfl) (by decide) (by decide) (by decide) (by decide) at_25 rfl (fun _ _ q => by obtain ⟨_, _, K, _⟩ := q; exact K.1) (fun T356 h356 v356 X356 P356 => ?_)
    obtain ⟨t1356, rfl, K356, O356_0, O356_1, O356_2, O356_3, O356_4, O356_5, O356_6, O356_7, O356_8⟩ := P356
    have E357 := O354_0.keep K356
    have J358 := O354_6.keep K356 (ninS (Ne.symm ne_b343_t354) nin0)
    show Go p e below s n0 _ _ _ T356 (mkF m 28 #[.val (.long x0), .second, .val (.long x1), .second, .val (.long x2), .second, .val (.int x3), .val (.int x4), .val (.int (1 : Int32)), .val (.int (x4 &&& (3 : Int32))), .val (.ref b343), .unset, .unset, .unset, .unset, .unset] [])
    refine Go.aload C X356 (pc' := 30) at_28 rfl rfl rfl ?_
    refine Go.iload C X356 (pc' := 32) at_30 rfl rfl ?_
    refine Go.callV C X356 (pc' := 35) (W := 0) (argsL := [(.int (1 : Int32))]) (rest := []) (a := b343) (rm_cl l Z a0 hw b343 (1 : Int32) t1356 ((x4 &&& (3 : Int32)).toInt.toNat) (x4 &&& (3 : Int32)) (x4 &&& (3 : Int32)) ((1 : Int64) + (1 : Int64)) 1 h356 n0 X356.sz O356_0 O356_1 O356_2 O356_3 O356_4 O356_5 N343 O356_6 O356_8 O356_7 (own_bn x4).1 rfl (by decide) (by decide)) O356_0 (notFace_of_selects (args := #[]) (mvT C.2.1 (hw _ (List.mem_of_getElem? (i := 28) rfl)))) (hw _ (List.mem_of_getElem? (i := 25) rfl)) (hw _ (List.mem_of_getElem? (i := 26) rfl)) (hw _ (List.mem_of_getElem? (i := 28) rfl)) (hw _ (List.mem_of_getElem? (i := 27) rfl)) (hw _ (List.mem_of_getElem? (i := 2) rfl)) (hw _ (List.mem_of_getElem? (i := 29) rfl)) (by decide) rfl rfl (lenOf own_pd2 rfl) rfl (Nat.le_of_eq rfl) (by decide) (by decide) (by decide) (by decide) at_32 rfl (fun _ _ q => by obtain ⟨_, _, K, _⟩ := q; exact K.1) (fun T359 h359 v359 X359 P359 => ?_)
    obtain ⟨t1359, rfl, K359, O359_0, O359_1, O359_2, O359_3, O359_4, O359_5, O359_6, O359_7, O359_8⟩ := P359
    have E360 := O356_0.keep K359
    have J361 := J358.keep K359 (ninS (Ne.symm ne_b343_t354) nin0)
    have J362 := O356_8.keep K359 (ninS O356_7 nin0)
    show Go p e below s n0 _ _ _ T359 (mkF m 35 #[.val (.long x0), .second, .val (.long x1), .second, .val (.long x2), .second, .val (.int x3), .val (.int x4), .val (.int (1 : Int32)), .val (.int (x4 &&& (3 : Int32))), .val (.ref b343), .unset, .unset, .unset, .unset, .unset] [])
    refine Go.iconst C X359 (pc' := 36) (v := (3 : Int32)) at_35 rfl rfl ?_
    refine Go.newP C X359 (pc' := 38) (nn := 3) (cap := 3) (hw _ (List.mem_of_getElem? (i := 9) rfl)) at_36 rfl (by decide) (by decide) (by decide) (by decide) rfl (fun T363 h363 b363 k363 X363 g363 E363 Ar363 N363 => ?_)
    have ne_b343_b363 : b343 ≠ b363 := Nat.ne_of_lt (Nat.lt_of_lt_of_eq O359_0.lt g363.symm)
    have ne_t354_b363 : t354 ≠ b363 := Nat.ne_of_lt (Nat.lt_of_lt_of_eq J361.lt g363.symm)
    have ne_t1356_b363 : t1356 ≠ b363 := Nat.ne_of_lt (Nat.lt_of_lt_of_eq J362.lt g363.symm)
    have ne_t1359_b363 : t1359 ≠ b363 := Nat.ne_of_lt (Nat.lt_of_lt_of_eq O359_8.lt g363.symm)
    have E364 := O359_0.ext E363
    have J365 := J361.ext E363
    have J366 := J362.ext E363
    have F367 := O359_1.ext E363
    have F368 := O359_2.ext E363
    have F369 := O359_3.ext E363
    have F370 := O359_4.ext E363
    have F371 := O359_5.ext E363
    have J372 := O359_8.ext E363
    have A363 : AJ Z h363 b363 3 (fun _ => 0) := AJ.new rfl Ar363
    refine Go.astore C X363 (pc' := 40) (Ls' := #[.val (.long x0), .second, .val (.long x1), .second, .val (.long x2), .second, .val (.int x3), .val (.int x4), .val (.int (1 : Int32)), .val (.int (x4 &&& (3 : Int32))), .val (.ref b343), .val (.ref b363), .unset, .unset, .unset, .unset]) at_38 rfl rfl rfl ?_
    refine Go.aload C X363 (pc' := 42) at_40 rfl rfl rfl ?_
    refine Go.iconst C X363 (pc' := 43) (v := (0 : Int32)) at_42 rfl rfl ?_
    refine Go.lloadN C X363 (pc' := 44) at_43 rfl rfl ?_
    refine Go.lastore C X363 (pc' := 45) (i := 0) A363 rfl (by decide) N363 at_44 rfl (fun T373 h373 X373 W373 A373 => ?_)
    have E374 := E364.wr W373
    have J375 := J365.other W373 ne_t354_b363
    have J376 := J366.other W373 ne_t1356_b363
    have F377 := F367.other W373 (Or.inl ne_b343_b363)
    have F378 := F368.other W373 (Or.inl ne_b343_b363)
    have F379 := F369.other W373 (Or.inl ne_b343_b363)
    have F380 := F370.other W373 (Or.inl ne_b343_b363)
    have F381 := F371.other W373 (Or.inl ne_b343_b363)
    have J382 := J372.other W373 ne_t1359_b363
    refine Go.aload C X373 (pc' := 47) at_45 rfl rfl rfl ?_
    refine Go.iconst C X373 (pc' := 48) (v := (1 : Int32)) at_47 rfl rfl ?_
    refine Go.lloadN C X373 (pc' := 49) at_48 rfl rfl ?_
    refine Go.lastore C X373 (pc' := 50) (i := 1) A373 rfl (by decide) N363 at_49 rfl (fun T383 h383 X383 W383 A383 => ?_)
    have E384 := E374.wr W383
    have J385 := J375.other W383 ne_t354_b363
    have J386 := J376.other W383 ne_t1356_b363
    have F387 := F377.other W383 (Or.inl ne_b343_b363)
    have F388 := F378.other W383 (Or.inl ne_b343_b363)
    have F389 := F379.other W383 (Or.inl ne_b343_b363)
    have F390 := F380.other W383 (Or.inl ne_b343_b363)
    have F391 := F381.other W383 (Or.inl ne_b343_b363)
    have J392 := J382.other W383 ne_t1359_b363
    refine Go.aload C X383 (pc' := 52) at_50 rfl rfl rfl ?_
    refine Go.iconst C X383 (pc' := 53) (v := (2 : Int32)) at_52 rfl rfl ?_
    refine Go.lload C X383 (pc' := 55) at_53 rfl rfl ?_
    refine Go.lastore C X383 (pc' := 56) (i := 2) A383 rfl (by decide) N363 at_55 rfl (fun T393 h393 X393 W393 A393 => ?_)
    have E394 := E384.wr W393
    have J395 := J385.other W393 ne_t354_b363
    have J396 := J386.other W393 ne_t1356_b363
    have F397 := F387.other W393 (Or.inl ne_b343_b363)
    have F398 := F388.other W393 (Or.inl ne_b343_b363)
    have F399 := F389.other W393 (Or.inl ne_b343_b363)
    have F400 := F390.other W393 (Or.inl ne_b343_b363)
    have F401 := F391.other W393 (Or.inl ne_b343_b363)
    have J402 := J392.other W393 ne_t1359_b363
    refine Go.lconst C X393 (pc' := 57) (v := (0 : Int64)) at_56 rfl rfl ?_
    refine Go.lstore C X393 (pc' := 59) (Ls' := #[.val (.long x0), .second, .val (.long x1), .second, .val (.long x2), .second, .val (.int x3), .val (.int x4), .val (.int (1 : Int32)), .val (.int (x4 &&& (3 : Int32))), .val (.ref b343), .val (.ref b363), .val (.long (0 : Int64)), .second, .unset, .unset]) at_57 rfl rfl ?_
    refine Go.iload C X393 (pc' := 61) at_59 rfl rfl ?_
    refine Go.iconst C X393 (pc' := 62) (v := (1 : Int32)) at_61 rfl rfl ?_
    refine Go.icmpNo C X393 (pc' := 65) at_62 (flt (by decide)).1 rfl ?_
    refine Go.lload C X393 (pc' := 67) at_65 rfl rfl ?_
    refine Go.lloadN C X393 (pc' := 68) at_67 rfl rfl ?_
    refine Go.iconst C X393 (pc' := 69) (v := (0 : Int32)) at_68 rfl rfl ?_
    refine Go.callS C X393 (pc' := 72) (W := 4) (argsL := [(.int (0 : Int32))]) (rest := [(.long x0), (.long (0 : Int64))]) (rm_mu l Z a0 hw (0 : Int32) h393 n0 X393.sz ) (hw _ (List.mem_of_getElem? (i := 47) rfl)) (hw _ (List.mem_of_getElem? (i := 33) rfl)) (hw _ (List.mem_of_getElem? (i := 2) rfl)) (hw _ (List.mem_of_getElem? (i := 34) rfl)) (by decide) rfl rfl (lenOf own_pd1 rfl) rfl (Nat.le_of_eq rfl) (by decide) (by decide) (by decide) (by decide) at_69 rfl (fun _ _ q => Nat.le_of_eq (congrArg Array.size q.2)) (fun T403 h403 v403 X403 P403 => ?_)
    obtain ⟨rfl, rfl⟩ := P403
    show Go p e below s n0 _ _ _ T403 (mkF m 72 #[.val (.long x0), .second, .val (.long x1), .second, .val (.long x2), .second, .val (.int x3), .val (.int x4), .val (.int (1 : Int32)), .val (.int (x4 &&& (3 : Int32))), .val (.ref b343), .val (.ref b363), .val (.long (0 : Int64)), .second, .unset, .unset] [(.long (own_f_rm_mu (0 : Int32))), (.long x0), (.long (0 : Int64))])
    refine Go.lmul C X403 (pc' := 73) at_72 rfl ?_
    refine Go.ladd C X403 (pc' := 74) at_73 rfl ?_
    refine Go.lstore C X403 (pc' := 76) (Ls' := #[.val (.long x0), .second, .val (.long x1), .second, .val (.long x2), .second, .val (.int x3), .val (.int x4), .val (.int (1 : Int32)), .val (.int (x4 &&& (3 : Int32))), .val (.ref b343), .val (.ref b363), .val (.long ((0 : Int64) + (x0 * (own_f_rm_mu (0 : Int32))))), .second, .unset, .unset]) at_74 rfl rfl ?_
    refine Go.iload C X403 (pc' := 78) at_76 rfl rfl ?_
    refine Go.iconst C X403 (pc' := 79) (v := (2 : Int32)) at_78 rfl rfl ?_
    refine Go.icmpYes C X403 (pc' := 93) at_79 (tlt (by decide)).1 (by decide) (by decide) ?_
    refine Go.iload C X403 (pc' := 95) at_93 rfl rfl ?_
    refine Go.iconst C X403 (pc' := 96) (v := (3 : Int32)) at_95 rfl rfl ?_
    refine Go.icmpYes C X403 (pc' := 111) at_96 (tlt (by decide)).1 (by decide) (by decide) ?_
    refine Go.aload C X403 (pc' := 113) at_111 rfl rfl rfl ?_
    refine Go.aload C X403 (pc' := 115) at_113 rfl rfl rfl ?_
    refine Go.callV C X403 (pc' := 118) (W := 0) (argsL := [(.ref b363)]) (rest := []) (a := b343) (rm_su l Z a0 hw b343 b363 t1359 (1 : Int32) 1 (fun q => if q = 2 then x2 else (fun q => if q = 1 then x1 else (fun q => if q = 0 then x0 else (fun _ => 0) q) q) q) h393 n0 X403.sz F397 F398 J402 A393 rfl (by decide)) E394 (notFace_of_selects (args := #[]) (mvT C.2.1 (hw _ (List.mem_of_getElem? (i := 51) rfl)))) (hw _ (List.mem_of_getElem? (i := 48) rfl)) (hw _ (List.mem_of_getElem? (i := 49) rfl)) (hw _ (List.mem_of_getElem? (i := 51) rfl)) (hw _ (List.mem_of_getElem? (i := 50) rfl)) (hw _ (List.mem_of_getElem? (i := 2) rfl)) (hw _ (List.mem_of_getElem? (i := 52) rfl)) (by decide) rfl rfl (lenOf own_pd3 rfl) rfl (Nat.le_of_eq rfl) (by decide) (by decide) (by decide) (by decide) at_115 rfl (fun _ _ q => Nat.le_of_eq (congrArg Array.size q.2)) (fun T404 h404 v404 X404 P404 => ?_)
    obtain ⟨rfl, rfl⟩ := P404
    show Go p e below s n0 _ _ _ T404 (mkF m 118 #[.val (.long x0), .second, .val (.long x1), .second, .val (.long x2), .second, .val (.int x3), .val (.int x4), .val (.int (1 : Int32)), .val (.int (x4 &&& (3 : Int32))), .val (.ref b343), .val (.ref b363), .val (.long ((0 : Int64) + (x0 * (own_f_rm_mu (0 : Int32))))), .second, .unset, .unset] [(.long (own_s own_mu (fun q => if q = 2 then x2 else (fun q => if q = 1 then x1 else (fun q => if q = 0 then x0 else (fun _ => 0) q) q) q) 0 1 0))])
    refine Go.lstore C X404 (pc' := 120) (Ls' := #[.val (.long x0), .second, .val (.long x1), .second, .val (.long x2), .second, .val (.int x3), .val (.int x4), .val (.int (1 : Int32)), .val (.int (x4 &&& (3 : Int32))), .val (.ref b343), .val (.ref b363), .val (.long ((0 : Int64) + (x0 * (own_f_rm_mu (0 : Int32))))), .second, .val (.long (own_s own_mu (fun q => if q = 2 then x2 else (fun q => if q = 1 then x1 else (fun q => if q = 0 then x0 else (fun _ => 0) q) q) q) 0 1 0)), .second]) at_118 rfl rfl ?_
    refine Go.lload C X404 (pc' := 122) at_120 rfl rfl ?_
    refine Go.lload C X404 (pc' := 124) at_122 rfl rfl ?_
    refine Go.lcmp C X404 (pc' := 125) at_124 rfl ?_
    refine Go.ifNo C X404 (pc' := 128) at_125 ((if0 _ _).trans (teq ((lw_eq _ _).mpr (by rw [own_s1, own_mu0]; rfl))).2) rfl ?_
    refine Go.aload C X404 (pc' := 130) at_128 rfl rfl rfl ?_
    refine Go.iconst C X404 (pc' := 131) (v := (0 : Int32)) at_130 rfl rfl ?_
    refine Go.laload C X404 (pc' := 132) (i := 0) (w := ((fun q => if q = 2 then x2 else (fun q => if q = 1 then x1 else (fun q => if q = 0 then x0 else (fun _ => 0) q) q) q) 0)) A393 rfl (by decide) rfl at_131 rfl ?_
    refine Go.lloadN C X404 (pc' := 133) at_132 rfl rfl ?_
    refine Go.lcmp C X404 (pc' := 134) at_133 rfl ?_
    refine Go.ifNo C X404 (pc' := 137) at_134 ((if0 _ _).trans (teq ((lw_eq _ _).mpr (by rfl))).2) rfl ?_
    refine Go.aload C X404 (pc' := 139) at_137 rfl rfl rfl ?_
    refine Go.iconst C X404 (pc' := 140) (v := (1 : Int32)) at_139 rfl rfl ?_
    refine Go.laload C X404 (pc' := 141) (i := 1) (w := ((fun q => if q = 2 then x2 else (fun q => if q = 1 then x1 else (fun q => if q = 0 then x0 else (fun _ => 0) q) q) q) 1)) A393 rfl (by decide) rfl at_140 rfl ?_
    refine Go.lloadN C X404 (pc' := 142) at_141 rfl rfl ?_
    refine Go.lcmp C X404 (pc' := 143) at_142 rfl ?_
    refine Go.ifNo C X404 (pc' := 146) at_143 ((if0 _ _).trans (teq ((lw_eq _ _).mpr (by rfl))).2) rfl ?_
    refine Go.aload C X404 (pc' := 148) at_146 rfl rfl rfl ?_
    refine Go.iconst C X404 (pc' := 149) (v := (2 : Int32)) at_148 rfl rfl ?_
    refine Go.laload C X404 (pc' := 150) (i := 2) (w := ((fun q => if q = 2 then x2 else (fun q => if q = 1 then x1 else (fun q => if q = 0 then x0 else (fun _ => 0) q) q) q) 2)) A393 rfl (by decide) rfl at_149 rfl ?_
    refine Go.lload C X404 (pc' := 152) at_150 rfl rfl ?_
    refine Go.lcmp C X404 (pc' := 153) at_152 rfl ?_
    refine Go.ifNo C X404 (pc' := 156) at_153 ((if0 _ _).trans (teq ((lw_eq _ _).mpr (by rfl))).2) rfl ?_
    refine Go.iconst C X404 (pc' := 157) (v := (1 : Int32)) at_156 rfl rfl ?_
    refine Go.goto C X404 (pc' := 161) at_157 (by decide) (by decide) ?_
    exact Go.retZ (t := .boolean) C X404 (z' := (1 : Int32)) (by decide) at_161 rfl (by decide) (by decide)
  · rw [q281]
    refine Go.iload C X0 (pc' := 8) at_6 rfl rfl ?_
    refine Go.iconst C X0 (pc' := 9) (v := (3 : Int32)) at_8 rfl rfl ?_
    refine Go.iand C X0 (pc' := 10) at_9 rfl ?_
    refine Go.istore C X0 (pc' := 12) (Ls' := #[.val (.long x0), .second, .val (.long x1), .second, .val (.long x2), .second, .val (.int x3), .val (.int x4), .val (.int (2 : Int32)), .val (.int (x4 &&& (3 : Int32))), .unset, .unset, .unset, .unset, .unset, .unset]) at_10 rfl rfl ?_
    refine Go.newO C X0 (pc' := 15) (hw _ (List.mem_of_getElem? (i := 0) rfl)) (hw _ (List.mem_of_getElem? (i := 1) rfl)) (hw _ (List.mem_of_getElem? (i := 2) rfl)) at_12 (by decide) (by decide) rfl (fun T405 h405 b405 X405 g405 E405 Ex405 D405 N405 => ?_)
    have F406 : Fld Z h405 b405 "com/example/happenets/happenets/net/KeyedCounts" "multipliers" "[J" .null := D405 (Or.inl (hw _ (List.mem_of_getElem? (i := 11) rfl))) (ty := (.array .long)) (by decide)
    have F407 : Fld Z h405 b405 "com/example/happenets/happenets/net/KeyedCounts" "keys" "[J" .null := D405 (Or.inl (hw _ (List.mem_of_getElem? (i := 13) rfl))) (ty := (.array .long)) (by decide)
    have F408 : Fld Z h405 b405 "com/example/happenets/happenets/net/KeyedCounts" "starts" "[I" .null := D405 (Or.inl (hw _ (List.mem_of_getElem? (i := 16) rfl))) (ty := (.array .int)) (by decide)
    have F409 : Fld Z h405 b405 "com/example/happenets/happenets/net/KeyedCounts" "hashes" "[I" .null := D405 (Or.inl (hw _ (List.mem_of_getElem? (i := 18) rfl))) (ty := (.array .int)) (by decide)
    have F410 : Fld Z h405 b405 "com/example/happenets/happenets/net/KeyedCounts" "counts" "[J" .null := D405 (Or.inl (hw _ (List.mem_of_getElem? (i := 20) rfl))) (ty := (.array .long)) (by decide)
    have F411 : Fld Z h405 b405 "com/example/happenets/happenets/net/KeyedCounts" "slots" "[J" .null := D405 (Or.inl (hw _ (List.mem_of_getElem? (i := 22) rfl))) (ty := (.array .long)) (by decide)
    have F412 : Fld Z h405 b405 "com/example/happenets/happenets/net/KeyedCounts" "round" "J" (.long (0 : Int64)) := D405 (Or.inl (hw _ (List.mem_of_getElem? (i := 24) rfl))) (ty := .long) (by decide)
    have F413 : Fld Z h405 b405 "com/example/happenets/happenets/net/KeyedCounts" "words" "I" (.int (0 : Int32)) := D405 (Or.inl (hw _ (List.mem_of_getElem? (i := 31) rfl))) (ty := .int) (by decide)
    have F414 : Fld Z h405 b405 "com/example/happenets/happenets/net/KeyedCounts" "size" "I" (.int (0 : Int32)) := D405 (Or.inl (hw _ (List.mem_of_getElem? (i := 43) rfl))) (ty := .int) (by decide)
    have F415 : Fld Z h405 b405 "com/example/happenets/happenets/net/KeyedCounts" "largeCounts" "[Ljava/math/BigInteger;" .null := D405 (Or.inl (hw _ (List.mem_of_getElem? (i := 45) rfl))) (ty := (.array (.object "java/math/BigInteger"))) (by decide)
    refine Go.dup C X405 (pc' := 16) at_15 rfl rfl ?_
    refine Go.callI C X405 (pc' := 19) (W := 1) (argsL := []) (rest := [(.ref b405)]) (a := b405) (rm_in l Z a0 hw b405  h405 n0 X405.sz Ex405 F406 F407 F408 F409 F410 F411 F412 F413 F414 F415 N405) rfl rfl (hw _ (List.mem_of_getElem? (i := 3) rfl)) (hw _ (List.mem_of_getElem? (i := 4) rfl)) (hw _ (List.mem_of_getElem? (i := 2) rfl)) (hw _ (List.mem_of_getElem? (i := 5) rfl)) (by decide) rfl rfl (lenOf own_pd0 rfl) rfl (Nat.le_of_eq rfl) (by decide) (by decide) (by decide) (by decide) at_16 rfl (fun _ _ q => by obtain ⟨_, _, _, K, _⟩ := q; exact K.1) (fun T416 h416 v416 X416 P416 => ?_)
    obtain ⟨t416, rfl, D416_t, K416, O416_0, O416_1, O416_2, O416_3, O416_4, O416_5, O416_6⟩ := P416
    have ne_b405_t416 : b405 ≠ t416 := Nat.ne_of_lt (Nat.lt_of_lt_of_le Ex405.lt D416_t)
    have N_t416 : n0 ≤ t416 := Nat.le_trans X405.sz D416_t
    have E417 := Ex405.keep K416
    show Go p e below s n0 _ _ _ T416 (mkF m 19 #[.val (.long x0), .second, .val (.long x1), .second, .val (.long x2), .second, .val (.int x3), .val (.int x4), .val (.int (2 : Int32)), .val (.int (x4 &&& (3 : Int32))), .unset, .unset, .unset, .unset, .unset, .unset] [(.ref b405)])
    refine Go.astore C X416 (pc' := 21) (Ls' := #[.val (.long x0), .second, .val (.long x1), .second, .val (.long x2), .second, .val (.int x3), .val (.int x4), .val (.int (2 : Int32)), .val (.int (x4 &&& (3 : Int32))), .val (.ref b405), .unset, .unset, .unset, .unset, .unset]) at_19 rfl rfl rfl ?_
    refine Go.aload C X416 (pc' := 23) at_21 rfl rfl rfl ?_
    refine Go.iload C X416 (pc' := 25) at_23 rfl rfl ?_
    refine Go.callV C X416 (pc' := 28) (W := 0) (argsL := [(.int (x4 &&& (3 : Int32)))]) (rest := []) (a := b405) (rm_cl l Z a0 hw b405 (x4 &&& (3 : Int32)) t416 0 (0 : Int32) (0 : Int32) (1 : Int64) ((x4 &&& (3 : Int32)).toInt.toNat) h416 n0 X416.sz O416_0 O416_1 O416_2 O416_3 O416_4 O416_5 N405 N_t416 O416_6 (Ne.symm ne_b405_t416) rfl (own_bn x4).1 (own_bn x4).2 (by decide)) O416_0 (notFace_of_selects (args := #[]) (mvT C.2.1 (hw _ (List.mem_of_getElem? (i := 28) rfl)))) (hw _ (List.mem_of_getElem? (i := 25) rfl)) (hw _ (List.mem_of_getElem? (i := 26) rfl)) (hw _ (List.mem_of_getElem? (i := 28) rfl)) (hw _ (List.mem_of_getElem? (i := 27) rfl)) (hw _ (List.mem_of_getElem? (i := 2) rfl)) (hw _ (List.mem_of_getElem? (i := 29) rfl)) (by decide) rfl rfl (lenOf own_pd2 rfl) rfl (Nat.le_of_eq rfl) (by decide) (by decide) (by decide) (by decide) at_25 rfl (fun _ _ q => by obtain ⟨_, _, K, _⟩ := q; exact K.1) (fun T418 h418 v418 X418 P418 => ?_)
    obtain ⟨t1418, rfl, K418, O418_0, O418_1, O418_2, O418_3, O418_4, O418_5, O418_6, O418_7, O418_8⟩ := P418
    have E419 := O416_0.keep K418
    have J420 := O416_6.keep K418 (ninS (Ne.symm ne_b405_t416) nin0)
    show Go p e below s n0 _ _ _ T418 (mkF m 28 #[.val (.long x0), .second, .val (.long x1), .second, .val (.long x2), .second, .val (.int x3), .val (.int x4), .val (.int (2 : Int32)), .val (.int (x4 &&& (3 : Int32))), .val (.ref b405), .unset, .unset, .unset, .unset, .unset] [])
    refine Go.aload C X418 (pc' := 30) at_28 rfl rfl rfl ?_
    refine Go.iload C X418 (pc' := 32) at_30 rfl rfl ?_
    refine Go.callV C X418 (pc' := 35) (W := 0) (argsL := [(.int (2 : Int32))]) (rest := []) (a := b405) (rm_cl l Z a0 hw b405 (2 : Int32) t1418 ((x4 &&& (3 : Int32)).toInt.toNat) (x4 &&& (3 : Int32)) (x4 &&& (3 : Int32)) ((1 : Int64) + (1 : Int64)) 2 h418 n0 X418.sz O418_0 O418_1 O418_2 O418_3 O418_4 O418_5 N405 O418_6 O418_8 O418_7 (own_bn x4).1 rfl (by decide) (by decide)) O418_0 (notFace_of_selects (args := #[]) (mvT C.2.1 (hw _ (List.mem_of_getElem? (i := 28) rfl)))) (hw _ (List.mem_of_getElem? (i := 25) rfl)) (hw _ (List.mem_of_getElem? (i := 26) rfl)) (hw _ (List.mem_of_getElem? (i := 28) rfl)) (hw _ (List.mem_of_getElem? (i := 27) rfl)) (hw _ (List.mem_of_getElem? (i := 2) rfl)) (hw _ (List.mem_of_getElem? (i := 29) rfl)) (by decide) rfl rfl (lenOf own_pd2 rfl) rfl (Nat.le_of_eq rfl) (by decide) (by decide) (by decide) (by decide) at_32 rfl (fun _ _ q => by obtain ⟨_, _, K, _⟩ := q; exact K.1) (fun T421 h421 v421 X421 P421 => ?_)
    obtain ⟨t1421, rfl, K421, O421_0, O421_1, O421_2, O421_3, O421_4, O421_5, O421_6, O421_7, O421_8⟩ := P421
    have E422 := O418_0.keep K421
    have J423 := J420.keep K421 (ninS (Ne.symm ne_b405_t416) nin0)
    have J424 := O418_8.keep K421 (ninS O418_7 nin0)
    show Go p e below s n0 _ _ _ T421 (mkF m 35 #[.val (.long x0), .second, .val (.long x1), .second, .val (.long x2), .second, .val (.int x3), .val (.int x4), .val (.int (2 : Int32)), .val (.int (x4 &&& (3 : Int32))), .val (.ref b405), .unset, .unset, .unset, .unset, .unset] [])
    refine Go.iconst C X421 (pc' := 36) (v := (3 : Int32)) at_35 rfl rfl ?_
    refine Go.newP C X421 (pc' := 38) (nn := 3) (cap := 3) (hw _ (List.mem_of_getElem? (i := 9) rfl)) at_36 rfl (by decide) (by decide) (by decide) (by decide) rfl (fun T425 h425 b425 k425 X425 g425 E425 Ar425 N425 => ?_)
    have ne_b405_b425 : b405 ≠ b425 := Nat.ne_of_lt (Nat.lt_of_lt_of_eq O421_0.lt g425.symm)
    have ne_t416_b425 : t416 ≠ b425 := Nat.ne_of_lt (Nat.lt_of_lt_of_eq J423.lt g425.symm)
    have ne_t1418_b425 : t1418 ≠ b425 := Nat.ne_of_lt (Nat.lt_of_lt_of_eq J424.lt g425.symm)
    have ne_t1421_b425 : t1421 ≠ b425 := Nat.ne_of_lt (Nat.lt_of_lt_of_eq O421_8.lt g425.symm)
    have E426 := O421_0.ext E425
    have J427 := J423.ext E425
    have J428 := J424.ext E425
    have F429 := O421_1.ext E425
    have F430 := O421_2.ext E425
    have F431 := O421_3.ext E425
    have F432 := O421_4.ext E425
    have F433 := O421_5.ext E425
    have J434 := O421_8.ext E425
    have A425 : AJ Z h425 b425 3 (fun _ => 0) := AJ.new rfl Ar425
    refine Go.astore C X425 (pc' := 40) (Ls' := #[.val (.long x0), .second, .val (.long x1), .second, .val (.long x2), .second, .val (.int x3), .val (.int x4), .val (.int (2 : Int32)), .val (.int (x4 &&& (3 : Int32))), .val (.ref b405), .val (.ref b425), .unset, .unset, .unset, .unset]) at_38 rfl rfl rfl ?_
    refine Go.aload C X425 (pc' := 42) at_40 rfl rfl rfl ?_
    refine Go.iconst C X425 (pc' := 43) (v := (0 : Int32)) at_42 rfl rfl ?_
    refine Go.lloadN C X425 (pc' := 44) at_43 rfl rfl ?_
    refine Go.lastore C X425 (pc' := 45) (i := 0) A425 rfl (by decide) N425 at_44 rfl (fun T435 h435 X435 W435 A435 => ?_)
    have E436 := E426.wr W435
    have J437 := J427.other W435 ne_t416_b425
    have J438 := J428.other W435 ne_t1418_b425
    have F439 := F429.other W435 (Or.inl ne_b405_b425)
    have F440 := F430.other W435 (Or.inl ne_b405_b425)
    have F441 := F431.other W435 (Or.inl ne_b405_b425)
    have F442 := F432.other W435 (Or.inl ne_b405_b425)
    have F443 := F433.other W435 (Or.inl ne_b405_b425)
    have J444 := J434.other W435 ne_t1421_b425
    refine Go.aload C X435 (pc' := 47) at_45 rfl rfl rfl ?_
    refine Go.iconst C X435 (pc' := 48) (v := (1 : Int32)) at_47 rfl rfl ?_
    refine Go.lloadN C X435 (pc' := 49) at_48 rfl rfl ?_
    refine Go.lastore C X435 (pc' := 50) (i := 1) A435 rfl (by decide) N425 at_49 rfl (fun T445 h445 X445 W445 A445 => ?_)
    have E446 := E436.wr W445
    have J447 := J437.other W445 ne_t416_b425
    have J448 := J438.other W445 ne_t1418_b425
    have F449 := F439.other W445 (Or.inl ne_b405_b425)
    have F450 := F440.other W445 (Or.inl ne_b405_b425)
    have F451 := F441.other W445 (Or.inl ne_b405_b425)
    have F452 := F442.other W445 (Or.inl ne_b405_b425)
    have F453 := F443.other W445 (Or.inl ne_b405_b425)
    have J454 := J444.other W445 ne_t1421_b425
    refine Go.aload C X445 (pc' := 52) at_50 rfl rfl rfl ?_
    refine Go.iconst C X445 (pc' := 53) (v := (2 : Int32)) at_52 rfl rfl ?_
    refine Go.lload C X445 (pc' := 55) at_53 rfl rfl ?_
    refine Go.lastore C X445 (pc' := 56) (i := 2) A445 rfl (by decide) N425 at_55 rfl (fun T455 h455 X455 W455 A455 => ?_)
    have E456 := E446.wr W455
    have J457 := J447.other W455 ne_t416_b425
    have J458 := J448.other W455 ne_t1418_b425
    have F459 := F449.other W455 (Or.inl ne_b405_b425)
    have F460 := F450.other W455 (Or.inl ne_b405_b425)
    have F461 := F451.other W455 (Or.inl ne_b405_b425)
    have F462 := F452.other W455 (Or.inl ne_b405_b425)
    have F463 := F453.other W455 (Or.inl ne_b405_b425)
    have J464 := J454.other W455 ne_t1421_b425
    refine Go.lconst C X455 (pc' := 57) (v := (0 : Int64)) at_56 rfl rfl ?_
    refine Go.lstore C X455 (pc' := 59) (Ls' := #[.val (.long x0), .second, .val (.long x1), .second, .val (.long x2), .second, .val (.int x3), .val (.int x4), .val (.int (2 : Int32)), .val (.int (x4 &&& (3 : Int32))), .val (.ref b405), .val (.ref b425), .val (.long (0 : Int64)), .second, .unset, .unset]) at_57 rfl rfl ?_
    refine Go.iload C X455 (pc' := 61) at_59 rfl rfl ?_
    refine Go.iconst C X455 (pc' := 62) (v := (1 : Int32)) at_61 rfl rfl ?_
    refine Go.icmpNo C X455 (pc' := 65) at_62 (flt (by decide)).1 rfl ?_
    refine Go.lload C X455 (pc' := 67) at_65 rfl rfl ?_
    refine Go.lloadN C X455 (pc' := 68) at_67 rfl rfl ?_
    refine Go.iconst C X455 (pc' := 69) (v := (0 : Int32)) at_68 rfl rfl ?_
    refine Go.callS C X455 (pc' := 72) (W := 4) (argsL := [(.int (0 : Int32))]) (rest := [(.long x0), (.long (0 : Int64))]) (rm_mu l Z a0 hw (0 : Int32) h455 n0 X455.sz ) (hw _ (List.mem_of_getElem? (i := 47) rfl)) (hw _ (List.mem_of_getElem? (i := 33) rfl)) (hw _ (List.mem_of_getElem? (i := 2) rfl)) (hw _ (List.mem_of_getElem? (i := 34) rfl)) (by decide) rfl rfl (lenOf own_pd1 rfl) rfl (Nat.le_of_eq rfl) (by decide) (by decide) (by decide) (by decide) at_69 rfl (fun _ _ q => Nat.le_of_eq (congrArg Array.size q.2)) (fun T465 h465 v465 X465 P465 => ?_)
    obtain ⟨rfl, rfl⟩ := P465
    show Go p e below s n0 _ _ _ T465 (mkF m 72 #[.val (.long x0), .second, .val (.long x1), .second, .val (.long x2), .second, .val (.int x3), .val (.int x4), .val (.int (2 : Int32)), .val (.int (x4 &&& (3 : Int32))), .val (.ref b405), .val (.ref b425), .val (.long (0 : Int64)), .second, .unset, .unset] [(.long (own_f_rm_mu (0 : Int32))), (.long x0), (.long (0 : Int64))])
    refine Go.lmul C X465 (pc' := 73) at_72 rfl ?_
    refine Go.ladd C X465 (pc' := 74) at_73 rfl ?_
    refine Go.lstore C X465 (pc' := 76) (Ls' := #[.val (.long x0), .second, .val (.long x1), .second, .val (.long x2), .second, .val (.int x3), .val (.int x4), .val (.int (2 : Int32)), .val (.int (x4 &&& (3 : Int32))), .val (.ref b405), .val (.ref b425), .val (.long ((0 : Int64) + (x0 * (own_f_rm_mu (0 : Int32))))), .second, .unset, .unset]) at_74 rfl rfl ?_
    refine Go.iload C X465 (pc' := 78) at_76 rfl rfl ?_
    refine Go.iconst C X465 (pc' := 79) (v := (2 : Int32)) at_78 rfl rfl ?_
    refine Go.icmpNo C X465 (pc' := 82) at_79 (flt (by decide)).1 rfl ?_
    refine Go.lload C X465 (pc' := 84) at_82 rfl rfl ?_
    refine Go.lloadN C X465 (pc' := 85) at_84 rfl rfl ?_
    refine Go.iconst C X465 (pc' := 86) (v := (1 : Int32)) at_85 rfl rfl ?_
    refine Go.callS C X465 (pc' := 89) (W := 4) (argsL := [(.int (1 : Int32))]) (rest := [(.long x1), (.long ((0 : Int64) + (x0 * (own_f_rm_mu (0 : Int32)))))]) (rm_mu l Z a0 hw (1 : Int32) h455 n0 X465.sz ) (hw _ (List.mem_of_getElem? (i := 47) rfl)) (hw _ (List.mem_of_getElem? (i := 33) rfl)) (hw _ (List.mem_of_getElem? (i := 2) rfl)) (hw _ (List.mem_of_getElem? (i := 34) rfl)) (by decide) rfl rfl (lenOf own_pd1 rfl) rfl (Nat.le_of_eq rfl) (by decide) (by decide) (by decide) (by decide) at_86 rfl (fun _ _ q => Nat.le_of_eq (congrArg Array.size q.2)) (fun T466 h466 v466 X466 P466 => ?_)
    obtain ⟨rfl, rfl⟩ := P466
    show Go p e below s n0 _ _ _ T466 (mkF m 89 #[.val (.long x0), .second, .val (.long x1), .second, .val (.long x2), .second, .val (.int x3), .val (.int x4), .val (.int (2 : Int32)), .val (.int (x4 &&& (3 : Int32))), .val (.ref b405), .val (.ref b425), .val (.long ((0 : Int64) + (x0 * (own_f_rm_mu (0 : Int32))))), .second, .unset, .unset] [(.long (own_f_rm_mu (1 : Int32))), (.long x1), (.long ((0 : Int64) + (x0 * (own_f_rm_mu (0 : Int32)))))])
    refine Go.lmul C X466 (pc' := 90) at_89 rfl ?_
    refine Go.ladd C X466 (pc' := 91) at_90 rfl ?_
    refine Go.lstore C X466 (pc' := 93) (Ls' := #[.val (.long x0), .second, .val (.long x1), .second, .val (.long x2), .second, .val (.int x3), .val (.int x4), .val (.int (2 : Int32)), .val (.int (x4 &&& (3 : Int32))), .val (.ref b405), .val (.ref b425), .val (.long (((0 : Int64) + (x0 * (own_f_rm_mu (0 : Int32)))) + (x1 * (own_f_rm_mu (1 : Int32))))), .second, .unset, .unset]) at_91 rfl rfl ?_
    refine Go.iload C X466 (pc' := 95) at_93 rfl rfl ?_
    refine Go.iconst C X466 (pc' := 96) (v := (3 : Int32)) at_95 rfl rfl ?_
    refine Go.icmpYes C X466 (pc' := 111) at_96 (tlt (by decide)).1 (by decide) (by decide) ?_
    refine Go.aload C X466 (pc' := 113) at_111 rfl rfl rfl ?_
    refine Go.aload C X466 (pc' := 115) at_113 rfl rfl rfl ?_
    refine Go.callV C X466 (pc' := 118) (W := 0) (argsL := [(.ref b425)]) (rest := []) (a := b405) (rm_su l Z a0 hw b405 b425 t1421 (2 : Int32) 2 (fun q => if q = 2 then x2 else (fun q => if q = 1 then x1 else (fun q => if q = 0 then x0 else (fun _ => 0) q) q) q) h455 n0 X466.sz F459 F460 J464 A455 rfl (by decide)) E456 (notFace_of_selects (args := #[]) (mvT C.2.1 (hw _ (List.mem_of_getElem? (i := 51) rfl)))) (hw _ (List.mem_of_getElem? (i := 48) rfl)) (hw _ (List.mem_of_getElem? (i := 49) rfl)) (hw _ (List.mem_of_getElem? (i := 51) rfl)) (hw _ (List.mem_of_getElem? (i := 50) rfl)) (hw _ (List.mem_of_getElem? (i := 2) rfl)) (hw _ (List.mem_of_getElem? (i := 52) rfl)) (by decide) rfl rfl (lenOf own_pd3 rfl) rfl (Nat.le_of_eq rfl) (by decide) (by decide) (by decide) (by decide) at_115 rfl (fun _ _ q => Nat.le_of_eq (congrArg Array.size q.2)) (fun T467 h467 v467 X467 P467 => ?_)
    obtain ⟨rfl, rfl⟩ := P467
    show Go p e below s n0 _ _ _ T467 (mkF m 118 #[.val (.long x0), .second, .val (.long x1), .second, .val (.long x2), .second, .val (.int x3), .val (.int x4), .val (.int (2 : Int32)), .val (.int (x4 &&& (3 : Int32))), .val (.ref b405), .val (.ref b425), .val (.long (((0 : Int64) + (x0 * (own_f_rm_mu (0 : Int32)))) + (x1 * (own_f_rm_mu (1 : Int32))))), .second, .unset, .unset] [(.long (own_s own_mu (fun q => if q = 2 then x2 else (fun q => if q = 1 then x1 else (fun q => if q = 0 then x0 else (fun _ => 0) q) q) q) 0 2 0))])
    refine Go.lstore C X467 (pc' := 120) (Ls' := #[.val (.long x0), .second, .val (.long x1), .second, .val (.long x2), .second, .val (.int x3), .val (.int x4), .val (.int (2 : Int32)), .val (.int (x4 &&& (3 : Int32))), .val (.ref b405), .val (.ref b425), .val (.long (((0 : Int64) + (x0 * (own_f_rm_mu (0 : Int32)))) + (x1 * (own_f_rm_mu (1 : Int32))))), .second, .val (.long (own_s own_mu (fun q => if q = 2 then x2 else (fun q => if q = 1 then x1 else (fun q => if q = 0 then x0 else (fun _ => 0) q) q) q) 0 2 0)), .second]) at_118 rfl rfl ?_
    refine Go.lload C X467 (pc' := 122) at_120 rfl rfl ?_
    refine Go.lload C X467 (pc' := 124) at_122 rfl rfl ?_
    refine Go.lcmp C X467 (pc' := 125) at_124 rfl ?_
    refine Go.ifNo C X467 (pc' := 128) at_125 ((if0 _ _).trans (teq ((lw_eq _ _).mpr (by rw [own_s2, own_mu0, own_mu1]; rfl))).2) rfl ?_
    refine Go.aload C X467 (pc' := 130) at_128 rfl rfl rfl ?_
    refine Go.iconst C X467 (pc' := 131) (v := (0 : Int32)) at_130 rfl rfl ?_
    refine Go.laload C X467 (pc' := 132) (i := 0) (w := ((fun q => if q = 2 then x2 else (fun q => if q = 1 then x1 else (fun q => if q = 0 then x0 else (fun _ => 0) q) q) q) 0)) A455 rfl (by decide) rfl at_131 rfl ?_
    refine Go.lloadN C X467 (pc' := 133) at_132 rfl rfl ?_
    refine Go.lcmp C X467 (pc' := 134) at_133 rfl ?_
    refine Go.ifNo C X467 (pc' := 137) at_134 ((if0 _ _).trans (teq ((lw_eq _ _).mpr (by rfl))).2) rfl ?_
    refine Go.aload C X467 (pc' := 139) at_137 rfl rfl rfl ?_
    refine Go.iconst C X467 (pc' := 140) (v := (1 : Int32)) at_139 rfl rfl ?_
    refine Go.laload C X467 (pc' := 141) (i := 1) (w := ((fun q => if q = 2 then x2 else (fun q => if q = 1 then x1 else (fun q => if q = 0 then x0 else (fun _ => 0) q) q) q) 1)) A455 rfl (by decide) rfl at_140 rfl ?_
    refine Go.lloadN C X467 (pc' := 142) at_141 rfl rfl ?_
    refine Go.lcmp C X467 (pc' := 143) at_142 rfl ?_
    refine Go.ifNo C X467 (pc' := 146) at_143 ((if0 _ _).trans (teq ((lw_eq _ _).mpr (by rfl))).2) rfl ?_
    refine Go.aload C X467 (pc' := 148) at_146 rfl rfl rfl ?_
    refine Go.iconst C X467 (pc' := 149) (v := (2 : Int32)) at_148 rfl rfl ?_
    refine Go.laload C X467 (pc' := 150) (i := 2) (w := ((fun q => if q = 2 then x2 else (fun q => if q = 1 then x1 else (fun q => if q = 0 then x0 else (fun _ => 0) q) q) q) 2)) A455 rfl (by decide) rfl at_149 rfl ?_
    refine Go.lload C X467 (pc' := 152) at_150 rfl rfl ?_
    refine Go.lcmp C X467 (pc' := 153) at_152 rfl ?_
    refine Go.ifNo C X467 (pc' := 156) at_153 ((if0 _ _).trans (teq ((lw_eq _ _).mpr (by rfl))).2) rfl ?_
    refine Go.iconst C X467 (pc' := 157) (v := (1 : Int32)) at_156 rfl rfl ?_
    refine Go.goto C X467 (pc' := 161) at_157 (by decide) (by decide) ?_
    exact Go.retZ (t := .boolean) C X467 (z' := (1 : Int32)) (by decide) at_161 rfl (by decide) (by decide)
  · rw [q281]
    refine Go.iload C X0 (pc' := 8) at_6 rfl rfl ?_
    refine Go.iconst C X0 (pc' := 9) (v := (3 : Int32)) at_8 rfl rfl ?_
    refine Go.iand C X0 (pc' := 10) at_9 rfl ?_
    refine Go.istore C X0 (pc' := 12) (Ls' := #[.val (.long x0), .second, .val (.long x1), .second, .val (.long x2), .second, .val (.int x3), .val (.int x4), .val (.int (3 : Int32)), .val (.int (x4 &&& (3 : Int32))), .unset, .unset, .unset, .unset, .unset, .unset]) at_10 rfl rfl ?_
    refine Go.newO C X0 (pc' := 15) (hw _ (List.mem_of_getElem? (i := 0) rfl)) (hw _ (List.mem_of_getElem? (i := 1) rfl)) (hw _ (List.mem_of_getElem? (i := 2) rfl)) at_12 (by decide) (by decide) rfl (fun T468 h468 b468 X468 g468 E468 Ex468 D468 N468 => ?_)
    have F469 : Fld Z h468 b468 "com/example/happenets/happenets/net/KeyedCounts" "multipliers" "[J" .null := D468 (Or.inl (hw _ (List.mem_of_getElem? (i := 11) rfl))) (ty := (.array .long)) (by decide)
    have F470 : Fld Z h468 b468 "com/example/happenets/happenets/net/KeyedCounts" "keys" "[J" .null := D468 (Or.inl (hw _ (List.mem_of_getElem? (i := 13) rfl))) (ty := (.array .long)) (by decide)
    have F471 : Fld Z h468 b468 "com/example/happenets/happenets/net/KeyedCounts" "starts" "[I" .null := D468 (Or.inl (hw _ (List.mem_of_getElem? (i := 16) rfl))) (ty := (.array .int)) (by decide)
    have F472 : Fld Z h468 b468 "com/example/happenets/happenets/net/KeyedCounts" "hashes" "[I" .null := D468 (Or.inl (hw _ (List.mem_of_getElem? (i := 18) rfl))) (ty := (.array .int)) (by decide)
    have F473 : Fld Z h468 b468 "com/example/happenets/happenets/net/KeyedCounts" "counts" "[J" .null := D468 (Or.inl (hw _ (List.mem_of_getElem? (i := 20) rfl))) (ty := (.array .long)) (by decide)
    have F474 : Fld Z h468 b468 "com/example/happenets/happenets/net/KeyedCounts" "slots" "[J" .null := D468 (Or.inl (hw _ (List.mem_of_getElem? (i := 22) rfl))) (ty := (.array .long)) (by decide)
    have F475 : Fld Z h468 b468 "com/example/happenets/happenets/net/KeyedCounts" "round" "J" (.long (0 : Int64)) := D468 (Or.inl (hw _ (List.mem_of_getElem? (i := 24) rfl))) (ty := .long) (by decide)
    have F476 : Fld Z h468 b468 "com/example/happenets/happenets/net/KeyedCounts" "words" "I" (.int (0 : Int32)) := D468 (Or.inl (hw _ (List.mem_of_getElem? (i := 31) rfl))) (ty := .int) (by decide)
    have F477 : Fld Z h468 b468 "com/example/happenets/happenets/net/KeyedCounts" "size" "I" (.int (0 : Int32)) := D468 (Or.inl (hw _ (List.mem_of_getElem? (i := 43) rfl))) (ty := .int) (by decide)
    have F478 : Fld Z h468 b468 "com/example/happenets/happenets/net/KeyedCounts" "largeCounts" "[Ljava/math/BigInteger;" .null := D468 (Or.inl (hw _ (List.mem_of_getElem? (i := 45) rfl))) (ty := (.array (.object "java/math/BigInteger"))) (by decide)
    refine Go.dup C X468 (pc' := 16) at_15 rfl rfl ?_
    refine Go.callI C X468 (pc' := 19) (W := 1) (argsL := []) (rest := [(.ref b468)]) (a := b468) (rm_in l Z a0 hw b468  h468 n0 X468.sz Ex468 F469 F470 F471 F472 F473 F474 F475 F476 F477 F478 N468) rfl rfl (hw _ (List.mem_of_getElem? (i := 3) rfl)) (hw _ (List.mem_of_getElem? (i := 4) rfl)) (hw _ (List.mem_of_getElem? (i := 2) rfl)) (hw _ (List.mem_of_getElem? (i := 5) rfl)) (by decide) rfl rfl (lenOf own_pd0 rfl) rfl (Nat.le_of_eq rfl) (by decide) (by decide) (by decide) (by decide) at_16 rfl (fun _ _ q => by obtain ⟨_, _, _, K, _⟩ := q; exact K.1) (fun T479 h479 v479 X479 P479 => ?_)
    obtain ⟨t479, rfl, D479_t, K479, O479_0, O479_1, O479_2, O479_3, O479_4, O479_5, O479_6⟩ := P479
    have ne_b468_t479 : b468 ≠ t479 := Nat.ne_of_lt (Nat.lt_of_lt_of_le Ex468.lt D479_t)
    have N_t479 : n0 ≤ t479 := Nat.le_trans X468.sz D479_t
    have E480 := Ex468.keep K479
    show Go p e below s n0 _ _ _ T479 (mkF m 19 #[.val (.long x0), .second, .val (.long x1), .second, .val (.long x2), .second, .val (.int x3), .val (.int x4), .val (.int (3 : Int32)), .val (.int (x4 &&& (3 : Int32))), .unset, .unset, .unset, .unset, .unset, .unset] [(.ref b468)])
    refine Go.astore C X479 (pc' := 21) (Ls' := #[.val (.long x0), .second, .val (.long x1), .second, .val (.long x2), .second, .val (.int x3), .val (.int x4), .val (.int (3 : Int32)), .val (.int (x4 &&& (3 : Int32))), .val (.ref b468), .unset, .unset, .unset, .unset, .unset]) at_19 rfl rfl rfl ?_
    refine Go.aload C X479 (pc' := 23) at_21 rfl rfl rfl ?_
    refine Go.iload C X479 (pc' := 25) at_23 rfl rfl ?_
    refine Go.callV C X479 (pc' := 28) (W := 0) (argsL := [(.int (x4 &&& (3 : Int32)))]) (rest := []) (a := b468) (rm_cl l Z a0 hw b468 (x4 &&& (3 : Int32)) t479 0 (0 : Int32) (0 : Int32) (1 : Int64) ((x4 &&& (3 : Int32)).toInt.toNat) h479 n0 X479.sz O479_0 O479_1 O479_2 O479_3 O479_4 O479_5 N468 N_t479 O479_6 (Ne.symm ne_b468_t479) rfl (own_bn x4).1 (own_bn x4).2 (by decide)) O479_0 (notFace_of_selects (args := #[]) (mvT C.2.1 (hw _ (List.mem_of_getElem? (i := 28) rfl)))) (hw _ (List.mem_of_getElem? (i := 25) rfl)) (hw _ (List.mem_of_getElem? (i := 26) rfl)) (hw _ (List.mem_of_getElem? (i := 28) rfl)) (hw _ (List.mem_of_getElem? (i := 27) rfl)) (hw _ (List.mem_of_getElem? (i := 2) rfl)) (hw _ (List.mem_of_getElem? (i := 29) rfl)) (by decide) rfl rfl (lenOf own_pd2 rfl) rfl (Nat.le_of_eq rfl) (by decide) (by decide) (by decide) (by decide) at_25 rfl (fun _ _ q => by obtain ⟨_, _, K, _⟩ := q; exact K.1) (fun T481 h481 v481 X481 P481 => ?_)
    obtain ⟨t1481, rfl, K481, O481_0, O481_1, O481_2, O481_3, O481_4, O481_5, O481_6, O481_7, O481_8⟩ := P481
    have E482 := O479_0.keep K481
    have J483 := O479_6.keep K481 (ninS (Ne.symm ne_b468_t479) nin0)
    show Go p e below s n0 _ _ _ T481 (mkF m 28 #[.val (.long x0), .second, .val (.long x1), .second, .val (.long x2), .second, .val (.int x3), .val (.int x4), .val (.int (3 : Int32)), .val (.int (x4 &&& (3 : Int32))), .val (.ref b468), .unset, .unset, .unset, .unset, .unset] [])
    refine Go.aload C X481 (pc' := 30) at_28 rfl rfl rfl ?_
    refine Go.iload C X481 (pc' := 32) at_30 rfl rfl ?_
    refine Go.callV C X481 (pc' := 35) (W := 0) (argsL := [(.int (3 : Int32))]) (rest := []) (a := b468) (rm_cl l Z a0 hw b468 (3 : Int32) t1481 ((x4 &&& (3 : Int32)).toInt.toNat) (x4 &&& (3 : Int32)) (x4 &&& (3 : Int32)) ((1 : Int64) + (1 : Int64)) 3 h481 n0 X481.sz O481_0 O481_1 O481_2 O481_3 O481_4 O481_5 N468 O481_6 O481_8 O481_7 (own_bn x4).1 rfl (by decide) (by decide)) O481_0 (notFace_of_selects (args := #[]) (mvT C.2.1 (hw _ (List.mem_of_getElem? (i := 28) rfl)))) (hw _ (List.mem_of_getElem? (i := 25) rfl)) (hw _ (List.mem_of_getElem? (i := 26) rfl)) (hw _ (List.mem_of_getElem? (i := 28) rfl)) (hw _ (List.mem_of_getElem? (i := 27) rfl)) (hw _ (List.mem_of_getElem? (i := 2) rfl)) (hw _ (List.mem_of_getElem? (i := 29) rfl)) (by decide) rfl rfl (lenOf own_pd2 rfl) rfl (Nat.le_of_eq rfl) (by decide) (by decide) (by decide) (by decide) at_32 rfl (fun _ _ q => by obtain ⟨_, _, K, _⟩ := q; exact K.1) (fun T484 h484 v484 X484 P484 => ?_)
    obtain ⟨t1484, rfl, K484, O484_0, O484_1, O484_2, O484_3, O484_4, O484_5, O484_6, O484_7, O484_8⟩ := P484
    have E485 := O481_0.keep K484
    have J486 := J483.keep K484 (ninS (Ne.symm ne_b468_t479) nin0)
    have J487 := O481_8.keep K484 (ninS O481_7 nin0)
    show Go p e below s n0 _ _ _ T484 (mkF m 35 #[.val (.long x0), .second, .val (.long x1), .second, .val (.long x2), .second, .val (.int x3), .val (.int x4), .val (.int (3 : Int32)), .val (.int (x4 &&& (3 : Int32))), .val (.ref b468), .unset, .unset, .unset, .unset, .unset] [])
    refine Go.iconst C X484 (pc' := 36) (v := (3 : Int32)) at_35 rfl rfl ?_
    refine Go.newP C X484 (pc' := 38) (nn := 3) (cap := 3) (hw _ (List.mem_of_getElem? (i := 9) rfl)) at_36 rfl (by decide) (by decide) (by decide) (by decide) rfl (fun T488 h488 b488 k488 X488 g488 E488 Ar488 N488 => ?_)
    have ne_b468_b488 : b468 ≠ b488 := Nat.ne_of_lt (Nat.lt_of_lt_of_eq O484_0.lt g488.symm)
    have ne_t479_b488 : t479 ≠ b488 := Nat.ne_of_lt (Nat.lt_of_lt_of_eq J486.lt g488.symm)
    have ne_t1481_b488 : t1481 ≠ b488 := Nat.ne_of_lt (Nat.lt_of_lt_of_eq J487.lt g488.symm)
    have ne_t1484_b488 : t1484 ≠ b488 := Nat.ne_of_lt (Nat.lt_of_lt_of_eq O484_8.lt g488.symm)
    have E489 := O484_0.ext E488
    have J490 := J486.ext E488
    have J491 := J487.ext E488
    have F492 := O484_1.ext E488
    have F493 := O484_2.ext E488
    have F494 := O484_3.ext E488
    have F495 := O484_4.ext E488
    have F496 := O484_5.ext E488
    have J497 := O484_8.ext E488
    have A488 : AJ Z h488 b488 3 (fun _ => 0) := AJ.new rfl Ar488
    refine Go.astore C X488 (pc' := 40) (Ls' := #[.val (.long x0), .second, .val (.long x1), .second, .val (.long x2), .second, .val (.int x3), .val (.int x4), .val (.int (3 : Int32)), .val (.int (x4 &&& (3 : Int32))), .val (.ref b468), .val (.ref b488), .unset, .unset, .unset, .unset]) at_38 rfl rfl rfl ?_
    refine Go.aload C X488 (pc' := 42) at_40 rfl rfl rfl ?_
    refine Go.iconst C X488 (pc' := 43) (v := (0 : Int32)) at_42 rfl rfl ?_
    refine Go.lloadN C X488 (pc' := 44) at_43 rfl rfl ?_
    refine Go.lastore C X488 (pc' := 45) (i := 0) A488 rfl (by decide) N488 at_44 rfl (fun T498 h498 X498 W498 A498 => ?_)
    have E499 := E489.wr W498
    have J500 := J490.other W498 ne_t479_b488
    have J501 := J491.other W498 ne_t1481_b488
    have F502 := F492.other W498 (Or.inl ne_b468_b488)
    have F503 := F493.other W498 (Or.inl ne_b468_b488)
    have F504 := F494.other W498 (Or.inl ne_b468_b488)
    have F505 := F495.other W498 (Or.inl ne_b468_b488)
    have F506 := F496.other W498 (Or.inl ne_b468_b488)
    have J507 := J497.other W498 ne_t1484_b488
    refine Go.aload C X498 (pc' := 47) at_45 rfl rfl rfl ?_
    refine Go.iconst C X498 (pc' := 48) (v := (1 : Int32)) at_47 rfl rfl ?_
    refine Go.lloadN C X498 (pc' := 49) at_48 rfl rfl ?_
    refine Go.lastore C X498 (pc' := 50) (i := 1) A498 rfl (by decide) N488 at_49 rfl (fun T508 h508 X508 W508 A508 => ?_)
    have E509 := E499.wr W508
    have J510 := J500.other W508 ne_t479_b488
    have J511 := J501.other W508 ne_t1481_b488
    have F512 := F502.other W508 (Or.inl ne_b468_b488)
    have F513 := F503.other W508 (Or.inl ne_b468_b488)
    have F514 := F504.other W508 (Or.inl ne_b468_b488)
    have F515 := F505.other W508 (Or.inl ne_b468_b488)
    have F516 := F506.other W508 (Or.inl ne_b468_b488)
    have J517 := J507.other W508 ne_t1484_b488
    refine Go.aload C X508 (pc' := 52) at_50 rfl rfl rfl ?_
    refine Go.iconst C X508 (pc' := 53) (v := (2 : Int32)) at_52 rfl rfl ?_
    refine Go.lload C X508 (pc' := 55) at_53 rfl rfl ?_
    refine Go.lastore C X508 (pc' := 56) (i := 2) A508 rfl (by decide) N488 at_55 rfl (fun T518 h518 X518 W518 A518 => ?_)
    have E519 := E509.wr W518
    have J520 := J510.other W518 ne_t479_b488
    have J521 := J511.other W518 ne_t1481_b488
    have F522 := F512.other W518 (Or.inl ne_b468_b488)
    have F523 := F513.other W518 (Or.inl ne_b468_b488)
    have F524 := F514.other W518 (Or.inl ne_b468_b488)
    have F525 := F515.other W518 (Or.inl ne_b468_b488)
    have F526 := F516.other W518 (Or.inl ne_b468_b488)
    have J527 := J517.other W518 ne_t1484_b488
    refine Go.lconst C X518 (pc' := 57) (v := (0 : Int64)) at_56 rfl rfl ?_
    refine Go.lstore C X518 (pc' := 59) (Ls' := #[.val (.long x0), .second, .val (.long x1), .second, .val (.long x2), .second, .val (.int x3), .val (.int x4), .val (.int (3 : Int32)), .val (.int (x4 &&& (3 : Int32))), .val (.ref b468), .val (.ref b488), .val (.long (0 : Int64)), .second, .unset, .unset]) at_57 rfl rfl ?_
    refine Go.iload C X518 (pc' := 61) at_59 rfl rfl ?_
    refine Go.iconst C X518 (pc' := 62) (v := (1 : Int32)) at_61 rfl rfl ?_
    refine Go.icmpNo C X518 (pc' := 65) at_62 (flt (by decide)).1 rfl ?_
    refine Go.lload C X518 (pc' := 67) at_65 rfl rfl ?_
    refine Go.lloadN C X518 (pc' := 68) at_67 rfl rfl ?_
    refine Go.iconst C X518 (pc' := 69) (v := (0 : Int32)) at_68 rfl rfl ?_
    refine Go.callS C X518 (pc' := 72) (W := 4) (argsL := [(.int (0 : Int32))]) (rest := [(.long x0), (.long (0 : Int64))]) (rm_mu l Z a0 hw (0 : Int32) h518 n0 X518.sz ) (hw _ (List.mem_of_getElem? (i := 47) rfl)) (hw _ (List.mem_of_getElem? (i := 33) rfl)) (hw _ (List.mem_of_getElem? (i := 2) rfl)) (hw _ (List.mem_of_getElem? (i := 34) rfl)) (by decide) rfl rfl (lenOf own_pd1 rfl) rfl (Nat.le_of_eq rfl) (by decide) (by decide) (by decide) (by decide) at_69 rfl (fun _ _ q => Nat.le_of_eq (congrArg Array.size q.2)) (fun T528 h528 v528 X528 P528 => ?_)
    obtain ⟨rfl, rfl⟩ := P528
    show Go p e below s n0 _ _ _ T528 (mkF m 72 #[.val (.long x0), .second, .val (.long x1), .second, .val (.long x2), .second, .val (.int x3), .val (.int x4), .val (.int (3 : Int32)), .val (.int (x4 &&& (3 : Int32))), .val (.ref b468), .val (.ref b488), .val (.long (0 : Int64)), .second, .unset, .unset] [(.long (own_f_rm_mu (0 : Int32))), (.long x0), (.long (0 : Int64))])
    refine Go.lmul C X528 (pc' := 73) at_72 rfl ?_
    refine Go.ladd C X528 (pc' := 74) at_73 rfl ?_
    refine Go.lstore C X528 (pc' := 76) (Ls' := #[.val (.long x0), .second, .val (.long x1), .second, .val (.long x2), .second, .val (.int x3), .val (.int x4), .val (.int (3 : Int32)), .val (.int (x4 &&& (3 : Int32))), .val (.ref b468), .val (.ref b488), .val (.long ((0 : Int64) + (x0 * (own_f_rm_mu (0 : Int32))))), .second, .unset, .unset]) at_74 rfl rfl ?_
    refine Go.iload C X528 (pc' := 78) at_76 rfl rfl ?_
    refine Go.iconst C X528 (pc' := 79) (v := (2 : Int32)) at_78 rfl rfl ?_
    refine Go.icmpNo C X528 (pc' := 82) at_79 (flt (by decide)).1 rfl ?_
    refine Go.lload C X528 (pc' := 84) at_82 rfl rfl ?_
    refine Go.lloadN C X528 (pc' := 85) at_84 rfl rfl ?_
    refine Go.iconst C X528 (pc' := 86) (v := (1 : Int32)) at_85 rfl rfl ?_
    refine Go.callS C X528 (pc' := 89) (W := 4) (argsL := [(.int (1 : Int32))]) (rest := [(.long x1), (.long ((0 : Int64) + (x0 * (own_f_rm_mu (0 : Int32)))))]) (rm_mu l Z a0 hw (1 : Int32) h518 n0 X528.sz ) (hw _ (List.mem_of_getElem? (i := 47) rfl)) (hw _ (List.mem_of_getElem? (i := 33) rfl)) (hw _ (List.mem_of_getElem? (i := 2) rfl)) (hw _ (List.mem_of_getElem? (i := 34) rfl)) (by decide) rfl rfl (lenOf own_pd1 rfl) rfl (Nat.le_of_eq rfl) (by decide) (by decide) (by decide) (by decide) at_86 rfl (fun _ _ q => Nat.le_of_eq (congrArg Array.size q.2)) (fun T529 h529 v529 X529 P529 => ?_)
    obtain ⟨rfl, rfl⟩ := P529
    show Go p e below s n0 _ _ _ T529 (mkF m 89 #[.val (.long x0), .second, .val (.long x1), .second, .val (.long x2), .second, .val (.int x3), .val (.int x4), .val (.int (3 : Int32)), .val (.int (x4 &&& (3 : Int32))), .val (.ref b468), .val (.ref b488), .val (.long ((0 : Int64) + (x0 * (own_f_rm_mu (0 : Int32))))), .second, .unset, .unset] [(.long (own_f_rm_mu (1 : Int32))), (.long x1), (.long ((0 : Int64) + (x0 * (own_f_rm_mu (0 : Int32)))))])
    refine Go.lmul C X529 (pc' := 90) at_89 rfl ?_
    refine Go.ladd C X529 (pc' := 91) at_90 rfl ?_
    refine Go.lstore C X529 (pc' := 93) (Ls' := #[.val (.long x0), .second, .val (.long x1), .second, .val (.long x2), .second, .val (.int x3), .val (.int x4), .val (.int (3 : Int32)), .val (.int (x4 &&& (3 : Int32))), .val (.ref b468), .val (.ref b488), .val (.long (((0 : Int64) + (x0 * (own_f_rm_mu (0 : Int32)))) + (x1 * (own_f_rm_mu (1 : Int32))))), .second, .unset, .unset]) at_91 rfl rfl ?_
    refine Go.iload C X529 (pc' := 95) at_93 rfl rfl ?_
    refine Go.iconst C X529 (pc' := 96) (v := (3 : Int32)) at_95 rfl rfl ?_
    refine Go.icmpNo C X529 (pc' := 99) at_96 (flt (by decide)).1 rfl ?_
    refine Go.lload C X529 (pc' := 101) at_99 rfl rfl ?_
    refine Go.lload C X529 (pc' := 103) at_101 rfl rfl ?_
    refine Go.iconst C X529 (pc' := 104) (v := (2 : Int32)) at_103 rfl rfl ?_
    refine Go.callS C X529 (pc' := 107) (W := 4) (argsL := [(.int (2 : Int32))]) (rest := [(.long x2), (.long (((0 : Int64) + (x0 * (own_f_rm_mu (0 : Int32)))) + (x1 * (own_f_rm_mu (1 : Int32)))))]) (rm_mu l Z a0 hw (2 : Int32) h518 n0 X529.sz ) (hw _ (List.mem_of_getElem? (i := 47) rfl)) (hw _ (List.mem_of_getElem? (i := 33) rfl)) (hw _ (List.mem_of_getElem? (i := 2) rfl)) (hw _ (List.mem_of_getElem? (i := 34) rfl)) (by decide) rfl rfl (lenOf own_pd1 rfl) rfl (Nat.le_of_eq rfl) (by decide) (by decide) (by decide) (by decide) at_104 rfl (fun _ _ q => Nat.le_of_eq (congrArg Array.size q.2)) (fun T530 h530 v530 X530 P530 => ?_)
    obtain ⟨rfl, rfl⟩ := P530
    show Go p e below s n0 _ _ _ T530 (mkF m 107 #[.val (.long x0), .second, .val (.long x1), .second, .val (.long x2), .second, .val (.int x3), .val (.int x4), .val (.int (3 : Int32)), .val (.int (x4 &&& (3 : Int32))), .val (.ref b468), .val (.ref b488), .val (.long (((0 : Int64) + (x0 * (own_f_rm_mu (0 : Int32)))) + (x1 * (own_f_rm_mu (1 : Int32))))), .second, .unset, .unset] [(.long (own_f_rm_mu (2 : Int32))), (.long x2), (.long (((0 : Int64) + (x0 * (own_f_rm_mu (0 : Int32)))) + (x1 * (own_f_rm_mu (1 : Int32)))))])
    refine Go.lmul C X530 (pc' := 108) at_107 rfl ?_
    refine Go.ladd C X530 (pc' := 109) at_108 rfl ?_
    refine Go.lstore C X530 (pc' := 111) (Ls' := #[.val (.long x0), .second, .val (.long x1), .second, .val (.long x2), .second, .val (.int x3), .val (.int x4), .val (.int (3 : Int32)), .val (.int (x4 &&& (3 : Int32))), .val (.ref b468), .val (.ref b488), .val (.long ((((0 : Int64) + (x0 * (own_f_rm_mu (0 : Int32)))) + (x1 * (own_f_rm_mu (1 : Int32)))) + (x2 * (own_f_rm_mu (2 : Int32))))), .second, .unset, .unset]) at_109 rfl rfl ?_
    refine Go.aload C X530 (pc' := 113) at_111 rfl rfl rfl ?_
    refine Go.aload C X530 (pc' := 115) at_113 rfl rfl rfl ?_
    refine Go.callV C X530 (pc' := 118) (W := 0) (argsL := [(.ref b488)]) (rest := []) (a := b468) (rm_su l Z a0 hw b468 b488 t1484 (3 : Int32) 3 (fun q => if q = 2 then x2 else (fun q => if q = 1 then x1 else (fun q => if q = 0 then x0 else (fun _ => 0) q) q) q) h518 n0 X530.sz F522 F523 J527 A518 rfl (by decide)) E519 (notFace_of_selects (args := #[]) (mvT C.2.1 (hw _ (List.mem_of_getElem? (i := 51) rfl)))) (hw _ (List.mem_of_getElem? (i := 48) rfl)) (hw _ (List.mem_of_getElem? (i := 49) rfl)) (hw _ (List.mem_of_getElem? (i := 51) rfl)) (hw _ (List.mem_of_getElem? (i := 50) rfl)) (hw _ (List.mem_of_getElem? (i := 2) rfl)) (hw _ (List.mem_of_getElem? (i := 52) rfl)) (by decide) rfl rfl (lenOf own_pd3 rfl) rfl (Nat.le_of_eq rfl) (by decide) (by decide) (by decide) (by decide) at_115 rfl (fun _ _ q => Nat.le_of_eq (congrArg Array.size q.2)) (fun T531 h531 v531 X531 P531 => ?_)
    obtain ⟨rfl, rfl⟩ := P531
    show Go p e below s n0 _ _ _ T531 (mkF m 118 #[.val (.long x0), .second, .val (.long x1), .second, .val (.long x2), .second, .val (.int x3), .val (.int x4), .val (.int (3 : Int32)), .val (.int (x4 &&& (3 : Int32))), .val (.ref b468), .val (.ref b488), .val (.long ((((0 : Int64) + (x0 * (own_f_rm_mu (0 : Int32)))) + (x1 * (own_f_rm_mu (1 : Int32)))) + (x2 * (own_f_rm_mu (2 : Int32))))), .second, .unset, .unset] [(.long (own_s own_mu (fun q => if q = 2 then x2 else (fun q => if q = 1 then x1 else (fun q => if q = 0 then x0 else (fun _ => 0) q) q) q) 0 3 0))])
    refine Go.lstore C X531 (pc' := 120) (Ls' := #[.val (.long x0), .second, .val (.long x1), .second, .val (.long x2), .second, .val (.int x3), .val (.int x4), .val (.int (3 : Int32)), .val (.int (x4 &&& (3 : Int32))), .val (.ref b468), .val (.ref b488), .val (.long ((((0 : Int64) + (x0 * (own_f_rm_mu (0 : Int32)))) + (x1 * (own_f_rm_mu (1 : Int32)))) + (x2 * (own_f_rm_mu (2 : Int32))))), .second, .val (.long (own_s own_mu (fun q => if q = 2 then x2 else (fun q => if q = 1 then x1 else (fun q => if q = 0 then x0 else (fun _ => 0) q) q) q) 0 3 0)), .second]) at_118 rfl rfl ?_
    refine Go.lload C X531 (pc' := 122) at_120 rfl rfl ?_
    refine Go.lload C X531 (pc' := 124) at_122 rfl rfl ?_
    refine Go.lcmp C X531 (pc' := 125) at_124 rfl ?_
    refine Go.ifNo C X531 (pc' := 128) at_125 ((if0 _ _).trans (teq ((lw_eq _ _).mpr (by rw [own_s3, own_mu0, own_mu1, own_mu2]; rfl))).2) rfl ?_
    refine Go.aload C X531 (pc' := 130) at_128 rfl rfl rfl ?_
    refine Go.iconst C X531 (pc' := 131) (v := (0 : Int32)) at_130 rfl rfl ?_
    refine Go.laload C X531 (pc' := 132) (i := 0) (w := ((fun q => if q = 2 then x2 else (fun q => if q = 1 then x1 else (fun q => if q = 0 then x0 else (fun _ => 0) q) q) q) 0)) A518 rfl (by decide) rfl at_131 rfl ?_
    refine Go.lloadN C X531 (pc' := 133) at_132 rfl rfl ?_
    refine Go.lcmp C X531 (pc' := 134) at_133 rfl ?_
    refine Go.ifNo C X531 (pc' := 137) at_134 ((if0 _ _).trans (teq ((lw_eq _ _).mpr (by rfl))).2) rfl ?_
    refine Go.aload C X531 (pc' := 139) at_137 rfl rfl rfl ?_
    refine Go.iconst C X531 (pc' := 140) (v := (1 : Int32)) at_139 rfl rfl ?_
    refine Go.laload C X531 (pc' := 141) (i := 1) (w := ((fun q => if q = 2 then x2 else (fun q => if q = 1 then x1 else (fun q => if q = 0 then x0 else (fun _ => 0) q) q) q) 1)) A518 rfl (by decide) rfl at_140 rfl ?_
    refine Go.lloadN C X531 (pc' := 142) at_141 rfl rfl ?_
    refine Go.lcmp C X531 (pc' := 143) at_142 rfl ?_
    refine Go.ifNo C X531 (pc' := 146) at_143 ((if0 _ _).trans (teq ((lw_eq _ _).mpr (by rfl))).2) rfl ?_
    refine Go.aload C X531 (pc' := 148) at_146 rfl rfl rfl ?_
    refine Go.iconst C X531 (pc' := 149) (v := (2 : Int32)) at_148 rfl rfl ?_
    refine Go.laload C X531 (pc' := 150) (i := 2) (w := ((fun q => if q = 2 then x2 else (fun q => if q = 1 then x1 else (fun q => if q = 0 then x0 else (fun _ => 0) q) q) q) 2)) A518 rfl (by decide) rfl at_149 rfl ?_
    refine Go.lload C X531 (pc' := 152) at_150 rfl rfl ?_
    refine Go.lcmp C X531 (pc' := 153) at_152 rfl ?_
    refine Go.ifNo C X531 (pc' := 156) at_153 ((if0 _ _).trans (teq ((lw_eq _ _).mpr (by rfl))).2) rfl ?_
    refine Go.iconst C X531 (pc' := 157) (v := (1 : Int32)) at_156 rfl rfl ?_
    refine Go.goto C X531 (pc' := 161) at_157 (by decide) (by decide) ?_
    exact Go.retZ (t := .boolean) C X531 (z' := (1 : Int32)) (by decide) at_161 rfl (by decide) (by decide)
set_option maxRecDepth 65536 in
set_option maxHeartbeats 40000000 in
theorem comes_1 {Post : Tables → Env → Array Value → State → Outcome → State → Prop} (hpost : ∀ tb e args s v u, (limb_1_1.after args s (.returned v) u = true ∧ limb_1_2.after args s (.returned v) u = true ∧ True) → FrameEnd s (.returned v) u (Jvm.fieldLocs frame_1_writes args s ++ Jvm.arrayLocs frame_1_arrays args s ++ Jvm.staticLocs frame_1_statics s) 32 320 → Post tb e args s (.returned v) u) :
    ArmFor flags0 classFile x code maxLocals ret World_1 tables_1 room_1 Calls_1 rest_1 Pre_1 Post := by
  intro l hfl _ _ p e ha hc hk s m args below hf hA hF happ hP
  obtain ⟨hcalls, hrest, hpre⟩ := hP
  obtain ⟨-, -, -, hnamed, -, -, -, hat⟩ := (Spec.applies_iff hf).mp happ
  obtain ⟨hg, hn⟩ := and_e (Cond.before_iff.mp (show (Jvm.Cond.and given_1 narrow_1).before args s = true from hpre))
  obtain ⟨hcount, hg0⟩ := and_e hg
  obtain ⟨w0, w1, w2, w3, w4, rfl⟩ : ∃ w0 w1 w2 w3 w4 : Value, args = #[w0, w1, w2, w3, w4] := by
    have hs : args.size = 5 := by simpa [Cond.value, given_1] using hcount
    obtain ⟨L⟩ := args
    match L, hs with
    | [w0, w1, w2, w3, w4], _ => exact ⟨w0, w1, w2, w3, w4, rfl⟩
  have hw := fun d (hd : d ∈ tables_1) => atoms_spec (ws := Jvm.Cond.code x code maxLocals ret :: tables_1) hat d (List.mem_cons_of_mem _ hd)
  have hfit : Fit s := fun {y c} hc i hi => by
    obtain ⟨ha, rfl⟩ := Array.getElem?_eq_some_iff.mp hc
    have q := List.all_eq_true.mp ((Array.all_eq_true_iff_forall_mem.mp hF) _ (Array.getElem_mem ha)) i (List.mem_range.mpr hi)
    simpa [Array.getElem?_eq_getElem hi] using q
  obtain ⟨ha0, hg1⟩ := and_e hg0
  obtain ⟨i0, e0⟩ := isL_v ha0
  obtain rfl : w0 = (.long i0) := Option.some.inj e0
  obtain ⟨ha1, hg2⟩ := and_e hg1
  obtain ⟨i1, e1⟩ := isL_v ha1
  obtain rfl : w1 = (.long i1) := Option.some.inj e1
  obtain ⟨ha2, hg3⟩ := and_e hg2
  obtain ⟨i2, e2⟩ := isL_v ha2
  obtain rfl : w2 = (.long i2) := Option.some.inj e2
  obtain ⟨ha3, hg4⟩ := and_e hg3
  obtain ⟨i3, e3⟩ := is_v ha3
  obtain rfl : w3 = (.int i3) := Option.some.inj e3
  obtain ⟨i4, e4⟩ := is_v hg4
  obtain rfl : w4 = (.int i4) := Option.some.inj e4
  obtain ⟨n, o, h1, h2, h3, _, L, rfl, ⟨rfl, N⟩, hq⟩ := rm0 l s _ hw i0 i1 i2 i3 i4 s.heap s.heap.size (Nat.le_refl _)  tables_1 p e ha hc hk s m _ below hf ((Spec.applies_iff_loose hf).mp happ).1 ⟨rfl, State.Warmed39.refl s, rfl⟩ trivial
  refine ⟨n, _, h1, h2, h3, hpost _ _ _ _ _ _ ⟨Cond.after_iff.mpr rfl, Cond.after_iff.mpr (eq_i res_at (Term.int_eval (1)) rfl), trivial⟩ ⟨hq.1, hq.2.1, (hq.2.2.sift fun y hy => Or.inr (N y hy)).mono (by decide) (by decide)⟩⟩
theorem main_1_1 : Claimed_1_1 := comes_1 fun _ _ _ _ _ _ h hF => ⟨h.1, hF⟩
theorem main_1_2 : Claimed_1_2 := comes_1 fun _ _ _ _ _ _ h hF => ⟨h.2.1, hF⟩
end Jvm.Pilot.@@N@@
namespace Jvm.Pilot.@@N@@
open Jvm Jvm.ClassFile Sem Op Lib Jvm.Free Jvm.Stand Jvm.Pilot.@@N@@.Jvm.D
/-! MADE BY PROGRAM (witnessworld.py) out of the Statement's table words and the real class files: 11 classes; the members and pool entries that the words name. The judged class is class 1, her method 1. -/
namespace start1
open Jvm.ClassFile
def u (s : String) : CpInfo := .utf8 (stringToUtf16 s)
/-- a pool by its gaps: so many unusable entries, then the entry; so many at the end -/
def gap : Nat → List CpInfo → List CpInfo
  | 0, r => r
  | n + 1, r => .unusable :: gap n r
def poolList (es : List (Nat × CpInfo)) (last : Nat) : List CpInfo := es.foldr (fun e r => gap e.1 (e.2 :: r)) (gap last [])
def pool (es : List (Nat × CpInfo)) (last : Nat) : Array CpInfo := ⟨poolList es last⟩
def fileOf (pool : Array CpInfo) (this : Nat) (attrs : Array Attribute := #[]) (ms : Array MethodInfo := #[]) (fl : Nat := 33) (sup : Nat := 0) (ifs : Array Nat := #[]) (fds : Array FieldInfo := #[]) : ClassFile where
  minorVersion := 0
  majorVersion := 65
  constantPool := pool
  accessFlags := fl
  thisClass := this
  superClass := sup
  interfaces := ifs
  fields := fds
  methods := ms
  attributes := attrs
def plain (name : String) (sup : Option ClassId) : Class where
  name := name
  kind := .ordinary
  loader := none
  accessFlags := 33
  super := sup
  interfaces := #[]
  cf := none
  fields := #[]
  methods := #[]
  instanceTypes := #[]
  staticTypes := #[]
  resolved := #[]
  callSites := []
  init := .initialized
  statics := none
  mirror := none

def pool0 : Array CpInfo := pool [(5, u "<init>"), (0, u "()V"), (1, .class_ 10), (1, u "java/lang/Object")] 113

def k0c0 : Code := { maxStack := 0, maxLocals := 1, code := object_method_1_code, exceptionTable := #[], attributes := #[] }
def k0m0 : Method := { name := "<init>", desc := "()V", sig := { parameters := [], returnType := none }, accessFlags := 1, code := some k0c0 }
/-- java/lang/Object -/
def k0 : Class := { plain "java/lang/Object" none with
  accessFlags := 33
  interfaces := #[]
  cf := some (fileOf pool0 8 #[] #[{ accessFlags := 1, nameIndex := 5, descriptorIndex := 6, attributes := #[] }] 33 0 #[] #[])
  fields := #[]
  methods := #[k0m0]
  instanceTypes := #[]
  staticTypes := #[]
  resolved := Array.replicate 124 none
  statics := none }

def pool1 : Array CpInfo := pool [(2, .class_ 4), (0, .nameAndType 5 6), (0, u "java/lang/Object"), (0, u "<init>"), (0, u "()V"), (0, .class_ 8), (0, u "com/example/happenets/happenets/net/KeyedCounts"), (0, .methodref 7 3), (0, .methodref 7 11), (0, .nameAndType 12 13), (0, u "clear"), (0, u "(I)V"), (0, .methodref 7 15), (0, .nameAndType 16 17), (0, u "multiplier"), (0, u "(I)J"), (0, .methodref 7 19), (0, .nameAndType 20 21), (0, u "sum"), (0, u "([J)J"), (0, .class_ 23), (0, u "com/example/happenets/happenets/net/KeyedCountsSumPinLaw"), (2, u "law"), (0, u "(JJJII)Z")] 5

def k1m0 : Method := { name := "<init>", desc := "()V", sig := { parameters := [], returnType := none }, accessFlags := 1, code := none }
def k1c1 : Code := { maxStack := 6, maxLocals := 16, code := code, exceptionTable := #[], attributes := #[] }
def k1m1 : Method := { name := "law", desc := "(JJJII)Z", sig := { parameters := [.long, .long, .long, .int, .int], returnType := some .boolean }, accessFlags := 9, code := some k1c1 }
/-- com/example/happenets/happenets/net/KeyedCountsSumPinLaw -/
def k1 : Class := { plain "com/example/happenets/happenets/net/KeyedCountsSumPinLaw" (some 0) with
  accessFlags := 49
  interfaces := #[]
  cf := some (fileOf pool1 22 #[] #[{ accessFlags := 1, nameIndex := 5, descriptorIndex := 6, attributes := #[] }, { accessFlags := 9, nameIndex := 26, descriptorIndex := 27, attributes := #[] }] 49 2 #[] #[])
  fields := #[]
  methods := #[k1m0, k1m1]
  instanceTypes := #[]
  staticTypes := #[]
  resolved := Array.replicate 33 none
  statics := none }

def pool2 : Array CpInfo := pool [(1, .class_ 2), (0, u "com/example/happenets/happenets/net/KeyedCounts"), (2, .methodref 6 7), (0, .class_ 8), (0, .nameAndType 9 10), (0, u "java/lang/Object"), (0, u "<init>"), (0, u "()V"), (0, .fieldref 1 12), (0, .nameAndType 13 14), (0, u "multipliers"), (0, u "[J"), (0, .fieldref 1 16), (0, .nameAndType 17 14), (0, u "keys"), (0, .fieldref 1 19), (0, .nameAndType 20 21), (0, u "starts"), (0, u "[I"), (0, .fieldref 1 23), (0, .nameAndType 24 21), (0, u "hashes"), (0, .fieldref 1 26), (0, .nameAndType 27 14), (0, u "counts"), (0, .fieldref 1 29), (0, .nameAndType 30 14), (0, u "slots"), (0, .fieldref 1 32), (0, .nameAndType 33 34), (0, u "round"), (0, u "J"), (0, .fieldref 1 36), (0, .nameAndType 37 38), (0, u "words"), (0, u "I"), (0, .methodref 1 40), (0, .nameAndType 41 42), (0, u "multiplier"), (0, u "(I)J"), (0, .methodref 1 44), (0, .nameAndType 45 10), (0, u "empty"), (0, .fieldref 1 47), (0, .nameAndType 48 38), (0, u "size"), (0, .fieldref 1 50), (0, .nameAndType 51 52), (0, u "largeCounts"), (0, u "[Ljava/math/BigInteger;"), (0, .long 65535), (51, u "sum"), (0, u "([J)J"), (87, .long 11400714819323198485), (1, .long 13787848793156543929), (1, .long 10723151780598845931), (5, u "FIRST_ENTRIES"), (2, u "MAX_ENTRIES"), (0, u "ENTRY_BITS"), (1, u "HASH_BITS"), (1, u "ROUND_SHIFT"), (1, u "LAST_ROUND"), (0, u "MAX_WORDS"), (3, u "clear"), (0, u "(I)V")] 28

def k2c0 : Code := { maxStack := 3, maxLocals := 1, code := prog_26_method_1_code, exceptionTable := #[], attributes := #[] }
def k2m0 : Method := { name := "<init>", desc := "()V", sig := { parameters := [], returnType := none }, accessFlags := 0, code := some k2c0 }
def k2c1 : Code := { maxStack := 4, maxLocals := 3, code := prog_26_method_2_code, exceptionTable := #[], attributes := #[] }
def k2m1 : Method := { name := "clear", desc := "(I)V", sig := { parameters := [.int], returnType := none }, accessFlags := 0, code := some k2c1 }
def k2c2 : Code := { maxStack := 5, maxLocals := 1, code := prog_26_method_4_code, exceptionTable := #[], attributes := #[] }
def k2m2 : Method := { name := "empty", desc := "()V", sig := { parameters := [], returnType := none }, accessFlags := 2, code := some k2c2 }
def k2c3 : Code := { maxStack := 6, maxLocals := 5, code := prog_26_method_29_code, exceptionTable := #[], attributes := #[] }
def k2m3 : Method := { name := "sum", desc := "([J)J", sig := { parameters := [(.array .long)], returnType := some .long }, accessFlags := 0, code := some k2c3 }
def k2c4 : Code := { maxStack := 5, maxLocals := 3, code := prog_26_method_32_code, exceptionTable := #[], attributes := #[] }
def k2m4 : Method := { name := "multiplier", desc := "(I)J", sig := { parameters := [.int], returnType := some .long }, accessFlags := 8, code := some k2c4 }
/-- com/example/happenets/happenets/net/KeyedCounts -/
def k2 : Class := { plain "com/example/happenets/happenets/net/KeyedCounts" (some 0) with
  accessFlags := 48
  interfaces := #[]
  cf := some (fileOf pool2 1 #[] #[{ accessFlags := 0, nameIndex := 9, descriptorIndex := 10, attributes := #[] }, { accessFlags := 0, nameIndex := 219, descriptorIndex := 220, attributes := #[] }, { accessFlags := 2, nameIndex := 45, descriptorIndex := 10, attributes := #[] }, { accessFlags := 0, nameIndex := 105, descriptorIndex := 106, attributes := #[] }, { accessFlags := 8, nameIndex := 41, descriptorIndex := 42, attributes := #[] }] 48 6 #[] #[{ accessFlags := 26, nameIndex := 204, descriptorIndex := 38, attributes := #[] }, { accessFlags := 26, nameIndex := 207, descriptorIndex := 38, attributes := #[] }, { accessFlags := 26, nameIndex := 208, descriptorIndex := 38, attributes := #[] }, { accessFlags := 26, nameIndex := 210, descriptorIndex := 38, attributes := #[] }, { accessFlags := 26, nameIndex := 212, descriptorIndex := 38, attributes := #[] }, { accessFlags := 26, nameIndex := 214, descriptorIndex := 34, attributes := #[] }, { accessFlags := 26, nameIndex := 215, descriptorIndex := 38, attributes := #[] }, { accessFlags := 2, nameIndex := 37, descriptorIndex := 38, attributes := #[] }, { accessFlags := 2, nameIndex := 13, descriptorIndex := 14, attributes := #[] }, { accessFlags := 2, nameIndex := 48, descriptorIndex := 38, attributes := #[] }, { accessFlags := 2, nameIndex := 17, descriptorIndex := 14, attributes := #[] }, { accessFlags := 2, nameIndex := 20, descriptorIndex := 21, attributes := #[] }, { accessFlags := 2, nameIndex := 24, descriptorIndex := 21, attributes := #[] }, { accessFlags := 2, nameIndex := 27, descriptorIndex := 14, attributes := #[] }, { accessFlags := 2, nameIndex := 51, descriptorIndex := 52, attributes := #[] }, { accessFlags := 2, nameIndex := 30, descriptorIndex := 14, attributes := #[] }, { accessFlags := 2, nameIndex := 33, descriptorIndex := 34, attributes := #[] }])
  fields := #[{ name := "FIRST_ENTRIES", type := .int, accessFlags := 26, slot := 0, constantValue := 0 }, { name := "MAX_ENTRIES", type := .int, accessFlags := 26, slot := 1, constantValue := 0 }, { name := "ENTRY_BITS", type := .int, accessFlags := 26, slot := 2, constantValue := 0 }, { name := "HASH_BITS", type := .int, accessFlags := 26, slot := 3, constantValue := 0 }, { name := "ROUND_SHIFT", type := .int, accessFlags := 26, slot := 4, constantValue := 0 }, { name := "LAST_ROUND", type := .long, accessFlags := 26, slot := 5, constantValue := 0 }, { name := "MAX_WORDS", type := .int, accessFlags := 26, slot := 6, constantValue := 0 }, { name := "words", type := .int, accessFlags := 2, slot := 0, constantValue := 0 }, { name := "multipliers", type := (.array .long), accessFlags := 2, slot := 1, constantValue := 0 }, { name := "size", type := .int, accessFlags := 2, slot := 2, constantValue := 0 }, { name := "keys", type := (.array .long), accessFlags := 2, slot := 3, constantValue := 0 }, { name := "starts", type := (.array .int), accessFlags := 2, slot := 4, constantValue := 0 }, { name := "hashes", type := (.array .int), accessFlags := 2, slot := 5, constantValue := 0 }, { name := "counts", type := (.array .long), accessFlags := 2, slot := 6, constantValue := 0 }, { name := "largeCounts", type := (.array (.object "java/math/BigInteger")), accessFlags := 2, slot := 7, constantValue := 0 }, { name := "slots", type := (.array .long), accessFlags := 2, slot := 8, constantValue := 0 }, { name := "round", type := .long, accessFlags := 2, slot := 9, constantValue := 0 }]
  methods := #[k2m0, k2m1, k2m2, k2m3, k2m4]
  instanceTypes := #[.int, (.array .long), .int, (.array .long), (.array .int), (.array .int), (.array .long), (.array (.object "java/math/BigInteger")), (.array .long), .long]
  staticTypes := #[.int, .int, .int, .int, .int, .long, .int]
  resolved := Array.replicate 249 none
  statics := none }

def pool3 : Array CpInfo := pool [(1, u "java/lang/Cloneable"), (0, .class_ 1), (0, u "java/lang/Object"), (0, .class_ 3)] 3

/-- java/lang/Cloneable -/
def k3 : Class := { plain "java/lang/Cloneable" (some 0) with
  accessFlags := 1537
  interfaces := #[]
  cf := some (fileOf pool3 2 #[] #[] 1537 4 #[] #[])
  fields := #[]
  methods := #[]
  instanceTypes := #[]
  staticTypes := #[]
  resolved := Array.replicate 8 none
  statics := none }

def pool4 : Array CpInfo := pool [(1, u "java/io/Serializable"), (0, .class_ 1), (0, u "java/lang/Object"), (0, .class_ 3)] 3

/-- java/io/Serializable -/
def k4 : Class := { plain "java/io/Serializable" (some 0) with
  accessFlags := 1537
  interfaces := #[]
  cf := some (fileOf pool4 2 #[] #[] 1537 4 #[] #[])
  fields := #[]
  methods := #[]
  instanceTypes := #[]
  staticTypes := #[]
  resolved := Array.replicate 8 none
  statics := none }

/-- the primitive byte -/
def k5 : Class := { plain "byte" none with kind := .primitive 'B', accessFlags := 0x411 }
/-- [B -/
def k6 : Class := { plain "[B" (some 0) with kind := .array 5 .byte, interfaces := #[3, 4], accessFlags := 1041 }

/-- the primitive int -/
def k7 : Class := { plain "int" none with kind := .primitive 'I', accessFlags := 0x411 }
/-- [I -/
def k8 : Class := { plain "[I" (some 0) with kind := .array 7 .int, interfaces := #[3, 4], accessFlags := 1041 }

/-- the primitive long -/
def k9 : Class := { plain "long" none with kind := .primitive 'J', accessFlags := 0x411 }
/-- [J -/
def k10 : Class := { plain "[J" (some 0) with kind := .array 9 .long, interfaces := #[3, 4], accessFlags := 1041 }

def heap : Heap := #[]
def classes : Array Class := #[k0, k1, k2, k3, k4, k5, k6, k7, k8, k9, k10]
def interned : List (Array UInt16 × Addr) := []
def slotsUsed : Nat := 0
def theMethod : MethodId := ⟨1, 1⟩
def args0 : Array Value := #[.long 3, .long 9, .long 5, .int 2, .int 3]
def aboutOver (below : List Frame) : State where
  vm := { classes := classes, interned := interned.toArray }
  heap := heap
  slotsUsed := slotsUsed
  threads := #[{ frames := .invoking theMethod args0 :: below }]
def below0 : List Frame := [.native { method := ⟨0, 0⟩, args := #[] }]
def about1 : State := aboutOver below0
def p0 : Program := .bare "" "" ""
def e0 : Env := launch0.env 0 0 0
theorem w_frames : about1.frames = Frame.invoking theMethod args0 :: below0 := rfl
set_option maxRecDepth 65536 in
theorem w_args : argsFit about1.vm theMethod args0 = true := by decide +kernel
set_option maxRecDepth 65536 in
theorem w_heap : heapFits about1 = true := by decide +kernel
set_option maxRecDepth 65536 in
theorem w_runnable : about1.curStatus? = some .runnable := by decide +kernel
set_option maxRecDepth 65536 in
theorem w_alone : about1.alone = true := by decide +kernel
set_option maxRecDepth 65536 in
theorem w_named : about1.methodNamed? x = some theMethod := by decide +kernel
set_option maxRecDepth 65536 in
theorem w_hears : about1.hears theMethod below0 = true := by decide +kernel
set_option maxRecDepth 65536 in
theorem w_ripe : about1.ripe theMethod args0 below0 = true := by decide +kernel
theorem w_running : about1.status = .running := rfl
set_option maxRecDepth 65536 in
theorem w_room : about1.hasRoom e0.platform room_1 = true :=
  launch0.hasRoom_least _ room_1 (by decide +kernel) (by decide +kernel) (by decide +kernel) (by decide +kernel) (by decide +kernel) (by decide +kernel)
theorem allAtoms_all (ts : List Jvm.Cond) (a : Array Jvm.Value) (st : Jvm.State) : (allAtoms ts).before a st = ts.all (fun c => c.before a st) := by
  induction ts with
  | nil => rfl
  | cons c t ih =>
    show (Jvm.Cond.and c (allAtoms t)).before a st = _
    rw [Jvm.Cond.before_and, ih, List.all_cons]
def words1 : List Jvm.Cond := Jvm.Cond.code x code maxLocals ret :: tables_1
/-- a 'code' word, met by the world's own term for the bytes: nothing is compared byte by byte -/
theorem code_word {y : MethodName} {bytes : ByteArray} {mx : Nat} {rt : Option FieldType} {a : Array Value} {s : State} {m : MethodId} {meth : Method} {c : Code} (h1 : s.methodNamed? y = some m) (h2 : s.vm.method? m = some meth) (h3 : meth.code = some c) (h4 : c.code = bytes)
    (h5 : (c.maxLocals == mx && c.exceptionTable.isEmpty && decide (c.maxStack ≤ mostOperands) && decide (meth.sig.returnType = rt) && !meth.locks && decide (parseMethodDescriptor y.desc = some meth.sig)) = true) : (Jvm.Cond.code y bytes mx rt).before a s = true := by
  simp only [Bool.and_eq_true, beq_iff_eq, Bool.not_eq_true', decide_eq_true_eq] at h5
  obtain ⟨⟨⟨⟨⟨g1, g2⟩, g3⟩, g4⟩, g5⟩, g6⟩ := h5
  simp [Cond.before, Cond.holds, Cond.value, h1, h2, h3, h4, g1, g2, g3, g4, g5, g6]
def isCode : Jvm.Cond → Bool
  | .code _ _ _ _ => true
  | _ => false
theorem all_split {L : List Jvm.Cond} {P : Jvm.Cond → Bool} (h1 : L.all (fun c => isCode c || P c) = true) (h2 : ∀ c ∈ L.filter isCode, P c = true) : L.all P = true := by
  refine List.all_eq_true.mpr fun c hc => ?_
  have h := List.all_eq_true.mp h1 c hc
  rcases Bool.eq_false_or_eq_true (isCode c) with hi | hi
  · exact h2 c (List.mem_filter.mpr ⟨hc, hi⟩)
  · simpa [hi] using h
set_option maxRecDepth 65536 in
theorem w_c0 : (Jvm.Cond.code x code maxLocals ret).before args0 about1 = true := code_word (m := ⟨1, 1⟩) (meth := k1m1) (c := k1c1) (by decide +kernel) rfl rfl rfl (by decide +kernel)
set_option maxRecDepth 65536 in
theorem w_c1 : (Jvm.Cond.code ({ cls := "com/example/happenets/happenets/net/KeyedCounts", name := "<init>", desc := "()V" } : Jvm.MethodName) prog_26_method_1_code (1 : Nat) (Option.none : Option Jvm.ClassFile.FieldType)).before args0 about1 = true := code_word (m := ⟨2, 0⟩) (meth := k2m0) (c := k2c0) (by decide +kernel) rfl rfl rfl (by decide +kernel)
set_option maxRecDepth 65536 in
theorem w_c2 : (Jvm.Cond.code ({ cls := "java/lang/Object", name := "<init>", desc := "()V" } : Jvm.MethodName) object_method_1_code (1 : Nat) (Option.none : Option Jvm.ClassFile.FieldType)).before args0 about1 = true := code_word (m := ⟨0, 0⟩) (meth := k0m0) (c := k0c0) (by decide +kernel) rfl rfl rfl (by decide +kernel)
set_option maxRecDepth 65536 in
theorem w_c3 : (Jvm.Cond.code ({ cls := "com/example/happenets/happenets/net/KeyedCounts", name := "clear", desc := "(I)V" } : Jvm.MethodName) prog_26_method_2_code (3 : Nat) (Option.none : Option Jvm.ClassFile.FieldType)).before args0 about1 = true := code_word (m := ⟨2, 1⟩) (meth := k2m1) (c := k2c1) (by decide +kernel) rfl rfl rfl (by decide +kernel)
set_option maxRecDepth 65536 in
theorem w_c4 : (Jvm.Cond.code ({ cls := "com/example/happenets/happenets/net/KeyedCounts", name := "multiplier", desc := "(I)J" } : Jvm.MethodName) prog_26_method_32_code (3 : Nat) (Option.some Jvm.ClassFile.FieldType.long)).before args0 about1 = true := code_word (m := ⟨2, 4⟩) (meth := k2m4) (c := k2c4) (by decide +kernel) rfl rfl rfl (by decide +kernel)
set_option maxRecDepth 65536 in
theorem w_c5 : (Jvm.Cond.code ({ cls := "com/example/happenets/happenets/net/KeyedCounts", name := "empty", desc := "()V" } : Jvm.MethodName) prog_26_method_4_code (1 : Nat) (Option.none : Option Jvm.ClassFile.FieldType)).before args0 about1 = true := code_word (m := ⟨2, 2⟩) (meth := k2m2) (c := k2c2) (by decide +kernel) rfl rfl rfl (by decide +kernel)
set_option maxRecDepth 65536 in
theorem w_c6 : (Jvm.Cond.code ({ cls := "com/example/happenets/happenets/net/KeyedCounts", name := "sum", desc := "([J)J" } : Jvm.MethodName) prog_26_method_29_code (5 : Nat) (Option.some Jvm.ClassFile.FieldType.long)).before args0 about1 = true := code_word (m := ⟨2, 3⟩) (meth := k2m3) (c := k2c3) (by decide +kernel) rfl rfl rfl (by decide +kernel)
def codes1 : List Jvm.Cond := [Jvm.Cond.code x code maxLocals ret, Jvm.Cond.code ({ cls := "com/example/happenets/happenets/net/KeyedCounts", name := "<init>", desc := "()V" } : Jvm.MethodName) prog_26_method_1_code (1 : Nat) (Option.none : Option Jvm.ClassFile.FieldType), Jvm.Cond.code ({ cls := "java/lang/Object", name := "<init>", desc := "()V" } : Jvm.MethodName) object_method_1_code (1 : Nat) (Option.none : Option Jvm.ClassFile.FieldType), Jvm.Cond.code ({ cls := "com/example/happenets/happenets/net/KeyedCounts", name := "clear", desc := "(I)V" } : Jvm.MethodName) prog_26_method_2_code (3 : Nat) (Option.none : Option Jvm.ClassFile.FieldType), Jvm.Cond.code ({ cls := "com/example/happenets/happenets/net/KeyedCounts", name := "multiplier", desc := "(I)J" } : Jvm.MethodName) prog_26_method_32_code (3 : Nat) (Option.some Jvm.ClassFile.FieldType.long), Jvm.Cond.code ({ cls := "com/example/happenets/happenets/net/KeyedCounts", name := "empty", desc := "()V" } : Jvm.MethodName) prog_26_method_4_code (1 : Nat) (Option.none : Option Jvm.ClassFile.FieldType), Jvm.Cond.code ({ cls := "com/example/happenets/happenets/net/KeyedCounts", name := "sum", desc := "([J)J" } : Jvm.MethodName) prog_26_method_29_code (5 : Nat) (Option.some Jvm.ClassFile.FieldType.long)]
set_option maxRecDepth 65536 in
theorem codes_eq : words1.filter isCode = codes1 := rfl
theorem w_codes : ∀ c ∈ words1.filter isCode, c.before args0 about1 = true := by
  rw [codes_eq]
  intro c hc
  simp only [codes1, List.mem_cons, List.not_mem_nil, or_false] at hc
  rcases hc with rfl | rfl | rfl | rfl | rfl | rfl | rfl
  · exact w_c0
  · exact w_c1
  · exact w_c2
  · exact w_c3
  · exact w_c4
  · exact w_c5
  · exact w_c6
set_option maxRecDepth 65536 in
theorem w_t1 : (words1.take 24).all (fun c => isCode c || c.before args0 about1) = true := by decide +kernel
set_option maxRecDepth 65536 in
theorem w_t2 : ((words1.drop 24).take 24).all (fun c => isCode c || c.before args0 about1) = true := by decide +kernel
set_option maxRecDepth 65536 in
theorem w_t3 : ((words1.drop 24).drop 24).all (fun c => isCode c || c.before args0 about1) = true := by decide +kernel
theorem w_tables : (allAtoms (Jvm.Cond.code x code maxLocals ret :: tables_1)).before args0 about1 = true := by
  rw [allAtoms_all]
  show words1.all (fun c => c.before args0 about1) = true
  refine all_split ?_ w_codes
  rw [← List.take_append_drop 24 words1, List.all_append, w_t1, ← List.take_append_drop 24 (words1.drop 24), List.all_append, w_t2, w_t3]
  rfl
set_option maxRecDepth 65536 in
theorem w_case : (Jvm.Cond.and given_1 narrow_1).before args0 about1 = true := by decide +kernel
theorem w_applies : (headSpec (Jvm.Cond.code x code maxLocals ret :: tables_1) room_1).applies x e0.platform about1 = true :=
  (Spec.applies_iff w_frames).mpr ⟨w_running, w_runnable, w_alone, w_named, w_hears, w_ripe, w_room, w_tables⟩
theorem atStart : AtStart classFile x code maxLocals ret World_1 tables_1 room_1 Calls_1 rest_1 Pre_1 launch0 p0 e0 about1 theMethod args0 below0 :=
  ⟨lists_1, trivial, launch0.admits_env _ _ _, launch0.least_env, fairChoices_fair.cas, fairChoices_fair.clock, w_frames, w_args, w_heap, w_applies, trivial, trivial, w_case⟩
end start1
theorem witness_1 : WitnessClaimed_1 := ⟨start1.p0, start1.e0, start1.about1, start1.theMethod, start1.args0, start1.below0, start1.atStart⟩
end Jvm.Pilot.@@N@@
