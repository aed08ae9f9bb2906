import JvmDerived
import JvmDerived.Pilot.@@N@@Statement
import JvmDerived.Pilot.@@N@@Code
set_option linter.unusedVariables false
set_option linter.unusedSimpArgs false
namespace Jvm.RoadKit
open Sem ClassFile Op Lib Jvm.Stand Jvm.Free Jvm.LawKit
section Own
variable {p : Program} {l : Launch} {e : Env} {R : Room} {s : State} {m : MethodId} {args : Array Value} {below : List Frame} {meth : Method} {c : Code} {T : State} {Z : State} {a0 : Array Value} {h : Heap} {cells slots n0 rc rs : Nat} {bytes : ByteArray} {own : String} {ret : Option FieldType} {maxL : Nat} {P : Option Value → Heap → Prop} {Ls : Array Slot} {pc pc' : Nat} {st : List Value}
def Cx (p : Program) (s : State) (m : MethodId) (meth : Method) (c : Code) (Z : State) (bytes : ByteArray) (own : String) (ret : Option FieldType) (maxL : Nat) : Prop :=
  p.tables.exec = Jvm.exec ∧ Z.Warmed39 s.vm ∧ c.code = bytes ∧ s.vm.findClass own = some m.cls ∧ c.maxLocals = maxL ∧ meth.locks = false ∧ meth.sig.returnType = ret
def On (p : Program) (l : Launch) (e : Env) (R : Room) (s : State) (m : MethodId) (args : Array Value) (below : List Frame) (meth : Method) (c : Code) (n0 : Nat) (T : State) (h : Heap) (cells slots : Nat) : Prop :=
  ∃ locs, Stand p l e R s m args below meth c T locs cells slots ∧ T.heap = h ∧ Fr n0 locs ∧ n0 ≤ h.size
def Go (p : Program) (e : Env) (below : List Frame) (s : State) (n0 rc rs : Nat) (P : Option Value → Heap → Prop) (T : State) (g : JFrame) : Prop :=
  ∃ s₂ o, Steps p.tables e below (T.setTop g) s₂ ∧ s₂.status = .running ∧ Ended s₂ below o ∧ ∃ v L, o = .returned v ∧ (P v s₂.heap ∧ Fr n0 L) ∧ FrameEnd s o s₂ L rc rs
def Con (l : Launch) (Z : State) (y : MethodName) (bytes : ByteArray) (maxL : Nat) (ret : Option FieldType) (rm : Room) (as' : Array Value) (h0 : Heap) (n0 : Nat) (P : Option Value → Heap → Prop) : Prop :=
  ∀ ws, MetFree l y (head1 (Cond.code y bytes maxL ret :: ws) rm) (fun a U => a = as' ∧ Z.Warmed39 U.vm ∧ U.heap = h0) (fun _ _ _ _ _ => True) (fun _ U o U' => ∃ v L, o = .returned v ∧ (P v U'.heap ∧ Fr n0 L) ∧ FrameEnd U o U' L rm.cells rm.slots)
theorem Go.of {T' : State} {g g' : JFrame} (st : ∀ t, Steps p.tables e below (T'.setTop g') t → Steps p.tables e below (T.setTop g) t) (k : Go p e below s n0 rc rs P T' g') : Go p e below s n0 rc rs P T g := by
  obtain ⟨s₂, o, h1, h2⟩ := k
  exact ⟨s₂, o, st _ h1, h2⟩
theorem Go.tr {T' : State} {g g' : JFrame} (st : Steps p.tables e below (T.setTop g) (T'.setTop g')) (k : Go p e below s n0 rc rs P T' g') : Go p e below s n0 rc rs P T g :=
  Go.of (fun _ q => st.trans q) k
theorem Go.imp {P' : Option Value → Heap → Prop} {g : JFrame} (k : Go p e below s n0 rc rs P' T g) (hi : ∀ v h, P' v h → P v h) : Go p e below s n0 rc rs P T g := by
  obtain ⟨s₂, o, h1, h2, h3, v, L, h4, ⟨h5, h6⟩, h7⟩ := k
  exact ⟨s₂, o, h1, h2, h3, v, L, h4, ⟨hi _ _ h5, h6⟩, h7⟩
theorem Con.enter {y : MethodName} {rm : Room} {as' : Array Value} {h0 : Heap} (hpl : plainFor y = true) (hz : n0 ≤ h0.size)
    (body : ∀ p e s m below meth c T, Cx p s m meth c Z bytes y.cls ret maxL → meth.name = y.name → On p l e rm s m as' below meth c n0 T h0 0 0 → Go p e below s n0 rm.cells rm.slots P T (entryFrame m as' maxL)) :
    Con l Z y bytes maxL ret rm as' h0 n0 P := by
  intro ws
  refine MetFree.of_bodySF hpl hisR ?_
  intro p e s m args below meth c s₁ Bd hml0 hP hK
  obtain ⟨rfl, hZ, hh⟩ := hP
  have X0 := Stand.of_body Bd
  have e0 : s₁.heap = h0 := by rw [← hh, Bd.state]; rfl
  exact body p e s m below meth c s₁ ⟨Bd.exec, hZ, Bd.bytes, findClass_of_methodNamed Bd.named, hml0, BodyLoose.notSynchronized Bd, Bd.returns⟩ (name_of_methodNamed Bd.named Bd.method).1 ⟨[], X0, e0, Fr.nil n0, hz⟩
theorem On.sz (X : On p l e R s m args below meth c n0 T h cells slots) : n0 ≤ h.size := X.elim fun _ q => q.2.2.2
theorem Go.cast {g g' : JFrame} (q : g = g') (k : Go p e below s n0 rc rs P T g') : Go p e below s n0 rc rs P T g := q ▸ k
theorem Con.back {y : MethodName} {rm : Room} {as' : Array Value} {W : Nat} {P' : Option Value → Heap → Prop} {cb : ByteArray} {cm : Nat} {cr : Option FieldType} (K : Con l Z y cb cm cr rm as' h n0 P') (hZ : Z.Warmed39 s.vm) (wc : (Cond.code y cb cm cr).before a0 Z = true) (wz : (Cond.initialized y.cls).before a0 Z = true) (hf : rm.frames + 1 ≤ R.frames) (hl : W + (cm + 11) + rm.locals ≤ R.locals) :
    Back l R p e below s args y 3 W (fun A a => a = as' ∧ A.U.heap = h ∧ A.cells + rm.cells ≤ R.cells ∧ A.slots + rm.slots ≤ R.slots)
      (fun A _ v B => ∃ L, (P' v B.U.heap ∧ Fr n0 L) ∧ B.locs = A.locs ++ L ∧ B.cells = A.cells + rm.cells ∧ B.slots = A.slots + rm.slots) :=
  backOf (Q := fun v h L => P' v h ∧ Fr n0 L) (K []) hZ wc wz hf hl
theorem Go.iadd (C : Cx p s m meth c Z bytes own ret maxL) (X : On p l e R s m args below meth c n0 T h cells slots) {x y : Int32} (hd : decode bytes pc = .ok (.iadd, 1))  (hp : pc + 1 = pc') (k : Go p e below s n0 rc rs P T (mkF m pc' Ls (.int (x + y) :: st))) : Go p e below s n0 rc rs P T (mkF m pc Ls (.int y :: .int x :: st)) := by
  obtain ⟨locs, X, eT, N, hn⟩ := X; obtain ⟨hx, hZ, hby, hown, hml, hlk, hrt⟩ := C
  subst hp; exact Go.of (fun t q => XS.iadd X.here hx rfl (hb hby hd) rfl q) k
theorem Go.isub (C : Cx p s m meth c Z bytes own ret maxL) (X : On p l e R s m args below meth c n0 T h cells slots) {x y : Int32} (hd : decode bytes pc = .ok (.isub, 1))  (hp : pc + 1 = pc') (k : Go p e below s n0 rc rs P T (mkF m pc' Ls (.int (x - y) :: st))) : Go p e below s n0 rc rs P T (mkF m pc Ls (.int y :: .int x :: st)) := by
  obtain ⟨locs, X, eT, N, hn⟩ := X; obtain ⟨hx, hZ, hby, hown, hml, hlk, hrt⟩ := C
  subst hp; exact Go.of (fun t q => XS.isub X.here hx rfl (hb hby hd) rfl q) k
theorem Go.imul (C : Cx p s m meth c Z bytes own ret maxL) (X : On p l e R s m args below meth c n0 T h cells slots) {x y : Int32} (hd : decode bytes pc = .ok (.imul, 1))  (hp : pc + 1 = pc') (k : Go p e below s n0 rc rs P T (mkF m pc' Ls (.int (x * y) :: st))) : Go p e below s n0 rc rs P T (mkF m pc Ls (.int y :: .int x :: st)) := by
  obtain ⟨locs, X, eT, N, hn⟩ := X; obtain ⟨hx, hZ, hby, hown, hml, hlk, hrt⟩ := C
  subst hp; exact Go.of (fun t q => XS.imul X.here hx rfl (hb hby hd) rfl q) k
theorem Go.iand (C : Cx p s m meth c Z bytes own ret maxL) (X : On p l e R s m args below meth c n0 T h cells slots) {x y : Int32} (hd : decode bytes pc = .ok (.iand, 1))  (hp : pc + 1 = pc') (k : Go p e below s n0 rc rs P T (mkF m pc' Ls (.int (x &&& y) :: st))) : Go p e below s n0 rc rs P T (mkF m pc Ls (.int y :: .int x :: st)) := by
  obtain ⟨locs, X, eT, N, hn⟩ := X; obtain ⟨hx, hZ, hby, hown, hml, hlk, hrt⟩ := C
  subst hp; exact Go.of (fun t q => XS.iand X.here hx rfl (hb hby hd) rfl q) k
theorem Go.ior (C : Cx p s m meth c Z bytes own ret maxL) (X : On p l e R s m args below meth c n0 T h cells slots) {x y : Int32} (hd : decode bytes pc = .ok (.ior, 1))  (hp : pc + 1 = pc') (k : Go p e below s n0 rc rs P T (mkF m pc' Ls (.int (x ||| y) :: st))) : Go p e below s n0 rc rs P T (mkF m pc Ls (.int y :: .int x :: st)) := by
  obtain ⟨locs, X, eT, N, hn⟩ := X; obtain ⟨hx, hZ, hby, hown, hml, hlk, hrt⟩ := C
  subst hp; exact Go.of (fun t q => XS.ior X.here hx rfl (hb hby hd) rfl q) k
theorem Go.ixor (C : Cx p s m meth c Z bytes own ret maxL) (X : On p l e R s m args below meth c n0 T h cells slots) {x y : Int32} (hd : decode bytes pc = .ok (.ixor, 1))  (hp : pc + 1 = pc') (k : Go p e below s n0 rc rs P T (mkF m pc' Ls (.int (x ^^^ y) :: st))) : Go p e below s n0 rc rs P T (mkF m pc Ls (.int y :: .int x :: st)) := by
  obtain ⟨locs, X, eT, N, hn⟩ := X; obtain ⟨hx, hZ, hby, hown, hml, hlk, hrt⟩ := C
  subst hp; exact Go.of (fun t q => XS.ixor X.here hx rfl (hb hby hd) rfl q) k
theorem Go.ishl (C : Cx p s m meth c Z bytes own ret maxL) (X : On p l e R s m args below meth c n0 T h cells slots) {x y : Int32} (hd : decode bytes pc = .ok (.ishl, 1))  (hp : pc + 1 = pc') (k : Go p e below s n0 rc rs P T (mkF m pc' Ls (.int (x <<< (y &&& 31)) :: st))) : Go p e below s n0 rc rs P T (mkF m pc Ls (.int y :: .int x :: st)) := by
  obtain ⟨locs, X, eT, N, hn⟩ := X; obtain ⟨hx, hZ, hby, hown, hml, hlk, hrt⟩ := C
  subst hp; exact Go.of (fun t q => XS.ishl X.here hx rfl (hb hby hd) rfl q) k
theorem Go.ishr (C : Cx p s m meth c Z bytes own ret maxL) (X : On p l e R s m args below meth c n0 T h cells slots) {x y : Int32} (hd : decode bytes pc = .ok (.ishr, 1))  (hp : pc + 1 = pc') (k : Go p e below s n0 rc rs P T (mkF m pc' Ls (.int (x >>> (y &&& 31)) :: st))) : Go p e below s n0 rc rs P T (mkF m pc Ls (.int y :: .int x :: st)) := by
  obtain ⟨locs, X, eT, N, hn⟩ := X; obtain ⟨hx, hZ, hby, hown, hml, hlk, hrt⟩ := C
  subst hp; exact Go.of (fun t q => XS.ishr X.here hx rfl (hb hby hd) rfl q) k
theorem Go.iushr (C : Cx p s m meth c Z bytes own ret maxL) (X : On p l e R s m args below meth c n0 T h cells slots) {x y : Int32} (hd : decode bytes pc = .ok (.iushr, 1))  (hp : pc + 1 = pc') (k : Go p e below s n0 rc rs P T (mkF m pc' Ls (.int ((x.toUInt32 >>> (y &&& 31).toUInt32).toInt32) :: st))) : Go p e below s n0 rc rs P T (mkF m pc Ls (.int y :: .int x :: st)) := by
  obtain ⟨locs, X, eT, N, hn⟩ := X; obtain ⟨hx, hZ, hby, hown, hml, hlk, hrt⟩ := C
  subst hp; exact Go.of (fun t q => XS.iushr X.here hx rfl (hb hby hd) rfl q) k
theorem Go.ladd (C : Cx p s m meth c Z bytes own ret maxL) (X : On p l e R s m args below meth c n0 T h cells slots) {x y : Int64} (hd : decode bytes pc = .ok (.ladd, 1))  (hp : pc + 1 = pc') (k : Go p e below s n0 rc rs P T (mkF m pc' Ls (.long (x + y) :: st))) : Go p e below s n0 rc rs P T (mkF m pc Ls (.long y :: .long x :: st)) := by
  obtain ⟨locs, X, eT, N, hn⟩ := X; obtain ⟨hx, hZ, hby, hown, hml, hlk, hrt⟩ := C
  subst hp; exact Go.of (fun t q => XS.ladd X.here hx rfl (hb hby hd) rfl q) k
theorem Go.lsub (C : Cx p s m meth c Z bytes own ret maxL) (X : On p l e R s m args below meth c n0 T h cells slots) {x y : Int64} (hd : decode bytes pc = .ok (.lsub, 1))  (hp : pc + 1 = pc') (k : Go p e below s n0 rc rs P T (mkF m pc' Ls (.long (x - y) :: st))) : Go p e below s n0 rc rs P T (mkF m pc Ls (.long y :: .long x :: st)) := by
  obtain ⟨locs, X, eT, N, hn⟩ := X; obtain ⟨hx, hZ, hby, hown, hml, hlk, hrt⟩ := C
  subst hp; exact Go.of (fun t q => XS.lsub X.here hx rfl (hb hby hd) rfl q) k
theorem Go.lmul (C : Cx p s m meth c Z bytes own ret maxL) (X : On p l e R s m args below meth c n0 T h cells slots) {x y : Int64} (hd : decode bytes pc = .ok (.lmul, 1))  (hp : pc + 1 = pc') (k : Go p e below s n0 rc rs P T (mkF m pc' Ls (.long (x * y) :: st))) : Go p e below s n0 rc rs P T (mkF m pc Ls (.long y :: .long x :: st)) := by
  obtain ⟨locs, X, eT, N, hn⟩ := X; obtain ⟨hx, hZ, hby, hown, hml, hlk, hrt⟩ := C
  subst hp; exact Go.of (fun t q => XS.lmul X.here hx rfl (hb hby hd) rfl q) k
theorem Go.land (C : Cx p s m meth c Z bytes own ret maxL) (X : On p l e R s m args below meth c n0 T h cells slots) {x y : Int64} (hd : decode bytes pc = .ok (.land, 1))  (hp : pc + 1 = pc') (k : Go p e below s n0 rc rs P T (mkF m pc' Ls (.long (x &&& y) :: st))) : Go p e below s n0 rc rs P T (mkF m pc Ls (.long y :: .long x :: st)) := by
  obtain ⟨locs, X, eT, N, hn⟩ := X; obtain ⟨hx, hZ, hby, hown, hml, hlk, hrt⟩ := C
  subst hp; exact Go.of (fun t q => XS.land X.here hx rfl (hb hby hd) rfl q) k
theorem Go.lor (C : Cx p s m meth c Z bytes own ret maxL) (X : On p l e R s m args below meth c n0 T h cells slots) {x y : Int64} (hd : decode bytes pc = .ok (.lor, 1))  (hp : pc + 1 = pc') (k : Go p e below s n0 rc rs P T (mkF m pc' Ls (.long (x ||| y) :: st))) : Go p e below s n0 rc rs P T (mkF m pc Ls (.long y :: .long x :: st)) := by
  obtain ⟨locs, X, eT, N, hn⟩ := X; obtain ⟨hx, hZ, hby, hown, hml, hlk, hrt⟩ := C
  subst hp; exact Go.of (fun t q => XS.lor X.here hx rfl (hb hby hd) rfl q) k
theorem Go.lxor (C : Cx p s m meth c Z bytes own ret maxL) (X : On p l e R s m args below meth c n0 T h cells slots) {x y : Int64} (hd : decode bytes pc = .ok (.lxor, 1))  (hp : pc + 1 = pc') (k : Go p e below s n0 rc rs P T (mkF m pc' Ls (.long (x ^^^ y) :: st))) : Go p e below s n0 rc rs P T (mkF m pc Ls (.long y :: .long x :: st)) := by
  obtain ⟨locs, X, eT, N, hn⟩ := X; obtain ⟨hx, hZ, hby, hown, hml, hlk, hrt⟩ := C
  subst hp; exact Go.of (fun t q => XS.lxor X.here hx rfl (hb hby hd) rfl q) k
theorem Go.lshl (C : Cx p s m meth c Z bytes own ret maxL) (X : On p l e R s m args below meth c n0 T h cells slots) {x : Int64} {y : Int32} (hd : decode bytes pc = .ok (.lshl, 1))  (hp : pc + 1 = pc') (k : Go p e below s n0 rc rs P T (mkF m pc' Ls (.long (x <<< (y &&& 0x3f).toInt64) :: st))) : Go p e below s n0 rc rs P T (mkF m pc Ls (.int y :: .long x :: st)) := by
  obtain ⟨locs, X, eT, N, hn⟩ := X; obtain ⟨hx, hZ, hby, hown, hml, hlk, hrt⟩ := C
  subst hp; exact Go.of (fun t q => XS.lshl X.here hx rfl (hb hby hd) rfl q) k
theorem Go.lshr (C : Cx p s m meth c Z bytes own ret maxL) (X : On p l e R s m args below meth c n0 T h cells slots) {x : Int64} {y : Int32} (hd : decode bytes pc = .ok (.lshr, 1))  (hp : pc + 1 = pc') (k : Go p e below s n0 rc rs P T (mkF m pc' Ls (.long (x >>> (y &&& 0x3f).toInt64) :: st))) : Go p e below s n0 rc rs P T (mkF m pc Ls (.int y :: .long x :: st)) := by
  obtain ⟨locs, X, eT, N, hn⟩ := X; obtain ⟨hx, hZ, hby, hown, hml, hlk, hrt⟩ := C
  subst hp; exact Go.of (fun t q => XS.lshr X.here hx rfl (hb hby hd) rfl q) k
theorem Go.lushr (C : Cx p s m meth c Z bytes own ret maxL) (X : On p l e R s m args below meth c n0 T h cells slots) {x : Int64} {y : Int32} (hd : decode bytes pc = .ok (.lushr, 1))  (hp : pc + 1 = pc') (k : Go p e below s n0 rc rs P T (mkF m pc' Ls (.long ((x.toUInt64 >>> (y &&& 0x3f).toInt64.toUInt64).toInt64) :: st))) : Go p e below s n0 rc rs P T (mkF m pc Ls (.int y :: .long x :: st)) := by
  obtain ⟨locs, X, eT, N, hn⟩ := X; obtain ⟨hx, hZ, hby, hown, hml, hlk, hrt⟩ := C
  subst hp; exact Go.of (fun t q => XS.lushr X.here hx rfl (hb hby hd) rfl q) k
theorem Go.i2l (C : Cx p s m meth c Z bytes own ret maxL) (X : On p l e R s m args below meth c n0 T h cells slots) {x : Int32} (hd : decode bytes pc = .ok (.i2l, 1))  (hp : pc + 1 = pc') (k : Go p e below s n0 rc rs P T (mkF m pc' Ls (.long (x.toInt64) :: st))) : Go p e below s n0 rc rs P T (mkF m pc Ls (.int x :: st)) := by
  obtain ⟨locs, X, eT, N, hn⟩ := X; obtain ⟨hx, hZ, hby, hown, hml, hlk, hrt⟩ := C
  subst hp; exact Go.of (fun t q => XS.i2l X.here hx rfl (hb hby hd) rfl q) k
theorem Go.l2i (C : Cx p s m meth c Z bytes own ret maxL) (X : On p l e R s m args below meth c n0 T h cells slots) {x : Int64} (hd : decode bytes pc = .ok (.l2i, 1))  (hp : pc + 1 = pc') (k : Go p e below s n0 rc rs P T (mkF m pc' Ls (.int (x.toInt32) :: st))) : Go p e below s n0 rc rs P T (mkF m pc Ls (.long x :: st)) := by
  obtain ⟨locs, X, eT, N, hn⟩ := X; obtain ⟨hx, hZ, hby, hown, hml, hlk, hrt⟩ := C
  subst hp; exact Go.of (fun t q => XS.l2i X.here hx rfl (hb hby hd) rfl q) k
theorem Go.i2b (C : Cx p s m meth c Z bytes own ret maxL) (X : On p l e R s m args below meth c n0 T h cells slots) {x : Int32} (hd : decode bytes pc = .ok (.i2b, 1))  (hp : pc + 1 = pc') (k : Go p e below s n0 rc rs P T (mkF m pc' Ls (.int (x.toInt8.toInt32) :: st))) : Go p e below s n0 rc rs P T (mkF m pc Ls (.int x :: st)) := by
  obtain ⟨locs, X, eT, N, hn⟩ := X; obtain ⟨hx, hZ, hby, hown, hml, hlk, hrt⟩ := C
  subst hp; exact Go.of (fun t q => XS.i2b X.here hx rfl (hb hby hd) rfl q) k
theorem Go.i2s (C : Cx p s m meth c Z bytes own ret maxL) (X : On p l e R s m args below meth c n0 T h cells slots) {x : Int32} (hd : decode bytes pc = .ok (.i2s, 1))  (hp : pc + 1 = pc') (k : Go p e below s n0 rc rs P T (mkF m pc' Ls (.int (x.toInt16.toInt32) :: st))) : Go p e below s n0 rc rs P T (mkF m pc Ls (.int x :: st)) := by
  obtain ⟨locs, X, eT, N, hn⟩ := X; obtain ⟨hx, hZ, hby, hown, hml, hlk, hrt⟩ := C
  subst hp; exact Go.of (fun t q => XS.i2s X.here hx rfl (hb hby hd) rfl q) k
theorem Go.i2c (C : Cx p s m meth c Z bytes own ret maxL) (X : On p l e R s m args below meth c n0 T h cells slots) {x : Int32} (hd : decode bytes pc = .ok (.i2c, 1))  (hp : pc + 1 = pc') (k : Go p e below s n0 rc rs P T (mkF m pc' Ls (.int (x.toUInt32.toUInt16.toUInt32.toInt32) :: st))) : Go p e below s n0 rc rs P T (mkF m pc Ls (.int x :: st)) := by
  obtain ⟨locs, X, eT, N, hn⟩ := X; obtain ⟨hx, hZ, hby, hown, hml, hlk, hrt⟩ := C
  subst hp; exact Go.of (fun t q => XS.i2c X.here hx rfl (hb hby hd) rfl q) k
theorem Go.lneg (C : Cx p s m meth c Z bytes own ret maxL) (X : On p l e R s m args below meth c n0 T h cells slots) {x : Int64} (hd : decode bytes pc = .ok (.lneg, 1))  (hp : pc + 1 = pc') (k : Go p e below s n0 rc rs P T (mkF m pc' Ls (.long (-x) :: st))) : Go p e below s n0 rc rs P T (mkF m pc Ls (.long x :: st)) := by
  obtain ⟨locs, X, eT, N, hn⟩ := X; obtain ⟨hx, hZ, hby, hown, hml, hlk, hrt⟩ := C
  subst hp; exact Go.of (fun t q => XS.lneg X.here hx rfl (hb hby hd) rfl q) k
theorem Go.ineg (C : Cx p s m meth c Z bytes own ret maxL) (X : On p l e R s m args below meth c n0 T h cells slots) {x : Int32} (hd : decode bytes pc = .ok (.ineg, 1))  (hp : pc + 1 = pc') (k : Go p e below s n0 rc rs P T (mkF m pc' Ls (.int (-x) :: st))) : Go p e below s n0 rc rs P T (mkF m pc Ls (.int x :: st)) := by
  obtain ⟨locs, X, eT, N, hn⟩ := X; obtain ⟨hx, hZ, hby, hown, hml, hlk, hrt⟩ := C
  subst hp; exact Go.of (fun t q => XS.ineg X.here hx rfl (hb hby hd) rfl q) k
theorem Go.idiv (C : Cx p s m meth c Z bytes own ret maxL) (X : On p l e R s m args below meth c n0 T h cells slots) {x y : Int32} (hd : decode bytes pc = .ok (.idiv, 1)) (hy : y ≠ 0) (hp : pc + 1 = pc') (k : Go p e below s n0 rc rs P T (mkF m pc' Ls (.int (x / y) :: st))) : Go p e below s n0 rc rs P T (mkF m pc Ls (.int y :: .int x :: st)) := by
  obtain ⟨locs, X, eT, N, hn⟩ := X; obtain ⟨hx, hZ, hby, hown, hml, hlk, hrt⟩ := C
  subst hp; exact Go.of (fun t q => XS.idiv X.here hx rfl (hb hby hd) rfl hy q) k
theorem Go.ldiv (C : Cx p s m meth c Z bytes own ret maxL) (X : On p l e R s m args below meth c n0 T h cells slots) {x y : Int64} (hd : decode bytes pc = .ok (.ldiv, 1)) (hy : y ≠ 0) (hp : pc + 1 = pc') (k : Go p e below s n0 rc rs P T (mkF m pc' Ls (.long (x / y) :: st))) : Go p e below s n0 rc rs P T (mkF m pc Ls (.long y :: .long x :: st)) := by
  obtain ⟨locs, X, eT, N, hn⟩ := X; obtain ⟨hx, hZ, hby, hown, hml, hlk, hrt⟩ := C
  subst hp; exact Go.of (fun t q => XS.ldiv X.here hx rfl (hb hby hd) rfl hy q) k
theorem Go.irem (C : Cx p s m meth c Z bytes own ret maxL) (X : On p l e R s m args below meth c n0 T h cells slots) {x y : Int32} (hd : decode bytes pc = .ok (.irem, 1)) (hy : y ≠ 0) (hp : pc + 1 = pc') (k : Go p e below s n0 rc rs P T (mkF m pc' Ls (.int (x % y) :: st))) : Go p e below s n0 rc rs P T (mkF m pc Ls (.int y :: .int x :: st)) := by
  obtain ⟨locs, X, eT, N, hn⟩ := X; obtain ⟨hx, hZ, hby, hown, hml, hlk, hrt⟩ := C
  subst hp; exact Go.of (fun t q => iremM X hx rfl (hb hby hd) rfl hy q) k
theorem Go.lrem (C : Cx p s m meth c Z bytes own ret maxL) (X : On p l e R s m args below meth c n0 T h cells slots) {x y : Int64} (hd : decode bytes pc = .ok (.lrem, 1)) (hy : y ≠ 0) (hp : pc + 1 = pc') (k : Go p e below s n0 rc rs P T (mkF m pc' Ls (.long (x % y) :: st))) : Go p e below s n0 rc rs P T (mkF m pc Ls (.long y :: .long x :: st)) := by
  obtain ⟨locs, X, eT, N, hn⟩ := X; obtain ⟨hx, hZ, hby, hown, hml, hlk, hrt⟩ := C
  subst hp; rw [← lrem_mod] at k; exact Go.of (fun t q => XS.lrem X.here hx rfl (hb hby hd) rfl hy q) k
theorem Go.lcmp (C : Cx p s m meth c Z bytes own ret maxL) (X : On p l e R s m args below meth c n0 T h cells slots) {x y : Int64} (hd : decode bytes pc = .ok (.lcmp, 1))  (hp : pc + 1 = pc') (k : Go p e below s n0 rc rs P T (mkF m pc' Ls (.int (lcmpW x y) :: st))) : Go p e below s n0 rc rs P T (mkF m pc Ls (.long y :: .long x :: st)) := by
  obtain ⟨locs, X, eT, N, hn⟩ := X; obtain ⟨hx, hZ, hby, hown, hml, hlk, hrt⟩ := C
  subst hp; exact Go.of (fun t q => XS.lcmp X.here hx rfl (hb hby hd) rfl q) k
theorem Go.dup (C : Cx p s m meth c Z bytes own ret maxL) (X : On p l e R s m args below meth c n0 T h cells slots) {v : Value} (hd : decode bytes pc = .ok (.dup, 1)) (hc : v.category = 1) (hp : pc + 1 = pc') (k : Go p e below s n0 rc rs P T (mkF m pc' Ls (v :: v :: st))) : Go p e below s n0 rc rs P T (mkF m pc Ls (v :: st)) := by
  obtain ⟨locs, X, eT, N, hn⟩ := X; obtain ⟨hx, hZ, hby, hown, hml, hlk, hrt⟩ := C
  subst hp; exact Go.of (fun t q => XS.dup X.here hx rfl (hb hby hd) rfl hc q) k
theorem Go.pop (C : Cx p s m meth c Z bytes own ret maxL) (X : On p l e R s m args below meth c n0 T h cells slots) {v : Value} (hd : decode bytes pc = .ok (.pop, 1)) (hc : v.category = 1) (hp : pc + 1 = pc') (k : Go p e below s n0 rc rs P T (mkF m pc' Ls st)) : Go p e below s n0 rc rs P T (mkF m pc Ls (v :: st)) := by
  obtain ⟨locs, X, eT, N, hn⟩ := X; obtain ⟨hx, hZ, hby, hown, hml, hlk, hrt⟩ := C
  subst hp; exact Go.of (fun t q => XS.pop X.here hx rfl (hb hby hd) rfl hc q) k
theorem Go.dup_x1 (C : Cx p s m meth c Z bytes own ret maxL) (X : On p l e R s m args below meth c n0 T h cells slots) {v u : Value} (hd : decode bytes pc = .ok (.dup_x1, 1)) (hc : v.category = 1) (hc2 : u.category = 1) (hp : pc + 1 = pc') (k : Go p e below s n0 rc rs P T (mkF m pc' Ls (v :: u :: v :: st))) : Go p e below s n0 rc rs P T (mkF m pc Ls (v :: u :: st)) := by
  obtain ⟨locs, X, eT, N, hn⟩ := X; obtain ⟨hx, hZ, hby, hown, hml, hlk, hrt⟩ := C
  subst hp; exact Go.of (fun t q => XS.dupX1 X.here hx rfl (hb hby hd) rfl hc hc2 q) k
theorem Go.dup2 (C : Cx p s m meth c Z bytes own ret maxL) (X : On p l e R s m args below meth c n0 T h cells slots) {v u : Value} (hd : decode bytes pc = .ok (.dup2, 1)) (hc : v.category = 1) (hc2 : u.category = 1) (hp : pc + 1 = pc') (k : Go p e below s n0 rc rs P T (mkF m pc' Ls (v :: u :: v :: u :: st))) : Go p e below s n0 rc rs P T (mkF m pc Ls (v :: u :: st)) := by
  obtain ⟨locs, X, eT, N, hn⟩ := X; obtain ⟨hx, hZ, hby, hown, hml, hlk, hrt⟩ := C
  subst hp; exact Go.of (fun t q => Jvm.Free.XT.dup2 X.here hx rfl (hb hby hd) rfl hc hc2 q) k
theorem Go.dup2L (C : Cx p s m meth c Z bytes own ret maxL) (X : On p l e R s m args below meth c n0 T h cells slots) {x : Int64} (hd : decode bytes pc = .ok (.dup2, 1))  (hp : pc + 1 = pc') (k : Go p e below s n0 rc rs P T (mkF m pc' Ls (.long x :: .long x :: st))) : Go p e below s n0 rc rs P T (mkF m pc Ls (.long x :: st)) := by
  obtain ⟨locs, X, eT, N, hn⟩ := X; obtain ⟨hx, hZ, hby, hown, hml, hlk, hrt⟩ := C
  subst hp; exact Go.of (fun t q => Jvm.Free.XT.dup2L X.here hx rfl (hb hby hd) rfl q) k
theorem Go.iconst (C : Cx p s m meth c Z bytes own ret maxL) (X : On p l e R s m args below meth c n0 T h cells slots) {i : Int} {v : Int32} (hd : decode bytes pc = .ok (.iconst i, 1)) (hv : Int32.ofInt i = v) (hp : pc + 1 = pc') (k : Go p e below s n0 rc rs P T (mkF m pc' Ls (.int v :: st))) : Go p e below s n0 rc rs P T (mkF m pc Ls st) := by
  obtain ⟨locs, X, eT, N, hn⟩ := X; obtain ⟨hx, hZ, hby, hown, hml, hlk, hrt⟩ := C
  subst hp hv; exact Go.of (fun t q => XS.iconst X.here hx rfl (hb hby hd) q) k
theorem Go.bipush (C : Cx p s m meth c Z bytes own ret maxL) (X : On p l e R s m args below meth c n0 T h cells slots) {i : Int} {v : Int32} (hd : decode bytes pc = .ok (.bipush i, 2)) (hv : (Int8.ofInt i).toInt32 = v) (hp : pc + 2 = pc') (k : Go p e below s n0 rc rs P T (mkF m pc' Ls (.int v :: st))) : Go p e below s n0 rc rs P T (mkF m pc Ls st) := by
  obtain ⟨locs, X, eT, N, hn⟩ := X; obtain ⟨hx, hZ, hby, hown, hml, hlk, hrt⟩ := C
  subst hp hv; exact Go.of (fun t q => XS.bipush X.here hx rfl (hb hby hd) q) k
theorem Go.sipush (C : Cx p s m meth c Z bytes own ret maxL) (X : On p l e R s m args below meth c n0 T h cells slots) {i : Int} {v : Int32} (hd : decode bytes pc = .ok (.sipush i, 3)) (hv : (Int16.ofInt i).toInt32 = v) (hp : pc + 3 = pc') (k : Go p e below s n0 rc rs P T (mkF m pc' Ls (.int v :: st))) : Go p e below s n0 rc rs P T (mkF m pc Ls st) := by
  obtain ⟨locs, X, eT, N, hn⟩ := X; obtain ⟨hx, hZ, hby, hown, hml, hlk, hrt⟩ := C
  subst hp hv; exact Go.of (fun t q => XS.sipush X.here hx rfl (hb hby hd) q) k
theorem Go.lconst (C : Cx p s m meth c Z bytes own ret maxL) (X : On p l e R s m args below meth c n0 T h cells slots) {i : Fin 2} {v : Int64} (hd : decode bytes pc = .ok (.lconst i, 1)) (hv : Int64.ofNat i = v) (hp : pc + 1 = pc') (k : Go p e below s n0 rc rs P T (mkF m pc' Ls (.long v :: st))) : Go p e below s n0 rc rs P T (mkF m pc Ls st) := by
  obtain ⟨locs, X, eT, N, hn⟩ := X; obtain ⟨hx, hZ, hby, hown, hml, hlk, hrt⟩ := C
  subst hp hv; exact Go.of (fun t q => XS.lconst X.here hx rfl (hb hby hd) q) k
theorem Go.aconst_null (C : Cx p s m meth c Z bytes own ret maxL) (X : On p l e R s m args below meth c n0 T h cells slots)  (hd : decode bytes pc = .ok (.aconst_null, 1))  (hp : pc + 1 = pc') (k : Go p e below s n0 rc rs P T (mkF m pc' Ls (.null :: st))) : Go p e below s n0 rc rs P T (mkF m pc Ls st) := by
  obtain ⟨locs, X, eT, N, hn⟩ := X; obtain ⟨hx, hZ, hby, hown, hml, hlk, hrt⟩ := C
  subst hp; exact Go.of (fun t q => XS.aconstNull X.here hx rfl (hb hby hd)  q) k
theorem Go.ldc (C : Cx p s m meth c Z bytes own ret maxL) (X : On p l e R s m args below meth c n0 T h cells slots) {i : Nat} {v : Int32} (hc : (Cond.constant own i v).before a0 Z = true) (hd : decode bytes pc = .ok (.ldc i, 2)) (hp : pc + 2 = pc') (k : Go p e below s n0 rc rs P T (mkF m pc' Ls (.int v :: st))) : Go p e below s n0 rc rs P T (mkF m pc Ls st) := by
  obtain ⟨locs, X, eT, N, hn⟩ := X; obtain ⟨hx, hZ, hby, hown, hml, hlk, hrt⟩ := C
  subst hp; exact Go.of (X.ldcInt hx hown (mvT hZ hc) (g := mkF m pc Ls st) rfl (hb hby hd)) k
theorem Go.ldc2 (C : Cx p s m meth c Z bytes own ret maxL) (X : On p l e R s m args below meth c n0 T h cells slots) {i : Nat} {v : Int64} (hc : (Cond.constantLong own i v).before a0 Z = true) (hd : decode bytes pc = .ok (.ldc2_w i, 3)) (hp : pc + 3 = pc') (k : Go p e below s n0 rc rs P T (mkF m pc' Ls (.long v :: st))) : Go p e below s n0 rc rs P T (mkF m pc Ls st) := by
  obtain ⟨locs, X, eT, N, hn⟩ := X; obtain ⟨hx, hZ, hby, hown, hml, hlk, hrt⟩ := C
  subst hp; exact Go.of (X.ldc2Long hx hown (mvT hZ hc) (g := mkF m pc Ls st) rfl (hb hby hd)) k
theorem Go.iload (C : Cx p s m meth c Z bytes own ret maxL) (X : On p l e R s m args below meth c n0 T h cells slots) {i : Nat} {v : Int32} (hd : decode bytes pc = .ok (.iload i, 2)) (hl : Ls[i]? = some (.val (.int v))) (hp : pc + 2 = pc') (k : Go p e below s n0 rc rs P T (mkF m pc' Ls (.int v :: st))) : Go p e below s n0 rc rs P T (mkF m pc Ls st) := by
  obtain ⟨locs, X, eT, N, hn⟩ := X; obtain ⟨hx, hZ, hby, hown, hml, hlk, hrt⟩ := C
  subst hp; exact Go.of (fun t q => XS.iload X.here hx rfl (hb hby hd) hl q) k
theorem Go.iloadN (C : Cx p s m meth c Z bytes own ret maxL) (X : On p l e R s m args below meth c n0 T h cells slots) {i : Fin 4} {v : Int32} (hd : decode bytes pc = .ok (.iload_n i, 1)) (hl : Ls[i.val]? = some (.val (.int v))) (hp : pc + 1 = pc') (k : Go p e below s n0 rc rs P T (mkF m pc' Ls (.int v :: st))) : Go p e below s n0 rc rs P T (mkF m pc Ls st) := by
  obtain ⟨locs, X, eT, N, hn⟩ := X; obtain ⟨hx, hZ, hby, hown, hml, hlk, hrt⟩ := C
  subst hp; exact Go.of (fun t q => XS.iloadN X.here hx rfl (hb hby hd) hl q) k
theorem Go.istore (C : Cx p s m meth c Z bytes own ret maxL) (X : On p l e R s m args below meth c n0 T h cells slots) {i : Nat} {v : Int32} {Ls' : Array Slot} (hd : decode bytes pc = .ok (.istore i, 2)) (hl : storeLocals Ls i (.int v) = some Ls') (hp : pc + 2 = pc') (k : Go p e below s n0 rc rs P T (mkF m pc' Ls' st)) : Go p e below s n0 rc rs P T (mkF m pc Ls (.int v :: st)) := by
  obtain ⟨locs, X, eT, N, hn⟩ := X; obtain ⟨hx, hZ, hby, hown, hml, hlk, hrt⟩ := C
  subst hp; exact Go.of (fun t q => XS.istore X.here hx rfl (hb hby hd) rfl hl q) k
theorem Go.istoreN (C : Cx p s m meth c Z bytes own ret maxL) (X : On p l e R s m args below meth c n0 T h cells slots) {i : Fin 4} {v : Int32} {Ls' : Array Slot} (hd : decode bytes pc = .ok (.istore_n i, 1)) (hl : storeLocals Ls i.val (.int v) = some Ls') (hp : pc + 1 = pc') (k : Go p e below s n0 rc rs P T (mkF m pc' Ls' st)) : Go p e below s n0 rc rs P T (mkF m pc Ls (.int v :: st)) := by
  obtain ⟨locs, X, eT, N, hn⟩ := X; obtain ⟨hx, hZ, hby, hown, hml, hlk, hrt⟩ := C
  subst hp; exact Go.of (fun t q => XS.istoreN X.here hx rfl (hb hby hd) rfl hl q) k
theorem Go.lload (C : Cx p s m meth c Z bytes own ret maxL) (X : On p l e R s m args below meth c n0 T h cells slots) {i : Nat} {v : Int64} (hd : decode bytes pc = .ok (.lload i, 2)) (hl : Ls[i]? = some (.val (.long v))) (hp : pc + 2 = pc') (k : Go p e below s n0 rc rs P T (mkF m pc' Ls (.long v :: st))) : Go p e below s n0 rc rs P T (mkF m pc Ls st) := by
  obtain ⟨locs, X, eT, N, hn⟩ := X; obtain ⟨hx, hZ, hby, hown, hml, hlk, hrt⟩ := C
  subst hp; exact Go.of (fun t q => XS.lload X.here hx rfl (hb hby hd) hl q) k
theorem Go.lloadN (C : Cx p s m meth c Z bytes own ret maxL) (X : On p l e R s m args below meth c n0 T h cells slots) {i : Fin 4} {v : Int64} (hd : decode bytes pc = .ok (.lload_n i, 1)) (hl : Ls[i.val]? = some (.val (.long v))) (hp : pc + 1 = pc') (k : Go p e below s n0 rc rs P T (mkF m pc' Ls (.long v :: st))) : Go p e below s n0 rc rs P T (mkF m pc Ls st) := by
  obtain ⟨locs, X, eT, N, hn⟩ := X; obtain ⟨hx, hZ, hby, hown, hml, hlk, hrt⟩ := C
  subst hp; exact Go.of (fun t q => XS.lloadN X.here hx rfl (hb hby hd) hl q) k
theorem Go.lstore (C : Cx p s m meth c Z bytes own ret maxL) (X : On p l e R s m args below meth c n0 T h cells slots) {i : Nat} {v : Int64} {Ls' : Array Slot} (hd : decode bytes pc = .ok (.lstore i, 2)) (hl : storeLocals Ls i (.long v) = some Ls') (hp : pc + 2 = pc') (k : Go p e below s n0 rc rs P T (mkF m pc' Ls' st)) : Go p e below s n0 rc rs P T (mkF m pc Ls (.long v :: st)) := by
  obtain ⟨locs, X, eT, N, hn⟩ := X; obtain ⟨hx, hZ, hby, hown, hml, hlk, hrt⟩ := C
  subst hp; exact Go.of (fun t q => XS.lstore X.here hx rfl (hb hby hd) rfl hl q) k
theorem Go.lstoreN (C : Cx p s m meth c Z bytes own ret maxL) (X : On p l e R s m args below meth c n0 T h cells slots) {i : Fin 4} {v : Int64} {Ls' : Array Slot} (hd : decode bytes pc = .ok (.lstore_n i, 1)) (hl : storeLocals Ls i.val (.long v) = some Ls') (hp : pc + 1 = pc') (k : Go p e below s n0 rc rs P T (mkF m pc' Ls' st)) : Go p e below s n0 rc rs P T (mkF m pc Ls (.long v :: st)) := by
  obtain ⟨locs, X, eT, N, hn⟩ := X; obtain ⟨hx, hZ, hby, hown, hml, hlk, hrt⟩ := C
  subst hp; exact Go.of (fun t q => XS.lstoreN X.here hx rfl (hb hby hd) rfl hl q) k
theorem Go.aload (C : Cx p s m meth c Z bytes own ret maxL) (X : On p l e R s m args below meth c n0 T h cells slots) {i : Nat} {v : Value} (hd : decode bytes pc = .ok (.aload i, 2)) (hl : Ls[i]? = some (.val v)) (hv : v.isRef = true) (hp : pc + 2 = pc') (k : Go p e below s n0 rc rs P T (mkF m pc' Ls (v :: st))) : Go p e below s n0 rc rs P T (mkF m pc Ls st) := by
  obtain ⟨locs, X, eT, N, hn⟩ := X; obtain ⟨hx, hZ, hby, hown, hml, hlk, hrt⟩ := C
  subst hp; exact Go.of (fun t q => XS.aload X.here hx rfl (hb hby hd) hl hv q) k
theorem Go.aloadN (C : Cx p s m meth c Z bytes own ret maxL) (X : On p l e R s m args below meth c n0 T h cells slots) {i : Fin 4} {v : Value} (hd : decode bytes pc = .ok (.aload_n i, 1)) (hl : Ls[i.val]? = some (.val v)) (hv : v.isRef = true) (hp : pc + 1 = pc') (k : Go p e below s n0 rc rs P T (mkF m pc' Ls (v :: st))) : Go p e below s n0 rc rs P T (mkF m pc Ls st) := by
  obtain ⟨locs, X, eT, N, hn⟩ := X; obtain ⟨hx, hZ, hby, hown, hml, hlk, hrt⟩ := C
  subst hp; exact Go.of (fun t q => XS.aloadN X.here hx rfl (hb hby hd) hl hv q) k
theorem Go.astore (C : Cx p s m meth c Z bytes own ret maxL) (X : On p l e R s m args below meth c n0 T h cells slots) {i : Nat} {v : Value} {Ls' : Array Slot} (hd : decode bytes pc = .ok (.astore i, 2)) (hv : v.isRef = true) (hl : storeLocals Ls i v = some Ls') (hp : pc + 2 = pc') (k : Go p e below s n0 rc rs P T (mkF m pc' Ls' st)) : Go p e below s n0 rc rs P T (mkF m pc Ls (v :: st)) := by
  obtain ⟨locs, X, eT, N, hn⟩ := X; obtain ⟨hx, hZ, hby, hown, hml, hlk, hrt⟩ := C
  subst hp; exact Go.of (fun t q => XS.astore X.here hx rfl (hb hby hd) rfl hv hl q) k
theorem Go.astoreN (C : Cx p s m meth c Z bytes own ret maxL) (X : On p l e R s m args below meth c n0 T h cells slots) {i : Fin 4} {v : Value} {Ls' : Array Slot} (hd : decode bytes pc = .ok (.astore_n i, 1)) (hv : v.isRef = true) (hl : storeLocals Ls i.val v = some Ls') (hp : pc + 1 = pc') (k : Go p e below s n0 rc rs P T (mkF m pc' Ls' st)) : Go p e below s n0 rc rs P T (mkF m pc Ls (v :: st)) := by
  obtain ⟨locs, X, eT, N, hn⟩ := X; obtain ⟨hx, hZ, hby, hown, hml, hlk, hrt⟩ := C
  subst hp; exact Go.of (fun t q => XS.astoreN X.here hx rfl (hb hby hd) rfl hv hl q) k
theorem Go.iinc (C : Cx p s m meth c Z bytes own ret maxL) (X : On p l e R s m args below meth c n0 T h cells slots) {i : Nat} {d : Int} {v v' : Int32} {Ls' : Array Slot} (hd : decode bytes pc = .ok (.iinc i d, 3)) (hl : Ls[i]? = some (.val (.int v))) (hv : v + Int32.ofInt d = v') (hl' : storeLocals Ls i (.int v') = some Ls') (hp : pc + 3 = pc') (k : Go p e below s n0 rc rs P T (mkF m pc' Ls' st)) : Go p e below s n0 rc rs P T (mkF m pc Ls st) := by
  obtain ⟨locs, X, eT, N, hn⟩ := X; obtain ⟨hx, hZ, hby, hown, hml, hlk, hrt⟩ := C
  subst hp hv; exact Go.of (fun t q => XS.iinc X.here hx rfl (hb hby hd) hl hl' q) k
theorem Go.goto (C : Cx p s m meth c Z bytes own ret maxL) (X : On p l e R s m args below meth c n0 T h cells slots) {o : Int} (hd : decode bytes pc = .ok (.goto o, 3)) (ho : 0 ≤ (pc : Int) + o) (hp : ((pc : Int) + o).toNat = pc') (k : Go p e below s n0 rc rs P T (mkF m pc' Ls st)) : Go p e below s n0 rc rs P T (mkF m pc Ls st) := by
  obtain ⟨locs, X, eT, N, hn⟩ := X; obtain ⟨hx, hZ, hby, hown, hml, hlk, hrt⟩ := C
  exact Go.of (fun t q => XS.goto X.here hx rfl (pc0 := pc) rfl (hb hby hd) ho hp q) k
theorem Go.ifYes (C : Cx p s m meth c Z bytes own ret maxL) (X : On p l e R s m args below meth c n0 T h cells slots) {o : Int} {cd : ClassFile.Cond} {x : Int32} (hd : decode bytes pc = .ok (.ifCond cd o, 3)) (hc : ifCond.holds cd x = true) (ho : 0 ≤ (pc : Int) + o) (hp : ((pc : Int) + o).toNat = pc') (k : Go p e below s n0 rc rs P T (mkF m pc' Ls st)) : Go p e below s n0 rc rs P T (mkF m pc Ls (.int x :: st)) := by
  obtain ⟨locs, X, eT, N, hn⟩ := X; obtain ⟨hx, hZ, hby, hown, hml, hlk, hrt⟩ := C
  exact Go.of (fun t q => XS.ifYes X.here hx rfl (pc0 := pc) rfl (hb hby hd) rfl hc ho hp q) k
theorem Go.ifNo (C : Cx p s m meth c Z bytes own ret maxL) (X : On p l e R s m args below meth c n0 T h cells slots) {o : Int} {cd : ClassFile.Cond} {x : Int32} (hd : decode bytes pc = .ok (.ifCond cd o, 3)) (hc : ifCond.holds cd x = false) (hp : pc + 3 = pc') (k : Go p e below s n0 rc rs P T (mkF m pc' Ls st)) : Go p e below s n0 rc rs P T (mkF m pc Ls (.int x :: st)) := by
  obtain ⟨locs, X, eT, N, hn⟩ := X; obtain ⟨hx, hZ, hby, hown, hml, hlk, hrt⟩ := C
  subst hp; exact Go.of (fun t q => XS.ifNo X.here hx rfl (hb hby hd) rfl hc q) k
theorem Go.icmpYes (C : Cx p s m meth c Z bytes own ret maxL) (X : On p l e R s m args below meth c n0 T h cells slots) {o : Int} {cd : ClassFile.Cond} {x y : Int32} (hd : decode bytes pc = .ok (.if_icmp cd o, 3)) (hc : if_icmp.holds cd x y = true) (ho : 0 ≤ (pc : Int) + o) (hp : ((pc : Int) + o).toNat = pc') (k : Go p e below s n0 rc rs P T (mkF m pc' Ls st)) : Go p e below s n0 rc rs P T (mkF m pc Ls (.int y :: .int x :: st)) := by
  obtain ⟨locs, X, eT, N, hn⟩ := X; obtain ⟨hx, hZ, hby, hown, hml, hlk, hrt⟩ := C
  exact Go.of (fun t q => XS.icmpYes X.here hx rfl (pc0 := pc) rfl (hb hby hd) rfl hc ho hp q) k
theorem Go.icmpNo (C : Cx p s m meth c Z bytes own ret maxL) (X : On p l e R s m args below meth c n0 T h cells slots) {o : Int} {cd : ClassFile.Cond} {x y : Int32} (hd : decode bytes pc = .ok (.if_icmp cd o, 3)) (hc : if_icmp.holds cd x y = false) (hp : pc + 3 = pc') (k : Go p e below s n0 rc rs P T (mkF m pc' Ls st)) : Go p e below s n0 rc rs P T (mkF m pc Ls (.int y :: .int x :: st)) := by
  obtain ⟨locs, X, eT, N, hn⟩ := X; obtain ⟨hx, hZ, hby, hown, hml, hlk, hrt⟩ := C
  subst hp; exact Go.of (fun t q => XS.icmpNo X.here hx rfl (hb hby hd) rfl hc q) k
theorem Go.acmpYes (C : Cx p s m meth c Z bytes own ret maxL) (X : On p l e R s m args below meth c n0 T h cells slots) {o : Int} {cd : ClassFile.ACond} {a b : Addr} (hd : decode bytes pc = .ok (.if_acmp cd o, 3)) (hc : if_acmp.holds cd (some a) (some b) = true) (ho : 0 ≤ (pc : Int) + o) (hp : ((pc : Int) + o).toNat = pc') (k : Go p e below s n0 rc rs P T (mkF m pc' Ls st)) : Go p e below s n0 rc rs P T (mkF m pc Ls (.ref b :: .ref a :: st)) := by
  obtain ⟨locs, X, eT, N, hn⟩ := X; obtain ⟨hx, hZ, hby, hown, hml, hlk, hrt⟩ := C
  exact Go.of (fun t q => XS.acmpYes X.here hx rfl (pc0 := pc) rfl (hb hby hd) rfl hc ho hp q) k
theorem Go.acmpNo (C : Cx p s m meth c Z bytes own ret maxL) (X : On p l e R s m args below meth c n0 T h cells slots) {o : Int} {cd : ClassFile.ACond} {a b : Addr} (hd : decode bytes pc = .ok (.if_acmp cd o, 3)) (hc : if_acmp.holds cd (some a) (some b) = false) (hp : pc + 3 = pc') (k : Go p e below s n0 rc rs P T (mkF m pc' Ls st)) : Go p e below s n0 rc rs P T (mkF m pc Ls (.ref b :: .ref a :: st)) := by
  obtain ⟨locs, X, eT, N, hn⟩ := X; obtain ⟨hx, hZ, hby, hown, hml, hlk, hrt⟩ := C
  subst hp; exact Go.of (fun t q => XS.acmpNo X.here hx rfl (hb hby hd) rfl hc q) k
theorem Go.acmpV (C : Cx p s m meth c Z bytes own ret maxL) (X : On p l e R s m args below meth c n0 T h cells slots) {o : Int} {cd : ClassFile.ACond} {u v : Value} {same : Bool} (hd : decode bytes pc = .ok (.if_acmp cd o, 3)) (h1 : u.isRef = true) (h2 : v.isRef = true) (hq : decide (u = v) = same) (ho : 0 ≤ (pc : Int) + o) (hp : pc' = if acV cd same = true then ((pc : Int) + o).toNat else pc + 3) (k : Go p e below s n0 rc rs P T (mkF m pc' Ls st)) : Go p e below s n0 rc rs P T (mkF m pc Ls (v :: u :: st)) := by
  obtain ⟨locs, X, eT, N, hn⟩ := X; obtain ⟨hx, hZ, hby, hown, hml, hlk, hrt⟩ := C
  exact Go.of (fun t q => acmp X hx rfl h1 h2 (pc0 := pc) rfl (hb hby hd) rfl hq ho hp q) k
theorem Go.ifnullYes (C : Cx p s m meth c Z bytes own ret maxL) (X : On p l e R s m args below meth c n0 T h cells slots) {o : Int} (hd : decode bytes pc = .ok (.ifnull o, 3)) (ho : 0 ≤ (pc : Int) + o) (hp : ((pc : Int) + o).toNat = pc') (k : Go p e below s n0 rc rs P T (mkF m pc' Ls st)) : Go p e below s n0 rc rs P T (mkF m pc Ls (.null :: st)) := by
  obtain ⟨locs, X, eT, N, hn⟩ := X; obtain ⟨hx, hZ, hby, hown, hml, hlk, hrt⟩ := C
  exact Go.of (fun t q => XS.ifnullYes X.here hx rfl (pc0 := pc) rfl (hb hby hd) rfl ho hp q) k
theorem Go.ifnullNo (C : Cx p s m meth c Z bytes own ret maxL) (X : On p l e R s m args below meth c n0 T h cells slots) {o : Int} {a : Addr} (hd : decode bytes pc = .ok (.ifnull o, 3)) (hp : pc + 3 = pc') (k : Go p e below s n0 rc rs P T (mkF m pc' Ls st)) : Go p e below s n0 rc rs P T (mkF m pc Ls (.ref a :: st)) := by
  obtain ⟨locs, X, eT, N, hn⟩ := X; obtain ⟨hx, hZ, hby, hown, hml, hlk, hrt⟩ := C
  subst hp; exact Go.of (fun t q => XS.ifnullNo X.here hx rfl (hb hby hd) rfl q) k
theorem Go.ifnonnullYes (C : Cx p s m meth c Z bytes own ret maxL) (X : On p l e R s m args below meth c n0 T h cells slots) {o : Int} {a : Addr} (hd : decode bytes pc = .ok (.ifnonnull o, 3)) (ho : 0 ≤ (pc : Int) + o) (hp : ((pc : Int) + o).toNat = pc') (k : Go p e below s n0 rc rs P T (mkF m pc' Ls st)) : Go p e below s n0 rc rs P T (mkF m pc Ls (.ref a :: st)) := by
  obtain ⟨locs, X, eT, N, hn⟩ := X; obtain ⟨hx, hZ, hby, hown, hml, hlk, hrt⟩ := C
  exact Go.of (fun t q => XS.ifnonnullYes X.here hx rfl (pc0 := pc) rfl (hb hby hd) rfl ho hp q) k
theorem Go.ifnonnullNo (C : Cx p s m meth c Z bytes own ret maxL) (X : On p l e R s m args below meth c n0 T h cells slots) {o : Int} (hd : decode bytes pc = .ok (.ifnonnull o, 3)) (hp : pc + 3 = pc') (k : Go p e below s n0 rc rs P T (mkF m pc' Ls st)) : Go p e below s n0 rc rs P T (mkF m pc Ls (.null :: st)) := by
  obtain ⟨locs, X, eT, N, hn⟩ := X; obtain ⟨hx, hZ, hby, hown, hml, hlk, hrt⟩ := C
  subst hp; exact Go.of (fun t q => XS.ifnonnullNo X.here hx rfl (hb hby hd) rfl q) k
theorem Go.lswHit (C : Cx p s m meth c Z bytes own ret maxL) (X : On p l e R s m args below meth c n0 T h cells slots) {dflt : Int} {pairs : Array (Int × Int)} {len : Nat} {x : Int32} {a off : Int} (hd : decode bytes pc = .ok (.lookupswitch dflt pairs, len)) (hs : (pairs.toList.zip (pairs.toList.drop 1)).all (fun (a, next) => a.1 < next.1) = true) (hf : pairs.find? (·.1 == x.toInt) = some (a, off)) (ho : 0 ≤ (pc : Int) + off) (hp : ((pc : Int) + off).toNat = pc') (k : Go p e below s n0 rc rs P T (mkF m pc' Ls st)) : Go p e below s n0 rc rs P T (mkF m pc Ls (.int x :: st)) := by
  obtain ⟨locs, X, eT, N, hn⟩ := X; obtain ⟨hx, hZ, hby, hown, hml, hlk, hrt⟩ := C
  subst hp; exact Go.of (fun t q => X.lookupswitchHit hx (g := mkF m pc Ls (.int x :: st)) rfl rfl (hb hby hd) hs hf ho t q) k
theorem Go.lswMiss (C : Cx p s m meth c Z bytes own ret maxL) (X : On p l e R s m args below meth c n0 T h cells slots) {dflt : Int} {pairs : Array (Int × Int)} {len : Nat} {x : Int32} (hd : decode bytes pc = .ok (.lookupswitch dflt pairs, len)) (hs : (pairs.toList.zip (pairs.toList.drop 1)).all (fun (a, next) => a.1 < next.1) = true) (hf : pairs.find? (·.1 == x.toInt) = none) (ho : 0 ≤ (pc : Int) + dflt) (hp : ((pc : Int) + dflt).toNat = pc') (k : Go p e below s n0 rc rs P T (mkF m pc' Ls st)) : Go p e below s n0 rc rs P T (mkF m pc Ls (.int x :: st)) := by
  obtain ⟨locs, X, eT, N, hn⟩ := X; obtain ⟨hx, hZ, hby, hown, hml, hlk, hrt⟩ := C
  subst hp; exact Go.of (fun t q => X.lookupswitchMiss hx (g := mkF m pc Ls (.int x :: st)) rfl rfl (hb hby hd) hs hf ho t q) k
theorem Go.retV  (C : Cx p s m meth c Z bytes own none maxL) (X : On p l e R s m args below meth c n0 T h cells slots) (hd : decode bytes pc = .ok (.return_, 1)) (hq : P none h) (hc : cells ≤ rc) (hs : slots ≤ rs) : Go p e below s n0 rc rs P T (mkF m pc Ls []) := by
  obtain ⟨locs, X, eT, N, hn⟩ := X; obtain ⟨hx, hZ, hby, hown, hml, hlk, hrt⟩ := C
  obtain ⟨fs, hr, hrun, hended, hW, hsame⟩ := X.leave (v := none) (fun _ => rfl) hlk
  refine ⟨_, _, ?_, hrun, hended, _, _, rfl, ⟨?_, N⟩, ⟨_, rfl⟩, hW, hsame.mono hc hs⟩
  · exact X.returnOut hx hrt (hb hby hd) hr
  · show P _ T.heap; rw [eT]; exact hq
theorem own_retS {locs : List Loc} (X : Stand p l e R s m args below meth c T locs cells slots) (hx : p.tables.exec = Jvm.exec) {z z' : Int32} {t : FieldType} {rest : List Value} (hret : meth.sig.returnType = some t) (hn : narrow t (.int z) = .int z') (hd : decode c.code pc = .ok (.ireturn, 1)) {fs : List Frame}
    (hl : ∀ (f : JFrame) (acts : List Action), f.method = m → f.locked = none → f.entered = [] → (doReturn e (T.setTop f) acts (some (.int z'))).1 = T.setFrames fs) : Steps p.tables e below (T.setTop (mkF m pc Ls (.int z :: rest))) (T.setFrames fs) := by
  have hm' : T.vm.method? m = some meth := X.method'
  show Steps p.tables e below (T.setTop { method := m, pc := pc, locals := Ls, stack := _ :: rest, locked := none }) _
  jvm_step X.here [X.here.top, hx, hd, hm', hret, hn]
  first | (intro acts; rw [hl _ acts rfl rfl rfl]) | rw [hl _ _ rfl rfl rfl]
  exact Steps.refl _
theorem Go.retZ {t : FieldType} (C : Cx p s m meth c Z bytes own (some t) maxL) (X : On p l e R s m args below meth c n0 T h cells slots) {z z' : Int32} (hz : narrow t (.int z) = .int z') (hd : decode bytes pc = .ok (.ireturn, 1)) (hq : P (some (.int z')) h) (hc : cells ≤ rc) (hs : slots ≤ rs) : Go p e below s n0 rc rs P T (mkF m pc Ls (.int z :: st)) := by
  obtain ⟨locs, X, eT, N, hn⟩ := X; obtain ⟨hx, hZ, hby, hown, hml, hlk, hrt⟩ := C
  obtain ⟨fs, hr, hrun, hended, hW, hsame⟩ := X.leave (v := (some (.int z'))) (fun h => by rw [hrt] at h; cases h) hlk
  refine ⟨_, _, ?_, hrun, hended, _, _, rfl, ⟨?_, N⟩, ⟨_, rfl⟩, hW, hsame.mono hc hs⟩
  · exact own_retS X hx hrt hz (hb hby hd) hr
  · show P _ T.heap; rw [eT]; exact hq
theorem Go.retI  (C : Cx p s m meth c Z bytes own (some .int) maxL) (X : On p l e R s m args below meth c n0 T h cells slots) {z : Int32} (hd : decode bytes pc = .ok (.ireturn, 1)) (hq : P (some (.int z)) h) (hc : cells ≤ rc) (hs : slots ≤ rs) : Go p e below s n0 rc rs P T (mkF m pc Ls (.int z :: st)) := by
  obtain ⟨locs, X, eT, N, hn⟩ := X; obtain ⟨hx, hZ, hby, hown, hml, hlk, hrt⟩ := C
  obtain ⟨fs, hr, hrun, hended, hW, hsame⟩ := X.leave (v := (some (.int z))) (fun h => by rw [hrt] at h; cases h) hlk
  refine ⟨_, _, ?_, hrun, hended, _, _, rfl, ⟨?_, N⟩, ⟨_, rfl⟩, hW, hsame.mono hc hs⟩
  · exact own_retS X hx hrt rfl (hb hby hd) hr
  · show P _ T.heap; rw [eT]; exact hq
theorem Go.retL  (C : Cx p s m meth c Z bytes own (some .long) maxL) (X : On p l e R s m args below meth c n0 T h cells slots) {z : Int64} (hd : decode bytes pc = .ok (.lreturn, 1)) (hq : P (some (.long z)) h) (hc : cells ≤ rc) (hs : slots ≤ rs) : Go p e below s n0 rc rs P T (mkF m pc Ls (.long z :: st)) := by
  obtain ⟨locs, X, eT, N, hn⟩ := X; obtain ⟨hx, hZ, hby, hown, hml, hlk, hrt⟩ := C
  obtain ⟨fs, hr, hrun, hended, hW, hsame⟩ := X.leave (v := (some (.long z))) (fun h => by rw [hrt] at h; cases h) hlk
  refine ⟨_, _, ?_, hrun, hended, _, _, rfl, ⟨?_, N⟩, ⟨_, rfl⟩, hW, hsame.mono hc hs⟩
  · jvm_step X.here [X.here.top, hx, (hb hby hd), X.method', hrt, narrow]
    first | (intro acts; rw [hr _ acts rfl rfl rfl]) | rw [hr _ _ rfl rfl rfl]
    exact Steps.refl _
  · show P _ T.heap; rw [eT]; exact hq
theorem Go.retA {cn : String} (C : Cx p s m meth c Z bytes own (some (.object cn)) maxL) (X : On p l e R s m args below meth c n0 T h cells slots) {z : Value} (hz : z.isRef = true) (hd : decode bytes pc = .ok (.areturn, 1)) (hq : P (some z) h) (hc : cells ≤ rc) (hs : slots ≤ rs) : Go p e below s n0 rc rs P T (mkF m pc Ls (z :: st)) := by
  obtain ⟨locs, X, eT, N, hn⟩ := X; obtain ⟨hx, hZ, hby, hown, hml, hlk, hrt⟩ := C
  obtain ⟨fs, hr, hrun, hended, hW, hsame⟩ := X.leave (v := (some z)) (fun h => by rw [hrt] at h; cases h) hlk
  refine ⟨_, _, ?_, hrun, hended, _, _, rfl, ⟨?_, N⟩, ⟨_, rfl⟩, hW, hsame.mono hc hs⟩
  · rcases ref_cases hz with rfl | ⟨a, rfl⟩ <;>
    · jvm_step X.here [X.here.top, hx, (hb hby hd), X.method', hrt, Value.isRef, FieldType.isReference]
      first | (intro acts; rw [hr _ acts rfl rfl rfl]) | rw [hr _ _ rfl rfl rfl]
      exact Steps.refl _
  · show P _ T.heap; rw [eT]; exact hq
theorem Go.retAA {ct : FieldType} (C : Cx p s m meth c Z bytes own (some (.array ct)) maxL) (X : On p l e R s m args below meth c n0 T h cells slots) {z : Value} (hz : z.isRef = true) (hd : decode bytes pc = .ok (.areturn, 1)) (hq : P (some z) h) (hc : cells ≤ rc) (hs : slots ≤ rs) : Go p e below s n0 rc rs P T (mkF m pc Ls (z :: st)) := by
  obtain ⟨locs, X, eT, N, hn⟩ := X; obtain ⟨hx, hZ, hby, hown, hml, hlk, hrt⟩ := C
  obtain ⟨fs, hr, hrun, hended, hW, hsame⟩ := X.leave (v := (some z)) (fun h => by rw [hrt] at h; cases h) hlk
  refine ⟨_, _, ?_, hrun, hended, _, _, rfl, ⟨?_, N⟩, ⟨_, rfl⟩, hW, hsame.mono hc hs⟩
  · rcases ref_cases hz with rfl | ⟨a, rfl⟩ <;>
    · jvm_step X.here [X.here.top, hx, (hb hby hd), X.method', hrt, Value.isRef, FieldType.isReference]
      first | (intro acts; rw [hr _ acts rfl rfl rfl]) | rw [hr _ _ rfl rfl rfl]
      exact Steps.refl _
  · show P _ T.heap; rw [eT]; exact hq
theorem Go.getF (C : Cx p s m meth c Z bytes own ret maxL) (X : On p l e R s m args below meth c n0 T h cells slots) {R0 O n d host : String} {i : Nat} {a : Addr} {v : Value} (w : (Cond.fieldLink own i R0 n d).before a0 Z = true ∨ (Cond.fieldLinkNest own i R0 n d host).before a0 Z = true) (via : Via Z R0 O n d) (F : Fld Z h a O n d v) (hd : decode bytes pc = .ok (.getfield i, 3)) (hp : pc + 3 = pc')
    (k : ∀ T', On p l e R s m args below meth c n0 T' h cells slots → Go p e below s n0 rc rs P T' (mkF m pc' Ls (v :: st))) : Go p e below s n0 rc rs P T (mkF m pc Ls (.ref a :: st)) := by
  obtain ⟨locs, X, eT, N, hn⟩ := X; obtain ⟨hx, hZ, hby, hown, hml, hlk, hrt⟩ := C; subst hp
  obtain ⟨T', X', e', st'⟩ := RoadKit.getF X hx hZ hown w via eT F (g := mkF m pc Ls (.ref a :: st)) rfl rfl (hb hby hd)
  exact Go.of st' (k T' ⟨locs, X', e', N, hn⟩)
theorem Go.getS (C : Cx p s m meth c Z bytes own ret maxL) (X : On p l e R s m args below meth c n0 T h cells slots) {R0 O n d : String} {i : Nat} {v : Value} (w : (Cond.fieldLink own i R0 n d).before a0 Z = true) (via : Via Z R0 O n d) (F : Sta Z h O n d v) (hd : decode bytes pc = .ok (.getstatic i, 3)) (hp : pc + 3 = pc')
    (k : ∀ T', On p l e R s m args below meth c n0 T' h cells slots → Go p e below s n0 rc rs P T' (mkF m pc' Ls (v :: st))) : Go p e below s n0 rc rs P T (mkF m pc Ls st) := by
  obtain ⟨locs, X, eT, N, hn⟩ := X; obtain ⟨hx, hZ, hby, hown, hml, hlk, hrt⟩ := C; subst hp
  obtain ⟨T', X', e', st'⟩ := RoadKit.getS X hx hZ (host := "") hown w via eT F (g := mkF m pc Ls st) rfl (hb hby hd)
  exact Go.of st' (k T' ⟨locs, X', e', N, hn⟩)
theorem Go.putF (C : Cx p s m meth c Z bytes own ret maxL) (X : On p l e R s m args below meth c n0 T h cells slots) {R0 O n d host K : String} {i kk : Nat} {ty : FieldType} {a : Addr} {v old : Value} (w : (Cond.fieldLink own i R0 n d).before a0 Z = true ∨ (Cond.fieldLinkNest own i R0 n d host).before a0 Z = true) (via : Via Z R0 O n d) (F : Fld Z h a O n d old) (E : Exa Z h a K) (L : (Cond.lays K O n d).before a0 Z = true ∨ ((Cond.laysFinal K O n d).before a0 Z = true ∧ own = O ∧ meth.name = "<init>")) (wi : (Cond.instantiable K kk).before a0 Z = true) (ha : n0 ≤ a) (hty : parseFieldDescriptor d = some ty) (hn : narrow ty v = v) (hf : fits ty v = true) (hd : decode bytes pc = .ok (.putfield i, 3)) (hp : pc + 3 = pc')
    (k : ∀ T' h', On p l e R s m args below meth c n0 T' h' cells slots → Wr h h' a (slotOf Z O n d) v → Go p e below s n0 rc rs P T' (mkF m pc' Ls st)) : Go p e below s n0 rc rs P T (mkF m pc Ls (v :: .ref a :: st)) := by
  obtain ⟨locs, X, eT, N, hz⟩ := X; obtain ⟨hx, hZ, hby, hown, hml, hlk, hrt⟩ := C; subst hp
  obtain ⟨T', h', X', e', W, st'⟩ := RoadKit.putF X hx hZ hown w via eT F E L wi hty hn hf (g := mkF m pc Ls (v :: .ref a :: st)) rfl rfl (hb hby hd)
  exact Go.of st' (k T' h' ⟨_, X', e', Fr.snoc X' N ha, by rw [W.size]; exact hz⟩ W)
theorem Go.putFN (C : Cx p s m meth c Z bytes own ret maxL) (X : On p l e R s m args below meth c n0 T h cells slots) {R0 O n d K : String} {i kk : Nat} {ty : FieldType} {a : Addr} {v v' old : Value} (w : (Cond.fieldLink own i R0 n d).before a0 Z = true) (via : Via Z R0 O n d) (F : Fld Z h a O n d old) (E : Exa Z h a K) (L : (Cond.lays K O n d).before a0 Z = true ∨ ((Cond.laysFinal K O n d).before a0 Z = true ∧ own = O ∧ meth.name = "<init>")) (wi : (Cond.instantiable K kk).before a0 Z = true) (ha : n0 ≤ a) (hty : parseFieldDescriptor d = some ty) (hn : narrow ty v = v') (hf : fits ty v' = true) (hd : decode bytes pc = .ok (.putfield i, 3)) (hp : pc + 3 = pc')
    (k : ∀ T' h', On p l e R s m args below meth c n0 T' h' cells slots → Wr h h' a (slotOf Z O n d) v' → Go p e below s n0 rc rs P T' (mkF m pc' Ls st)) : Go p e below s n0 rc rs P T (mkF m pc Ls (v :: .ref a :: st)) := by
  obtain ⟨locs, X, eT, N, hz⟩ := X; obtain ⟨hx, hZ, hby, hown, hml, hlk, hrt⟩ := C; subst hp
  obtain ⟨T', h', X', e', W, st'⟩ := RoadKit.putFN X hx hZ hown w via eT F E L wi hty hn hf (g := mkF m pc Ls (v :: .ref a :: st)) rfl rfl (hb hby hd)
  exact Go.of st' (k T' h' ⟨_, X', e', Fr.snoc X' N ha, by rw [W.size]; exact hz⟩ W)
theorem Go.newO (C : Cx p s m meth c Z bytes own ret maxL) (X : On p l e R s m args below meth c n0 T h cells slots) {K : String} {i kk : Nat} (w : (Cond.classLink own i K).before a0 Z = true) (wi : (Cond.instantiable K kk).before a0 Z = true) (wz : (Cond.initialized K).before a0 Z = true) (hd : decode bytes pc = .ok (.new i, 3)) (hc : cells + 1 ≤ R.cells) (hl : slots + kk ≤ R.slots) (hp : pc + 3 = pc')
    (k : ∀ T' h' a, On p l e R s m args below meth c n0 T' h' (cells + 1) (slots + kk) → a = h.size → Ext h h' → Exa Z h' a K → (∀ {O nm d : String} {ty : FieldType}, Laid Z a0 K O nm d → parseFieldDescriptor d = some ty → Fld Z h' a O nm d (defaultValue ty)) → n0 ≤ a → Go p e below s n0 rc rs P T' (mkF m pc' Ls (.ref a :: st))) : Go p e below s n0 rc rs P T (mkF m pc Ls st) := by
  obtain ⟨locs, X, eT, N, hz⟩ := X; obtain ⟨hx, hZ, hby, hown, hml, hlk, hrt⟩ := C; subst hp
  obtain ⟨T', h', X', e', E, A, D, -, st'⟩ := RoadKit.newO X hx hZ hown w wi wz eT (g := mkF m pc Ls st) rfl (hb hby hd) hc hl
  exact Go.of st' (k T' h' h.size ⟨_, X', e', N, Nat.le_trans hz E.1⟩ rfl E A D hz)
theorem Go.initO (C : Cx p s m meth c Z bytes own ret maxL) (X : On p l e R s m args below meth c n0 T h cells slots) {a : Addr} (hI : ∀ locs, Stand p l e R s m args below meth c T locs cells slots → T.heap = h → ∃ T', Stand p l e R s m args below meth c T' locs cells slots ∧ T'.heap = h ∧ ∀ target, Steps p.tables e below (T'.setTop (mkF m (pc + 3) Ls st)) target → Steps p.tables e below (T.setTop (mkF m pc Ls (.ref a :: st))) target) (hp : pc + 3 = pc')
    (k : ∀ T', On p l e R s m args below meth c n0 T' h cells slots → Go p e below s n0 rc rs P T' (mkF m pc' Ls st)) : Go p e below s n0 rc rs P T (mkF m pc Ls (.ref a :: st)) := by
  obtain ⟨locs, X, eT, N, hz⟩ := X; subst hp
  obtain ⟨T', X', e', st'⟩ := hI locs X eT
  exact Go.of st' (k T' ⟨_, X', e', N, hz⟩)
theorem Go.castY (C : Cx p s m meth c Z bytes own ret maxL) (X : On p l e R s m args below meth c n0 T h cells slots) {K : String} {i : Nat} {a : Addr} (w : (Cond.classLink own i K).before a0 Z = true) (F : Ins Z h a K true) (hd : decode bytes pc = .ok (.checkcast i, 3)) (hp : pc + 3 = pc')
    (k : ∀ T', On p l e R s m args below meth c n0 T' h cells slots → Go p e below s n0 rc rs P T' (mkF m pc' Ls (.ref a :: st))) : Go p e below s n0 rc rs P T (mkF m pc Ls (.ref a :: st)) := by
  obtain ⟨locs, X, eT, N, hn⟩ := X; obtain ⟨hx, hZ, hby, hown, hml, hlk, hrt⟩ := C; subst hp
  obtain ⟨T', X', e', st'⟩ := RoadKit.castY X hx hZ hown w eT F (g := mkF m pc Ls (.ref a :: st)) rfl rfl (hb hby hd)
  exact Go.of st' (k T' ⟨locs, X', e', N, hn⟩)
theorem Go.instY (C : Cx p s m meth c Z bytes own ret maxL) (X : On p l e R s m args below meth c n0 T h cells slots) {K : String} {i : Nat} {a : Addr} (w : (Cond.classLink own i K).before a0 Z = true) (F : Ins Z h a K true) (hd : decode bytes pc = .ok (.instanceof i, 3)) (hp : pc + 3 = pc')
    (k : ∀ T', On p l e R s m args below meth c n0 T' h cells slots → Go p e below s n0 rc rs P T' (mkF m pc' Ls (.int 1 :: st))) : Go p e below s n0 rc rs P T (mkF m pc Ls (.ref a :: st)) := by
  obtain ⟨locs, X, eT, N, hn⟩ := X; obtain ⟨hx, hZ, hby, hown, hml, hlk, hrt⟩ := C; subst hp
  obtain ⟨T', X', e', st'⟩ := RoadKit.instY X hx hZ hown w eT F (g := mkF m pc Ls (.ref a :: st)) rfl rfl (hb hby hd)
  exact Go.of st' (k T' ⟨locs, X', e', N, hn⟩)
def AI (Z : State) (h : Heap) (a : Addr) (ty : FieldType) (n : Nat) (f : Nat → Int32) : Prop := ∃ cl : Cell, Arr Z h a cl ty ∧ cl.slots.size = n ∧ n < 2 ^ 31 ∧ ∀ i, i < n → cl.slots[i]? = some (.int (f i))
def AJ (Z : State) (h : Heap) (a : Addr) (n : Nat) (f : Nat → Int64) : Prop := ∃ cl : Cell, Arr Z h a cl .long ∧ cl.slots.size = n ∧ n < 2 ^ 31 ∧ ∀ i, i < n → cl.slots[i]? = some (.long (f i))
theorem clamp_of {j : Int32} {i : Nat} (hj : j.toInt = (i : Int)) : j.toNatClampNeg = i := by
  show j.toInt.toNat = i
  omega
theorem in_of {j : Int32} {i n : Nat} (hj : j.toInt = (i : Int)) (hi : i < n) {sz : Nat} (hs : sz = n) : ¬ (j < 0 ∨ sz ≤ j.toNatClampNeg) := by
  rw [clamp_of hj]
  intro q
  rcases q with q | q
  · rw [Int32.lt_iff_toInt_lt] at q
    have : (0 : Int32).toInt = 0 := rfl
    omega
  · omega
theorem len32 {z : Int32} {n : Nat} (hz : z.toInt = (n : Int)) : n.toInt32 = z := by
  apply Int32.toInt_inj.mp
  rw [hz]
  have h2 : z.toInt < 2147483648 := z.toInt_lt
  rw [hz] at h2
  exact Int32.toInt_ofNat_of_lt (by omega)
section AFacts
variable {h' : Heap} {a b : Addr} {ty : FieldType} {n sl : Nat} {f : Nat → Int32} {g : Nat → Int64} {v : Value} {ws : List Addr}
theorem AI.lt (F : AI Z h a ty n f) : a < h.size := by obtain ⟨c, A, -⟩ := F; exact A.lt
theorem AI.ext (F : AI Z h a ty n f) (E : Ext h h') : AI Z h' a ty n f := by obtain ⟨c, A, r⟩ := F; exact ⟨c, A.ext E, r⟩
theorem AI.other (F : AI Z h b ty n f) (W : Wr h h' a sl v) (q : b ≠ a) : AI Z h' b ty n f := by obtain ⟨c, A, r⟩ := F; exact ⟨c, A.other W q, r⟩
theorem AI.keep (F : AI Z h a ty n f) (K : Keep h h' ws) (q : a ∉ ws) : AI Z h' a ty n f := by obtain ⟨c, A, r⟩ := F; exact ⟨c, ⟨K.2.1 a c A.1 q, A.2⟩, r⟩
theorem AI.congr {f' : Nat → Int32} (F : AI Z h a ty n f) (q : ∀ i, i < n → f i = f' i) : AI Z h a ty n f' := by
  obtain ⟨c, A, r1, r2, r3⟩ := F; exact ⟨c, A, r1, r2, fun i hi => by rw [r3 i hi, q i hi]⟩
theorem AI.bound (F : AI Z h a ty n f) : n < 2 ^ 31 := by obtain ⟨c, A, r1, r2, r3⟩ := F; exact r2
theorem AI.set {i : Nat} {x : Int32} (F : AI Z h a ty n f) (W : Wr h h' a i (.int x)) : AI Z h' a ty n (fun k => if k = i then x else f k) := by
  obtain ⟨c, A, r1, r2, r3⟩ := F
  refine ⟨_, A.same W, by rw [sz_set]; exact r1, r2, fun k hk => ?_⟩
  by_cases q : k = i
  · subst q; simp [Cell.setSlot, r1, hk]
  · simp only [Cell.setSlot, if_neg q]
    rw [Array.getElem?_setIfInBounds_ne (fun e => q e.symm)]
    exact r3 k hk
theorem AI.new {k : ClassId} {z : Int32} {n : Nat} (hz : z.toInt = (n : Int)) (ht : defaultValue ty = .int 0) (A : Arr Z h a (newA k ty z) ty) : AI Z h a ty n (fun _ => 0) := by
  have h2 : z.toInt < 2147483648 := z.toInt_lt
  refine ⟨_, A, by rw [sz_new, clamp_of hz], by omega, fun i hi => ?_⟩
  simp [newA, clamp_of hz, hi, ht]
theorem AJ.lt (F : AJ Z h a n g) : a < h.size := by obtain ⟨c, A, -⟩ := F; exact A.lt
theorem AJ.ext (F : AJ Z h a n g) (E : Ext h h') : AJ Z h' a n g := by obtain ⟨c, A, r⟩ := F; exact ⟨c, A.ext E, r⟩
theorem AJ.other (F : AJ Z h b n g) (W : Wr h h' a sl v) (q : b ≠ a) : AJ Z h' b n g := by obtain ⟨c, A, r⟩ := F; exact ⟨c, A.other W q, r⟩
theorem AJ.keep (F : AJ Z h a n g) (K : Keep h h' ws) (q : a ∉ ws) : AJ Z h' a n g := by obtain ⟨c, A, r⟩ := F; exact ⟨c, ⟨K.2.1 a c A.1 q, A.2⟩, r⟩
theorem AJ.congr {g' : Nat → Int64} (F : AJ Z h a n g) (q : ∀ i, i < n → g i = g' i) : AJ Z h a n g' := by
  obtain ⟨c, A, r1, r2, r3⟩ := F; exact ⟨c, A, r1, r2, fun i hi => by rw [r3 i hi, q i hi]⟩
theorem AJ.set {i : Nat} {x : Int64} (F : AJ Z h a n g) (W : Wr h h' a i (.long x)) : AJ Z h' a n (fun k => if k = i then x else g k) := by
  obtain ⟨c, A, r1, r2, r3⟩ := F
  refine ⟨_, A.same W, by rw [sz_set]; exact r1, r2, fun k hk => ?_⟩
  by_cases q : k = i
  · subst q; simp [Cell.setSlot, r1, hk]
  · simp only [Cell.setSlot, if_neg q]
    rw [Array.getElem?_setIfInBounds_ne (fun e => q e.symm)]
    exact r3 k hk
theorem AJ.new {k : ClassId} {z : Int32} {n : Nat} (hz : z.toInt = (n : Int)) (A : Arr Z h a (newA k .long z) .long) : AJ Z h a n (fun _ => 0) := by
  have h2 : z.toInt < 2147483648 := z.toInt_lt
  refine ⟨_, A, by rw [sz_new, clamp_of hz], by omega, fun i hi => ?_⟩
  simp [newA, clamp_of hz, hi, defaultValue]
end AFacts
theorem Go.newP (C : Cx p s m meth c Z bytes own ret maxL) (X : On p l e R s m args below meth c n0 T h cells slots) {aty : ArrayType} {z : Int32} {nn cap : Nat} (w : (Cond.arrayClass (newarray.typeOf aty)).before a0 Z = true) (hd : decode bytes pc = .ok (.newarray aty, 2)) (hz : z.toInt = (nn : Int)) (hcap : nn ≤ cap) (hbig : cap * 8 ≤ 536870912) (hc : cells + 1 ≤ R.cells) (hl : slots + cap ≤ R.slots) (hp : pc + 2 = pc')
    (k : ∀ T' h' a cA, On p l e R s m args below meth c n0 T' h' (cells + 1) (slots + cap) → a = h.size → Ext h h' → Arr Z h' a (newA cA (newarray.typeOf aty) z) (newarray.typeOf aty) → n0 ≤ a → Go p e below s n0 rc rs P T' (mkF m pc' Ls (.ref a :: st))) : Go p e below s n0 rc rs P T (mkF m pc Ls (.int z :: st)) := by
  obtain ⟨locs, X, eT, N, hn⟩ := X; obtain ⟨hx, hZ, hby, hown, hml, hlk, hrt⟩ := C; subst hp
  obtain ⟨T', h', cA, X', e', E, A, st'⟩ := RoadKit.newP X hx hZ w eT (g := mkF m pc Ls (.int z :: st)) rfl (hb hby hd) rfl (by rw [Int32.lt_iff_toInt_lt]; have : (0 : Int32).toInt = 0 := rfl; omega) (cap := cap) (by rw [clamp_of hz]; exact hcap) hbig hc hl
  exact Go.of st' (k T' h' h.size cA ⟨_, X', e', N, Nat.le_trans hn E.1⟩ rfl E A hn)
theorem Go.alenI (C : Cx p s m meth c Z bytes own ret maxL) (X : On p l e R s m args below meth c n0 T h cells slots) {a : Addr} {ty : FieldType} {n : Nat} {f : Nat → Int32} {z : Int32} (A : AI Z h a ty n f) (hz : z.toInt = (n : Int)) (hd : decode bytes pc = .ok (.arraylength, 1)) (hp : pc + 1 = pc') (k : Go p e below s n0 rc rs P T (mkF m pc' Ls (.int z :: st))) : Go p e below s n0 rc rs P T (mkF m pc Ls (.ref a :: st)) := by
  obtain ⟨locs, X, eT, N, hn⟩ := X; obtain ⟨hx, hZ, hby, hown, hml, hlk, hrt⟩ := C; subst hp
  obtain ⟨cl, A, r1, r2, r3⟩ := A
  refine Go.of (fun t q => X.arraylength hx (by rw [eT]; exact A.1) (State.isArrayOf_alike hZ.alike A.2.1) (g := mkF m pc Ls (.ref a :: st)) rfl rfl (hb hby hd) t ?_) k
  rw [r1, len32 hz]; exact q
theorem Go.alenJ (C : Cx p s m meth c Z bytes own ret maxL) (X : On p l e R s m args below meth c n0 T h cells slots) {a : Addr} {n : Nat} {f : Nat → Int64} {z : Int32} (A : AJ Z h a n f) (hz : z.toInt = (n : Int)) (hd : decode bytes pc = .ok (.arraylength, 1)) (hp : pc + 1 = pc') (k : Go p e below s n0 rc rs P T (mkF m pc' Ls (.int z :: st))) : Go p e below s n0 rc rs P T (mkF m pc Ls (.ref a :: st)) := by
  obtain ⟨locs, X, eT, N, hn⟩ := X; obtain ⟨hx, hZ, hby, hown, hml, hlk, hrt⟩ := C; subst hp
  obtain ⟨cl, A, r1, r2, r3⟩ := A
  refine Go.of (fun t q => X.arraylength hx (by rw [eT]; exact A.1) (State.isArrayOf_alike hZ.alike A.2.1) (g := mkF m pc Ls (.ref a :: st)) rfl rfl (hb hby hd) t ?_) k
  rw [r1, len32 hz]; exact q
theorem Go.iaload (C : Cx p s m meth c Z bytes own ret maxL) (X : On p l e R s m args below meth c n0 T h cells slots) {a : Addr} {n : Nat} {f : Nat → Int32} {j : Int32} {i : Nat} {w : Int32} (A : AI Z h a .int n f) (hj : j.toInt = (i : Int)) (hi : i < n) (hw : f i = w) (hd : decode bytes pc = .ok (.iaload, 1)) (hp : pc + 1 = pc') (k : Go p e below s n0 rc rs P T (mkF m pc' Ls (.int w :: st))) : Go p e below s n0 rc rs P T (mkF m pc Ls (.int j :: .ref a :: st)) := by
  obtain ⟨locs, X, eT, N, hn⟩ := X; obtain ⟨hx, hZ, hby, hown, hml, hlk, hrt⟩ := C; subst hp hw
  obtain ⟨cl, A, r1, r2, r3⟩ := A
  exact Go.of (fun t q => X.iaload hx (j := j) (v := .int (f i)) (by rw [eT]; exact A.1) (State.isArrayOf_alike hZ.alike A.2.1) A.2.2 (in_of hj hi r1) (by rw [clamp_of hj]; exact r3 i hi) (g := mkF m pc Ls (.int j :: .ref a :: st)) rfl rfl (hb hby hd) t q) k
theorem Go.baload (C : Cx p s m meth c Z bytes own ret maxL) (X : On p l e R s m args below meth c n0 T h cells slots) {a : Addr} {n : Nat} {f : Nat → Int32} {j : Int32} {i : Nat} {w : Int32} (A : AI Z h a .byte n f) (hj : j.toInt = (i : Int)) (hi : i < n) (hw : f i = w) (hd : decode bytes pc = .ok (.baload, 1)) (hp : pc + 1 = pc') (k : Go p e below s n0 rc rs P T (mkF m pc' Ls (.int w :: st))) : Go p e below s n0 rc rs P T (mkF m pc Ls (.int j :: .ref a :: st)) := by
  obtain ⟨locs, X, eT, N, hn⟩ := X; obtain ⟨hx, hZ, hby, hown, hml, hlk, hrt⟩ := C; subst hp hw
  obtain ⟨cl, A, r1, r2, r3⟩ := A
  exact Go.of (fun t q => X.baloadBytes hx (j := j) (v := .int (f i)) (by rw [eT]; exact A.1) (State.isArrayOf_alike hZ.alike A.2.1) A.2.2 (in_of hj hi r1) (by rw [clamp_of hj]; exact r3 i hi) (g := mkF m pc Ls (.int j :: .ref a :: st)) rfl rfl (hb hby hd) t q) k
theorem Go.zaload (C : Cx p s m meth c Z bytes own ret maxL) (X : On p l e R s m args below meth c n0 T h cells slots) {a : Addr} {n : Nat} {f : Nat → Int32} {j : Int32} {i : Nat} {w : Int32} (A : AI Z h a .boolean n f) (hj : j.toInt = (i : Int)) (hi : i < n) (hw : f i = w) (hd : decode bytes pc = .ok (.baload, 1)) (hp : pc + 1 = pc') (k : Go p e below s n0 rc rs P T (mkF m pc' Ls (.int w :: st))) : Go p e below s n0 rc rs P T (mkF m pc Ls (.int j :: .ref a :: st)) := by
  obtain ⟨locs, X, eT, N, hn⟩ := X; obtain ⟨hx, hZ, hby, hown, hml, hlk, hrt⟩ := C; subst hp hw
  obtain ⟨cl, A, r1, r2, r3⟩ := A
  exact Go.of (fun t q => X.baloadBooleans hx (j := j) (v := .int (f i)) (by rw [eT]; exact A.1) (State.isArrayOf_alike hZ.alike A.2.1) A.2.2 (in_of hj hi r1) (by rw [clamp_of hj]; exact r3 i hi) (g := mkF m pc Ls (.int j :: .ref a :: st)) rfl rfl (hb hby hd) t q) k
theorem Go.caload (C : Cx p s m meth c Z bytes own ret maxL) (X : On p l e R s m args below meth c n0 T h cells slots) {a : Addr} {n : Nat} {f : Nat → Int32} {j : Int32} {i : Nat} {w : Int32} (A : AI Z h a .char n f) (hj : j.toInt = (i : Int)) (hi : i < n) (hw : f i = w) (hd : decode bytes pc = .ok (.caload, 1)) (hp : pc + 1 = pc') (k : Go p e below s n0 rc rs P T (mkF m pc' Ls (.int w :: st))) : Go p e below s n0 rc rs P T (mkF m pc Ls (.int j :: .ref a :: st)) := by
  obtain ⟨locs, X, eT, N, hn⟩ := X; obtain ⟨hx, hZ, hby, hown, hml, hlk, hrt⟩ := C; subst hp hw
  obtain ⟨cl, A, r1, r2, r3⟩ := A
  exact Go.of (fun t q => X.caload hx (j := j) (v := .int (f i)) (by rw [eT]; exact A.1) (State.isArrayOf_alike hZ.alike A.2.1) A.2.2 (in_of hj hi r1) (by rw [clamp_of hj]; exact r3 i hi) (g := mkF m pc Ls (.int j :: .ref a :: st)) rfl rfl (hb hby hd) t q) k
theorem Go.laload (C : Cx p s m meth c Z bytes own ret maxL) (X : On p l e R s m args below meth c n0 T h cells slots) {a : Addr} {n : Nat} {f : Nat → Int64} {j : Int32} {i : Nat} {w : Int64} (A : AJ Z h a n f) (hj : j.toInt = (i : Int)) (hi : i < n) (hw : f i = w) (hd : decode bytes pc = .ok (.laload, 1)) (hp : pc + 1 = pc') (k : Go p e below s n0 rc rs P T (mkF m pc' Ls (.long w :: st))) : Go p e below s n0 rc rs P T (mkF m pc Ls (.int j :: .ref a :: st)) := by
  obtain ⟨locs, X, eT, N, hn⟩ := X; obtain ⟨hx, hZ, hby, hown, hml, hlk, hrt⟩ := C; subst hp hw
  obtain ⟨cl, A, r1, r2, r3⟩ := A
  exact Go.of (fun t q => X.laload hx (j := j) (v := .long (f i)) (by rw [eT]; exact A.1) (State.isArrayOf_alike hZ.alike A.2.1) A.2.2 (in_of hj hi r1) (by rw [clamp_of hj]; exact r3 i hi) (g := mkF m pc Ls (.int j :: .ref a :: st)) rfl rfl (hb hby hd) t q) k
theorem Go.iastore (C : Cx p s m meth c Z bytes own ret maxL) (X : On p l e R s m args below meth c n0 T h cells slots) {a : Addr} {n : Nat} {f : Nat → Int32} {j x x' : Int32} {i : Nat} (A : AI Z h a .int n f) (hj : j.toInt = (i : Int)) (hi : i < n) (hv : x = x') (ha : n0 ≤ a) (hd : decode bytes pc = .ok (.iastore, 1)) (hp : pc + 1 = pc')
    (k : ∀ T' h', On p l e R s m args below meth c n0 T' h' cells slots → Wr h h' a i (.int x') → AI Z h' a .int n (fun q => if q = i then x' else f q) → Go p e below s n0 rc rs P T' (mkF m pc' Ls st)) : Go p e below s n0 rc rs P T (mkF m pc Ls (.int x :: .int j :: .ref a :: st)) := by
  obtain ⟨locs, X, eT, N, hn⟩ := X; obtain ⟨hx, hZ, hby, hown, hml, hlk, hrt⟩ := C; subst hp hv
  obtain ⟨cl, A', r1, r2, r3⟩ := id A
  obtain ⟨T', h', X', e', W, st'⟩ := RoadKit.stI X hx hZ eT A' (in_of hj hi r1) (g := mkF m pc Ls (.int x :: .int j :: .ref a :: st)) rfl rfl (hb hby hd)
  have N' := Fr.snoc X' N ha
  rw [clamp_of hj] at W
  exact Go.of st' (k T' h' ⟨_, X', e', N', by rw [W.size]; exact hn⟩ W (A.set W))
theorem Go.bastore (C : Cx p s m meth c Z bytes own ret maxL) (X : On p l e R s m args below meth c n0 T h cells slots) {a : Addr} {n : Nat} {f : Nat → Int32} {j x x' : Int32} {i : Nat} (A : AI Z h a .byte n f) (hj : j.toInt = (i : Int)) (hi : i < n) (hv : nar .byte x = x') (ha : n0 ≤ a) (hd : decode bytes pc = .ok (.bastore, 1)) (hp : pc + 1 = pc')
    (k : ∀ T' h', On p l e R s m args below meth c n0 T' h' cells slots → Wr h h' a i (.int x') → AI Z h' a .byte n (fun q => if q = i then x' else f q) → Go p e below s n0 rc rs P T' (mkF m pc' Ls st)) : Go p e below s n0 rc rs P T (mkF m pc Ls (.int x :: .int j :: .ref a :: st)) := by
  obtain ⟨locs, X, eT, N, hn⟩ := X; obtain ⟨hx, hZ, hby, hown, hml, hlk, hrt⟩ := C; subst hp hv
  obtain ⟨cl, A', r1, r2, r3⟩ := id A
  obtain ⟨T', h', X', e', W, st'⟩ := RoadKit.stB X hx hZ eT A' (in_of hj hi r1) (g := mkF m pc Ls (.int x :: .int j :: .ref a :: st)) rfl rfl (hb hby hd)
  have N' := Fr.snoc X' N ha
  rw [clamp_of hj] at W
  exact Go.of st' (k T' h' ⟨_, X', e', N', by rw [W.size]; exact hn⟩ W (A.set W))
theorem Go.castore (C : Cx p s m meth c Z bytes own ret maxL) (X : On p l e R s m args below meth c n0 T h cells slots) {a : Addr} {n : Nat} {f : Nat → Int32} {j x x' : Int32} {i : Nat} (A : AI Z h a .char n f) (hj : j.toInt = (i : Int)) (hi : i < n) (hv : nar .char x = x') (ha : n0 ≤ a) (hd : decode bytes pc = .ok (.castore, 1)) (hp : pc + 1 = pc')
    (k : ∀ T' h', On p l e R s m args below meth c n0 T' h' cells slots → Wr h h' a i (.int x') → AI Z h' a .char n (fun q => if q = i then x' else f q) → Go p e below s n0 rc rs P T' (mkF m pc' Ls st)) : Go p e below s n0 rc rs P T (mkF m pc Ls (.int x :: .int j :: .ref a :: st)) := by
  obtain ⟨locs, X, eT, N, hn⟩ := X; obtain ⟨hx, hZ, hby, hown, hml, hlk, hrt⟩ := C; subst hp hv
  obtain ⟨cl, A', r1, r2, r3⟩ := id A
  obtain ⟨T', h', X', e', W, st'⟩ := RoadKit.stC X hx hZ eT A' (in_of hj hi r1) (g := mkF m pc Ls (.int x :: .int j :: .ref a :: st)) rfl rfl (hb hby hd)
  have N' := Fr.snoc X' N ha
  rw [clamp_of hj] at W
  exact Go.of st' (k T' h' ⟨_, X', e', N', by rw [W.size]; exact hn⟩ W (A.set W))
theorem Go.zastore (C : Cx p s m meth c Z bytes own ret maxL) (X : On p l e R s m args below meth c n0 T h cells slots) {a : Addr} {n : Nat} {f : Nat → Int32} {j x x' : Int32} {i : Nat} (A : AI Z h a .boolean n f) (hj : j.toInt = (i : Int)) (hi : i < n) (hv : nar .boolean x = x') (ha : n0 ≤ a) (hd : decode bytes pc = .ok (.bastore, 1)) (hp : pc + 1 = pc')
    (k : ∀ T' h', On p l e R s m args below meth c n0 T' h' cells slots → Wr h h' a i (.int x') → AI Z h' a .boolean n (fun q => if q = i then x' else f q) → Go p e below s n0 rc rs P T' (mkF m pc' Ls st)) : Go p e below s n0 rc rs P T (mkF m pc Ls (.int x :: .int j :: .ref a :: st)) := by
  obtain ⟨locs, X, eT, N, hn⟩ := X; obtain ⟨hx, hZ, hby, hown, hml, hlk, hrt⟩ := C; subst hp hv
  obtain ⟨cl, A', r1, r2, r3⟩ := id A
  obtain ⟨T', h', X', e', W, st'⟩ := RoadKit.stZ X hx hZ eT A' (in_of hj hi r1) (g := mkF m pc Ls (.int x :: .int j :: .ref a :: st)) rfl rfl (hb hby hd)
  have N' := Fr.snoc X' N ha
  rw [clamp_of hj] at W
  exact Go.of st' (k T' h' ⟨_, X', e', N', by rw [W.size]; exact hn⟩ W (A.set W))
theorem Go.lastore (C : Cx p s m meth c Z bytes own ret maxL) (X : On p l e R s m args below meth c n0 T h cells slots) {a : Addr} {n : Nat} {f : Nat → Int64} {j : Int32} {x : Int64} {i : Nat} (A : AJ Z h a n f) (hj : j.toInt = (i : Int)) (hi : i < n) (ha : n0 ≤ a) (hd : decode bytes pc = .ok (.lastore, 1)) (hp : pc + 1 = pc')
    (k : ∀ T' h', On p l e R s m args below meth c n0 T' h' cells slots → Wr h h' a i (.long x) → AJ Z h' a n (fun q => if q = i then x else f q) → Go p e below s n0 rc rs P T' (mkF m pc' Ls st)) : Go p e below s n0 rc rs P T (mkF m pc Ls (.long x :: .int j :: .ref a :: st)) := by
  obtain ⟨locs, X, eT, N, hn⟩ := X; obtain ⟨hx, hZ, hby, hown, hml, hlk, hrt⟩ := C; subst hp
  obtain ⟨cl, A', r1, r2, r3⟩ := id A
  obtain ⟨T', h', X', e', W, st'⟩ := RoadKit.stJ X hx hZ eT A' (in_of hj hi r1) (g := mkF m pc Ls (.long x :: .int j :: .ref a :: st)) rfl rfl (hb hby hd)
  have N' := Fr.snoc X' N ha
  rw [clamp_of hj] at W
  exact Go.of st' (k T' h' ⟨_, X', e', N', by rw [W.size]; exact hn⟩ W (A.set W))
def AR (Z : State) (h : Heap) (a : Addr) (ty : FieldType) (n : Nat) (f : Nat → Value) : Prop := ∃ cl : Cell, Arr Z h a cl ty ∧ cl.slots.size = n ∧ n < 2 ^ 31 ∧ (∀ i, i < n → cl.slots[i]? = some (f i)) ∧ FitC Z cl
theorem AR.lt {a : Addr} {ty : FieldType} {n : Nat} {f : Nat → Value} (F : AR Z h a ty n f) : a < h.size := by obtain ⟨c, A, -⟩ := F; exact A.lt
theorem AR.ext {h' : Heap} {a : Addr} {ty : FieldType} {n : Nat} {f : Nat → Value} (F : AR Z h a ty n f) (E : Ext h h') : AR Z h' a ty n f := by obtain ⟨c, A, r⟩ := F; exact ⟨c, A.ext E, r⟩
theorem AR.other {h' : Heap} {a b : Addr} {sl : Nat} {v : Value} {ty : FieldType} {n : Nat} {f : Nat → Value} (F : AR Z h b ty n f) (W : Wr h h' a sl v) (q : b ≠ a) : AR Z h' b ty n f := by obtain ⟨c, A, r⟩ := F; exact ⟨c, A.other W q, r⟩
theorem AR.keep {h' : Heap} {a : Addr} {ws : List Addr} {ty : FieldType} {n : Nat} {f : Nat → Value} (F : AR Z h a ty n f) (K : Keep h h' ws) (q : a ∉ ws) : AR Z h' a ty n f := by obtain ⟨c, A, r⟩ := F; exact ⟨c, ⟨K.2.1 a c A.1 q, A.2⟩, r⟩
theorem Go.alenR (C : Cx p s m meth c Z bytes own ret maxL) (X : On p l e R s m args below meth c n0 T h cells slots) {a : Addr} {ty : FieldType} {n : Nat} {f : Nat → Value} {z : Int32} (A : AR Z h a ty n f) (hz : z.toInt = (n : Int)) (hd : decode bytes pc = .ok (.arraylength, 1)) (hp : pc + 1 = pc') (k : Go p e below s n0 rc rs P T (mkF m pc' Ls (.int z :: st))) : Go p e below s n0 rc rs P T (mkF m pc Ls (.ref a :: st)) := by
  obtain ⟨locs, X, eT, N, hn⟩ := X; obtain ⟨hx, hZ, hby, hown, hml, hlk, hrt⟩ := C; subst hp
  obtain ⟨cl, A, r1, r2, r3⟩ := A
  refine Go.of (fun t q => X.arraylength hx (by rw [eT]; exact A.1) (State.isArrayOf_alike hZ.alike A.2.1) (g := mkF m pc Ls (.ref a :: st)) rfl rfl (hb hby hd) t ?_) k
  rw [r1, len32 hz]; exact q
theorem Go.aaload (C : Cx p s m meth c Z bytes own ret maxL) (X : On p l e R s m args below meth c n0 T h cells slots) {a : Addr} {ty : FieldType} {n : Nat} {f : Nat → Value} {j : Int32} {i : Nat} {w : Value} (A : AR Z h a ty n f) (hty : ty.isReference = true) (hj : j.toInt = (i : Int)) (hi : i < n) (hw : f i = w) (hd : decode bytes pc = .ok (.aaload, 1)) (hp : pc + 1 = pc') (k : Go p e below s n0 rc rs P T (mkF m pc' Ls (w :: st))) : Go p e below s n0 rc rs P T (mkF m pc Ls (.int j :: .ref a :: st)) := by
  obtain ⟨locs, X, eT, N, hn⟩ := X; obtain ⟨hx, hZ, hby, hown, hml, hlk, hrt⟩ := C; subst hp hw
  obtain ⟨cl, A, r1, r2, r3, r4⟩ := A
  exact Go.of (fun t q => X.aaload hx (j := j) (v := f i) (by rw [eT]; exact A.1) (State.isArrayOf_alike hZ.alike A.2.1) hty A.2.2 (in_of hj hi r1) (by rw [clamp_of hj]; exact r3 i hi) (g := mkF m pc Ls (.int j :: .ref a :: st)) rfl rfl (hb hby hd) t q) k
theorem Go.cloneA (C : Cx p s m meth c Z bytes own ret maxL) (X : On p l e R s m args below meth c n0 T h cells slots) {ad : String} {i : Nat} {a : Addr} {ty : FieldType} {n W cap : Nat} {f : Nat → Value}
    (w1 : (Cond.methodLink own i ⟨ad, "clone", "()Ljava/lang/Object;"⟩).before a0 Z = true) (w2 : (Cond.sameMethod ad "java/lang/Object" "clone" "()Ljava/lang/Object;").before a0 Z = true) (w3 : (Cond.native ⟨"java/lang/Object", "clone", "()Ljava/lang/Object;"⟩).before a0 Z = true)
    (w4 : (Cond.instanceMethod ⟨"java/lang/Object", "clone", "()Ljava/lang/Object;"⟩).before a0 Z = true) (w5 : (Cond.selects ad ⟨ad, "clone", "()Ljava/lang/Object;"⟩ ⟨"java/lang/Object", "clone", "()Ljava/lang/Object;"⟩).before a0 Z = true) (w6 : (Cond.castable ad "java/lang/Cloneable").before a0 Z = true)
    (A : AR Z h a ty n f) (E : Exa Z h a ad) (hsz : Ls.size = maxL) (hd : decode bytes pc = .ok (.invokevirtual i, 3)) (hf : 1 ≤ R.frames) (hW : (st.map fun v => v.category).sum ≤ W) (hl : W + 14 ≤ R.locals) (hcap : n ≤ cap) (hc : cells + 1 ≤ R.cells) (hsl : slots + cap ≤ R.slots) (hp : pc + 3 = pc')
    (k : ∀ T' h' b, On p l e R s m args below meth c n0 T' h' (cells + 1) (slots + cap) → b = h.size → Ext h h' → AR Z h' b ty n f → Exa Z h' b ad → n0 ≤ b → Go p e below s n0 rc rs P T' (mkF m pc' Ls (.ref b :: st))) : Go p e below s n0 rc rs P T (mkF m pc Ls (.ref a :: st)) := by
  obtain ⟨locs, X, eT, N, hn⟩ := X; obtain ⟨hx, hZ, hby, hown, hml, hlk, hrt⟩ := C; subst hp
  obtain ⟨cl, A, r1, r2, r3, r4⟩ := A
  obtain ⟨T', h', X', e', ex, A', E', st'⟩ := RoadKit.cloneA X hx hZ hown w1 w2 w3 w4 w5 w6 eT A E r4 (g := mkF m pc Ls (.ref a :: st)) rfl (by rw [hml]; exact hsz) rfl (hb hby hd) hf (W := W) (cap := cap) (by simpa using hW) hl (by rw [r1]; exact hcap) hc hsl
  exact Go.of st' (k T' h' h.size ⟨_, X', e', N, Nat.le_trans hn ex.1⟩ rfl ex ⟨cloneOf cl, A', r1, r2, r3, r4⟩ E' hn)
theorem Go.callS (C : Cx p s m meth c Z bytes own ret maxL) (X : On p l e R s m args below meth c n0 T h cells slots) {y : MethodName} {cb : ByteArray} {cm : Nat} {cr : Option FieldType} {rm : Room} {as' : Array Value} {P' : Option Value → Heap → Prop} {i W : Nat} {argsL rest : List Value} (K : Con l Z y cb cm cr rm as' h n0 P') (w1 : (Cond.methodLink own i y).before a0 Z = true) (w2 : (Cond.static y).before a0 Z = true) (w3 : (Cond.initialized y.cls).before a0 Z = true) (w4 : (Cond.code y cb cm cr).before a0 Z = true) (hy : y.cls ≠ "java/lang/invoke/MethodHandle" ∧ y.cls ≠ "java/lang/invoke/VarHandle")
    (has : argsL.toArray = as') (hst : st = argsL.reverse ++ rest) (hlen : ∀ sig, parseMethodDescriptor y.desc = some sig → argsL.length = sig.parameters.length) (hsz : Ls.size = maxL) (hW : (rest.map fun v => v.category).sum ≤ W) (hf : rm.frames + 1 ≤ R.frames) (hlo : W + (cm + 11) + rm.locals ≤ R.locals) (hce : cells + rm.cells ≤ R.cells) (hsl : slots + rm.slots ≤ R.slots) (hd : decode bytes pc = .ok (.invokestatic i, 3)) (hp : pc + 3 = pc')
    (hgrow : ∀ v h', P' v h' → h.size ≤ h'.size)
    (k : ∀ T' h' v, On p l e R s m args below meth c n0 T' h' (cells + rm.cells) (slots + rm.slots) → P' v h' → Go p e below s n0 rc rs P T' (mkF m pc' Ls (v.toList ++ rest))) : Go p e below s n0 rc rs P T (mkF m pc Ls st) := by
  obtain ⟨locs, X, eT, N, hn⟩ := X; obtain ⟨hx, hZ, hby, hown, hml, hlk, hrt⟩ := C; subst hp has hst
  obtain ⟨v, _, ⟨T', L', k', n'⟩, -, X', ⟨Lc, hQ, l', y', z'⟩, st'⟩ := Jvm.LawKit.callS X hx (y := y) hown (mvT hZ w1) (mvT hZ w2) (mvT hZ w3) (mvT hZ w4) hy (K.back (W := W) hZ w4 w3 hf hlo) (g := mkF m pc Ls (argsL.reverse ++ rest)) rfl (by rw [hml]; exact hsz) (argsL := argsL) (rest := rest) hlen rfl (by simpa using hW) (hb hby hd) (fun _ _ => ⟨rfl, eT, hce, hsl⟩)
  dsimp only [Pt.U, Pt.locs, Pt.cells, Pt.slots] at X' l' y' z' st' hQ
  subst l' y' z'
  exact Go.of st' (k T' _ v ⟨_, X', rfl, Fr.app N hQ.2, Nat.le_trans hn (hgrow _ _ hQ.1)⟩ hQ.1)
theorem Go.callI (C : Cx p s m meth c Z bytes own ret maxL) (X : On p l e R s m args below meth c n0 T h cells slots) {y : MethodName} {cb : ByteArray} {cm : Nat} {cr : Option FieldType} {rm : Room} {as' : Array Value} {P' : Option Value → Heap → Prop} {i W : Nat} {argsL rest : List Value} (K : Con l Z y cb cm cr rm as' h n0 P') {a : Addr} (hy1 : y.name = "<init>") (hcr : cr = none) (w1 : (Cond.methodLink own i y).before a0 Z = true) (w2 : (Cond.instanceMethod y).before a0 Z = true) (w3 : (Cond.initialized y.cls).before a0 Z = true) (w4 : (Cond.code y cb cm cr).before a0 Z = true) (hy : y.cls ≠ "java/lang/invoke/MethodHandle" ∧ y.cls ≠ "java/lang/invoke/VarHandle")
    (has : (.ref a :: argsL).toArray = as') (hst : st = argsL.reverse ++ .ref a :: rest) (hlen : ∀ sig, parseMethodDescriptor y.desc = some sig → argsL.length = sig.parameters.length) (hsz : Ls.size = maxL) (hW : (rest.map fun v => v.category).sum ≤ W) (hf : rm.frames + 1 ≤ R.frames) (hlo : W + (cm + 11) + rm.locals ≤ R.locals) (hce : cells + rm.cells ≤ R.cells) (hsl : slots + rm.slots ≤ R.slots) (hd : decode bytes pc = .ok (.invokespecial i, 3)) (hp : pc + 3 = pc')
    (hgrow : ∀ v h', P' v h' → h.size ≤ h'.size)
    (k : ∀ T' h' v, On p l e R s m args below meth c n0 T' h' (cells + rm.cells) (slots + rm.slots) → P' v h' → Go p e below s n0 rc rs P T' (mkF m pc' Ls (v.toList ++ rest))) : Go p e below s n0 rc rs P T (mkF m pc Ls st) := by
  obtain ⟨locs, X, eT, N, hn⟩ := X; obtain ⟨hx, hZ, hby, hown, hml, hlk, hrt⟩ := C; subst hp has hst hcr
  obtain ⟨v, _, ⟨T', L', k', n'⟩, -, X', ⟨Lc, hQ, l', y', z'⟩, st'⟩ := X.specialBack hx (y := y) hy1 hown (mvT hZ w1) (mvT hZ w2) (mvT hZ w4) hy (K.back (W := W) hZ w4 w3 hf hlo) (g := mkF m pc Ls (argsL.reverse ++ .ref a :: rest)) rfl (by rw [hml]; exact hsz) (Steps.refl _) (a := a) (argsL := argsL) (rest := rest) hlen rfl (by simpa using hW) (hb hby hd) (fun _ _ => ⟨rfl, eT, hce, hsl⟩)
  dsimp only [Pt.U, Pt.locs, Pt.cells, Pt.slots] at X' l' y' z' st' hQ
  subst l' y' z'
  exact Go.tr st' (k T' _ v ⟨_, X', rfl, Fr.app N hQ.2, Nat.le_trans hn (hgrow _ _ hQ.1)⟩ hQ.1)
theorem Go.callV (C : Cx p s m meth c Z bytes own ret maxL) (X : On p l e R s m args below meth c n0 T h cells slots) {y : MethodName} {cb : ByteArray} {cm : Nat} {cr : Option FieldType} {rm : Room} {as' : Array Value} {P' : Option Value → Heap → Prop} {i W : Nat} {argsL rest : List Value} (K : Con l Z y cb cm cr rm as' h n0 P') {y0 : MethodName} {a : Addr} {Ck : String} (E : Exa Z h a Ck) (nf : NotFace s y0) (w1 : (Cond.methodLink own i y0).before a0 Z = true) (w2 : (Cond.declares y0).before a0 Z = true) (w5 : (Cond.selects Ck y0 y).before a0 Z = true) (w6 : (Cond.instanceMethod y).before a0 Z = true) (w3 : (Cond.initialized y.cls).before a0 Z = true) (w4 : (Cond.code y cb cm cr).before a0 Z = true) (hy : y0.cls ≠ "java/lang/invoke/MethodHandle" ∧ y0.cls ≠ "java/lang/invoke/VarHandle")
    (has : (.ref a :: argsL).toArray = as') (hst : st = argsL.reverse ++ .ref a :: rest) (hlen : ∀ sig, parseMethodDescriptor y0.desc = some sig → argsL.length = sig.parameters.length) (hsz : Ls.size = maxL) (hW : (rest.map fun v => v.category).sum ≤ W) (hf : rm.frames + 1 ≤ R.frames) (hlo : W + (cm + 11) + rm.locals ≤ R.locals) (hce : cells + rm.cells ≤ R.cells) (hsl : slots + rm.slots ≤ R.slots) (hd : decode bytes pc = .ok (.invokevirtual i, 3)) (hp : pc + 3 = pc')
    (hgrow : ∀ v h', P' v h' → h.size ≤ h'.size)
    (k : ∀ T' h' v, On p l e R s m args below meth c n0 T' h' (cells + rm.cells) (slots + rm.slots) → P' v h' → Go p e below s n0 rc rs P T' (mkF m pc' Ls (v.toList ++ rest))) : Go p e below s n0 rc rs P T (mkF m pc Ls st) := by
  obtain ⟨locs, X, eT, N, hn⟩ := X; obtain ⟨hx, hZ, hby, hown, hml, hlk, hrt⟩ := C; subst hp has hst
  obtain ⟨cq, kq, qa, qb, qc⟩ := isOf hZ eT E
  obtain ⟨v, _, ⟨T', L', k', n'⟩, -, X', ⟨Lc, hQ, l', y', z'⟩, st'⟩ := X.virtualBack hx (y := y0) (z := y) hown (mvT hZ w1) (mvT hZ w2) nf (mvT hZ w5) (mvT hZ w6) hy (K.back (W := W) hZ w4 w3 hf hlo) qa qc (g := mkF m pc Ls (argsL.reverse ++ .ref a :: rest)) rfl (by rw [hml]; exact hsz) (Steps.refl _) (argsL := argsL) (rest := rest) hlen rfl (by simpa using hW) (hb hby hd) (fun _ _ => ⟨rfl, eT, hce, hsl⟩)
  dsimp only [Pt.U, Pt.locs, Pt.cells, Pt.slots] at X' l' y' z' st' hQ
  subst l' y' z'
  exact Go.tr st' (k T' _ v ⟨_, X', rfl, Fr.app N hQ.2, Nat.le_trans hn (hgrow _ _ hQ.1)⟩ hQ.1)
theorem own_selp {y : MethodName} {kk : Nat} (hZ : Z.Warmed39 s.vm) (wi : (Cond.instantiable y.cls kk).before a0 Z = true) (w2 : (Cond.instanceMethod y).before a0 Z = true) (w6 : (Cond.privateMethod y).before a0 Z = true) (hy : y.cls ≠ "java/lang/invoke/MethodHandle" ∧ y.cls ≠ "java/lang/invoke/VarHandle") : (Cond.selects y.cls y y).before args s = true := by
  have wi' : (Cond.instantiable y.cls kk).before args s = true := mvT hZ wi
  obtain ⟨c2, k2, i1, i2, i3, i4, -⟩ := Cond.instantiable_spec wi'
  exact Jvm.Stand.selects_self_of_private i1 i2 (by simp only [Bool.or_eq_false_iff] at i4; exact i4.1) (Cond.privateMethod_at (mvP hZ w6 (args := #[]))) (mvT hZ w2) hy
theorem Go.callP (C : Cx p s m meth c Z bytes own ret maxL) (X : On p l e R s m args below meth c n0 T h cells slots) {y : MethodName} {cb : ByteArray} {cm : Nat} {cr : Option FieldType} {rm : Room} {as' : Array Value} {P' : Option Value → Heap → Prop} {i W : Nat} {argsL rest : List Value} (K : Con l Z y cb cm cr rm as' h n0 P') {a : Addr} {Ck : String} (E : Exa Z h a Ck) (w1 : (Cond.methodLink own i y).before a0 Z = true) (w2 : (Cond.instanceMethod y).before a0 Z = true) {kk : Nat} (w5 : (Cond.instantiable y.cls kk).before a0 Z = true) (w6 : (Cond.privateMethod y).before a0 Z = true) (w3 : (Cond.initialized y.cls).before a0 Z = true) (w4 : (Cond.code y cb cm cr).before a0 Z = true) (hy : y.cls ≠ "java/lang/invoke/MethodHandle" ∧ y.cls ≠ "java/lang/invoke/VarHandle")
    (has : (.ref a :: argsL).toArray = as') (hst : st = argsL.reverse ++ .ref a :: rest) (hlen : ∀ sig, parseMethodDescriptor y.desc = some sig → argsL.length = sig.parameters.length) (hsz : Ls.size = maxL) (hW : (rest.map fun v => v.category).sum ≤ W) (hf : rm.frames + 1 ≤ R.frames) (hlo : W + (cm + 11) + rm.locals ≤ R.locals) (hce : cells + rm.cells ≤ R.cells) (hsl : slots + rm.slots ≤ R.slots) (hd : decode bytes pc = .ok (.invokevirtual i, 3)) (hp : pc + 3 = pc')
    (hgrow : ∀ v h', P' v h' → h.size ≤ h'.size)
    (k : ∀ T' h' v, On p l e R s m args below meth c n0 T' h' (cells + rm.cells) (slots + rm.slots) → P' v h' → Go p e below s n0 rc rs P T' (mkF m pc' Ls (v.toList ++ rest))) : Go p e below s n0 rc rs P T (mkF m pc Ls st) := by
  obtain ⟨locs, X, eT, N, hn⟩ := X; obtain ⟨hx, hZ, hby, hown, hml, hlk, hrt⟩ := C; subst hp has hst
  obtain ⟨cq, qa, qb⟩ := E.cell
  obtain ⟨v, _, ⟨T', L', k', n'⟩, -, X', ⟨Lc, hQ, l', y', z'⟩, st'⟩ := X.privateBack hx (y := y) hown (mvT hZ w1) (mvT hZ w2) (own_selp hZ w5 w2 w6 hy) (Cond.privateMethod_at (mvP hZ w6 (args := #[]))) (mvT hZ w4) hy (K.back (W := W) hZ w4 w3 hf hlo) (g := mkF m pc Ls (argsL.reverse ++ .ref a :: rest)) rfl (by rw [hml]; exact hsz) (Steps.refl _) (a := a) (by rw [eT]; exact qa) qb (argsL := argsL) (rest := rest) hlen rfl (by simpa using hW) (hb hby hd) (fun _ _ => ⟨rfl, eT, hce, hsl⟩)
  dsimp only [Pt.U, Pt.locs, Pt.cells, Pt.slots] at X' l' y' z' st' hQ
  subst l' y' z'
  exact Go.tr st' (k T' _ v ⟨_, X', rfl, Fr.app N hQ.2, Nat.le_trans hn (hgrow _ _ hQ.1)⟩ hQ.1)
end Own
end Jvm.RoadKit
namespace Jvm.RoadKit
theorem own_iadd {x y : Int32} (h1 : -2147483648 ≤ x.toInt + y.toInt) (h2 : x.toInt + y.toInt < 2147483648) : (x + y).toInt = x.toInt + y.toInt := by
  have h3 := c_iadd x y; have h4 := rng32 (x + y); omega
theorem own_isub {x y : Int32} (h1 : -2147483648 ≤ x.toInt - y.toInt) (h2 : x.toInt - y.toInt < 2147483648) : (x - y).toInt = x.toInt - y.toInt := by
  have h3 := c_isub x y; have h4 := rng32 (x - y); omega
theorem own_imul {x y : Int32} (h1 : -2147483648 ≤ x.toInt * y.toInt) (h2 : x.toInt * y.toInt < 2147483648) : (x * y).toInt = x.toInt * y.toInt := by
  have h3 := c_imul x y; have h4 := rng32 (x * y); omega
theorem own_ladd {x y : Int64} (h1 : -9223372036854775808 ≤ x.toInt + y.toInt) (h2 : x.toInt + y.toInt < 9223372036854775808) : (x + y).toInt = x.toInt + y.toInt := by
  have h3 := c_ladd x y; have h4 := rng64 (x + y); omega
theorem own_lsub {x y : Int64} (h1 : -9223372036854775808 ≤ x.toInt - y.toInt) (h2 : x.toInt - y.toInt < 9223372036854775808) : (x - y).toInt = x.toInt - y.toInt := by
  have h3 := c_lsub x y; have h4 := rng64 (x - y); omega
theorem own_lmul {x y : Int64} (h1 : -9223372036854775808 ≤ x.toInt * y.toInt) (h2 : x.toInt * y.toInt < 9223372036854775808) : (x * y).toInt = x.toInt * y.toInt := by
  have h3 := c_lmul x y; have h4 := rng64 (x * y); omega
theorem own_ilt {x y : Int32} : x < y ↔ x.toInt < y.toInt := Int32.lt_iff_toInt_lt
theorem own_jlt {x y : Int64} : x < y ↔ x.toInt < y.toInt := Int64.lt_iff_toInt_lt
theorem own_ieq {x y : Int32} : x = y ↔ x.toInt = y.toInt := Int32.toInt_inj.symm
theorem own_jeq {x y : Int64} : x = y ↔ x.toInt = y.toInt := Int64.toInt_inj.symm
theorem own_nilt {x y : Int32} (h : ¬ x < y) : ¬ x.toInt < y.toInt := fun q => h (own_ilt.mpr q)
theorem own_njlt {x y : Int64} (h : ¬ x < y) : ¬ x.toInt < y.toInt := fun q => h (own_jlt.mpr q)
theorem own_nieq {x y : Int32} (h : ¬ x = y) : ¬ x.toInt = y.toInt := fun q => h (own_ieq.mpr q)
theorem own_njeq {x y : Int64} (h : ¬ x = y) : ¬ x.toInt = y.toInt := fun q => h (own_jeq.mpr q)
theorem own_inc {x y : Int32} (h : x < y) : (x + (1 : Int32)).toInt = x.toInt + 1 := by
  rw [own_ilt] at h
  have h1 := rng32 x; have h2 := rng32 y
  have e : (1 : Int32).toInt = 1 := rfl
  rw [own_iadd (by omega) (by omega), e]
theorem own_dec {x y : Int32} (h : y < x) : (x + (-1 : Int32)).toInt = x.toInt - 1 := by
  rw [own_ilt] at h
  have h1 := rng32 x; have h2 := rng32 y
  have e : (-1 : Int32).toInt = -1 := rfl
  rw [own_iadd (by omega) (by omega), e]; omega
theorem own_nat32 {x : Int32} {n : Nat} (h : x.toInt = (n : Int)) : x = Int32.ofNat n := by
  apply Int32.toInt_inj.mp
  have := rng32 x
  rw [Int32.toInt_ofNat_of_lt (by omega), h]
theorem own_pos31 (x : Int32) : 0 ≤ (x &&& (2147483647 : Int32)).toInt := by
  have h := c_mask x 2147483647 31 (by decide) (by decide)
  rw [h]; exact Int.emod_nonneg _ (by decide)
theorem own_mod (x : Int32) (k : Int32) (d : Int) (hk : k.toInt = d) (hd : 0 < d) : ((x &&& (2147483647 : Int32)) % k).toInt = (x &&& (2147483647 : Int32)).toInt % d ∧ 0 ≤ ((x &&& (2147483647 : Int32)) % k).toInt ∧ ((x &&& (2147483647 : Int32)) % k).toInt < d := by
  have h := (c_irem (x &&& (2147483647 : Int32)) k d hk).1 (own_pos31 x)
  exact ⟨h, by rw [h]; exact Int.emod_nonneg _ (by omega), by rw [h]; exact Int.emod_lt_of_pos _ hd⟩
theorem own_upd {R : Int32 → Prop} {f : Nat → Int32} {x : Int32} {i : Nat} (h : ∀ q, R (f q)) (hx : R x) : ∀ q, R ((fun q => if q = i then x else f q) q) := fun q => by
  by_cases e : q = i
  · simp only [if_pos e]; exact hx
  · simp only [if_neg e]; exact h q
theorem own_i2b (x : Int32) : -128 ≤ (x.toInt8.toInt32).toInt ∧ (x.toInt8.toInt32).toInt ≤ 127 := by have := c_i2b x; omega
theorem own_b2 (x : Int32) : x.toInt8.toInt32.toInt8.toInt32 = x.toInt8.toInt32 := by rw [Int8.toInt8_toInt32]
theorem own_and3 (x : Int32) : x &&& (3 : Int32) = 0 ∨ x &&& (3 : Int32) = 1 ∨ x &&& (3 : Int32) = 2 ∨ x &&& (3 : Int32) = 3 := by
  have h := c_mask x 3 2 (by decide) (by decide)
  have z0 : (0 : Int32).toInt = 0 := rfl
  have z1 : (1 : Int32).toInt = 1 := rfl
  have z2 : (2 : Int32).toInt = 2 := rfl
  have z3 : (3 : Int32).toInt = 3 := rfl
  have h1 : ((2 ^ 2 : Nat) : Int) = 4 := rfl
  rw [h1] at h
  rw [own_ieq, own_ieq, own_ieq, own_ieq, z0, z1, z2, z3]
  omega
theorem own_and1 (x : Int32) : x &&& (1 : Int32) = 0 ∨ x &&& (1 : Int32) = 1 := by
  have h := c_mask x 1 1 (by decide) (by decide)
  have z0 : (0 : Int32).toInt = 0 := rfl
  have z1 : (1 : Int32).toInt = 1 := rfl
  have h1 : ((2 ^ 1 : Nat) : Int) = 2 := rfl
  rw [h1] at h
  rw [own_ieq, own_ieq, z0, z1]
  omega
end Jvm.RoadKit
namespace Jvm.Pilot.@@N@@
open Jvm Jvm.ClassFile Sem Op Lib Jvm.Free Jvm.Stand Jvm.LawKit Jvm.RoadKit Bundle Jvm.Pilot.@@N@@.Jvm.D
def own_dg (v k : Nat) : Int32 := Int32.ofNat (48 + v / 10 ^ k % 10)
theorem own_dg_toInt (v k : Nat) : (own_dg v k).toInt = ((48 + v / 10 ^ k % 10 : Nat) : Int) := by
  unfold own_dg
  have := Nat.mod_lt (v / 10 ^ k) (by decide : 0 < 10)
  rw [Int32.toInt_ofNat_of_lt (by omega)]
def own_len (v l L : Nat) : Prop := 1 ≤ L ∧ v < 10 ^ L ∧ l ≤ L ∧ ∀ k, 1 ≤ k → k < L → v < 10 ^ k → k < l
def own_pb (f : Nat → Int32) (v e k : Nat) : Nat → Int32 := fun i => if e - k ≤ i ∧ i < e then own_dg v (e - 1 - i) else f i
theorem own_pb0 (f : Nat → Int32) (v e n : Nat) : ∀ i, i < n → f i = own_pb f v e 0 i := fun i _ => by
  unfold own_pb; rw [if_neg (by omega)]
theorem own_pb1 (f : Nat → Int32) (v e k n : Nat) (h : k < e) : ∀ i, i < n → (if i = e - k - 1 then own_dg v k else own_pb f v e k i) = own_pb f v e (k + 1) i := fun i _ => by
  unfold own_pb
  by_cases q : i = e - k - 1
  · rw [if_pos q, if_pos (by omega)]; congr 1; omega
  · rw [if_neg q]
    by_cases u : e - k ≤ i ∧ i < e
    · rw [if_pos u, if_pos (by omega)]
    · rw [if_neg u, if_neg (by omega)]
theorem own_least (p : Nat → Prop) : ∀ B, p B → ∃ L, L ≤ B ∧ p L ∧ ∀ k, k < L → ¬ p k := by
  intro B
  induction B using Nat.strongRecOn with
  | _ B ih =>
    intro hB
    by_cases h : ∃ k, k < B ∧ p k
    · obtain ⟨k, hk, pk⟩ := h
      obtain ⟨L, h1, h2, h3⟩ := ih k hk pk
      exact ⟨L, by omega, h2, h3⟩
    · exact ⟨B, Nat.le_refl _, hB, fun k hk pk => h ⟨k, hk, pk⟩⟩
theorem own_ex (v l B : Nat) (hv : v < 10 ^ B) (hl : l ≤ B) (hB : 1 ≤ B) : ∃ L, L ≤ B ∧ own_len v l L := by
  obtain ⟨L, h1, ⟨h2, h3, h4⟩, h5⟩ := own_least (fun k => 1 ≤ k ∧ v < 10 ^ k ∧ l ≤ k) B ⟨hB, hv, hl⟩
  refine ⟨L, h1, h2, h3, h4, fun k a b d => ?_⟩
  have := h5 k b
  exact Nat.lt_of_not_le fun q => this ⟨a, d, q⟩
theorem own_more {v l L k : Nat} (h : own_len v l L) (hk : 0 < v / 10 ^ k) : k < L := by
  refine Nat.lt_of_not_le fun q => ?_
  have h1 : 10 ^ L ≤ 10 ^ k := Nat.pow_le_pow_right (by decide) q
  have h2 : v / 10 ^ k = 0 := Nat.div_eq_of_lt (Nat.lt_of_lt_of_le h.2.1 h1)
  omega
theorem own_done {v l L k : Nat} (h : own_len v l L) (hk : k < L) (h0 : v / 10 ^ (k + 1) = 0) (hl : l ≤ k + 1) : k + 1 = L := by
  have hv : v < 10 ^ (k + 1) := (Nat.div_eq_zero_iff_lt (Nat.pow_pos (by decide))).mp h0
  have := h.2.2.2 (k + 1)
  omega
theorem own_digit {q : Int64} {v k : Nat} (hq : q.toInt = ((v / 10 ^ k : Nat) : Int)) : nar .byte ((((48 : Int64) + (q % (10 : Int64)))).toInt32).toInt8.toInt32 = own_dg v k := by
  apply Int32.toInt_inj.mp
  rw [own_dg_toInt]
  generalize v / 10 ^ k = N at hq ⊢
  have e10 : (10 : Int64).toInt = 10 := rfl
  have e48 : (48 : Int64).toInt = 48 := rfl
  have h1 : (q % (10 : Int64)).toInt = q.toInt % 10 := by
    rw [Int64.toInt_mod, e10]; exact Int.tmod_eq_emod_of_nonneg (by omega)
  have h2 : ((48 : Int64) + (q % (10 : Int64))).toInt = 48 + q.toInt % 10 := by rw [own_ladd (by omega) (by omega), h1, e48]
  have h3 := c_l2i ((48 : Int64) + (q % (10 : Int64)))
  have h4 := rng32 (((48 : Int64) + (q % (10 : Int64))).toInt32)
  have h5 := c_i2b (((48 : Int64) + (q % (10 : Int64))).toInt32)
  show ((((((48 : Int64) + (q % (10 : Int64)))).toInt32).toInt8.toInt32).toInt8.toInt32).toInt = _
  rw [own_b2]
  omega
theorem own_div10 {q : Int64} {v k : Nat} (hq : q.toInt = ((v / 10 ^ k : Nat) : Int)) : (q / (10 : Int64)).toInt = ((v / 10 ^ (k + 1) : Nat) : Int) := by
  rw [Nat.pow_succ, ← Nat.div_div_eq_div_mul]
  generalize v / 10 ^ k = N at hq ⊢
  have h := (c_ldiv q 10 10 rfl (by decide)).1 (by omega)
  rw [h, hq]; omega
theorem own_st {u : Int32} {e k L : Nat} (h : u.toInt = (e : Int) - (k : Int)) (h1 : k < L) (h2 : L ≤ e) (h3 : e < 1000) : (u + (-1 : Int32)).toInt = (e : Int) - ((k + 1 : Nat) : Int) := by
  have e1 : (-1 : Int32).toInt = -1 := rfl
  rw [own_iadd (by omega) (by omega), e1]; omega
theorem own_z64 : (0 : Int64).toInt = 0 := rfl
theorem own_zc {x : Int64} {N : Nat} (hq : x.toInt = (N : Int)) (h : ¬ (0 : Int64) < x) : N = 0 := by
  have := own_njlt h
  rw [hq, own_z64] at this; omega
theorem own_pc {x : Int64} {N : Nat} (hq : x.toInt = (N : Int)) (h : (0 : Int64) < x) : 0 < N := by
  have := own_jlt.mp h
  rw [hq, own_z64] at this; omega
theorem own_ic {x y : Int32} {a b : Nat} (hx : x.toInt = (a : Int)) (hy : y.toInt = (b : Int)) (h : x < y) : a < b := by
  have := own_ilt.mp h; rw [hx, hy] at this; omega
theorem own_nc {x y : Int32} {a b : Nat} (hx : x.toInt = (a : Int)) (hy : y.toInt = (b : Int)) (h : ¬ x < y) : b ≤ a := by
  have := own_nilt h; rw [hx, hy] at this; omega
theorem own_sb1 {en u : Int32} {e k L : Nat} (hE : en.toInt = (e : Int)) (h : u.toInt = (e : Int) - (k : Int)) (h1 : k < L) (h2 : L ≤ e) (h3 : e < 1000) : (en - (u + (-1 : Int32))).toInt = ((k + 1 : Nat) : Int) := by
  have h4 := own_st h h1 h2 h3
  rw [own_isub (by rw [hE, h4]; omega) (by rw [hE, h4]; omega), hE, h4]; omega
theorem own_pn0 : plainName "com/example/streamgauge/streamgauge/workloads/Decimal" = true := by first | (simp [plainName, overriddenIn]; done) | decide +kernel
theorem own_ef_rm_put (m : MethodId) (x0 : Int64) (x1 : Int32) (x2 : Addr) (x3 : Int32) : entryFrame m #[(.long x0), (.int x1), (.ref x2), (.int x3)] 8 = mkF m 0 #[.val (.long x0), .second, .val (.int x1), .val (.ref x2), .val (.int x3), .unset, .unset, .unset] [] := by first | (simp [entryFrame, mkF, argsToLocals, Value.category]; done) | rfl
theorem d1_0 : decode prog_126_method_4_code 0 = .ok (.iload 4, 2) := by decide +kernel
theorem d1_2 : decode prog_126_method_4_code 2 = .ok (.istore 5, 2) := by decide +kernel
theorem d1_4 : decode prog_126_method_4_code 4 = .ok (.lload_n 0, 1) := by decide +kernel
theorem d1_5 : decode prog_126_method_4_code 5 = .ok (.lstore 6, 2) := by decide +kernel
theorem d1_7 : decode prog_126_method_4_code 7 = .ok (.aload_n 3, 1) := by decide +kernel
theorem d1_8 : decode prog_126_method_4_code 8 = .ok (.iinc 5 (-1), 3) := by decide +kernel
theorem d1_11 : decode prog_126_method_4_code 11 = .ok (.iload 5, 2) := by decide +kernel
theorem d1_13 : decode prog_126_method_4_code 13 = .ok (.ldc2_w 13, 3) := by decide +kernel
theorem d1_16 : decode prog_126_method_4_code 16 = .ok (.lload 6, 2) := by decide +kernel
theorem d1_18 : decode prog_126_method_4_code 18 = .ok (.ldc2_w 15, 3) := by decide +kernel
theorem d1_21 : decode prog_126_method_4_code 21 = .ok (.lrem, 1) := by decide +kernel
theorem d1_22 : decode prog_126_method_4_code 22 = .ok (.ladd, 1) := by decide +kernel
theorem d1_23 : decode prog_126_method_4_code 23 = .ok (.l2i, 1) := by decide +kernel
theorem d1_24 : decode prog_126_method_4_code 24 = .ok (.i2b, 1) := by decide +kernel
theorem d1_25 : decode prog_126_method_4_code 25 = .ok (.bastore, 1) := by decide +kernel
theorem d1_26 : decode prog_126_method_4_code 26 = .ok (.lload 6, 2) := by decide +kernel
theorem d1_28 : decode prog_126_method_4_code 28 = .ok (.ldc2_w 15, 3) := by decide +kernel
theorem d1_31 : decode prog_126_method_4_code 31 = .ok (.ldiv, 1) := by decide +kernel
theorem d1_32 : decode prog_126_method_4_code 32 = .ok (.lstore 6, 2) := by decide +kernel
theorem d1_34 : decode prog_126_method_4_code 34 = .ok (.lload 6, 2) := by decide +kernel
theorem d1_36 : decode prog_126_method_4_code 36 = .ok (.lconst 0, 1) := by decide +kernel
theorem d1_37 : decode prog_126_method_4_code 37 = .ok (.lcmp, 1) := by decide +kernel
theorem d1_38 : decode prog_126_method_4_code 38 = .ok (.ifCond .gt (-31), 3) := by decide +kernel
theorem d1_41 : decode prog_126_method_4_code 41 = .ok (.iload 4, 2) := by decide +kernel
theorem d1_43 : decode prog_126_method_4_code 43 = .ok (.iload 5, 2) := by decide +kernel
theorem d1_45 : decode prog_126_method_4_code 45 = .ok (.isub, 1) := by decide +kernel
theorem d1_46 : decode prog_126_method_4_code 46 = .ok (.iload_n 2, 1) := by decide +kernel
theorem d1_47 : decode prog_126_method_4_code 47 = .ok (.if_icmp .lt (-40), 3) := by decide +kernel
theorem d1_50 : decode prog_126_method_4_code 50 = .ok (.iload 5, 2) := by decide +kernel
theorem d1_52 : decode prog_126_method_4_code 52 = .ok (.ireturn, 1) := by decide +kernel
set_option maxRecDepth 65536 in
set_option maxHeartbeats 40000000 in
theorem rm_put (l : Launch) (Z : State) (a0 : Array Value) (hw : ∀ d ∈ tables_1, d.before a0 Z = true) (q : Int64) (ls : Int32) (t : Addr) (en : Int32) (n : Nat) (f : Nat → Int32) (v : Nat) (l' : Nat) (L : Nat) (ee : Nat) (h0 : Heap) (n0 : Nat) (Z0 : n0 ≤ h0.size) (f0 : AI Z h0 t .byte n f) (f1 : n0 ≤ t) (hq : q.toInt = (v : Int)) (hl : ls.toInt = (l' : Int)) (hL : own_len v l' L) (hE : en.toInt = (ee : Int)) (hLe : L ≤ ee) (hen : ee ≤ n) (hee : ee < 1000) :
    Con l Z (⟨"com/example/streamgauge/streamgauge/workloads/Decimal", "putBefore", "(JI[BI)I"⟩ : MethodName) prog_126_method_4_code 8 (some .int) ({ frames := 0, cells := 0, slots := 0, locals := 0 } : Room) #[(.long q), (.int ls), (.ref t), (.int en)] h0 n0 (fun rv hv => ∃ r : Int32, rv = some (.int r) ∧ Keep h0 hv [t] ∧ AI Z hv t .byte n (own_pb f v ee L) ∧ (r.toInt = (ee : Int) - (L : Int))) := by
  refine Con.enter (plainFor_of_name own_pn0) Z0 ?_
  intro p e s m below meth c T0 C hnm X0
  refine Go.cast (own_ef_rm_put m q ls t en) ?_
  refine Go.iload C X0 (pc' := 2) d1_0 rfl rfl ?_
  refine Go.istore C X0 (pc' := 4) (Ls' := #[.val (.long q), .second, .val (.int ls), .val (.ref t), .val (.int en), .val (.int en), .unset, .unset]) d1_2 rfl rfl ?_
  refine Go.lloadN C X0 (pc' := 5) d1_4 rfl rfl ?_
  refine Go.lstore C X0 (pc' := 7) (Ls' := #[.val (.long q), .second, .val (.int ls), .val (.ref t), .val (.int en), .val (.int en), .val (.long q), .second]) d1_5 rfl rfl ?_
  have Cut7 : ∀ (fuel : Nat) (T_7 : State) (h_7 : Heap) (k : Nat) (u5 : Int32) (u6 : Int64), (L - k) < fuel → (k < L) → (u5.toInt = (ee : Int) - (k : Int)) → (u6.toInt = ((v / 10 ^ k : Nat) : Int)) → On p l e ({ frames := 0, cells := 0, slots := 0, locals := 0 } : Room) s m #[(.long q), (.int ls), (.ref t), (.int en)] below meth c n0 T_7 h_7 0 0 → Keep h0 h_7 [t] → AI Z h_7 t .byte n (own_pb f v ee k) → Go p e below s n0 (({ frames := 0, cells := 0, slots := 0, locals := 0 } : Room)).cells (({ frames := 0, cells := 0, slots := 0, locals := 0 } : Room)).slots (fun rv hv => ∃ r : Int32, rv = some (.int r) ∧ Keep h0 hv [t] ∧ AI Z hv t .byte n (own_pb f v ee L) ∧ (r.toInt = (ee : Int) - (L : Int))) T_7 (mkF m 7 #[.val (.long q), .second, .val (.int ls), .val (.ref t), .val (.int en), .val (.int u5), .val (.long u6), .second] []) := by
    intro fuel
    induction fuel with
    | zero => intro T_7 h_7 k u5 u6 hM_7 hk h5 h6 X_7 K_7 G7_0; exact absurd hM_7 (Nat.not_lt_zero _)
    | succ fuel ih_7 =>
      intro T_7 h_7 k u5 u6 hM_7 hk h5 h6 X_7 K_7 G7_0
      refine Go.aloadN C X_7 (pc' := 8) d1_7 rfl rfl rfl ?_
      refine Go.iinc C X_7 (pc' := 11) (Ls' := #[.val (.long q), .second, .val (.int ls), .val (.ref t), .val (.int en), .val (.int (u5 + (-1 : Int32))), .val (.long u6), .second]) (v' := (u5 + (-1 : Int32))) d1_8 rfl (by rfl) rfl rfl ?_
      refine Go.iload C X_7 (pc' := 13) d1_11 rfl rfl ?_
      refine Go.ldc2 C X_7 (pc' := 16) (hw _ (List.mem_of_getElem? (i := 7) rfl)) d1_13 rfl ?_
      refine Go.lload C X_7 (pc' := 18) d1_16 rfl rfl ?_
      refine Go.ldc2 C X_7 (pc' := 21) (hw _ (List.mem_of_getElem? (i := 8) rfl)) d1_18 rfl ?_
      refine Go.lrem C X_7 (pc' := 22) d1_21 (by decide) rfl ?_
      refine Go.ladd C X_7 (pc' := 23) d1_22 rfl ?_
      refine Go.l2i C X_7 (pc' := 24) d1_23 rfl ?_
      refine Go.i2b C X_7 (pc' := 25) d1_24 rfl ?_
      refine Go.bastore C X_7 (pc' := 26) (i := (ee - k - 1)) (x' := (own_dg v k)) G7_0 (by rw [own_st h5 hk hLe hee]; omega) (by omega) (own_digit h6) f1 d1_25 rfl (fun T1 h1 X1 W1 A1 => ?_)
      have K2 : Keep h0 h1 [t] := K_7.wr W1 (Or.inl (List.mem_of_getElem? (i := 0) rfl))
      refine Go.lload C X1 (pc' := 28) d1_26 rfl rfl ?_
      refine Go.ldc2 C X1 (pc' := 31) (hw _ (List.mem_of_getElem? (i := 8) rfl)) d1_28 rfl ?_
      refine Go.ldiv C X1 (pc' := 32) d1_31 (by decide) rfl ?_
      refine Go.lstore C X1 (pc' := 34) (Ls' := #[.val (.long q), .second, .val (.int ls), .val (.ref t), .val (.int en), .val (.int (u5 + (-1 : Int32))), .val (.long (u6 / (10 : Int64))), .second]) d1_32 rfl rfl ?_
      refine Go.lload C X1 (pc' := 36) d1_34 rfl rfl ?_
      refine Go.lconst C X1 (pc' := 37) (v := (0 : Int64)) d1_36 rfl rfl ?_
      refine Go.lcmp C X1 (pc' := 38) d1_37 rfl ?_
      by_cases c3 : (0 : Int64) < (u6 / (10 : Int64))
      · refine Go.ifYes C X1 (pc' := 7) d1_38 ((if0 _ _).trans (tlt ((lw_gt _ _).mpr c3)).2.2.1) (by decide) (by decide) ?_
        exact ih_7 T1 h1 (k + 1) (u5 + (-1 : Int32)) (u6 / (10 : Int64)) (by omega) (own_more hL (own_pc (own_div10 h6) c3)) (own_st h5 hk hLe hee) (own_div10 h6) X1 K2 (AI.congr A1 (own_pb1 f v ee k n (by omega)))
      · refine Go.ifNo C X1 (pc' := 41) d1_38 ((if0 _ _).trans (flt (fun q => c3 ((lw_gt _ _).mp q))).2.2.1) rfl ?_
        refine Go.iload C X1 (pc' := 43) d1_41 rfl rfl ?_
        refine Go.iload C X1 (pc' := 45) d1_43 rfl rfl ?_
        refine Go.isub C X1 (pc' := 46) d1_45 rfl ?_
        refine Go.iloadN C X1 (pc' := 47) d1_46 rfl rfl ?_
        by_cases c4 : (en - (u5 + (-1 : Int32))) < ls
        · refine Go.icmpYes C X1 (pc' := 7) d1_47 (tlt c4).1 (by decide) (by decide) ?_
          exact ih_7 T1 h1 (k + 1) (u5 + (-1 : Int32)) (u6 / (10 : Int64)) (by omega) (Nat.lt_of_lt_of_le (own_ic (own_sb1 hE h5 hk hLe hee) hl c4) hL.2.2.1) (own_st h5 hk hLe hee) (own_div10 h6) X1 K2 (AI.congr A1 (own_pb1 f v ee k n (by omega)))
        · refine Go.icmpNo C X1 (pc' := 50) d1_47 (flt c4).1 rfl ?_
          refine Go.iload C X1 (pc' := 52) d1_50 rfl rfl ?_
          exact Go.retI C X1 d1_52 ⟨(u5 + (-1 : Int32)), rfl, K2, (by have eL := own_done hL hk (own_zc (own_div10 h6) c3) (own_nc (own_sb1 hE h5 hk hLe hee) hl c4); rw [← eL]; exact AI.congr A1 (own_pb1 f v ee k n (by omega))), (by have eL := own_done hL hk (own_zc (own_div10 h6) c3) (own_nc (own_sb1 hE h5 hk hLe hee) hl c4); rw [← eL]; exact own_st h5 hk hLe hee)⟩ (by decide) (by decide)
  exact Cut7 (_) T0 h0 0 en q (Nat.lt_succ_self _) (by have := hL.1; omega) (by omega) (by rw [hq]; simp) X0 (Keep.refl h0 [t]) (AI.congr f0 (own_pb0 f v ee n))
def own_ab (f : Nat → Int32) (w ee k : Nat) : Nat → Int32 := fun i => if ee - k ≤ i ∧ i < ee then own_dg w (ee - 1 - i) else f i
theorem own_digitg {q : Int64} {v k N : Nat} (hq : q.toInt = (N : Int)) (hN : N % 10 = v / 10 ^ k % 10) : nar .byte ((((48 : Int64) + (q % (10 : Int64)))).toInt32).toInt8.toInt32 = own_dg v k := by
  have h := own_digit (v := N) (k := 0) (by rw [hq]; simp)
  rw [h]; unfold own_dg; rw [Nat.pow_zero, Nat.div_one, hN]
theorem own_split (a k : Nat) : a = 10 ^ k * (a / 10 ^ k) + a % 10 ^ k := (Nat.div_add_mod a (10 ^ k)).symm
theorem own_car (a v k : Nat) : (a + v) / 10 ^ k = a / 10 ^ k + (a % 10 ^ k + v) / 10 ^ k := by
  have hp := Nat.pow_pos (n := k) (by decide : 0 < 10)
  have h := own_split a k
  have e : a + v = 10 ^ k * (a / 10 ^ k) + (a % 10 ^ k + v) := by omega
  rw [e, Nat.mul_add_div hp]
theorem own_modsucc (a k : Nat) : a % 10 ^ (k + 1) = 10 ^ k * (a / 10 ^ k % 10) + a % 10 ^ k := by
  rw [Nat.pow_succ, Nat.mod_mul]; omega
theorem own_carS (a v k : Nat) : (a % 10 ^ (k + 1) + v) / 10 ^ (k + 1) = (a / 10 ^ k % 10 + (a % 10 ^ k + v) / 10 ^ k) / 10 := by
  have hp := Nat.pow_pos (n := k) (by decide : 0 < 10)
  rw [own_modsucc, Nat.pow_succ, ← Nat.div_div_eq_div_mul]
  congr 1
  rw [show 10 ^ k * (a / 10 ^ k % 10) + a % 10 ^ k + v = 10 ^ k * (a / 10 ^ k % 10) + (a % 10 ^ k + v) by omega, Nat.mul_add_div hp]
theorem own_dgt (a v k : Nat) : (a / 10 ^ k % 10 + (a % 10 ^ k + v) / 10 ^ k) % 10 = (a + v) / 10 ^ k % 10 := by
  have h := own_car a v k
  rw [h]
  generalize a / 10 ^ k = A
  generalize (a % 10 ^ k + v) / 10 ^ k = B
  omega
theorem own_car_le (a v k : Nat) : a / 10 ^ k % 10 + (a % 10 ^ k + v) / 10 ^ k ≤ a + v := by
  have h1 := own_car a v k
  have h2 : (a + v) / 10 ^ k ≤ a + v := Nat.div_le_self _ _
  have h3 : a / 10 ^ k % 10 ≤ a / 10 ^ k := Nat.mod_le _ _
  rw [h1] at h2
  exact Nat.le_trans (Nat.add_le_add_right h3 _) h2
theorem own_ge {a v k : Nat} (h : 0 < (a % 10 ^ k + v) / 10 ^ k) : ¬ a + v < 10 ^ k := fun q => by
  have h1 := own_car a v k
  rw [Nat.div_eq_of_lt q] at h1
  generalize a / 10 ^ k = A at h1
  generalize (a % 10 ^ k + v) / 10 ^ k = B at h h1
  omega
theorem own_big {v l L k : Nat} (h : own_len v l L) (h2 : ¬ v < 10 ^ k) : k < L := by
  refine Nat.lt_of_not_le fun q => h2 ?_
  exact Nat.lt_of_lt_of_le h.2.1 (Nat.pow_le_pow_right (by decide) q)
theorem own_fin1 {a v l L1 L2 k : Nat} (h1 : own_len a l L1) (h2 : own_len (a + v) L1 L2) (hk : k ≤ L2) (h0 : (a % 10 ^ k + v) / 10 ^ k = 0) : max L1 k = L2 := by
  have hp := Nat.pow_pos (n := k) (by decide : 0 < 10)
  have hc : a % 10 ^ k + v < 10 ^ k := (Nat.div_eq_zero_iff_lt hp).mp h0
  rcases Nat.lt_or_ge L1 k with q | q
  · have e : a % 10 ^ k = a := Nat.mod_eq_of_lt (Nat.lt_of_lt_of_le h1.2.1 (Nat.pow_le_pow_right (by decide) (by omega)))
    rw [e] at hc
    have := h2.2.2.2 k (by omega)
    omega
  · have e1 : (a + v) / 10 ^ k = a / 10 ^ k := by rw [own_car, h0, Nat.add_zero]
    have e2 : a + v < 10 ^ L1 := by
      have h3 : (a + v) / 10 ^ k < 10 ^ (L1 - k) := by
        rw [e1]
        refine (Nat.div_lt_iff_lt_mul hp).mpr ?_
        rw [← Nat.pow_add, Nat.sub_add_cancel q]; exact h1.2.1
      have h4 := (Nat.div_lt_iff_lt_mul hp).mp h3
      rw [← Nat.pow_add, Nat.sub_add_cancel q] at h4; exact h4
    have h3 := h2.2.2.2 L1 h1.1
    have := h2.2.2.1
    omega
theorem own_same {a v k j : Nat} (h0 : (a % 10 ^ k + v) / 10 ^ k = 0) (hj : k ≤ j) : (a + v) / 10 ^ j = a / 10 ^ j := by
  have e1 : (a + v) / 10 ^ k = a / 10 ^ k := by rw [own_car, h0, Nat.add_zero]
  have e : 10 ^ j = 10 ^ k * 10 ^ (j - k) := by rw [← Nat.pow_add]; congr 1; omega
  rw [e, ← Nat.div_div_eq_div_mul, ← Nat.div_div_eq_div_mul, e1]
theorem own_fin2 {a v l L1 L2 k ee : Nat} (h1 : own_len a l L1) (h2 : own_len (a + v) L1 L2) (hk : k ≤ L2) (h0 : (a % 10 ^ k + v) / 10 ^ k = 0) (hL : L2 ≤ ee) : ∀ i, i < 22 → own_ab (own_pb (fun _ => (0 : Int32)) a ee L1) (a + v) ee k i = own_pb (fun _ => (0 : Int32)) (a + v) ee L2 i := fun i _ => by
  have e := own_fin1 h1 h2 hk h0
  unfold own_ab own_pb
  by_cases q1 : ee - k ≤ i ∧ i < ee
  · rw [if_pos q1, if_pos (by omega)]
  · rw [if_neg q1]
    by_cases q2 : ee - L1 ≤ i ∧ i < ee
    · rw [if_pos q2, if_pos (by omega)]
      unfold own_dg; rw [own_same h0 (by omega)]
    · rw [if_neg q2, if_neg (by omega)]
theorem own_ab0 (f : Nat → Int32) (w ee n : Nat) : ∀ i, i < n → f i = own_ab f w ee 0 i := fun i _ => by
  unfold own_ab; rw [if_neg (by omega)]
theorem own_ab1 (f : Nat → Int32) (w ee k n : Nat) (h : k < ee) : ∀ i, i < n → (if i = ee - k - 1 then own_dg w k else own_ab f w ee k i) = own_ab f w ee (k + 1) i := fun i _ => by
  unfold own_ab
  by_cases q : i = ee - k - 1
  · rw [if_pos q, if_pos (by omega)]; congr 1; omega
  · rw [if_neg q]
    by_cases u : ee - k ≤ i ∧ i < ee
    · rw [if_pos u, if_pos (by omega)]
    · rw [if_neg u, if_neg (by omega)]
theorem own_ab2 (f : Nat → Int32) (w ee k n : Nat) (x : Int32) (h : k < ee) : ∀ i, i < n → (if i = ee - k - 1 then own_dg w k else (fun q => if q = ee - k - 1 then x else own_ab f w ee k q) i) = own_ab f w ee (k + 1) i := fun i hi => by
  rw [← own_ab1 f w ee k n h i hi]
  by_cases q : i = ee - k - 1
  · rw [if_pos q, if_pos q]
  · rw [if_neg q, if_neg q]; dsimp only; rw [if_neg q]
theorem own_old {a w ee L1 k : Nat} (h : k < L1) (h2 : L1 ≤ ee) : own_ab (own_pb (fun _ => (0 : Int32)) a ee L1) w ee k (ee - k - 1) = own_dg a k := by
  unfold own_ab own_pb; rw [if_neg (by omega), if_pos (by omega)]; congr 1; omega
theorem own_dg0 {a l L1 k : Nat} (h : own_len a l L1) (h2 : L1 ≤ k) : own_dg a k = (48 : Int32) := by
  unfold own_dg
  rw [Nat.div_eq_of_lt (Nat.lt_of_lt_of_le h.2.1 (Nat.pow_le_pow_right (by decide) h2))]; rfl
theorem own_sum {a v k : Nat} {u : Int64} (h6 : u.toInt = (((a % 10 ^ k + v) / 10 ^ k : Nat) : Int)) (hb : a + v < 9223372036854775808) : ((own_dg a k - (48 : Int32)).toInt64 + u).toInt = ((a / 10 ^ k % 10 + (a % 10 ^ k + v) / 10 ^ k : Nat) : Int) := by
  have e48 : (48 : Int32).toInt = 48 := rfl
  have hd := own_dg_toInt a k
  have h2 := own_car_le a v k
  have := Nat.mod_lt (a / 10 ^ k) (by decide : 0 < 10)
  generalize own_dg a k = D at hd ⊢
  generalize a / 10 ^ k % 10 = A at *
  generalize (a % 10 ^ k + v) / 10 ^ k = B at *
  have h1 : (D - (48 : Int32)).toInt = (A : Int) := by rw [own_isub (by omega) (by omega), hd, e48]; omega
  have h3 : (D - (48 : Int32)).toInt64.toInt = (A : Int) := by rw [c_i2l, h1]
  rw [own_ladd (by omega) (by omega), h3, h6]; omega
theorem own_carry {q : Int64} {a v k : Nat} (hq : q.toInt = ((a / 10 ^ k % 10 + (a % 10 ^ k + v) / 10 ^ k : Nat) : Int)) : (q / (10 : Int64)).toInt = (((a % 10 ^ (k + 1) + v) / 10 ^ (k + 1) : Nat) : Int) := by
  rw [own_carS]
  generalize a / 10 ^ k % 10 + (a % 10 ^ k + v) / 10 ^ k = N at hq ⊢
  have h := (c_ldiv q 10 10 rfl (by decide)).1 (by omega)
  rw [h, hq]; omega
theorem own_at1 {u : Int32} {ee k : Nat} (h : u.toInt = (ee : Int) - 1 - (k : Int)) (h1 : k < ee) (h2 : ee < 1000) : (u + (-1 : Int32)).toInt = (ee : Int) - 1 - ((k + 1 : Nat) : Int) := by
  have e1 : (-1 : Int32).toInt = -1 := rfl
  rw [own_iadd (by omega) (by omega), e1]; omega
theorem own_ef_rm_add (m : MethodId) (x0 : Int64) (x1 : Addr) (x2 : Int32) (x3 : Int32) : entryFrame m #[(.long x0), (.ref x1), (.int x2), (.int x3)] 11 = mkF m 0 #[.val (.long x0), .second, .val (.ref x1), .val (.int x2), .val (.int x3), .unset, .unset, .unset, .unset, .unset, .unset] [] := by first | (simp [entryFrame, mkF, argsToLocals, Value.category]; done) | rfl
theorem d2_0 : decode prog_126_method_5_code 0 = .ok (.iload_n 3, 1) := by decide +kernel
theorem d2_1 : decode prog_126_method_5_code 1 = .ok (.istore 5, 2) := by decide +kernel
theorem d2_3 : decode prog_126_method_5_code 3 = .ok (.lload_n 0, 1) := by decide +kernel
theorem d2_4 : decode prog_126_method_5_code 4 = .ok (.lstore 6, 2) := by decide +kernel
theorem d2_6 : decode prog_126_method_5_code 6 = .ok (.iload 4, 2) := by decide +kernel
theorem d2_8 : decode prog_126_method_5_code 8 = .ok (.iconst 1, 1) := by decide +kernel
theorem d2_9 : decode prog_126_method_5_code 9 = .ok (.isub, 1) := by decide +kernel
theorem d2_10 : decode prog_126_method_5_code 10 = .ok (.istore 8, 2) := by decide +kernel
theorem d2_12 : decode prog_126_method_5_code 12 = .ok (.lload 6, 2) := by decide +kernel
theorem d2_14 : decode prog_126_method_5_code 14 = .ok (.lconst 0, 1) := by decide +kernel
theorem d2_15 : decode prog_126_method_5_code 15 = .ok (.lcmp, 1) := by decide +kernel
theorem d2_16 : decode prog_126_method_5_code 16 = .ok (.ifCond .le 63, 3) := by decide +kernel
theorem d2_19 : decode prog_126_method_5_code 19 = .ok (.iload 8, 2) := by decide +kernel
theorem d2_21 : decode prog_126_method_5_code 21 = .ok (.iload 5, 2) := by decide +kernel
theorem d2_23 : decode prog_126_method_5_code 23 = .ok (.if_icmp .ge 13, 3) := by decide +kernel
theorem d2_26 : decode prog_126_method_5_code 26 = .ok (.iload 8, 2) := by decide +kernel
theorem d2_28 : decode prog_126_method_5_code 28 = .ok (.istore 5, 2) := by decide +kernel
theorem d2_30 : decode prog_126_method_5_code 30 = .ok (.aload_n 2, 1) := by decide +kernel
theorem d2_31 : decode prog_126_method_5_code 31 = .ok (.iload 8, 2) := by decide +kernel
theorem d2_33 : decode prog_126_method_5_code 33 = .ok (.bipush 48, 2) := by decide +kernel
theorem d2_35 : decode prog_126_method_5_code 35 = .ok (.bastore, 1) := by decide +kernel
theorem d2_36 : decode prog_126_method_5_code 36 = .ok (.aload_n 2, 1) := by decide +kernel
theorem d2_37 : decode prog_126_method_5_code 37 = .ok (.iload 8, 2) := by decide +kernel
theorem d2_39 : decode prog_126_method_5_code 39 = .ok (.baload, 1) := by decide +kernel
theorem d2_40 : decode prog_126_method_5_code 40 = .ok (.bipush 48, 2) := by decide +kernel
theorem d2_42 : decode prog_126_method_5_code 42 = .ok (.isub, 1) := by decide +kernel
theorem d2_43 : decode prog_126_method_5_code 43 = .ok (.i2l, 1) := by decide +kernel
theorem d2_44 : decode prog_126_method_5_code 44 = .ok (.lload 6, 2) := by decide +kernel
theorem d2_46 : decode prog_126_method_5_code 46 = .ok (.ladd, 1) := by decide +kernel
theorem d2_47 : decode prog_126_method_5_code 47 = .ok (.lstore 9, 2) := by decide +kernel
theorem d2_49 : decode prog_126_method_5_code 49 = .ok (.aload_n 2, 1) := by decide +kernel
theorem d2_50 : decode prog_126_method_5_code 50 = .ok (.iload 8, 2) := by decide +kernel
theorem d2_52 : decode prog_126_method_5_code 52 = .ok (.ldc2_w 13, 3) := by decide +kernel
theorem d2_55 : decode prog_126_method_5_code 55 = .ok (.lload 9, 2) := by decide +kernel
theorem d2_57 : decode prog_126_method_5_code 57 = .ok (.ldc2_w 15, 3) := by decide +kernel
theorem d2_60 : decode prog_126_method_5_code 60 = .ok (.lrem, 1) := by decide +kernel
theorem d2_61 : decode prog_126_method_5_code 61 = .ok (.ladd, 1) := by decide +kernel
theorem d2_62 : decode prog_126_method_5_code 62 = .ok (.l2i, 1) := by decide +kernel
theorem d2_63 : decode prog_126_method_5_code 63 = .ok (.i2b, 1) := by decide +kernel
theorem d2_64 : decode prog_126_method_5_code 64 = .ok (.bastore, 1) := by decide +kernel
theorem d2_65 : decode prog_126_method_5_code 65 = .ok (.lload 9, 2) := by decide +kernel
theorem d2_67 : decode prog_126_method_5_code 67 = .ok (.ldc2_w 15, 3) := by decide +kernel
theorem d2_70 : decode prog_126_method_5_code 70 = .ok (.ldiv, 1) := by decide +kernel
theorem d2_71 : decode prog_126_method_5_code 71 = .ok (.lstore 6, 2) := by decide +kernel
theorem d2_73 : decode prog_126_method_5_code 73 = .ok (.iinc 8 (-1), 3) := by decide +kernel
theorem d2_76 : decode prog_126_method_5_code 76 = .ok (.goto (-64), 3) := by decide +kernel
theorem d2_79 : decode prog_126_method_5_code 79 = .ok (.iload 5, 2) := by decide +kernel
theorem d2_81 : decode prog_126_method_5_code 81 = .ok (.ireturn, 1) := by decide +kernel
set_option maxRecDepth 65536 in
set_option maxHeartbeats 40000000 in
theorem rm_add (l : Launch) (Z : State) (a0 : Array Value) (hw : ∀ d ∈ tables_1, d.before a0 Z = true) (q : Int64) (t : Addr) (st0 : Int32) (en : Int32) (a : Nat) (v : Nat) (l' : Nat) (L1 : Nat) (L2 : Nat) (ee : Nat) (h0 : Heap) (n0 : Nat) (Z0 : n0 ≤ h0.size) (f0 : AI Z h0 t .byte 22 (own_pb (fun _ => (0 : Int32)) a ee L1)) (f1 : n0 ≤ t) (hq : q.toInt = (v : Int)) (hb : a + v < 9223372036854775808) (hL1 : own_len a l' L1) (hL2 : own_len (a + v) L1 L2) (h3 : st0.toInt = (ee : Int) - (L1 : Int)) (hE : en.toInt = (ee : Int)) (hLe2 : L2 ≤ ee) (hen : ee ≤ 22) (hee : ee < 1000) :
    Con l Z (⟨"com/example/streamgauge/streamgauge/workloads/Decimal", "addBefore", "(J[BII)I"⟩ : MethodName) prog_126_method_5_code 11 (some .int) ({ frames := 0, cells := 0, slots := 0, locals := 0 } : Room) #[(.long q), (.ref t), (.int st0), (.int en)] h0 n0 (fun rv hv => ∃ r : Int32, rv = some (.int r) ∧ Keep h0 hv [t] ∧ AI Z hv t .byte 22 (own_pb (fun _ => (0 : Int32)) (a + v) ee L2) ∧ (r.toInt = (ee : Int) - (L2 : Int))) := by
  refine Con.enter (plainFor_of_name own_pn0) Z0 ?_
  intro p e s m below meth c T0 C hnm X0
  refine Go.cast (own_ef_rm_add m q t st0 en) ?_
  refine Go.iloadN C X0 (pc' := 1) d2_0 rfl rfl ?_
  refine Go.istore C X0 (pc' := 3) (Ls' := #[.val (.long q), .second, .val (.ref t), .val (.int st0), .val (.int en), .val (.int st0), .unset, .unset, .unset, .unset, .unset]) d2_1 rfl rfl ?_
  refine Go.lloadN C X0 (pc' := 4) d2_3 rfl rfl ?_
  refine Go.lstore C X0 (pc' := 6) (Ls' := #[.val (.long q), .second, .val (.ref t), .val (.int st0), .val (.int en), .val (.int st0), .val (.long q), .second, .unset, .unset, .unset]) d2_4 rfl rfl ?_
  refine Go.iload C X0 (pc' := 8) d2_6 rfl rfl ?_
  refine Go.iconst C X0 (pc' := 9) (v := (1 : Int32)) d2_8 rfl rfl ?_
  refine Go.isub C X0 (pc' := 10) d2_9 rfl ?_
  refine Go.istore C X0 (pc' := 12) (Ls' := #[.val (.long q), .second, .val (.ref t), .val (.int st0), .val (.int en), .val (.int st0), .val (.long q), .second, .val (.int (en - (1 : Int32))), .unset, .unset]) d2_10 rfl rfl ?_
  have Cut12 : ∀ (fuel : Nat) (T_12 : State) (h_12 : Heap) (k : Nat) (u5 : Int32) (u6 : Int64) (u8 : Int32) (s9 : Slot) (s10 : Slot), (L2 + 1 - k) < fuel → (k ≤ L2) → (u5.toInt = (ee : Int) - ((max L1 k : Nat) : Int)) → (u6.toInt = (((a % 10 ^ k + v) / 10 ^ k : Nat) : Int)) → (u8.toInt = (ee : Int) - 1 - (k : Int)) → ((s9 = .unset ∧ s10 = .unset) ∨ ∃ w : Int64, s9 = .val (.long w) ∧ s10 = .second) → On p l e ({ frames := 0, cells := 0, slots := 0, locals := 0 } : Room) s m #[(.long q), (.ref t), (.int st0), (.int en)] below meth c n0 T_12 h_12 0 0 → Keep h0 h_12 [t] → AI Z h_12 t .byte 22 (own_ab (own_pb (fun _ => (0 : Int32)) a ee L1) (a + v) ee k) → Go p e below s n0 (({ frames := 0, cells := 0, slots := 0, locals := 0 } : Room)).cells (({ frames := 0, cells := 0, slots := 0, locals := 0 } : Room)).slots (fun rv hv => ∃ r : Int32, rv = some (.int r) ∧ Keep h0 hv [t] ∧ AI Z hv t .byte 22 (own_pb (fun _ => (0 : Int32)) (a + v) ee L2) ∧ (r.toInt = (ee : Int) - (L2 : Int))) T_12 (mkF m 12 #[.val (.long q), .second, .val (.ref t), .val (.int st0), .val (.int en), .val (.int u5), .val (.long u6), .second, .val (.int u8), s9, s10] []) := by
    intro fuel
    induction fuel with
    | zero => intro T_12 h_12 k u5 u6 u8 s9 s10 hM_12 hk h5 h6 h8 hs9 X_12 K_12 G12_0; exact absurd hM_12 (Nat.not_lt_zero _)
    | succ fuel ih_12 =>
      intro T_12 h_12 k u5 u6 u8 s9 s10 hM_12 hk h5 h6 h8 hs9 X_12 K_12 G12_0
      refine Go.lload C X_12 (pc' := 14) d2_12 rfl rfl ?_
      refine Go.lconst C X_12 (pc' := 15) (v := (0 : Int64)) d2_14 rfl rfl ?_
      refine Go.lcmp C X_12 (pc' := 16) d2_15 rfl ?_
      by_cases c5 : (0 : Int64) < u6
      · refine Go.ifNo C X_12 (pc' := 19) d2_16 ((if0 _ _).trans (tlt ((lw_gt _ _).mpr c5)).2.2.2) rfl ?_
        refine Go.iload C X_12 (pc' := 21) d2_19 rfl rfl ?_
        refine Go.iload C X_12 (pc' := 23) d2_21 rfl rfl ?_
        by_cases c6 : u8 < u5
        · refine Go.icmpNo C X_12 (pc' := 26) d2_23 (tlt c6).2.1 rfl ?_
          refine Go.iload C X_12 (pc' := 28) d2_26 rfl rfl ?_
          refine Go.istore C X_12 (pc' := 30) (Ls' := #[.val (.long q), .second, .val (.ref t), .val (.int st0), .val (.int en), .val (.int u8), .val (.long u6), .second, .val (.int u8), s9, s10]) d2_28 rfl rfl ?_
          refine Go.aloadN C X_12 (pc' := 31) d2_30 rfl rfl rfl ?_
          refine Go.iload C X_12 (pc' := 33) d2_31 rfl rfl ?_
          refine Go.bipush C X_12 (pc' := 35) (v := (48 : Int32)) d2_33 rfl rfl ?_
          refine Go.bastore C X_12 (pc' := 36) (i := (ee - k - 1)) (x' := (48 : Int32)) G12_0 (by have := Nat.lt_of_lt_of_le (own_big hL2 (own_ge (own_pc h6 c5))) hLe2; rw [h8]; omega) (by omega) (by decide) f1 d2_35 rfl (fun T7 h7 X7 W7 A7 => ?_)
          have K8 : Keep h0 h7 [t] := K_12.wr W7 (Or.inl (List.mem_of_getElem? (i := 0) rfl))
          refine Go.aloadN C X7 (pc' := 37) d2_36 rfl rfl rfl ?_
          refine Go.iload C X7 (pc' := 39) d2_37 rfl rfl ?_
          refine Go.baload C X7 (pc' := 40) (i := (ee - k - 1)) (w := (own_dg a k)) A7 (by have := Nat.lt_of_lt_of_le (own_big hL2 (own_ge (own_pc h6 c5))) hLe2; rw [h8]; omega) (by omega) (by rw [if_pos rfl]; exact (own_dg0 hL1 (by have := own_ilt.mp c6; rw [h8, h5] at this; omega)).symm) d2_39 rfl ?_
          refine Go.bipush C X7 (pc' := 42) (v := (48 : Int32)) d2_40 rfl rfl ?_
          refine Go.isub C X7 (pc' := 43) d2_42 rfl ?_
          refine Go.i2l C X7 (pc' := 44) d2_43 rfl ?_
          refine Go.lload C X7 (pc' := 46) d2_44 rfl rfl ?_
          refine Go.ladd C X7 (pc' := 47) d2_46 rfl ?_
          refine Go.lstore C X7 (pc' := 49) (Ls' := #[.val (.long q), .second, .val (.ref t), .val (.int st0), .val (.int en), .val (.int u8), .val (.long u6), .second, .val (.int u8), .val (.long ((((own_dg a k) - (48 : Int32))).toInt64 + u6)), .second]) d2_47 (by rcases hs9 with ⟨rfl, rfl⟩ | ⟨w, rfl, rfl⟩ <;> rfl) rfl ?_
          refine Go.aloadN C X7 (pc' := 50) d2_49 rfl rfl rfl ?_
          refine Go.iload C X7 (pc' := 52) d2_50 rfl rfl ?_
          refine Go.ldc2 C X7 (pc' := 55) (hw _ (List.mem_of_getElem? (i := 7) rfl)) d2_52 rfl ?_
          refine Go.lload C X7 (pc' := 57) d2_55 rfl rfl ?_
          refine Go.ldc2 C X7 (pc' := 60) (hw _ (List.mem_of_getElem? (i := 8) rfl)) d2_57 rfl ?_
          refine Go.lrem C X7 (pc' := 61) d2_60 (by decide) rfl ?_
          refine Go.ladd C X7 (pc' := 62) d2_61 rfl ?_
          refine Go.l2i C X7 (pc' := 63) d2_62 rfl ?_
          refine Go.i2b C X7 (pc' := 64) d2_63 rfl ?_
          refine Go.bastore C X7 (pc' := 65) (i := (ee - k - 1)) (x' := (own_dg (a + v) k)) A7 (by have := Nat.lt_of_lt_of_le (own_big hL2 (own_ge (own_pc h6 c5))) hLe2; rw [h8]; omega) (by omega) (own_digitg (own_sum h6 hb) (own_dgt a v k)) f1 d2_64 rfl (fun T9 h9 X9 W9 A9 => ?_)
          have K10 : Keep h0 h9 [t] := K8.wr W9 (Or.inl (List.mem_of_getElem? (i := 0) rfl))
          refine Go.lload C X9 (pc' := 67) d2_65 rfl rfl ?_
          refine Go.ldc2 C X9 (pc' := 70) (hw _ (List.mem_of_getElem? (i := 8) rfl)) d2_67 rfl ?_
          refine Go.ldiv C X9 (pc' := 71) d2_70 (by decide) rfl ?_
          refine Go.lstore C X9 (pc' := 73) (Ls' := #[.val (.long q), .second, .val (.ref t), .val (.int st0), .val (.int en), .val (.int u8), .val (.long (((((own_dg a k) - (48 : Int32))).toInt64 + u6) / (10 : Int64))), .second, .val (.int u8), .val (.long ((((own_dg a k) - (48 : Int32))).toInt64 + u6)), .second]) d2_71 rfl rfl ?_
          refine Go.iinc C X9 (pc' := 76) (Ls' := #[.val (.long q), .second, .val (.ref t), .val (.int st0), .val (.int en), .val (.int u8), .val (.long (((((own_dg a k) - (48 : Int32))).toInt64 + u6) / (10 : Int64))), .second, .val (.int (u8 + (-1 : Int32))), .val (.long ((((own_dg a k) - (48 : Int32))).toInt64 + u6)), .second]) (v' := (u8 + (-1 : Int32))) d2_73 rfl (by rfl) rfl rfl ?_
          refine Go.goto C X9 (pc' := 12) d2_76 (by decide) (by decide) ?_
          exact ih_12 T9 h9 (k + 1) u8 (((((own_dg a k) - (48 : Int32))).toInt64 + u6) / (10 : Int64)) (u8 + (-1 : Int32)) (.val (.long ((((own_dg a k) - (48 : Int32))).toInt64 + u6))) (.second) (by have := (own_big hL2 (own_ge (own_pc h6 c5))); omega) (Nat.succ_le_of_lt (own_big hL2 (own_ge (own_pc h6 c5)))) (by have := own_ilt.mp c6; rw [h8, h5] at this; rw [h8]; omega) (own_carry (own_sum h6 hb)) (own_at1 h8 (Nat.lt_of_lt_of_le (own_big hL2 (own_ge (own_pc h6 c5))) hLe2) hee) (Or.inr ⟨_, rfl, rfl⟩) X9 K10 (AI.congr A9 (own_ab2 _ (a + v) ee k 22 _ (Nat.lt_of_lt_of_le (own_big hL2 (own_ge (own_pc h6 c5))) hLe2)))
        · refine Go.icmpYes C X_12 (pc' := 36) d2_23 (flt c6).2.1 (by decide) (by decide) ?_
          refine Go.aloadN C X_12 (pc' := 37) d2_36 rfl rfl rfl ?_
          refine Go.iload C X_12 (pc' := 39) d2_37 rfl rfl ?_
          refine Go.baload C X_12 (pc' := 40) (i := (ee - k - 1)) (w := (own_dg a k)) G12_0 (by have := Nat.lt_of_lt_of_le (own_big hL2 (own_ge (own_pc h6 c5))) hLe2; rw [h8]; omega) (by omega) (own_old (by have := own_nilt c6; rw [h8, h5] at this; omega) (Nat.le_trans hL2.2.2.1 hLe2)) d2_39 rfl ?_
          refine Go.bipush C X_12 (pc' := 42) (v := (48 : Int32)) d2_40 rfl rfl ?_
          refine Go.isub C X_12 (pc' := 43) d2_42 rfl ?_
          refine Go.i2l C X_12 (pc' := 44) d2_43 rfl ?_
          refine Go.lload C X_12 (pc' := 46) d2_44 rfl rfl ?_
          refine Go.ladd C X_12 (pc' := 47) d2_46 rfl ?_
          refine Go.lstore C X_12 (pc' := 49) (Ls' := #[.val (.long q), .second, .val (.ref t), .val (.int st0), .val (.int en), .val (.int u5), .val (.long u6), .second, .val (.int u8), .val (.long ((((own_dg a k) - (48 : Int32))).toInt64 + u6)), .second]) d2_47 (by rcases hs9 with ⟨rfl, rfl⟩ | ⟨w, rfl, rfl⟩ <;> rfl) rfl ?_
          refine Go.aloadN C X_12 (pc' := 50) d2_49 rfl rfl rfl ?_
          refine Go.iload C X_12 (pc' := 52) d2_50 rfl rfl ?_
          refine Go.ldc2 C X_12 (pc' := 55) (hw _ (List.mem_of_getElem? (i := 7) rfl)) d2_52 rfl ?_
          refine Go.lload C X_12 (pc' := 57) d2_55 rfl rfl ?_
          refine Go.ldc2 C X_12 (pc' := 60) (hw _ (List.mem_of_getElem? (i := 8) rfl)) d2_57 rfl ?_
          refine Go.lrem C X_12 (pc' := 61) d2_60 (by decide) rfl ?_
          refine Go.ladd C X_12 (pc' := 62) d2_61 rfl ?_
          refine Go.l2i C X_12 (pc' := 63) d2_62 rfl ?_
          refine Go.i2b C X_12 (pc' := 64) d2_63 rfl ?_
          refine Go.bastore C X_12 (pc' := 65) (i := (ee - k - 1)) (x' := (own_dg (a + v) k)) G12_0 (by have := Nat.lt_of_lt_of_le (own_big hL2 (own_ge (own_pc h6 c5))) hLe2; rw [h8]; omega) (by omega) (own_digitg (own_sum h6 hb) (own_dgt a v k)) f1 d2_64 rfl (fun T11 h11 X11 W11 A11 => ?_)
          have K12 : Keep h0 h11 [t] := K_12.wr W11 (Or.inl (List.mem_of_getElem? (i := 0) rfl))
          refine Go.lload C X11 (pc' := 67) d2_65 rfl rfl ?_
          refine Go.ldc2 C X11 (pc' := 70) (hw _ (List.mem_of_getElem? (i := 8) rfl)) d2_67 rfl ?_
          refine Go.ldiv C X11 (pc' := 71) d2_70 (by decide) rfl ?_
          refine Go.lstore C X11 (pc' := 73) (Ls' := #[.val (.long q), .second, .val (.ref t), .val (.int st0), .val (.int en), .val (.int u5), .val (.long (((((own_dg a k) - (48 : Int32))).toInt64 + u6) / (10 : Int64))), .second, .val (.int u8), .val (.long ((((own_dg a k) - (48 : Int32))).toInt64 + u6)), .second]) d2_71 rfl rfl ?_
          refine Go.iinc C X11 (pc' := 76) (Ls' := #[.val (.long q), .second, .val (.ref t), .val (.int st0), .val (.int en), .val (.int u5), .val (.long (((((own_dg a k) - (48 : Int32))).toInt64 + u6) / (10 : Int64))), .second, .val (.int (u8 + (-1 : Int32))), .val (.long ((((own_dg a k) - (48 : Int32))).toInt64 + u6)), .second]) (v' := (u8 + (-1 : Int32))) d2_73 rfl (by rfl) rfl rfl ?_
          refine Go.goto C X11 (pc' := 12) d2_76 (by decide) (by decide) ?_
          exact ih_12 T11 h11 (k + 1) u5 (((((own_dg a k) - (48 : Int32))).toInt64 + u6) / (10 : Int64)) (u8 + (-1 : Int32)) (.val (.long ((((own_dg a k) - (48 : Int32))).toInt64 + u6))) (.second) (by have := (own_big hL2 (own_ge (own_pc h6 c5))); omega) (Nat.succ_le_of_lt (own_big hL2 (own_ge (own_pc h6 c5)))) (by have := own_nilt c6; rw [h8, h5] at this; rw [h5]; omega) (own_carry (own_sum h6 hb)) (own_at1 h8 (Nat.lt_of_lt_of_le (own_big hL2 (own_ge (own_pc h6 c5))) hLe2) hee) (Or.inr ⟨_, rfl, rfl⟩) X11 K12 (AI.congr A11 (own_ab1 _ (a + v) ee k 22 (Nat.lt_of_lt_of_le (own_big hL2 (own_ge (own_pc h6 c5))) hLe2)))
      · refine Go.ifYes C X_12 (pc' := 79) d2_16 ((if0 _ _).trans (flt (fun q => c5 ((lw_gt _ _).mp q))).2.2.2) (by decide) (by decide) ?_
        refine Go.iload C X_12 (pc' := 81) d2_79 rfl rfl ?_
        exact Go.retI C X_12 d2_81 ⟨u5, rfl, K_12, (AI.congr G12_0 (own_fin2 hL1 hL2 hk (own_zc h6 c5) hLe2)), (by rw [h5, own_fin1 hL1 hL2 hk (own_zc h6 c5)])⟩ (by decide) (by decide)
  exact Cut12 (_) T0 h0 0 st0 q (en - (1 : Int32)) (.unset) (.unset) (Nat.lt_succ_self _) (Nat.zero_le _) (by rw [h3, Nat.max_eq_left (Nat.zero_le _)]) (by rw [hq, Nat.pow_zero, Nat.mod_one, Nat.div_one, Nat.zero_add]) (by have e1 : (1 : Int32).toInt = 1 := rfl; rw [own_isub (by omega) (by omega), hE, e1]; omega) (Or.inl ⟨rfl, rfl⟩) X0 (Keep.refl h0 [t]) (AI.congr f0 (own_ab0 _ (a + v) ee 22))
theorem own_pn1 : plainName "com/example/streamgauge/streamgauge/workloads/DecimalAddBeforePinLaw" = true := by first | (simp [plainName, overriddenIn]; done) | decide +kernel
theorem own_ef_rm_same (m : MethodId) (x0 : Addr) (x1 : Addr) : entryFrame m #[(.ref x0), (.ref x1)] 2 = mkF m 0 #[.val (.ref x0), .val (.ref x1)] [] := by first | (simp [entryFrame, mkF, argsToLocals, Value.category]; done) | rfl
theorem d3_0 : decode method_3_code 0 = .ok (.aload_n 0, 1) := by decide +kernel
theorem d3_1 : decode method_3_code 1 = .ok (.iconst 0, 1) := by decide +kernel
theorem d3_2 : decode method_3_code 2 = .ok (.baload, 1) := by decide +kernel
theorem d3_3 : decode method_3_code 3 = .ok (.aload_n 1, 1) := by decide +kernel
theorem d3_4 : decode method_3_code 4 = .ok (.iconst 0, 1) := by decide +kernel
theorem d3_5 : decode method_3_code 5 = .ok (.baload, 1) := by decide +kernel
theorem d3_6 : decode method_3_code 6 = .ok (.if_icmp .ne 228, 3) := by decide +kernel
theorem d3_9 : decode method_3_code 9 = .ok (.aload_n 0, 1) := by decide +kernel
theorem d3_10 : decode method_3_code 10 = .ok (.iconst 1, 1) := by decide +kernel
theorem d3_11 : decode method_3_code 11 = .ok (.baload, 1) := by decide +kernel
theorem d3_12 : decode method_3_code 12 = .ok (.aload_n 1, 1) := by decide +kernel
theorem d3_13 : decode method_3_code 13 = .ok (.iconst 1, 1) := by decide +kernel
theorem d3_14 : decode method_3_code 14 = .ok (.baload, 1) := by decide +kernel
theorem d3_15 : decode method_3_code 15 = .ok (.if_icmp .ne 219, 3) := by decide +kernel
theorem d3_18 : decode method_3_code 18 = .ok (.aload_n 0, 1) := by decide +kernel
theorem d3_19 : decode method_3_code 19 = .ok (.iconst 2, 1) := by decide +kernel
theorem d3_20 : decode method_3_code 20 = .ok (.baload, 1) := by decide +kernel
theorem d3_21 : decode method_3_code 21 = .ok (.aload_n 1, 1) := by decide +kernel
theorem d3_22 : decode method_3_code 22 = .ok (.iconst 2, 1) := by decide +kernel
theorem d3_23 : decode method_3_code 23 = .ok (.baload, 1) := by decide +kernel
theorem d3_24 : decode method_3_code 24 = .ok (.if_icmp .ne 210, 3) := by decide +kernel
theorem d3_27 : decode method_3_code 27 = .ok (.aload_n 0, 1) := by decide +kernel
theorem d3_28 : decode method_3_code 28 = .ok (.iconst 3, 1) := by decide +kernel
theorem d3_29 : decode method_3_code 29 = .ok (.baload, 1) := by decide +kernel
theorem d3_30 : decode method_3_code 30 = .ok (.aload_n 1, 1) := by decide +kernel
theorem d3_31 : decode method_3_code 31 = .ok (.iconst 3, 1) := by decide +kernel
theorem d3_32 : decode method_3_code 32 = .ok (.baload, 1) := by decide +kernel
theorem d3_33 : decode method_3_code 33 = .ok (.if_icmp .ne 201, 3) := by decide +kernel
theorem d3_36 : decode method_3_code 36 = .ok (.aload_n 0, 1) := by decide +kernel
theorem d3_37 : decode method_3_code 37 = .ok (.iconst 4, 1) := by decide +kernel
theorem d3_38 : decode method_3_code 38 = .ok (.baload, 1) := by decide +kernel
theorem d3_39 : decode method_3_code 39 = .ok (.aload_n 1, 1) := by decide +kernel
theorem d3_40 : decode method_3_code 40 = .ok (.iconst 4, 1) := by decide +kernel
theorem d3_41 : decode method_3_code 41 = .ok (.baload, 1) := by decide +kernel
theorem d3_42 : decode method_3_code 42 = .ok (.if_icmp .ne 192, 3) := by decide +kernel
theorem d3_45 : decode method_3_code 45 = .ok (.aload_n 0, 1) := by decide +kernel
theorem d3_46 : decode method_3_code 46 = .ok (.iconst 5, 1) := by decide +kernel
theorem d3_47 : decode method_3_code 47 = .ok (.baload, 1) := by decide +kernel
theorem d3_48 : decode method_3_code 48 = .ok (.aload_n 1, 1) := by decide +kernel
theorem d3_49 : decode method_3_code 49 = .ok (.iconst 5, 1) := by decide +kernel
theorem d3_50 : decode method_3_code 50 = .ok (.baload, 1) := by decide +kernel
theorem d3_51 : decode method_3_code 51 = .ok (.if_icmp .ne 183, 3) := by decide +kernel
theorem d3_54 : decode method_3_code 54 = .ok (.aload_n 0, 1) := by decide +kernel
theorem d3_55 : decode method_3_code 55 = .ok (.bipush 6, 2) := by decide +kernel
theorem d3_57 : decode method_3_code 57 = .ok (.baload, 1) := by decide +kernel
theorem d3_58 : decode method_3_code 58 = .ok (.aload_n 1, 1) := by decide +kernel
theorem d3_59 : decode method_3_code 59 = .ok (.bipush 6, 2) := by decide +kernel
theorem d3_61 : decode method_3_code 61 = .ok (.baload, 1) := by decide +kernel
theorem d3_62 : decode method_3_code 62 = .ok (.if_icmp .ne 172, 3) := by decide +kernel
theorem d3_65 : decode method_3_code 65 = .ok (.aload_n 0, 1) := by decide +kernel
theorem d3_66 : decode method_3_code 66 = .ok (.bipush 7, 2) := by decide +kernel
theorem d3_68 : decode method_3_code 68 = .ok (.baload, 1) := by decide +kernel
theorem d3_69 : decode method_3_code 69 = .ok (.aload_n 1, 1) := by decide +kernel
theorem d3_70 : decode method_3_code 70 = .ok (.bipush 7, 2) := by decide +kernel
theorem d3_72 : decode method_3_code 72 = .ok (.baload, 1) := by decide +kernel
theorem d3_73 : decode method_3_code 73 = .ok (.if_icmp .ne 161, 3) := by decide +kernel
theorem d3_76 : decode method_3_code 76 = .ok (.aload_n 0, 1) := by decide +kernel
theorem d3_77 : decode method_3_code 77 = .ok (.bipush 8, 2) := by decide +kernel
theorem d3_79 : decode method_3_code 79 = .ok (.baload, 1) := by decide +kernel
theorem d3_80 : decode method_3_code 80 = .ok (.aload_n 1, 1) := by decide +kernel
theorem d3_81 : decode method_3_code 81 = .ok (.bipush 8, 2) := by decide +kernel
theorem d3_83 : decode method_3_code 83 = .ok (.baload, 1) := by decide +kernel
theorem d3_84 : decode method_3_code 84 = .ok (.if_icmp .ne 150, 3) := by decide +kernel
theorem d3_87 : decode method_3_code 87 = .ok (.aload_n 0, 1) := by decide +kernel
theorem d3_88 : decode method_3_code 88 = .ok (.bipush 9, 2) := by decide +kernel
theorem d3_90 : decode method_3_code 90 = .ok (.baload, 1) := by decide +kernel
theorem d3_91 : decode method_3_code 91 = .ok (.aload_n 1, 1) := by decide +kernel
theorem d3_92 : decode method_3_code 92 = .ok (.bipush 9, 2) := by decide +kernel
theorem d3_94 : decode method_3_code 94 = .ok (.baload, 1) := by decide +kernel
theorem d3_95 : decode method_3_code 95 = .ok (.if_icmp .ne 139, 3) := by decide +kernel
theorem d3_98 : decode method_3_code 98 = .ok (.aload_n 0, 1) := by decide +kernel
theorem d3_99 : decode method_3_code 99 = .ok (.bipush 10, 2) := by decide +kernel
theorem d3_101 : decode method_3_code 101 = .ok (.baload, 1) := by decide +kernel
theorem d3_102 : decode method_3_code 102 = .ok (.aload_n 1, 1) := by decide +kernel
theorem d3_103 : decode method_3_code 103 = .ok (.bipush 10, 2) := by decide +kernel
theorem d3_105 : decode method_3_code 105 = .ok (.baload, 1) := by decide +kernel
theorem d3_106 : decode method_3_code 106 = .ok (.if_icmp .ne 128, 3) := by decide +kernel
theorem d3_109 : decode method_3_code 109 = .ok (.aload_n 0, 1) := by decide +kernel
theorem d3_110 : decode method_3_code 110 = .ok (.bipush 11, 2) := by decide +kernel
theorem d3_112 : decode method_3_code 112 = .ok (.baload, 1) := by decide +kernel
theorem d3_113 : decode method_3_code 113 = .ok (.aload_n 1, 1) := by decide +kernel
theorem d3_114 : decode method_3_code 114 = .ok (.bipush 11, 2) := by decide +kernel
theorem d3_116 : decode method_3_code 116 = .ok (.baload, 1) := by decide +kernel
theorem d3_117 : decode method_3_code 117 = .ok (.if_icmp .ne 117, 3) := by decide +kernel
theorem d3_120 : decode method_3_code 120 = .ok (.aload_n 0, 1) := by decide +kernel
theorem d3_121 : decode method_3_code 121 = .ok (.bipush 12, 2) := by decide +kernel
theorem d3_123 : decode method_3_code 123 = .ok (.baload, 1) := by decide +kernel
theorem d3_124 : decode method_3_code 124 = .ok (.aload_n 1, 1) := by decide +kernel
theorem d3_125 : decode method_3_code 125 = .ok (.bipush 12, 2) := by decide +kernel
theorem d3_127 : decode method_3_code 127 = .ok (.baload, 1) := by decide +kernel
theorem d3_128 : decode method_3_code 128 = .ok (.if_icmp .ne 106, 3) := by decide +kernel
theorem d3_131 : decode method_3_code 131 = .ok (.aload_n 0, 1) := by decide +kernel
theorem d3_132 : decode method_3_code 132 = .ok (.bipush 13, 2) := by decide +kernel
theorem d3_134 : decode method_3_code 134 = .ok (.baload, 1) := by decide +kernel
theorem d3_135 : decode method_3_code 135 = .ok (.aload_n 1, 1) := by decide +kernel
theorem d3_136 : decode method_3_code 136 = .ok (.bipush 13, 2) := by decide +kernel
theorem d3_138 : decode method_3_code 138 = .ok (.baload, 1) := by decide +kernel
theorem d3_139 : decode method_3_code 139 = .ok (.if_icmp .ne 95, 3) := by decide +kernel
theorem d3_142 : decode method_3_code 142 = .ok (.aload_n 0, 1) := by decide +kernel
theorem d3_143 : decode method_3_code 143 = .ok (.bipush 14, 2) := by decide +kernel
theorem d3_145 : decode method_3_code 145 = .ok (.baload, 1) := by decide +kernel
theorem d3_146 : decode method_3_code 146 = .ok (.aload_n 1, 1) := by decide +kernel
theorem d3_147 : decode method_3_code 147 = .ok (.bipush 14, 2) := by decide +kernel
theorem d3_149 : decode method_3_code 149 = .ok (.baload, 1) := by decide +kernel
theorem d3_150 : decode method_3_code 150 = .ok (.if_icmp .ne 84, 3) := by decide +kernel
theorem d3_153 : decode method_3_code 153 = .ok (.aload_n 0, 1) := by decide +kernel
theorem d3_154 : decode method_3_code 154 = .ok (.bipush 15, 2) := by decide +kernel
theorem d3_156 : decode method_3_code 156 = .ok (.baload, 1) := by decide +kernel
theorem d3_157 : decode method_3_code 157 = .ok (.aload_n 1, 1) := by decide +kernel
theorem d3_158 : decode method_3_code 158 = .ok (.bipush 15, 2) := by decide +kernel
theorem d3_160 : decode method_3_code 160 = .ok (.baload, 1) := by decide +kernel
theorem d3_161 : decode method_3_code 161 = .ok (.if_icmp .ne 73, 3) := by decide +kernel
theorem d3_164 : decode method_3_code 164 = .ok (.aload_n 0, 1) := by decide +kernel
theorem d3_165 : decode method_3_code 165 = .ok (.bipush 16, 2) := by decide +kernel
theorem d3_167 : decode method_3_code 167 = .ok (.baload, 1) := by decide +kernel
theorem d3_168 : decode method_3_code 168 = .ok (.aload_n 1, 1) := by decide +kernel
theorem d3_169 : decode method_3_code 169 = .ok (.bipush 16, 2) := by decide +kernel
theorem d3_171 : decode method_3_code 171 = .ok (.baload, 1) := by decide +kernel
theorem d3_172 : decode method_3_code 172 = .ok (.if_icmp .ne 62, 3) := by decide +kernel
theorem d3_175 : decode method_3_code 175 = .ok (.aload_n 0, 1) := by decide +kernel
theorem d3_176 : decode method_3_code 176 = .ok (.bipush 17, 2) := by decide +kernel
theorem d3_178 : decode method_3_code 178 = .ok (.baload, 1) := by decide +kernel
theorem d3_179 : decode method_3_code 179 = .ok (.aload_n 1, 1) := by decide +kernel
theorem d3_180 : decode method_3_code 180 = .ok (.bipush 17, 2) := by decide +kernel
theorem d3_182 : decode method_3_code 182 = .ok (.baload, 1) := by decide +kernel
theorem d3_183 : decode method_3_code 183 = .ok (.if_icmp .ne 51, 3) := by decide +kernel
theorem d3_186 : decode method_3_code 186 = .ok (.aload_n 0, 1) := by decide +kernel
theorem d3_187 : decode method_3_code 187 = .ok (.bipush 18, 2) := by decide +kernel
theorem d3_189 : decode method_3_code 189 = .ok (.baload, 1) := by decide +kernel
theorem d3_190 : decode method_3_code 190 = .ok (.aload_n 1, 1) := by decide +kernel
theorem d3_191 : decode method_3_code 191 = .ok (.bipush 18, 2) := by decide +kernel
theorem d3_193 : decode method_3_code 193 = .ok (.baload, 1) := by decide +kernel
theorem d3_194 : decode method_3_code 194 = .ok (.if_icmp .ne 40, 3) := by decide +kernel
theorem d3_197 : decode method_3_code 197 = .ok (.aload_n 0, 1) := by decide +kernel
theorem d3_198 : decode method_3_code 198 = .ok (.bipush 19, 2) := by decide +kernel
theorem d3_200 : decode method_3_code 200 = .ok (.baload, 1) := by decide +kernel
theorem d3_201 : decode method_3_code 201 = .ok (.aload_n 1, 1) := by decide +kernel
theorem d3_202 : decode method_3_code 202 = .ok (.bipush 19, 2) := by decide +kernel
theorem d3_204 : decode method_3_code 204 = .ok (.baload, 1) := by decide +kernel
theorem d3_205 : decode method_3_code 205 = .ok (.if_icmp .ne 29, 3) := by decide +kernel
theorem d3_208 : decode method_3_code 208 = .ok (.aload_n 0, 1) := by decide +kernel
theorem d3_209 : decode method_3_code 209 = .ok (.bipush 20, 2) := by decide +kernel
theorem d3_211 : decode method_3_code 211 = .ok (.baload, 1) := by decide +kernel
theorem d3_212 : decode method_3_code 212 = .ok (.aload_n 1, 1) := by decide +kernel
theorem d3_213 : decode method_3_code 213 = .ok (.bipush 20, 2) := by decide +kernel
theorem d3_215 : decode method_3_code 215 = .ok (.baload, 1) := by decide +kernel
theorem d3_216 : decode method_3_code 216 = .ok (.if_icmp .ne 18, 3) := by decide +kernel
theorem d3_219 : decode method_3_code 219 = .ok (.aload_n 0, 1) := by decide +kernel
theorem d3_220 : decode method_3_code 220 = .ok (.bipush 21, 2) := by decide +kernel
theorem d3_222 : decode method_3_code 222 = .ok (.baload, 1) := by decide +kernel
theorem d3_223 : decode method_3_code 223 = .ok (.aload_n 1, 1) := by decide +kernel
theorem d3_224 : decode method_3_code 224 = .ok (.bipush 21, 2) := by decide +kernel
theorem d3_226 : decode method_3_code 226 = .ok (.baload, 1) := by decide +kernel
theorem d3_227 : decode method_3_code 227 = .ok (.if_icmp .ne 7, 3) := by decide +kernel
theorem d3_230 : decode method_3_code 230 = .ok (.iconst 1, 1) := by decide +kernel
theorem d3_231 : decode method_3_code 231 = .ok (.goto 4, 3) := by decide +kernel
theorem d3_235 : decode method_3_code 235 = .ok (.ireturn, 1) := by decide +kernel
set_option maxRecDepth 65536 in
set_option maxHeartbeats 40000000 in
theorem rm_same (l : Launch) (Z : State) (a0 : Array Value) (hw : ∀ d ∈ tables_1, d.before a0 Z = true) (x : Addr) (y : Addr) (f : Nat → Int32) (h0 : Heap) (n0 : Nat) (Z0 : n0 ≤ h0.size) (f0 : AI Z h0 x .byte 22 f) (f1 : AI Z h0 y .byte 22 f) :
    Con l Z (⟨"com/example/streamgauge/streamgauge/workloads/DecimalAddBeforePinLaw", "same", "([B[B)Z"⟩ : MethodName) method_3_code 2 (some .boolean) ({ frames := 0, cells := 0, slots := 0, locals := 0 } : Room) #[(.ref x), (.ref y)] h0 n0 (fun rv hv => rv = some (.int (1 : Int32)) ∧ h0 = hv) := by
  refine Con.enter (plainFor_of_name own_pn1) Z0 ?_
  intro p e s m below meth c T0 C hnm X0
  refine Go.cast (own_ef_rm_same m x y) ?_
  refine Go.aloadN C X0 (pc' := 1) d3_0 rfl rfl rfl ?_
  refine Go.iconst C X0 (pc' := 2) (v := (0 : Int32)) d3_1 rfl rfl ?_
  refine Go.baload C X0 (pc' := 3) (i := 0) (w := (f 0)) f0 rfl (by decide) rfl d3_2 rfl ?_
  refine Go.aloadN C X0 (pc' := 4) d3_3 rfl rfl rfl ?_
  refine Go.iconst C X0 (pc' := 5) (v := (0 : Int32)) d3_4 rfl rfl ?_
  refine Go.baload C X0 (pc' := 6) (i := 0) (w := (f 0)) f1 rfl (by decide) rfl d3_5 rfl ?_
  refine Go.icmpNo C X0 (pc' := 9) d3_6 (teq rfl).2 rfl ?_
  refine Go.aloadN C X0 (pc' := 10) d3_9 rfl rfl rfl ?_
  refine Go.iconst C X0 (pc' := 11) (v := (1 : Int32)) d3_10 rfl rfl ?_
  refine Go.baload C X0 (pc' := 12) (i := 1) (w := (f 1)) f0 rfl (by decide) rfl d3_11 rfl ?_
  refine Go.aloadN C X0 (pc' := 13) d3_12 rfl rfl rfl ?_
  refine Go.iconst C X0 (pc' := 14) (v := (1 : Int32)) d3_13 rfl rfl ?_
  refine Go.baload C X0 (pc' := 15) (i := 1) (w := (f 1)) f1 rfl (by decide) rfl d3_14 rfl ?_
  refine Go.icmpNo C X0 (pc' := 18) d3_15 (teq rfl).2 rfl ?_
  refine Go.aloadN C X0 (pc' := 19) d3_18 rfl rfl rfl ?_
  refine Go.iconst C X0 (pc' := 20) (v := (2 : Int32)) d3_19 rfl rfl ?_
  refine Go.baload C X0 (pc' := 21) (i := 2) (w := (f 2)) f0 rfl (by decide) rfl d3_20 rfl ?_
  refine Go.aloadN C X0 (pc' := 22) d3_21 rfl rfl rfl ?_
  refine Go.iconst C X0 (pc' := 23) (v := (2 : Int32)) d3_22 rfl rfl ?_
  refine Go.baload C X0 (pc' := 24) (i := 2) (w := (f 2)) f1 rfl (by decide) rfl d3_23 rfl ?_
  refine Go.icmpNo C X0 (pc' := 27) d3_24 (teq rfl).2 rfl ?_
  refine Go.aloadN C X0 (pc' := 28) d3_27 rfl rfl rfl ?_
  refine Go.iconst C X0 (pc' := 29) (v := (3 : Int32)) d3_28 rfl rfl ?_
  refine Go.baload C X0 (pc' := 30) (i := 3) (w := (f 3)) f0 rfl (by decide) rfl d3_29 rfl ?_
  refine Go.aloadN C X0 (pc' := 31) d3_30 rfl rfl rfl ?_
  refine Go.iconst C X0 (pc' := 32) (v := (3 : Int32)) d3_31 rfl rfl ?_
  refine Go.baload C X0 (pc' := 33) (i := 3) (w := (f 3)) f1 rfl (by decide) rfl d3_32 rfl ?_
  refine Go.icmpNo C X0 (pc' := 36) d3_33 (teq rfl).2 rfl ?_
  refine Go.aloadN C X0 (pc' := 37) d3_36 rfl rfl rfl ?_
  refine Go.iconst C X0 (pc' := 38) (v := (4 : Int32)) d3_37 rfl rfl ?_
  refine Go.baload C X0 (pc' := 39) (i := 4) (w := (f 4)) f0 rfl (by decide) rfl d3_38 rfl ?_
  refine Go.aloadN C X0 (pc' := 40) d3_39 rfl rfl rfl ?_
  refine Go.iconst C X0 (pc' := 41) (v := (4 : Int32)) d3_40 rfl rfl ?_
  refine Go.baload C X0 (pc' := 42) (i := 4) (w := (f 4)) f1 rfl (by decide) rfl d3_41 rfl ?_
  refine Go.icmpNo C X0 (pc' := 45) d3_42 (teq rfl).2 rfl ?_
  refine Go.aloadN C X0 (pc' := 46) d3_45 rfl rfl rfl ?_
  refine Go.iconst C X0 (pc' := 47) (v := (5 : Int32)) d3_46 rfl rfl ?_
  refine Go.baload C X0 (pc' := 48) (i := 5) (w := (f 5)) f0 rfl (by decide) rfl d3_47 rfl ?_
  refine Go.aloadN C X0 (pc' := 49) d3_48 rfl rfl rfl ?_
  refine Go.iconst C X0 (pc' := 50) (v := (5 : Int32)) d3_49 rfl rfl ?_
  refine Go.baload C X0 (pc' := 51) (i := 5) (w := (f 5)) f1 rfl (by decide) rfl d3_50 rfl ?_
  refine Go.icmpNo C X0 (pc' := 54) d3_51 (teq rfl).2 rfl ?_
  refine Go.aloadN C X0 (pc' := 55) d3_54 rfl rfl rfl ?_
  refine Go.bipush C X0 (pc' := 57) (v := (6 : Int32)) d3_55 rfl rfl ?_
  refine Go.baload C X0 (pc' := 58) (i := 6) (w := (f 6)) f0 rfl (by decide) rfl d3_57 rfl ?_
  refine Go.aloadN C X0 (pc' := 59) d3_58 rfl rfl rfl ?_
  refine Go.bipush C X0 (pc' := 61) (v := (6 : Int32)) d3_59 rfl rfl ?_
  refine Go.baload C X0 (pc' := 62) (i := 6) (w := (f 6)) f1 rfl (by decide) rfl d3_61 rfl ?_
  refine Go.icmpNo C X0 (pc' := 65) d3_62 (teq rfl).2 rfl ?_
  refine Go.aloadN C X0 (pc' := 66) d3_65 rfl rfl rfl ?_
  refine Go.bipush C X0 (pc' := 68) (v := (7 : Int32)) d3_66 rfl rfl ?_
  refine Go.baload C X0 (pc' := 69) (i := 7) (w := (f 7)) f0 rfl (by decide) rfl d3_68 rfl ?_
  refine Go.aloadN C X0 (pc' := 70) d3_69 rfl rfl rfl ?_
  refine Go.bipush C X0 (pc' := 72) (v := (7 : Int32)) d3_70 rfl rfl ?_
  refine Go.baload C X0 (pc' := 73) (i := 7) (w := (f 7)) f1 rfl (by decide) rfl d3_72 rfl ?_
  refine Go.icmpNo C X0 (pc' := 76) d3_73 (teq rfl).2 rfl ?_
  refine Go.aloadN C X0 (pc' := 77) d3_76 rfl rfl rfl ?_
  refine Go.bipush C X0 (pc' := 79) (v := (8 : Int32)) d3_77 rfl rfl ?_
  refine Go.baload C X0 (pc' := 80) (i := 8) (w := (f 8)) f0 rfl (by decide) rfl d3_79 rfl ?_
  refine Go.aloadN C X0 (pc' := 81) d3_80 rfl rfl rfl ?_
  refine Go.bipush C X0 (pc' := 83) (v := (8 : Int32)) d3_81 rfl rfl ?_
  refine Go.baload C X0 (pc' := 84) (i := 8) (w := (f 8)) f1 rfl (by decide) rfl d3_83 rfl ?_
  refine Go.icmpNo C X0 (pc' := 87) d3_84 (teq rfl).2 rfl ?_
  refine Go.aloadN C X0 (pc' := 88) d3_87 rfl rfl rfl ?_
  refine Go.bipush C X0 (pc' := 90) (v := (9 : Int32)) d3_88 rfl rfl ?_
  refine Go.baload C X0 (pc' := 91) (i := 9) (w := (f 9)) f0 rfl (by decide) rfl d3_90 rfl ?_
  refine Go.aloadN C X0 (pc' := 92) d3_91 rfl rfl rfl ?_
  refine Go.bipush C X0 (pc' := 94) (v := (9 : Int32)) d3_92 rfl rfl ?_
  refine Go.baload C X0 (pc' := 95) (i := 9) (w := (f 9)) f1 rfl (by decide) rfl d3_94 rfl ?_
  refine Go.icmpNo C X0 (pc' := 98) d3_95 (teq rfl).2 rfl ?_
  refine Go.aloadN C X0 (pc' := 99) d3_98 rfl rfl rfl ?_
  refine Go.bipush C X0 (pc' := 101) (v := (10 : Int32)) d3_99 rfl rfl ?_
  refine Go.baload C X0 (pc' := 102) (i := 10) (w := (f 10)) f0 rfl (by decide) rfl d3_101 rfl ?_
  refine Go.aloadN C X0 (pc' := 103) d3_102 rfl rfl rfl ?_
  refine Go.bipush C X0 (pc' := 105) (v := (10 : Int32)) d3_103 rfl rfl ?_
  refine Go.baload C X0 (pc' := 106) (i := 10) (w := (f 10)) f1 rfl (by decide) rfl d3_105 rfl ?_
  refine Go.icmpNo C X0 (pc' := 109) d3_106 (teq rfl).2 rfl ?_
  refine Go.aloadN C X0 (pc' := 110) d3_109 rfl rfl rfl ?_
  refine Go.bipush C X0 (pc' := 112) (v := (11 : Int32)) d3_110 rfl rfl ?_
  refine Go.baload C X0 (pc' := 113) (i := 11) (w := (f 11)) f0 rfl (by decide) rfl d3_112 rfl ?_
  refine Go.aloadN C X0 (pc' := 114) d3_113 rfl rfl rfl ?_
  refine Go.bipush C X0 (pc' := 116) (v := (11 : Int32)) d3_114 rfl rfl ?_
  refine Go.baload C X0 (pc' := 117) (i := 11) (w := (f 11)) f1 rfl (by decide) rfl d3_116 rfl ?_
  refine Go.icmpNo C X0 (pc' := 120) d3_117 (teq rfl).2 rfl ?_
  refine Go.aloadN C X0 (pc' := 121) d3_120 rfl rfl rfl ?_
  refine Go.bipush C X0 (pc' := 123) (v := (12 : Int32)) d3_121 rfl rfl ?_
  refine Go.baload C X0 (pc' := 124) (i := 12) (w := (f 12)) f0 rfl (by decide) rfl d3_123 rfl ?_
  refine Go.aloadN C X0 (pc' := 125) d3_124 rfl rfl rfl ?_
  refine Go.bipush C X0 (pc' := 127) (v := (12 : Int32)) d3_125 rfl rfl ?_
  refine Go.baload C X0 (pc' := 128) (i := 12) (w := (f 12)) f1 rfl (by decide) rfl d3_127 rfl ?_
  refine Go.icmpNo C X0 (pc' := 131) d3_128 (teq rfl).2 rfl ?_
  refine Go.aloadN C X0 (pc' := 132) d3_131 rfl rfl rfl ?_
  refine Go.bipush C X0 (pc' := 134) (v := (13 : Int32)) d3_132 rfl rfl ?_
  refine Go.baload C X0 (pc' := 135) (i := 13) (w := (f 13)) f0 rfl (by decide) rfl d3_134 rfl ?_
  refine Go.aloadN C X0 (pc' := 136) d3_135 rfl rfl rfl ?_
  refine Go.bipush C X0 (pc' := 138) (v := (13 : Int32)) d3_136 rfl rfl ?_
  refine Go.baload C X0 (pc' := 139) (i := 13) (w := (f 13)) f1 rfl (by decide) rfl d3_138 rfl ?_
  refine Go.icmpNo C X0 (pc' := 142) d3_139 (teq rfl).2 rfl ?_
  refine Go.aloadN C X0 (pc' := 143) d3_142 rfl rfl rfl ?_
  refine Go.bipush C X0 (pc' := 145) (v := (14 : Int32)) d3_143 rfl rfl ?_
  refine Go.baload C X0 (pc' := 146) (i := 14) (w := (f 14)) f0 rfl (by decide) rfl d3_145 rfl ?_
  refine Go.aloadN C X0 (pc' := 147) d3_146 rfl rfl rfl ?_
  refine Go.bipush C X0 (pc' := 149) (v := (14 : Int32)) d3_147 rfl rfl ?_
  refine Go.baload C X0 (pc' := 150) (i := 14) (w := (f 14)) f1 rfl (by decide) rfl d3_149 rfl ?_
  refine Go.icmpNo C X0 (pc' := 153) d3_150 (teq rfl).2 rfl ?_
  refine Go.aloadN C X0 (pc' := 154) d3_153 rfl rfl rfl ?_
  refine Go.bipush C X0 (pc' := 156) (v := (15 : Int32)) d3_154 rfl rfl ?_
  refine Go.baload C X0 (pc' := 157) (i := 15) (w := (f 15)) f0 rfl (by decide) rfl d3_156 rfl ?_
  refine Go.aloadN C X0 (pc' := 158) d3_157 rfl rfl rfl ?_
  refine Go.bipush C X0 (pc' := 160) (v := (15 : Int32)) d3_158 rfl rfl ?_
  refine Go.baload C X0 (pc' := 161) (i := 15) (w := (f 15)) f1 rfl (by decide) rfl d3_160 rfl ?_
  refine Go.icmpNo C X0 (pc' := 164) d3_161 (teq rfl).2 rfl ?_
  refine Go.aloadN C X0 (pc' := 165) d3_164 rfl rfl rfl ?_
  refine Go.bipush C X0 (pc' := 167) (v := (16 : Int32)) d3_165 rfl rfl ?_
  refine Go.baload C X0 (pc' := 168) (i := 16) (w := (f 16)) f0 rfl (by decide) rfl d3_167 rfl ?_
  refine Go.aloadN C X0 (pc' := 169) d3_168 rfl rfl rfl ?_
  refine Go.bipush C X0 (pc' := 171) (v := (16 : Int32)) d3_169 rfl rfl ?_
  refine Go.baload C X0 (pc' := 172) (i := 16) (w := (f 16)) f1 rfl (by decide) rfl d3_171 rfl ?_
  refine Go.icmpNo C X0 (pc' := 175) d3_172 (teq rfl).2 rfl ?_
  refine Go.aloadN C X0 (pc' := 176) d3_175 rfl rfl rfl ?_
  refine Go.bipush C X0 (pc' := 178) (v := (17 : Int32)) d3_176 rfl rfl ?_
  refine Go.baload C X0 (pc' := 179) (i := 17) (w := (f 17)) f0 rfl (by decide) rfl d3_178 rfl ?_
  refine Go.aloadN C X0 (pc' := 180) d3_179 rfl rfl rfl ?_
  refine Go.bipush C X0 (pc' := 182) (v := (17 : Int32)) d3_180 rfl rfl ?_
  refine Go.baload C X0 (pc' := 183) (i := 17) (w := (f 17)) f1 rfl (by decide) rfl d3_182 rfl ?_
  refine Go.icmpNo C X0 (pc' := 186) d3_183 (teq rfl).2 rfl ?_
  refine Go.aloadN C X0 (pc' := 187) d3_186 rfl rfl rfl ?_
  refine Go.bipush C X0 (pc' := 189) (v := (18 : Int32)) d3_187 rfl rfl ?_
  refine Go.baload C X0 (pc' := 190) (i := 18) (w := (f 18)) f0 rfl (by decide) rfl d3_189 rfl ?_
  refine Go.aloadN C X0 (pc' := 191) d3_190 rfl rfl rfl ?_
  refine Go.bipush C X0 (pc' := 193) (v := (18 : Int32)) d3_191 rfl rfl ?_
  refine Go.baload C X0 (pc' := 194) (i := 18) (w := (f 18)) f1 rfl (by decide) rfl d3_193 rfl ?_
  refine Go.icmpNo C X0 (pc' := 197) d3_194 (teq rfl).2 rfl ?_
  refine Go.aloadN C X0 (pc' := 198) d3_197 rfl rfl rfl ?_
  refine Go.bipush C X0 (pc' := 200) (v := (19 : Int32)) d3_198 rfl rfl ?_
  refine Go.baload C X0 (pc' := 201) (i := 19) (w := (f 19)) f0 rfl (by decide) rfl d3_200 rfl ?_
  refine Go.aloadN C X0 (pc' := 202) d3_201 rfl rfl rfl ?_
  refine Go.bipush C X0 (pc' := 204) (v := (19 : Int32)) d3_202 rfl rfl ?_
  refine Go.baload C X0 (pc' := 205) (i := 19) (w := (f 19)) f1 rfl (by decide) rfl d3_204 rfl ?_
  refine Go.icmpNo C X0 (pc' := 208) d3_205 (teq rfl).2 rfl ?_
  refine Go.aloadN C X0 (pc' := 209) d3_208 rfl rfl rfl ?_
  refine Go.bipush C X0 (pc' := 211) (v := (20 : Int32)) d3_209 rfl rfl ?_
  refine Go.baload C X0 (pc' := 212) (i := 20) (w := (f 20)) f0 rfl (by decide) rfl d3_211 rfl ?_
  refine Go.aloadN C X0 (pc' := 213) d3_212 rfl rfl rfl ?_
  refine Go.bipush C X0 (pc' := 215) (v := (20 : Int32)) d3_213 rfl rfl ?_
  refine Go.baload C X0 (pc' := 216) (i := 20) (w := (f 20)) f1 rfl (by decide) rfl d3_215 rfl ?_
  refine Go.icmpNo C X0 (pc' := 219) d3_216 (teq rfl).2 rfl ?_
  refine Go.aloadN C X0 (pc' := 220) d3_219 rfl rfl rfl ?_
  refine Go.bipush C X0 (pc' := 222) (v := (21 : Int32)) d3_220 rfl rfl ?_
  refine Go.baload C X0 (pc' := 223) (i := 21) (w := (f 21)) f0 rfl (by decide) rfl d3_222 rfl ?_
  refine Go.aloadN C X0 (pc' := 224) d3_223 rfl rfl rfl ?_
  refine Go.bipush C X0 (pc' := 226) (v := (21 : Int32)) d3_224 rfl rfl ?_
  refine Go.baload C X0 (pc' := 227) (i := 21) (w := (f 21)) f1 rfl (by decide) rfl d3_226 rfl ?_
  refine Go.icmpNo C X0 (pc' := 230) d3_227 (teq rfl).2 rfl ?_
  refine Go.iconst C X0 (pc' := 231) (v := (1 : Int32)) d3_230 rfl rfl ?_
  refine Go.goto C X0 (pc' := 235) d3_231 (by decide) (by decide) ?_
  exact Go.retZ (t := .boolean) C X0 (z' := (1 : Int32)) (by decide) d3_235 ⟨rfl, rfl⟩ (by decide) (by decide)
theorem own_msk (x : Int64) : 0 ≤ (x &&& (9223372036854775807 : Int64)).toInt := by
  have h1 := c_maskL x 9223372036854775807 63 (by decide) (by decide)
  rw [h1]; exact Int.emod_nonneg _ (by decide)
theorem own_mx : (9223372036854775807 : Int64).toInt = 9223372036854775807 := rfl
theorem own_dv {n : Int64} (h : 0 ≤ n.toInt) (h0 : ¬ n = 0) : ((9223372036854775807 : Int64) - n + (1 : Int64)).toInt = 9223372036854775808 - n.toInt := by
  have e1 : (1 : Int64).toInt = 1 := rfl
  have h2 : n.toInt ≠ 0 := fun q => h0 (own_jeq.mpr (by rw [q]; rfl))
  have h3 := rng64 n
  have h1 : ((9223372036854775807 : Int64) - n).toInt = 9223372036854775807 - n.toInt := by rw [own_lsub (by rw [own_mx]; omega) (by rw [own_mx]; omega), own_mx]
  rw [own_ladd (by omega) (by omega), h1, e1]; omega
theorem own_rm {n v : Int64} (h : 0 ≤ n.toInt) (h0 : ¬ n = 0) (hv : 0 ≤ v.toInt) : 0 ≤ (v % ((9223372036854775807 : Int64) - n + (1 : Int64))).toInt ∧ n.toInt + (v % ((9223372036854775807 : Int64) - n + (1 : Int64))).toInt < 9223372036854775808 := by
  have hd := own_dv h h0
  have h3 := rng64 n
  have h2 : n.toInt ≠ 0 := fun q => h0 (own_jeq.mpr (by rw [q]; rfl))
  have e : (v % ((9223372036854775807 : Int64) - n + (1 : Int64))).toInt = v.toInt % (9223372036854775808 - n.toInt) := by
    rw [Int64.toInt_mod, hd]; exact Int.tmod_eq_emod_of_nonneg hv
  have g1 := Int.emod_nonneg v.toInt (show (9223372036854775808 - n.toInt) ≠ 0 by omega)
  have g2 := Int.emod_lt_of_pos v.toInt (show 0 < (9223372036854775808 - n.toInt) by omega)
  rw [e]; omega
theorem own_st2 (x0 u : Int64) (x2 x3 : Int32) (hu : 0 ≤ u.toInt) (hs : (x0 &&& (9223372036854775807 : Int64)).toInt + u.toInt < 9223372036854775808) : ∃ a v l' ee L1 L2 : Nat, (x0 &&& (9223372036854775807 : Int64)).toInt = (a : Int) ∧ u.toInt = (v : Int) ∧ a + v < 9223372036854775808 ∧ ((x2 &&& (2147483647 : Int32)) % (20 : Int32)).toInt = (l' : Int) ∧ ((19 : Int32) + (x3 &&& (3 : Int32))).toInt = (ee : Int) ∧ 19 ≤ ee ∧ ee ≤ 22 ∧ L1 ≤ 19 ∧ L2 ≤ 19 ∧ own_len a l' L1 ∧ own_len (a + v) L1 L2 := by
  have h1 := own_msk x0
  have h3 := Jvm.RoadKit.own_mod x2 20 20 rfl (by decide)
  obtain ⟨a, ha⟩ : ∃ a : Nat, (x0 &&& (9223372036854775807 : Int64)).toInt = (a : Int) := ⟨_, (Int.toNat_of_nonneg h1).symm⟩
  obtain ⟨v, hv⟩ : ∃ v : Nat, u.toInt = (v : Int) := ⟨_, (Int.toNat_of_nonneg hu).symm⟩
  obtain ⟨l', hl⟩ : ∃ v : Nat, ((x2 &&& (2147483647 : Int32)) % (20 : Int32)).toInt = (v : Int) := ⟨_, (Int.toNat_of_nonneg h3.2.1).symm⟩
  have e19 : 10 ^ 19 = 10000000000000000000 := rfl
  obtain ⟨L1, hLB, hL⟩ := own_ex a l' 19 (by rw [e19]; omega) (by omega) (by decide)
  obtain ⟨L2, hLB2, hL2⟩ := own_ex (a + v) L1 19 (by rw [e19]; omega) hLB (by decide)
  have he : ∃ ee : Nat, ((19 : Int32) + (x3 &&& (3 : Int32))).toInt = (ee : Int) ∧ 19 ≤ ee ∧ ee ≤ 22 := by
    rcases own_and3 x3 with q | q | q | q <;> rw [q]
    · exact ⟨19, rfl, by decide, by decide⟩
    · exact ⟨20, rfl, by decide, by decide⟩
    · exact ⟨21, rfl, by decide, by decide⟩
    · exact ⟨22, rfl, by decide, by decide⟩
  obtain ⟨ee, e1, e2, e3⟩ := he
  exact ⟨a, v, l', ee, L1, L2, ha, hv, by omega, hl, e1, e2, e3, hLB, hLB2, hL, hL2⟩
theorem own_sb {en r : Int32} {ee L : Nat} (hE : en.toInt = (ee : Int)) (h2 : ee ≤ 22) (hr : r.toInt = (ee : Int) - (L : Int)) (h1 : L ≤ ee) : (en - r).toInt = (L : Int) := by
  rw [own_isub (by omega) (by omega), hE, hr]; omega
theorem own_ef_rm0 (m : MethodId) (x0 : Int64) (x1 : Int64) (x2 : Int32) (x3 : Int32) : entryFrame m #[(.long x0), (.long x1), (.int x2), (.int x3)] maxLocals = mkF m 0 #[.val (.long x0), .second, .val (.long x1), .second, .val (.int x2), .val (.int x3), .unset, .unset, .unset, .unset, .unset, .unset, .unset, .unset, .unset, .unset, .unset] [] := by first | (simp [entryFrame, mkF, argsToLocals, Value.category, maxLocals]; done) | rfl
theorem own_pd0 : parseMethodDescriptor "(JI[BI)I" = some ⟨[.long, .int, (.array .byte), .int], some .int⟩ := by decide +kernel
theorem own_pd1 : parseMethodDescriptor "(J[BII)I" = some ⟨[.long, (.array .byte), .int, .int], some .int⟩ := by decide +kernel
theorem own_pd2 : parseMethodDescriptor "([B[B)Z" = some ⟨[(.array .byte), (.array .byte)], some .boolean⟩ := by decide +kernel
set_option maxRecDepth 65536 in
set_option maxHeartbeats 40000000 in
theorem rm0 (l : Launch) (Z : State) (a0 : Array Value) (hw : ∀ d ∈ tables_1, d.before a0 Z = true) (x0 x1 : Int64) (x2 x3 : Int32) (h0 : Heap) (n0 : Nat) (Z0 : n0 ≤ h0.size)  :
    Con l Z x code maxLocals ret room_1 #[(.long x0), (.long x1), (.int x2), (.int x3)] h0 n0 (fun rv hv => rv = some (.int 1)) := by
  refine Con.enter (plainFor_of_name own_pn1) Z0 ?_
  intro p e s m below meth c T0 C hnm X0
  refine Go.cast (own_ef_rm0 m x0 x1 x2 x3) ?_
  have Cut46 : ∀ (T_46 : State) (u8 : Int64), (0 ≤ u8.toInt) → ((x0 &&& (9223372036854775807 : Int64)).toInt + u8.toInt < 9223372036854775808) → On p l e room_1 s m #[(.long x0), (.long x1), (.int x2), (.int x3)] below meth c n0 T_46 h0 0 0 → Go p e below s n0 (room_1).cells (room_1).slots (fun rv hv => rv = some (.int 1)) T_46 (mkF m 46 #[.val (.long x0), .second, .val (.long x1), .second, .val (.int x2), .val (.int x3), .val (.long (x0 &&& (9223372036854775807 : Int64))), .second, .val (.long u8), .second, .unset, .unset, .unset, .unset, .unset, .unset, .unset] []) := by
    intro T_46 u8 hu hs X_46
    obtain ⟨a, v, l', ee, L1, L2, ha, hv, hb, hl, hE, he1, he2, hB1, hB2, hL1, hL2⟩ := own_st2 x0 u8 x2 x3 hu hs
    refine Go.iload C X_46 (pc' := 48) at_46 rfl rfl ?_
    refine Go.ldc C X_46 (pc' := 50) (hw _ (List.mem_of_getElem? (i := 1) rfl)) at_48 rfl ?_
    refine Go.iand C X_46 (pc' := 51) at_50 rfl ?_
    refine Go.bipush C X_46 (pc' := 53) (v := (20 : Int32)) at_51 rfl rfl ?_
    refine Go.irem C X_46 (pc' := 54) at_53 (by decide) rfl ?_
    refine Go.istore C X_46 (pc' := 56) (Ls' := #[.val (.long x0), .second, .val (.long x1), .second, .val (.int x2), .val (.int x3), .val (.long (x0 &&& (9223372036854775807 : Int64))), .second, .val (.long u8), .second, .val (.int ((x2 &&& (2147483647 : Int32)) % (20 : Int32))), .unset, .unset, .unset, .unset, .unset, .unset]) at_54 rfl rfl ?_
    refine Go.bipush C X_46 (pc' := 58) (v := (19 : Int32)) at_56 rfl rfl ?_
    refine Go.iload C X_46 (pc' := 60) at_58 rfl rfl ?_
    refine Go.iconst C X_46 (pc' := 61) (v := (3 : Int32)) at_60 rfl rfl ?_
    refine Go.iand C X_46 (pc' := 62) at_61 rfl ?_
    refine Go.iadd C X_46 (pc' := 63) at_62 rfl ?_
    refine Go.istore C X_46 (pc' := 65) (Ls' := #[.val (.long x0), .second, .val (.long x1), .second, .val (.int x2), .val (.int x3), .val (.long (x0 &&& (9223372036854775807 : Int64))), .second, .val (.long u8), .second, .val (.int ((x2 &&& (2147483647 : Int32)) % (20 : Int32))), .val (.int ((19 : Int32) + (x3 &&& (3 : Int32)))), .unset, .unset, .unset, .unset, .unset]) at_63 rfl rfl ?_
    refine Go.bipush C X_46 (pc' := 67) (v := (22 : Int32)) at_65 rfl rfl ?_
    refine Go.newP C X_46 (pc' := 69) (nn := 22) (cap := 22) (hw _ (List.mem_of_getElem? (i := 2) rfl)) at_67 rfl (by decide) (by decide) (by decide) (by decide) rfl (fun T13 h13 b13 k13 X13 g13 E13 Ar13 N13 => ?_)
    have A13 : AI Z h13 b13 .byte 22 (fun _ => 0) := AI.new rfl rfl Ar13
    refine Go.astore C X13 (pc' := 71) (Ls' := #[.val (.long x0), .second, .val (.long x1), .second, .val (.int x2), .val (.int x3), .val (.long (x0 &&& (9223372036854775807 : Int64))), .second, .val (.long u8), .second, .val (.int ((x2 &&& (2147483647 : Int32)) % (20 : Int32))), .val (.int ((19 : Int32) + (x3 &&& (3 : Int32)))), .val (.ref b13), .unset, .unset, .unset, .unset]) at_69 rfl rfl rfl ?_
    refine Go.bipush C X13 (pc' := 73) (v := (22 : Int32)) at_71 rfl rfl ?_
    refine Go.newP C X13 (pc' := 75) (nn := 22) (cap := 22) (hw _ (List.mem_of_getElem? (i := 2) rfl)) at_73 rfl (by decide) (by decide) (by decide) (by decide) rfl (fun T14 h14 b14 k14 X14 g14 E14 Ar14 N14 => ?_)
    have ne_b13_b14 : b13 ≠ b14 := Nat.ne_of_lt (Nat.lt_of_lt_of_eq A13.lt g14.symm)
    have A15 := A13.ext E14
    have A14 : AI Z h14 b14 .byte 22 (fun _ => 0) := AI.new rfl rfl Ar14
    refine Go.astore C X14 (pc' := 77) (Ls' := #[.val (.long x0), .second, .val (.long x1), .second, .val (.int x2), .val (.int x3), .val (.long (x0 &&& (9223372036854775807 : Int64))), .second, .val (.long u8), .second, .val (.int ((x2 &&& (2147483647 : Int32)) % (20 : Int32))), .val (.int ((19 : Int32) + (x3 &&& (3 : Int32)))), .val (.ref b13), .val (.ref b14), .unset, .unset, .unset]) at_75 rfl rfl rfl ?_
    refine Go.lload C X14 (pc' := 79) at_77 rfl rfl ?_
    refine Go.iload C X14 (pc' := 81) at_79 rfl rfl ?_
    refine Go.aload C X14 (pc' := 83) at_81 rfl rfl rfl ?_
    refine Go.iload C X14 (pc' := 85) at_83 rfl rfl ?_
    refine Go.callS C X14 (pc' := 88) (W := 0) (argsL := [(.long (x0 &&& (9223372036854775807 : Int64))), (.int ((x2 &&& (2147483647 : Int32)) % (20 : Int32))), (.ref b13), (.int ((19 : Int32) + (x3 &&& (3 : Int32))))]) (rest := []) (rm_put l Z a0 hw (x0 &&& (9223372036854775807 : Int64)) ((x2 &&& (2147483647 : Int32)) % (20 : Int32)) b13 ((19 : Int32) + (x3 &&& (3 : Int32))) 22 (fun _ => 0) a l' L1 ee h14 n0 X14.sz A15 N13 ha hl hL1 hE (by omega) (by omega) (by omega)) (hw _ (List.mem_of_getElem? (i := 3) rfl)) (hw _ (List.mem_of_getElem? (i := 4) rfl)) (hw _ (List.mem_of_getElem? (i := 5) rfl)) (hw _ (List.mem_of_getElem? (i := 6) rfl)) (by decide) rfl rfl (lenOf own_pd0 rfl) rfl (Nat.le_of_eq rfl) (by decide) (by decide) (by decide) (by decide) at_85 rfl (fun _ _ q => by obtain ⟨_, _, K, _⟩ := q; exact K.1) (fun T16 h16 v16 X16 P16 => ?_)
    obtain ⟨r16, rfl, K16, O16_0, Y16_0⟩ := P16
    have A17 := A14.keep K16 (ninS (Ne.symm ne_b13_b14) nin0)
    show Go p e below s n0 _ _ _ T16 (mkF m 88 #[.val (.long x0), .second, .val (.long x1), .second, .val (.int x2), .val (.int x3), .val (.long (x0 &&& (9223372036854775807 : Int64))), .second, .val (.long u8), .second, .val (.int ((x2 &&& (2147483647 : Int32)) % (20 : Int32))), .val (.int ((19 : Int32) + (x3 &&& (3 : Int32)))), .val (.ref b13), .val (.ref b14), .unset, .unset, .unset] [(.int r16)])
    refine Go.istore C X16 (pc' := 90) (Ls' := #[.val (.long x0), .second, .val (.long x1), .second, .val (.int x2), .val (.int x3), .val (.long (x0 &&& (9223372036854775807 : Int64))), .second, .val (.long u8), .second, .val (.int ((x2 &&& (2147483647 : Int32)) % (20 : Int32))), .val (.int ((19 : Int32) + (x3 &&& (3 : Int32)))), .val (.ref b13), .val (.ref b14), .val (.int r16), .unset, .unset]) at_88 rfl rfl ?_
    refine Go.lload C X16 (pc' := 92) at_90 rfl rfl ?_
    refine Go.aload C X16 (pc' := 94) at_92 rfl rfl rfl ?_
    refine Go.iload C X16 (pc' := 96) at_94 rfl rfl ?_
    refine Go.iload C X16 (pc' := 98) at_96 rfl rfl ?_
    refine Go.callS C X16 (pc' := 101) (W := 0) (argsL := [(.long u8), (.ref b13), (.int r16), (.int ((19 : Int32) + (x3 &&& (3 : Int32))))]) (rest := []) (rm_add l Z a0 hw u8 b13 r16 ((19 : Int32) + (x3 &&& (3 : Int32))) a v l' L1 L2 ee h16 n0 X16.sz O16_0 N13 hv hb hL1 hL2 Y16_0 hE (by omega) (by omega) (by omega)) (hw _ (List.mem_of_getElem? (i := 9) rfl)) (hw _ (List.mem_of_getElem? (i := 10) rfl)) (hw _ (List.mem_of_getElem? (i := 5) rfl)) (hw _ (List.mem_of_getElem? (i := 11) rfl)) (by decide) rfl rfl (lenOf own_pd1 rfl) rfl (Nat.le_of_eq rfl) (by decide) (by decide) (by decide) (by decide) at_98 rfl (fun _ _ q => by obtain ⟨_, _, K, _⟩ := q; exact K.1) (fun T18 h18 v18 X18 P18 => ?_)
    obtain ⟨r18, rfl, K18, O18_0, Y18_0⟩ := P18
    have A19 := A17.keep K18 (ninS (Ne.symm ne_b13_b14) nin0)
    show Go p e below s n0 _ _ _ T18 (mkF m 101 #[.val (.long x0), .second, .val (.long x1), .second, .val (.int x2), .val (.int x3), .val (.long (x0 &&& (9223372036854775807 : Int64))), .second, .val (.long u8), .second, .val (.int ((x2 &&& (2147483647 : Int32)) % (20 : Int32))), .val (.int ((19 : Int32) + (x3 &&& (3 : Int32)))), .val (.ref b13), .val (.ref b14), .val (.int r16), .unset, .unset] [(.int r18)])
    refine Go.istore C X18 (pc' := 103) (Ls' := #[.val (.long x0), .second, .val (.long x1), .second, .val (.int x2), .val (.int x3), .val (.long (x0 &&& (9223372036854775807 : Int64))), .second, .val (.long u8), .second, .val (.int ((x2 &&& (2147483647 : Int32)) % (20 : Int32))), .val (.int ((19 : Int32) + (x3 &&& (3 : Int32)))), .val (.ref b13), .val (.ref b14), .val (.int r16), .val (.int r18), .unset]) at_101 rfl rfl ?_
    refine Go.lload C X18 (pc' := 105) at_103 rfl rfl ?_
    refine Go.lload C X18 (pc' := 107) at_105 rfl rfl ?_
    refine Go.ladd C X18 (pc' := 108) at_107 rfl ?_
    refine Go.iload C X18 (pc' := 110) at_108 rfl rfl ?_
    refine Go.iload C X18 (pc' := 112) at_110 rfl rfl ?_
    refine Go.isub C X18 (pc' := 113) at_112 rfl ?_
    refine Go.aload C X18 (pc' := 115) at_113 rfl rfl rfl ?_
    refine Go.iload C X18 (pc' := 117) at_115 rfl rfl ?_
    refine Go.callS C X18 (pc' := 120) (W := 0) (argsL := [(.long ((x0 &&& (9223372036854775807 : Int64)) + u8)), (.int (((19 : Int32) + (x3 &&& (3 : Int32))) - r16)), (.ref b14), (.int ((19 : Int32) + (x3 &&& (3 : Int32))))]) (rest := []) (rm_put l Z a0 hw ((x0 &&& (9223372036854775807 : Int64)) + u8) (((19 : Int32) + (x3 &&& (3 : Int32))) - r16) b14 ((19 : Int32) + (x3 &&& (3 : Int32))) 22 (fun _ => 0) (a + v) L1 L2 ee h18 n0 X18.sz A19 N14 (by rw [own_ladd (by omega) (by omega), ha, hv]; omega) (own_sb hE he2 Y16_0 (by omega)) hL2 hE (by omega) (by omega) (by omega)) (hw _ (List.mem_of_getElem? (i := 3) rfl)) (hw _ (List.mem_of_getElem? (i := 4) rfl)) (hw _ (List.mem_of_getElem? (i := 5) rfl)) (hw _ (List.mem_of_getElem? (i := 6) rfl)) (by decide) rfl rfl (lenOf own_pd0 rfl) rfl (Nat.le_of_eq rfl) (by decide) (by decide) (by decide) (by decide) at_117 rfl (fun _ _ q => by obtain ⟨_, _, K, _⟩ := q; exact K.1) (fun T20 h20 v20 X20 P20 => ?_)
    obtain ⟨r20, rfl, K20, O20_0, Y20_0⟩ := P20
    have A21 := O18_0.keep K20 (ninS ne_b13_b14 nin0)
    show Go p e below s n0 _ _ _ T20 (mkF m 120 #[.val (.long x0), .second, .val (.long x1), .second, .val (.int x2), .val (.int x3), .val (.long (x0 &&& (9223372036854775807 : Int64))), .second, .val (.long u8), .second, .val (.int ((x2 &&& (2147483647 : Int32)) % (20 : Int32))), .val (.int ((19 : Int32) + (x3 &&& (3 : Int32)))), .val (.ref b13), .val (.ref b14), .val (.int r16), .val (.int r18), .unset] [(.int r20)])
    refine Go.istore C X20 (pc' := 122) (Ls' := #[.val (.long x0), .second, .val (.long x1), .second, .val (.int x2), .val (.int x3), .val (.long (x0 &&& (9223372036854775807 : Int64))), .second, .val (.long u8), .second, .val (.int ((x2 &&& (2147483647 : Int32)) % (20 : Int32))), .val (.int ((19 : Int32) + (x3 &&& (3 : Int32)))), .val (.ref b13), .val (.ref b14), .val (.int r16), .val (.int r18), .val (.int r20)]) at_120 rfl rfl ?_
    refine Go.iload C X20 (pc' := 124) at_122 rfl rfl ?_
    refine Go.iload C X20 (pc' := 126) at_124 rfl rfl ?_
    refine Go.icmpNo C X20 (pc' := 129) at_126 (teq (own_ieq.mpr (by rw [Y18_0, Y20_0]))).2 rfl ?_
    refine Go.aload C X20 (pc' := 131) at_129 rfl rfl rfl ?_
    refine Go.aload C X20 (pc' := 133) at_131 rfl rfl rfl ?_
    refine Go.callS C X20 (pc' := 136) (W := 0) (argsL := [(.ref b13), (.ref b14)]) (rest := []) (rm_same l Z a0 hw b13 b14 (own_pb (fun _ => (0 : Int32)) (a + v) ee L2) h20 n0 X20.sz A21 O20_0) (hw _ (List.mem_of_getElem? (i := 12) rfl)) (hw _ (List.mem_of_getElem? (i := 13) rfl)) (hw _ (List.mem_of_getElem? (i := 14) rfl)) (hw _ (List.mem_of_getElem? (i := 15) rfl)) (by decide) rfl rfl (lenOf own_pd2 rfl) rfl (Nat.le_of_eq rfl) (by decide) (by decide) (by decide) (by decide) at_133 rfl (fun _ _ q => Nat.le_of_eq (congrArg Array.size q.2)) (fun T22 h22 v22 X22 P22 => ?_)
    obtain ⟨rfl, rfl⟩ := P22
    show Go p e below s n0 _ _ _ T22 (mkF m 136 #[.val (.long x0), .second, .val (.long x1), .second, .val (.int x2), .val (.int x3), .val (.long (x0 &&& (9223372036854775807 : Int64))), .second, .val (.long u8), .second, .val (.int ((x2 &&& (2147483647 : Int32)) % (20 : Int32))), .val (.int ((19 : Int32) + (x3 &&& (3 : Int32)))), .val (.ref b13), .val (.ref b14), .val (.int r16), .val (.int r18), .val (.int r20)] [(.int (1 : Int32))])
    refine Go.ifNo C X22 (pc' := 139) at_136 ((if0 _ _).trans (feq (by decide)).1) rfl ?_
    refine Go.iconst C X22 (pc' := 140) (v := (1 : Int32)) at_139 rfl rfl ?_
    refine Go.goto C X22 (pc' := 144) at_140 (by decide) (by decide) ?_
    exact Go.retZ (t := .boolean) C X22 (z' := (1 : Int32)) (by decide) at_144 rfl (by decide) (by decide)
  refine Go.lloadN C X0 (pc' := 1) at_0 rfl rfl ?_
  refine Go.ldc2 C X0 (pc' := 4) (hw _ (List.mem_of_getElem? (i := 0) rfl)) at_1 rfl ?_
  refine Go.land C X0 (pc' := 5) at_4 rfl ?_
  refine Go.lstore C X0 (pc' := 7) (Ls' := #[.val (.long x0), .second, .val (.long x1), .second, .val (.int x2), .val (.int x3), .val (.long (x0 &&& (9223372036854775807 : Int64))), .second, .unset, .unset, .unset, .unset, .unset, .unset, .unset, .unset, .unset]) at_5 rfl rfl ?_
  refine Go.lloadN C X0 (pc' := 8) at_7 rfl rfl ?_
  refine Go.ldc2 C X0 (pc' := 11) (hw _ (List.mem_of_getElem? (i := 0) rfl)) at_8 rfl ?_
  refine Go.land C X0 (pc' := 12) at_11 rfl ?_
  refine Go.lstore C X0 (pc' := 14) (Ls' := #[.val (.long x0), .second, .val (.long x1), .second, .val (.int x2), .val (.int x3), .val (.long (x0 &&& (9223372036854775807 : Int64))), .second, .val (.long (x1 &&& (9223372036854775807 : Int64))), .second, .unset, .unset, .unset, .unset, .unset, .unset, .unset]) at_12 rfl rfl ?_
  refine Go.lload C X0 (pc' := 16) at_14 rfl rfl ?_
  refine Go.lconst C X0 (pc' := 17) (v := (0 : Int64)) at_16 rfl rfl ?_
  refine Go.lcmp C X0 (pc' := 18) at_17 rfl ?_
  by_cases c23 : (x0 &&& (9223372036854775807 : Int64)) = (0 : Int64)
  · refine Go.ifYes C X0 (pc' := 46) at_18 ((if0 _ _).trans (teq ((lw_eq _ _).mpr c23)).1) (by decide) (by decide) ?_
    exact Cut46 T0 (x1 &&& (9223372036854775807 : Int64)) (own_msk x1) (by rw [c23]; have := rng64 (x1 &&& (9223372036854775807 : Int64)); have e : (0 : Int64).toInt = 0 := rfl; omega) X0
  · refine Go.ifNo C X0 (pc' := 21) at_18 ((if0 _ _).trans (feq (fun q => c23 ((lw_eq _ _).mp q))).1) rfl ?_
    refine Go.lload C X0 (pc' := 23) at_21 rfl rfl ?_
    refine Go.ldc2 C X0 (pc' := 26) (hw _ (List.mem_of_getElem? (i := 0) rfl)) at_23 rfl ?_
    refine Go.lload C X0 (pc' := 28) at_26 rfl rfl ?_
    refine Go.lsub C X0 (pc' := 29) at_28 rfl ?_
    refine Go.lcmp C X0 (pc' := 30) at_29 rfl ?_
    by_cases c24 : ((9223372036854775807 : Int64) - (x0 &&& (9223372036854775807 : Int64))) < (x1 &&& (9223372036854775807 : Int64))
    · refine Go.ifNo C X0 (pc' := 33) at_30 ((if0 _ _).trans (tlt ((lw_gt _ _).mpr c24)).2.2.2) rfl ?_
      refine Go.lload C X0 (pc' := 35) at_33 rfl rfl ?_
      refine Go.ldc2 C X0 (pc' := 38) (hw _ (List.mem_of_getElem? (i := 0) rfl)) at_35 rfl ?_
      refine Go.lload C X0 (pc' := 40) at_38 rfl rfl ?_
      refine Go.lsub C X0 (pc' := 41) at_40 rfl ?_
      refine Go.lconst C X0 (pc' := 42) (v := (1 : Int64)) at_41 rfl rfl ?_
      refine Go.ladd C X0 (pc' := 43) at_42 rfl ?_
      refine Go.lrem C X0 (pc' := 44) at_43 (fun q => by have h := own_dv (own_msk x0) c23; rw [q] at h; have := rng64 (x0 &&& (9223372036854775807 : Int64)); have e : (0 : Int64).toInt = 0 := rfl; omega) rfl ?_
      refine Go.lstore C X0 (pc' := 46) (Ls' := #[.val (.long x0), .second, .val (.long x1), .second, .val (.int x2), .val (.int x3), .val (.long (x0 &&& (9223372036854775807 : Int64))), .second, .val (.long ((x1 &&& (9223372036854775807 : Int64)) % (((9223372036854775807 : Int64) - (x0 &&& (9223372036854775807 : Int64))) + (1 : Int64)))), .second, .unset, .unset, .unset, .unset, .unset, .unset, .unset]) at_44 rfl rfl ?_
      exact Cut46 T0 ((x1 &&& (9223372036854775807 : Int64)) % (((9223372036854775807 : Int64) - (x0 &&& (9223372036854775807 : Int64))) + (1 : Int64))) (own_rm (own_msk x0) c23 (own_msk x1)).1 (own_rm (own_msk x0) c23 (own_msk x1)).2 X0
    · refine Go.ifYes C X0 (pc' := 46) at_30 ((if0 _ _).trans (flt (fun q => c24 ((lw_gt _ _).mp q))).2.2.2) (by decide) (by decide) ?_
      exact Cut46 T0 (x1 &&& (9223372036854775807 : Int64)) (own_msk x1) (by have := own_njlt c24; rw [own_lsub (by rw [own_mx]; have := own_msk x0; have := rng64 (x0 &&& (9223372036854775807 : Int64)); omega) (by rw [own_mx]; have := own_msk x0; have := rng64 (x0 &&& (9223372036854775807 : Int64)); omega), own_mx] at this; omega) X0
set_option maxRecDepth 65536 in
set_option maxHeartbeats 40000000 in
theorem comes_1 {Post : Tables → Env → Array Value → State → Outcome → State → Prop} (hpost : ∀ tb e args s v u, (limb_1_1.after args s (.returned v) u = true ∧ limb_1_2.after args s (.returned v) u = true ∧ True) → FrameEnd s (.returned v) u (Jvm.fieldLocs frame_1_writes args s ++ Jvm.arrayLocs frame_1_arrays args s ++ Jvm.staticLocs frame_1_statics s) 16 192 → Post tb e args s (.returned v) u) :
    ArmFor flags0 classFile x code maxLocals ret World_1 tables_1 room_1 Calls_1 rest_1 Pre_1 Post := by
  intro l hfl _ _ p e ha hc hk s m args below hf hA hF happ hP
  obtain ⟨hcalls, hrest, hpre⟩ := hP
  obtain ⟨-, -, -, hnamed, -, -, -, hat⟩ := (Spec.applies_iff hf).mp happ
  obtain ⟨hg, hn⟩ := and_e (Cond.before_iff.mp (show (Jvm.Cond.and given_1 narrow_1).before args s = true from hpre))
  obtain ⟨hcount, hg0⟩ := and_e hg
  obtain ⟨w0, w1, w2, w3, rfl⟩ : ∃ w0 w1 w2 w3 : Value, args = #[w0, w1, w2, w3] := by
    have hs : args.size = 4 := by simpa [Cond.value, given_1] using hcount
    obtain ⟨L⟩ := args
    match L, hs with
    | [w0, w1, w2, w3], _ => exact ⟨w0, w1, w2, w3, rfl⟩
  have hw := fun d (hd : d ∈ tables_1) => atoms_spec (ws := Jvm.Cond.code x code maxLocals ret :: tables_1) hat d (List.mem_cons_of_mem _ hd)
  have hfit : Fit s := fun {y c} hc i hi => by
    obtain ⟨ha, rfl⟩ := Array.getElem?_eq_some_iff.mp hc
    have q := List.all_eq_true.mp ((Array.all_eq_true_iff_forall_mem.mp hF) _ (Array.getElem_mem ha)) i (List.mem_range.mpr hi)
    simpa [Array.getElem?_eq_getElem hi] using q
  obtain ⟨ha0, hg1⟩ := and_e hg0
  obtain ⟨i0, e0⟩ := isL_v ha0
  obtain rfl : w0 = (.long i0) := Option.some.inj e0
  obtain ⟨ha1, hg2⟩ := and_e hg1
  obtain ⟨i1, e1⟩ := isL_v ha1
  obtain rfl : w1 = (.long i1) := Option.some.inj e1
  obtain ⟨ha2, hg3⟩ := and_e hg2
  obtain ⟨i2, e2⟩ := is_v ha2
  obtain rfl : w2 = (.int i2) := Option.some.inj e2
  obtain ⟨i3, e3⟩ := is_v hg3
  obtain rfl : w3 = (.int i3) := Option.some.inj e3
  obtain ⟨n, o, h1, h2, h3, _, L, rfl, ⟨rfl, N⟩, hq⟩ := rm0 l s _ hw i0 i1 i2 i3 s.heap s.heap.size (Nat.le_refl _)  tables_1 p e ha hc hk s m _ below hf ((Spec.applies_iff_loose hf).mp happ).1 ⟨rfl, State.Warmed39.refl s, rfl⟩ trivial
  refine ⟨n, _, h1, h2, h3, hpost _ _ _ _ _ _ ⟨Cond.after_iff.mpr rfl, Cond.after_iff.mpr (eq_i res_at (Term.int_eval (1)) rfl), trivial⟩ ⟨hq.1, hq.2.1, (hq.2.2.sift fun y hy => Or.inr (N y hy)).mono (by decide) (by decide)⟩⟩
theorem main_1_1 : Claimed_1_1 := comes_1 fun _ _ _ _ _ _ h hF => ⟨h.1, hF⟩
theorem main_1_2 : Claimed_1_2 := comes_1 fun _ _ _ _ _ _ h hF => ⟨h.2.1, hF⟩
end Jvm.Pilot.@@N@@
namespace Jvm.Pilot.@@N@@
open Jvm Jvm.ClassFile Sem Op Lib Jvm.Free Jvm.Stand Jvm.Pilot.@@N@@.Jvm.D
/-! MADE BY PROGRAM (witnessworld.py) out of the Statement's table words and the real class files: 9 classes; the members and pool entries that the words name. The judged class is class 1, her method 1. -/
namespace start1
open Jvm.ClassFile
def u (s : String) : CpInfo := .utf8 (stringToUtf16 s)
/-- a pool by its gaps: so many unusable entries, then the entry; so many at the end -/
def gap : Nat → List CpInfo → List CpInfo
  | 0, r => r
  | n + 1, r => .unusable :: gap n r
def poolList (es : List (Nat × CpInfo)) (last : Nat) : List CpInfo := es.foldr (fun e r => gap e.1 (e.2 :: r)) (gap last [])
def pool (es : List (Nat × CpInfo)) (last : Nat) : Array CpInfo := ⟨poolList es last⟩
def fileOf (pool : Array CpInfo) (this : Nat) (attrs : Array Attribute := #[]) (ms : Array MethodInfo := #[]) (fl : Nat := 33) (sup : Nat := 0) (ifs : Array Nat := #[]) (fds : Array FieldInfo := #[]) : ClassFile where
  minorVersion := 0
  majorVersion := 65
  constantPool := pool
  accessFlags := fl
  thisClass := this
  superClass := sup
  interfaces := ifs
  fields := fds
  methods := ms
  attributes := attrs
def plain (name : String) (sup : Option ClassId) : Class where
  name := name
  kind := .ordinary
  loader := none
  accessFlags := 33
  super := sup
  interfaces := #[]
  cf := none
  fields := #[]
  methods := #[]
  instanceTypes := #[]
  staticTypes := #[]
  resolved := #[]
  callSites := []
  init := .initialized
  statics := none
  mirror := none

def pool0 : Array CpInfo := pool [(5, u "<init>"), (0, u "()V"), (1, .class_ 10), (1, u "java/lang/Object")] 113

def k0m0 : Method := { name := "<init>", desc := "()V", sig := { parameters := [], returnType := none }, accessFlags := 1, code := none }
/-- java/lang/Object -/
def k0 : Class := { plain "java/lang/Object" none with
  accessFlags := 33
  interfaces := #[]
  cf := some (fileOf pool0 8 #[] #[{ accessFlags := 1, nameIndex := 5, descriptorIndex := 6, attributes := #[] }] 33 0 #[] #[])
  fields := #[]
  methods := #[k0m0]
  instanceTypes := #[]
  staticTypes := #[]
  resolved := Array.replicate 124 none
  statics := none }

def pool1 : Array CpInfo := pool [(2, .class_ 4), (1, u "java/lang/Object"), (0, u "<init>"), (0, u "()V"), (2, .long 9223372036854775807), (1, .integer 2147483647), (0, .methodref 13 14), (0, .class_ 15), (0, .nameAndType 16 17), (0, u "com/example/streamgauge/streamgauge/workloads/Decimal"), (0, u "putBefore"), (0, u "(JI[BI)I"), (0, .methodref 13 19), (0, .nameAndType 20 21), (0, u "addBefore"), (0, u "(J[BII)I"), (0, .methodref 23 24), (0, .class_ 25), (0, .nameAndType 26 27), (0, u "com/example/streamgauge/streamgauge/workloads/DecimalAddBeforePinLaw"), (0, u "same"), (0, u "([B[B)Z"), (2, u "law"), (0, u "(JJII)Z")] 5

def k1m0 : Method := { name := "<init>", desc := "()V", sig := { parameters := [], returnType := none }, accessFlags := 1, code := none }
def k1c1 : Code := { maxStack := 6, maxLocals := 17, code := code, exceptionTable := #[], attributes := #[] }
def k1m1 : Method := { name := "law", desc := "(JJII)Z", sig := { parameters := [.long, .long, .int, .int], returnType := some .boolean }, accessFlags := 9, code := some k1c1 }
def k1c2 : Code := { maxStack := 3, maxLocals := 2, code := method_3_code, exceptionTable := #[], attributes := #[] }
def k1m2 : Method := { name := "same", desc := "([B[B)Z", sig := { parameters := [(.array .byte), (.array .byte)], returnType := some .boolean }, accessFlags := 10, code := some k1c2 }
/-- com/example/streamgauge/streamgauge/workloads/DecimalAddBeforePinLaw -/
def k1 : Class := { plain "com/example/streamgauge/streamgauge/workloads/DecimalAddBeforePinLaw" (some 0) with
  accessFlags := 49
  interfaces := #[]
  cf := some (fileOf pool1 23 #[] #[{ accessFlags := 1, nameIndex := 5, descriptorIndex := 6, attributes := #[] }, { accessFlags := 9, nameIndex := 30, descriptorIndex := 31, attributes := #[] }, { accessFlags := 10, nameIndex := 26, descriptorIndex := 27, attributes := #[] }] 49 2 #[] #[])
  fields := #[]
  methods := #[k1m0, k1m1, k1m2]
  instanceTypes := #[]
  staticTypes := #[]
  resolved := Array.replicate 37 none
  statics := none }

def pool2 : Array CpInfo := pool [(2, .class_ 4), (1, u "java/lang/Object"), (0, u "<init>"), (0, u "()V"), (1, .class_ 10), (1, u "com/example/streamgauge/streamgauge/workloads/Decimal"), (2, .long 48), (1, .long 10), (22, u "MAX_DIGITS"), (0, u "I"), (6, u "putBefore"), (0, u "(JI[BI)I"), (0, u "addBefore"), (0, u "(J[BII)I")] 4

def k2m0 : Method := { name := "<init>", desc := "()V", sig := { parameters := [], returnType := none }, accessFlags := 2, code := none }
def k2c1 : Code := { maxStack := 8, maxLocals := 8, code := prog_126_method_4_code, exceptionTable := #[], attributes := #[] }
def k2m1 : Method := { name := "putBefore", desc := "(JI[BI)I", sig := { parameters := [.long, .int, (.array .byte), .int], returnType := some .int }, accessFlags := 8, code := some k2c1 }
def k2c2 : Code := { maxStack := 8, maxLocals := 11, code := prog_126_method_5_code, exceptionTable := #[], attributes := #[] }
def k2m2 : Method := { name := "addBefore", desc := "(J[BII)I", sig := { parameters := [.long, (.array .byte), .int, .int], returnType := some .int }, accessFlags := 8, code := some k2c2 }
/-- com/example/streamgauge/streamgauge/workloads/Decimal -/
def k2 : Class := { plain "com/example/streamgauge/streamgauge/workloads/Decimal" (some 0) with
  accessFlags := 48
  interfaces := #[]
  cf := some (fileOf pool2 8 #[] #[{ accessFlags := 2, nameIndex := 5, descriptorIndex := 6, attributes := #[] }, { accessFlags := 8, nameIndex := 46, descriptorIndex := 47, attributes := #[] }, { accessFlags := 8, nameIndex := 48, descriptorIndex := 49, attributes := #[] }] 48 2 #[] #[{ accessFlags := 24, nameIndex := 38, descriptorIndex := 39, attributes := #[] }])
  fields := #[{ name := "MAX_DIGITS", type := .int, accessFlags := 24, slot := 0, constantValue := 0 }]
  methods := #[k2m0, k2m1, k2m2]
  instanceTypes := #[]
  staticTypes := #[.int]
  resolved := Array.replicate 54 none
  statics := none }

def pool3 : Array CpInfo := pool [(1, u "java/lang/Cloneable"), (0, .class_ 1), (0, u "java/lang/Object"), (0, .class_ 3)] 3

/-- java/lang/Cloneable -/
def k3 : Class := { plain "java/lang/Cloneable" (some 0) with
  accessFlags := 1537
  interfaces := #[]
  cf := some (fileOf pool3 2 #[] #[] 1537 4 #[] #[])
  fields := #[]
  methods := #[]
  instanceTypes := #[]
  staticTypes := #[]
  resolved := Array.replicate 8 none
  statics := none }

def pool4 : Array CpInfo := pool [(1, u "java/io/Serializable"), (0, .class_ 1), (0, u "java/lang/Object"), (0, .class_ 3)] 3

/-- java/io/Serializable -/
def k4 : Class := { plain "java/io/Serializable" (some 0) with
  accessFlags := 1537
  interfaces := #[]
  cf := some (fileOf pool4 2 #[] #[] 1537 4 #[] #[])
  fields := #[]
  methods := #[]
  instanceTypes := #[]
  staticTypes := #[]
  resolved := Array.replicate 8 none
  statics := none }

/-- the primitive byte -/
def k5 : Class := { plain "byte" none with kind := .primitive 'B', accessFlags := 0x411 }
/-- [B -/
def k6 : Class := { plain "[B" (some 0) with kind := .array 5 .byte, interfaces := #[3, 4], accessFlags := 1041 }

/-- the primitive int -/
def k7 : Class := { plain "int" none with kind := .primitive 'I', accessFlags := 0x411 }
/-- [I -/
def k8 : Class := { plain "[I" (some 0) with kind := .array 7 .int, interfaces := #[3, 4], accessFlags := 1041 }

def heap : Heap := #[]
def classes : Array Class := #[k0, k1, k2, k3, k4, k5, k6, k7, k8]
def interned : List (Array UInt16 × Addr) := []
def slotsUsed : Nat := 0
def theMethod : MethodId := ⟨1, 1⟩
def args0 : Array Value := #[.long 12345, .long 999, .int 7, .int 1]
def aboutOver (below : List Frame) : State where
  vm := { classes := classes, interned := interned.toArray }
  heap := heap
  slotsUsed := slotsUsed
  threads := #[{ frames := .invoking theMethod args0 :: below }]
def below0 : List Frame := [.native { method := ⟨0, 0⟩, args := #[] }]
def about1 : State := aboutOver below0
def p0 : Program := .bare "" "" ""
def e0 : Env := launch0.env 0 0 0
theorem w_frames : about1.frames = Frame.invoking theMethod args0 :: below0 := rfl
set_option maxRecDepth 65536 in
theorem w_args : argsFit about1.vm theMethod args0 = true := by decide +kernel
set_option maxRecDepth 65536 in
theorem w_heap : heapFits about1 = true := by decide +kernel
set_option maxRecDepth 65536 in
theorem w_runnable : about1.curStatus? = some .runnable := by decide +kernel
set_option maxRecDepth 65536 in
theorem w_alone : about1.alone = true := by decide +kernel
set_option maxRecDepth 65536 in
theorem w_named : about1.methodNamed? x = some theMethod := by decide +kernel
set_option maxRecDepth 65536 in
theorem w_hears : about1.hears theMethod below0 = true := by decide +kernel
set_option maxRecDepth 65536 in
theorem w_ripe : about1.ripe theMethod args0 below0 = true := by decide +kernel
theorem w_running : about1.status = .running := rfl
set_option maxRecDepth 65536 in
theorem w_room : about1.hasRoom e0.platform room_1 = true :=
  launch0.hasRoom_least _ room_1 (by decide +kernel) (by decide +kernel) (by decide +kernel) (by decide +kernel) (by decide +kernel) (by decide +kernel)
theorem allAtoms_all (ts : List Jvm.Cond) (a : Array Jvm.Value) (st : Jvm.State) : (allAtoms ts).before a st = ts.all (fun c => c.before a st) := by
  induction ts with
  | nil => rfl
  | cons c t ih =>
    show (Jvm.Cond.and c (allAtoms t)).before a st = _
    rw [Jvm.Cond.before_and, ih, List.all_cons]
def words1 : List Jvm.Cond := Jvm.Cond.code x code maxLocals ret :: tables_1
/-- a 'code' word, met by the world's own term for the bytes: nothing is compared byte by byte -/
theorem code_word {y : MethodName} {bytes : ByteArray} {mx : Nat} {rt : Option FieldType} {a : Array Value} {s : State} {m : MethodId} {meth : Method} {c : Code} (h1 : s.methodNamed? y = some m) (h2 : s.vm.method? m = some meth) (h3 : meth.code = some c) (h4 : c.code = bytes)
    (h5 : (c.maxLocals == mx && c.exceptionTable.isEmpty && decide (c.maxStack ≤ mostOperands) && decide (meth.sig.returnType = rt) && !meth.locks && decide (parseMethodDescriptor y.desc = some meth.sig)) = true) : (Jvm.Cond.code y bytes mx rt).before a s = true := by
  simp only [Bool.and_eq_true, beq_iff_eq, Bool.not_eq_true', decide_eq_true_eq] at h5
  obtain ⟨⟨⟨⟨⟨g1, g2⟩, g3⟩, g4⟩, g5⟩, g6⟩ := h5
  simp [Cond.before, Cond.holds, Cond.value, h1, h2, h3, h4, g1, g2, g3, g4, g5, g6]
def isCode : Jvm.Cond → Bool
  | .code _ _ _ _ => true
  | _ => false
theorem all_split {L : List Jvm.Cond} {P : Jvm.Cond → Bool} (h1 : L.all (fun c => isCode c || P c) = true) (h2 : ∀ c ∈ L.filter isCode, P c = true) : L.all P = true := by
  refine List.all_eq_true.mpr fun c hc => ?_
  have h := List.all_eq_true.mp h1 c hc
  rcases Bool.eq_false_or_eq_true (isCode c) with hi | hi
  · exact h2 c (List.mem_filter.mpr ⟨hc, hi⟩)
  · simpa [hi] using h
set_option maxRecDepth 65536 in
theorem w_c0 : (Jvm.Cond.code x code maxLocals ret).before args0 about1 = true := code_word (m := ⟨1, 1⟩) (meth := k1m1) (c := k1c1) (by decide +kernel) rfl rfl rfl (by decide +kernel)
set_option maxRecDepth 65536 in
theorem w_c1 : (Jvm.Cond.code ({ cls := "com/example/streamgauge/streamgauge/workloads/Decimal", name := "putBefore", desc := "(JI[BI)I" } : Jvm.MethodName) prog_126_method_4_code (8 : Nat) (Option.some Jvm.ClassFile.FieldType.int)).before args0 about1 = true := code_word (m := ⟨2, 1⟩) (meth := k2m1) (c := k2c1) (by decide +kernel) rfl rfl rfl (by decide +kernel)
set_option maxRecDepth 65536 in
theorem w_c2 : (Jvm.Cond.code ({ cls := "com/example/streamgauge/streamgauge/workloads/Decimal", name := "addBefore", desc := "(J[BII)I" } : Jvm.MethodName) prog_126_method_5_code (11 : Nat) (Option.some Jvm.ClassFile.FieldType.int)).before args0 about1 = true := code_word (m := ⟨2, 2⟩) (meth := k2m2) (c := k2c2) (by decide +kernel) rfl rfl rfl (by decide +kernel)
set_option maxRecDepth 65536 in
theorem w_c3 : (Jvm.Cond.code ({ cls := "com/example/streamgauge/streamgauge/workloads/DecimalAddBeforePinLaw", name := "same", desc := "([B[B)Z" } : Jvm.MethodName) method_3_code (2 : Nat) (Option.some Jvm.ClassFile.FieldType.boolean)).before args0 about1 = true := code_word (m := ⟨1, 2⟩) (meth := k1m2) (c := k1c2) (by decide +kernel) rfl rfl rfl (by decide +kernel)
def codes1 : List Jvm.Cond := [Jvm.Cond.code x code maxLocals ret, Jvm.Cond.code ({ cls := "com/example/streamgauge/streamgauge/workloads/Decimal", name := "putBefore", desc := "(JI[BI)I" } : Jvm.MethodName) prog_126_method_4_code (8 : Nat) (Option.some Jvm.ClassFile.FieldType.int), Jvm.Cond.code ({ cls := "com/example/streamgauge/streamgauge/workloads/Decimal", name := "addBefore", desc := "(J[BII)I" } : Jvm.MethodName) prog_126_method_5_code (11 : Nat) (Option.some Jvm.ClassFile.FieldType.int), Jvm.Cond.code ({ cls := "com/example/streamgauge/streamgauge/workloads/DecimalAddBeforePinLaw", name := "same", desc := "([B[B)Z" } : Jvm.MethodName) method_3_code (2 : Nat) (Option.some Jvm.ClassFile.FieldType.boolean)]
set_option maxRecDepth 65536 in
theorem codes_eq : words1.filter isCode = codes1 := rfl
theorem w_codes : ∀ c ∈ words1.filter isCode, c.before args0 about1 = true := by
  rw [codes_eq]
  intro c hc
  simp only [codes1, List.mem_cons, List.not_mem_nil, or_false] at hc
  rcases hc with rfl | rfl | rfl | rfl
  · exact w_c0
  · exact w_c1
  · exact w_c2
  · exact w_c3
set_option maxRecDepth 65536 in
theorem w_t1 : words1.all (fun c => isCode c || c.before args0 about1) = true := by decide +kernel
theorem w_tables : (allAtoms (Jvm.Cond.code x code maxLocals ret :: tables_1)).before args0 about1 = true := by
  rw [allAtoms_all]
  show words1.all (fun c => c.before args0 about1) = true
  refine all_split ?_ w_codes
  rw [w_t1]
set_option maxRecDepth 65536 in
theorem w_case : (Jvm.Cond.and given_1 narrow_1).before args0 about1 = true := by decide +kernel
theorem w_applies : (headSpec (Jvm.Cond.code x code maxLocals ret :: tables_1) room_1).applies x e0.platform about1 = true :=
  (Spec.applies_iff w_frames).mpr ⟨w_running, w_runnable, w_alone, w_named, w_hears, w_ripe, w_room, w_tables⟩
theorem atStart : AtStart classFile x code maxLocals ret World_1 tables_1 room_1 Calls_1 rest_1 Pre_1 launch0 p0 e0 about1 theMethod args0 below0 :=
  ⟨lists_1, trivial, launch0.admits_env _ _ _, launch0.least_env, fairChoices_fair.cas, fairChoices_fair.clock, w_frames, w_args, w_heap, w_applies, trivial, trivial, w_case⟩
end start1
theorem witness_1 : WitnessClaimed_1 := ⟨start1.p0, start1.e0, start1.about1, start1.theMethod, start1.args0, start1.below0, start1.atStart⟩
end Jvm.Pilot.@@N@@
