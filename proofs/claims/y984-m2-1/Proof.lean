import JvmDerived
import JvmDerived.Pilot.@@N@@Statement
import JvmDerived.Pilot.@@N@@Code
set_option linter.unusedVariables false
set_option linter.unusedSimpArgs false
namespace Jvm.RoadKit
open Sem ClassFile Op Lib Jvm.Stand Jvm.Free Jvm.LawKit
section Own
variable {p : Program} {l : Launch} {e : Env} {R : Room} {s : State} {m : MethodId} {args : Array Value} {below : List Frame} {meth : Method} {c : Code} {T : State} {Z : State} {a0 : Array Value} {h : Heap} {cells slots n0 rc rs : Nat} {bytes : ByteArray} {own : String} {ret : Option FieldType} {maxL : Nat} {P : Option Value → Heap → Prop} {Ls : Array Slot} {pc pc' : Nat} {st : List Value}
def Cx (p : Program) (s : State) (m : MethodId) (meth : Method) (c : Code) (Z : State) (bytes : ByteArray) (own : String) (ret : Option FieldType) (maxL : Nat) : Prop :=
  p.tables.exec = Jvm.exec ∧ Z.Warmed39 s.vm ∧ c.code = bytes ∧ s.vm.findClass own = some m.cls ∧ c.maxLocals = maxL ∧ meth.locks = false ∧ meth.sig.returnType = ret
def On (p : Program) (l : Launch) (e : Env) (R : Room) (s : State) (m : MethodId) (args : Array Value) (below : List Frame) (meth : Method) (c : Code) (n0 : Nat) (T : State) (h : Heap) (cells slots : Nat) : Prop :=
  ∃ locs, Stand p l e R s m args below meth c T locs cells slots ∧ T.heap = h ∧ Fr n0 locs ∧ n0 ≤ h.size
def Go (p : Program) (e : Env) (below : List Frame) (s : State) (n0 rc rs : Nat) (P : Option Value → Heap → Prop) (T : State) (g : JFrame) : Prop :=
  ∃ s₂ o, Steps p.tables e below (T.setTop g) s₂ ∧ s₂.status = .running ∧ Ended s₂ below o ∧ ∃ v L, o = .returned v ∧ (P v s₂.heap ∧ Fr n0 L) ∧ FrameEnd s o s₂ L rc rs
def Con (l : Launch) (Z : State) (y : MethodName) (bytes : ByteArray) (maxL : Nat) (ret : Option FieldType) (rm : Room) (as' : Array Value) (h0 : Heap) (n0 : Nat) (P : Option Value → Heap → Prop) : Prop :=
  ∀ ws, MetFree l y (head1 (Cond.code y bytes maxL ret :: ws) rm) (fun a U => a = as' ∧ Z.Warmed39 U.vm ∧ U.heap = h0) (fun _ _ _ _ _ => True) (fun _ U o U' => ∃ v L, o = .returned v ∧ (P v U'.heap ∧ Fr n0 L) ∧ FrameEnd U o U' L rm.cells rm.slots)
theorem Go.of {T' : State} {g g' : JFrame} (st : ∀ t, Steps p.tables e below (T'.setTop g') t → Steps p.tables e below (T.setTop g) t) (k : Go p e below s n0 rc rs P T' g') : Go p e below s n0 rc rs P T g := by
  obtain ⟨s₂, o, h1, h2⟩ := k
  exact ⟨s₂, o, st _ h1, h2⟩
theorem Go.tr {T' : State} {g g' : JFrame} (st : Steps p.tables e below (T.setTop g) (T'.setTop g')) (k : Go p e below s n0 rc rs P T' g') : Go p e below s n0 rc rs P T g :=
  Go.of (fun _ q => st.trans q) k
theorem Go.imp {P' : Option Value → Heap → Prop} {g : JFrame} (k : Go p e below s n0 rc rs P' T g) (hi : ∀ v h, P' v h → P v h) : Go p e below s n0 rc rs P T g := by
  obtain ⟨s₂, o, h1, h2, h3, v, L, h4, ⟨h5, h6⟩, h7⟩ := k
  exact ⟨s₂, o, h1, h2, h3, v, L, h4, ⟨hi _ _ h5, h6⟩, h7⟩
theorem Con.enter {y : MethodName} {rm : Room} {as' : Array Value} {h0 : Heap} (hpl : plainFor y = true) (hz : n0 ≤ h0.size)
    (body : ∀ p e s m below meth c T, Cx p s m meth c Z bytes y.cls ret maxL → meth.name = y.name → On p l e rm s m as' below meth c n0 T h0 0 0 → Go p e below s n0 rm.cells rm.slots P T (entryFrame m as' maxL)) :
    Con l Z y bytes maxL ret rm as' h0 n0 P := by
  intro ws
  refine MetFree.of_bodySF hpl hisR ?_
  intro p e s m args below meth c s₁ Bd hml0 hP hK
  obtain ⟨rfl, hZ, hh⟩ := hP
  have X0 := Stand.of_body Bd
  have e0 : s₁.heap = h0 := by rw [← hh, Bd.state]; rfl
  exact body p e s m below meth c s₁ ⟨Bd.exec, hZ, Bd.bytes, findClass_of_methodNamed Bd.named, hml0, BodyLoose.notSynchronized Bd, Bd.returns⟩ (name_of_methodNamed Bd.named Bd.method).1 ⟨[], X0, e0, Fr.nil n0, hz⟩
theorem On.sz (X : On p l e R s m args below meth c n0 T h cells slots) : n0 ≤ h.size := X.elim fun _ q => q.2.2.2
theorem Go.cast {g g' : JFrame} (q : g = g') (k : Go p e below s n0 rc rs P T g') : Go p e below s n0 rc rs P T g := q ▸ k
theorem Con.back {y : MethodName} {rm : Room} {as' : Array Value} {W : Nat} {P' : Option Value → Heap → Prop} {cb : ByteArray} {cm : Nat} {cr : Option FieldType} (K : Con l Z y cb cm cr rm as' h n0 P') (hZ : Z.Warmed39 s.vm) (wc : (Cond.code y cb cm cr).before a0 Z = true) (wz : (Cond.initialized y.cls).before a0 Z = true) (hf : rm.frames + 1 ≤ R.frames) (hl : W + (cm + 11) + rm.locals ≤ R.locals) :
    Back l R p e below s args y 3 W (fun A a => a = as' ∧ A.U.heap = h ∧ A.cells + rm.cells ≤ R.cells ∧ A.slots + rm.slots ≤ R.slots)
      (fun A _ v B => ∃ L, (P' v B.U.heap ∧ Fr n0 L) ∧ B.locs = A.locs ++ L ∧ B.cells = A.cells + rm.cells ∧ B.slots = A.slots + rm.slots) :=
  backOf (Q := fun v h L => P' v h ∧ Fr n0 L) (K []) hZ wc wz hf hl
theorem Go.iadd (C : Cx p s m meth c Z bytes own ret maxL) (X : On p l e R s m args below meth c n0 T h cells slots) {x y : Int32} (hd : decode bytes pc = .ok (.iadd, 1))  (hp : pc + 1 = pc') (k : Go p e below s n0 rc rs P T (mkF m pc' Ls (.int (x + y) :: st))) : Go p e below s n0 rc rs P T (mkF m pc Ls (.int y :: .int x :: st)) := by
  obtain ⟨locs, X, eT, N, hn⟩ := X; obtain ⟨hx, hZ, hby, hown, hml, hlk, hrt⟩ := C
  subst hp; exact Go.of (fun t q => XS.iadd X.here hx rfl (hb hby hd) rfl q) k
theorem Go.isub (C : Cx p s m meth c Z bytes own ret maxL) (X : On p l e R s m args below meth c n0 T h cells slots) {x y : Int32} (hd : decode bytes pc = .ok (.isub, 1))  (hp : pc + 1 = pc') (k : Go p e below s n0 rc rs P T (mkF m pc' Ls (.int (x - y) :: st))) : Go p e below s n0 rc rs P T (mkF m pc Ls (.int y :: .int x :: st)) := by
  obtain ⟨locs, X, eT, N, hn⟩ := X; obtain ⟨hx, hZ, hby, hown, hml, hlk, hrt⟩ := C
  subst hp; exact Go.of (fun t q => XS.isub X.here hx rfl (hb hby hd) rfl q) k
theorem Go.imul (C : Cx p s m meth c Z bytes own ret maxL) (X : On p l e R s m args below meth c n0 T h cells slots) {x y : Int32} (hd : decode bytes pc = .ok (.imul, 1))  (hp : pc + 1 = pc') (k : Go p e below s n0 rc rs P T (mkF m pc' Ls (.int (x * y) :: st))) : Go p e below s n0 rc rs P T (mkF m pc Ls (.int y :: .int x :: st)) := by
  obtain ⟨locs, X, eT, N, hn⟩ := X; obtain ⟨hx, hZ, hby, hown, hml, hlk, hrt⟩ := C
  subst hp; exact Go.of (fun t q => XS.imul X.here hx rfl (hb hby hd) rfl q) k
theorem Go.iand (C : Cx p s m meth c Z bytes own ret maxL) (X : On p l e R s m args below meth c n0 T h cells slots) {x y : Int32} (hd : decode bytes pc = .ok (.iand, 1))  (hp : pc + 1 = pc') (k : Go p e below s n0 rc rs P T (mkF m pc' Ls (.int (x &&& y) :: st))) : Go p e below s n0 rc rs P T (mkF m pc Ls (.int y :: .int x :: st)) := by
  obtain ⟨locs, X, eT, N, hn⟩ := X; obtain ⟨hx, hZ, hby, hown, hml, hlk, hrt⟩ := C
  subst hp; exact Go.of (fun t q => XS.iand X.here hx rfl (hb hby hd) rfl q) k
theorem Go.ior (C : Cx p s m meth c Z bytes own ret maxL) (X : On p l e R s m args below meth c n0 T h cells slots) {x y : Int32} (hd : decode bytes pc = .ok (.ior, 1))  (hp : pc + 1 = pc') (k : Go p e below s n0 rc rs P T (mkF m pc' Ls (.int (x ||| y) :: st))) : Go p e below s n0 rc rs P T (mkF m pc Ls (.int y :: .int x :: st)) := by
  obtain ⟨locs, X, eT, N, hn⟩ := X; obtain ⟨hx, hZ, hby, hown, hml, hlk, hrt⟩ := C
  subst hp; exact Go.of (fun t q => XS.ior X.here hx rfl (hb hby hd) rfl q) k
theorem Go.ixor (C : Cx p s m meth c Z bytes own ret maxL) (X : On p l e R s m args below meth c n0 T h cells slots) {x y : Int32} (hd : decode bytes pc = .ok (.ixor, 1))  (hp : pc + 1 = pc') (k : Go p e below s n0 rc rs P T (mkF m pc' Ls (.int (x ^^^ y) :: st))) : Go p e below s n0 rc rs P T (mkF m pc Ls (.int y :: .int x :: st)) := by
  obtain ⟨locs, X, eT, N, hn⟩ := X; obtain ⟨hx, hZ, hby, hown, hml, hlk, hrt⟩ := C
  subst hp; exact Go.of (fun t q => XS.ixor X.here hx rfl (hb hby hd) rfl q) k
theorem Go.ishl (C : Cx p s m meth c Z bytes own ret maxL) (X : On p l e R s m args below meth c n0 T h cells slots) {x y : Int32} (hd : decode bytes pc = .ok (.ishl, 1))  (hp : pc + 1 = pc') (k : Go p e below s n0 rc rs P T (mkF m pc' Ls (.int (x <<< (y &&& 31)) :: st))) : Go p e below s n0 rc rs P T (mkF m pc Ls (.int y :: .int x :: st)) := by
  obtain ⟨locs, X, eT, N, hn⟩ := X; obtain ⟨hx, hZ, hby, hown, hml, hlk, hrt⟩ := C
  subst hp; exact Go.of (fun t q => XS.ishl X.here hx rfl (hb hby hd) rfl q) k
theorem Go.ishr (C : Cx p s m meth c Z bytes own ret maxL) (X : On p l e R s m args below meth c n0 T h cells slots) {x y : Int32} (hd : decode bytes pc = .ok (.ishr, 1))  (hp : pc + 1 = pc') (k : Go p e below s n0 rc rs P T (mkF m pc' Ls (.int (x >>> (y &&& 31)) :: st))) : Go p e below s n0 rc rs P T (mkF m pc Ls (.int y :: .int x :: st)) := by
  obtain ⟨locs, X, eT, N, hn⟩ := X; obtain ⟨hx, hZ, hby, hown, hml, hlk, hrt⟩ := C
  subst hp; exact Go.of (fun t q => XS.ishr X.here hx rfl (hb hby hd) rfl q) k
theorem Go.iushr (C : Cx p s m meth c Z bytes own ret maxL) (X : On p l e R s m args below meth c n0 T h cells slots) {x y : Int32} (hd : decode bytes pc = .ok (.iushr, 1))  (hp : pc + 1 = pc') (k : Go p e below s n0 rc rs P T (mkF m pc' Ls (.int ((x.toUInt32 >>> (y &&& 31).toUInt32).toInt32) :: st))) : Go p e below s n0 rc rs P T (mkF m pc Ls (.int y :: .int x :: st)) := by
  obtain ⟨locs, X, eT, N, hn⟩ := X; obtain ⟨hx, hZ, hby, hown, hml, hlk, hrt⟩ := C
  subst hp; exact Go.of (fun t q => XS.iushr X.here hx rfl (hb hby hd) rfl q) k
theorem Go.ladd (C : Cx p s m meth c Z bytes own ret maxL) (X : On p l e R s m args below meth c n0 T h cells slots) {x y : Int64} (hd : decode bytes pc = .ok (.ladd, 1))  (hp : pc + 1 = pc') (k : Go p e below s n0 rc rs P T (mkF m pc' Ls (.long (x + y) :: st))) : Go p e below s n0 rc rs P T (mkF m pc Ls (.long y :: .long x :: st)) := by
  obtain ⟨locs, X, eT, N, hn⟩ := X; obtain ⟨hx, hZ, hby, hown, hml, hlk, hrt⟩ := C
  subst hp; exact Go.of (fun t q => XS.ladd X.here hx rfl (hb hby hd) rfl q) k
theorem Go.lsub (C : Cx p s m meth c Z bytes own ret maxL) (X : On p l e R s m args below meth c n0 T h cells slots) {x y : Int64} (hd : decode bytes pc = .ok (.lsub, 1))  (hp : pc + 1 = pc') (k : Go p e below s n0 rc rs P T (mkF m pc' Ls (.long (x - y) :: st))) : Go p e below s n0 rc rs P T (mkF m pc Ls (.long y :: .long x :: st)) := by
  obtain ⟨locs, X, eT, N, hn⟩ := X; obtain ⟨hx, hZ, hby, hown, hml, hlk, hrt⟩ := C
  subst hp; exact Go.of (fun t q => XS.lsub X.here hx rfl (hb hby hd) rfl q) k
theorem Go.lmul (C : Cx p s m meth c Z bytes own ret maxL) (X : On p l e R s m args below meth c n0 T h cells slots) {x y : Int64} (hd : decode bytes pc = .ok (.lmul, 1))  (hp : pc + 1 = pc') (k : Go p e below s n0 rc rs P T (mkF m pc' Ls (.long (x * y) :: st))) : Go p e below s n0 rc rs P T (mkF m pc Ls (.long y :: .long x :: st)) := by
  obtain ⟨locs, X, eT, N, hn⟩ := X; obtain ⟨hx, hZ, hby, hown, hml, hlk, hrt⟩ := C
  subst hp; exact Go.of (fun t q => XS.lmul X.here hx rfl (hb hby hd) rfl q) k
theorem Go.land (C : Cx p s m meth c Z bytes own ret maxL) (X : On p l e R s m args below meth c n0 T h cells slots) {x y : Int64} (hd : decode bytes pc = .ok (.land, 1))  (hp : pc + 1 = pc') (k : Go p e below s n0 rc rs P T (mkF m pc' Ls (.long (x &&& y) :: st))) : Go p e below s n0 rc rs P T (mkF m pc Ls (.long y :: .long x :: st)) := by
  obtain ⟨locs, X, eT, N, hn⟩ := X; obtain ⟨hx, hZ, hby, hown, hml, hlk, hrt⟩ := C
  subst hp; exact Go.of (fun t q => XS.land X.here hx rfl (hb hby hd) rfl q) k
theorem Go.lor (C : Cx p s m meth c Z bytes own ret maxL) (X : On p l e R s m args below meth c n0 T h cells slots) {x y : Int64} (hd : decode bytes pc = .ok (.lor, 1))  (hp : pc + 1 = pc') (k : Go p e below s n0 rc rs P T (mkF m pc' Ls (.long (x ||| y) :: st))) : Go p e below s n0 rc rs P T (mkF m pc Ls (.long y :: .long x :: st)) := by
  obtain ⟨locs, X, eT, N, hn⟩ := X; obtain ⟨hx, hZ, hby, hown, hml, hlk, hrt⟩ := C
  subst hp; exact Go.of (fun t q => XS.lor X.here hx rfl (hb hby hd) rfl q) k
theorem Go.lxor (C : Cx p s m meth c Z bytes own ret maxL) (X : On p l e R s m args below meth c n0 T h cells slots) {x y : Int64} (hd : decode bytes pc = .ok (.lxor, 1))  (hp : pc + 1 = pc') (k : Go p e below s n0 rc rs P T (mkF m pc' Ls (.long (x ^^^ y) :: st))) : Go p e below s n0 rc rs P T (mkF m pc Ls (.long y :: .long x :: st)) := by
  obtain ⟨locs, X, eT, N, hn⟩ := X; obtain ⟨hx, hZ, hby, hown, hml, hlk, hrt⟩ := C
  subst hp; exact Go.of (fun t q => XS.lxor X.here hx rfl (hb hby hd) rfl q) k
theorem Go.lshl (C : Cx p s m meth c Z bytes own ret maxL) (X : On p l e R s m args below meth c n0 T h cells slots) {x : Int64} {y : Int32} (hd : decode bytes pc = .ok (.lshl, 1))  (hp : pc + 1 = pc') (k : Go p e below s n0 rc rs P T (mkF m pc' Ls (.long (x <<< (y &&& 0x3f).toInt64) :: st))) : Go p e below s n0 rc rs P T (mkF m pc Ls (.int y :: .long x :: st)) := by
  obtain ⟨locs, X, eT, N, hn⟩ := X; obtain ⟨hx, hZ, hby, hown, hml, hlk, hrt⟩ := C
  subst hp; exact Go.of (fun t q => XS.lshl X.here hx rfl (hb hby hd) rfl q) k
theorem Go.lshr (C : Cx p s m meth c Z bytes own ret maxL) (X : On p l e R s m args below meth c n0 T h cells slots) {x : Int64} {y : Int32} (hd : decode bytes pc = .ok (.lshr, 1))  (hp : pc + 1 = pc') (k : Go p e below s n0 rc rs P T (mkF m pc' Ls (.long (x >>> (y &&& 0x3f).toInt64) :: st))) : Go p e below s n0 rc rs P T (mkF m pc Ls (.int y :: .long x :: st)) := by
  obtain ⟨locs, X, eT, N, hn⟩ := X; obtain ⟨hx, hZ, hby, hown, hml, hlk, hrt⟩ := C
  subst hp; exact Go.of (fun t q => XS.lshr X.here hx rfl (hb hby hd) rfl q) k
theorem Go.lushr (C : Cx p s m meth c Z bytes own ret maxL) (X : On p l e R s m args below meth c n0 T h cells slots) {x : Int64} {y : Int32} (hd : decode bytes pc = .ok (.lushr, 1))  (hp : pc + 1 = pc') (k : Go p e below s n0 rc rs P T (mkF m pc' Ls (.long ((x.toUInt64 >>> (y &&& 0x3f).toInt64.toUInt64).toInt64) :: st))) : Go p e below s n0 rc rs P T (mkF m pc Ls (.int y :: .long x :: st)) := by
  obtain ⟨locs, X, eT, N, hn⟩ := X; obtain ⟨hx, hZ, hby, hown, hml, hlk, hrt⟩ := C
  subst hp; exact Go.of (fun t q => XS.lushr X.here hx rfl (hb hby hd) rfl q) k
theorem Go.i2l (C : Cx p s m meth c Z bytes own ret maxL) (X : On p l e R s m args below meth c n0 T h cells slots) {x : Int32} (hd : decode bytes pc = .ok (.i2l, 1))  (hp : pc + 1 = pc') (k : Go p e below s n0 rc rs P T (mkF m pc' Ls (.long (x.toInt64) :: st))) : Go p e below s n0 rc rs P T (mkF m pc Ls (.int x :: st)) := by
  obtain ⟨locs, X, eT, N, hn⟩ := X; obtain ⟨hx, hZ, hby, hown, hml, hlk, hrt⟩ := C
  subst hp; exact Go.of (fun t q => XS.i2l X.here hx rfl (hb hby hd) rfl q) k
theorem Go.l2i (C : Cx p s m meth c Z bytes own ret maxL) (X : On p l e R s m args below meth c n0 T h cells slots) {x : Int64} (hd : decode bytes pc = .ok (.l2i, 1))  (hp : pc + 1 = pc') (k : Go p e below s n0 rc rs P T (mkF m pc' Ls (.int (x.toInt32) :: st))) : Go p e below s n0 rc rs P T (mkF m pc Ls (.long x :: st)) := by
  obtain ⟨locs, X, eT, N, hn⟩ := X; obtain ⟨hx, hZ, hby, hown, hml, hlk, hrt⟩ := C
  subst hp; exact Go.of (fun t q => XS.l2i X.here hx rfl (hb hby hd) rfl q) k
theorem Go.i2b (C : Cx p s m meth c Z bytes own ret maxL) (X : On p l e R s m args below meth c n0 T h cells slots) {x : Int32} (hd : decode bytes pc = .ok (.i2b, 1))  (hp : pc + 1 = pc') (k : Go p e below s n0 rc rs P T (mkF m pc' Ls (.int (x.toInt8.toInt32) :: st))) : Go p e below s n0 rc rs P T (mkF m pc Ls (.int x :: st)) := by
  obtain ⟨locs, X, eT, N, hn⟩ := X; obtain ⟨hx, hZ, hby, hown, hml, hlk, hrt⟩ := C
  subst hp; exact Go.of (fun t q => XS.i2b X.here hx rfl (hb hby hd) rfl q) k
theorem Go.i2s (C : Cx p s m meth c Z bytes own ret maxL) (X : On p l e R s m args below meth c n0 T h cells slots) {x : Int32} (hd : decode bytes pc = .ok (.i2s, 1))  (hp : pc + 1 = pc') (k : Go p e below s n0 rc rs P T (mkF m pc' Ls (.int (x.toInt16.toInt32) :: st))) : Go p e below s n0 rc rs P T (mkF m pc Ls (.int x :: st)) := by
  obtain ⟨locs, X, eT, N, hn⟩ := X; obtain ⟨hx, hZ, hby, hown, hml, hlk, hrt⟩ := C
  subst hp; exact Go.of (fun t q => XS.i2s X.here hx rfl (hb hby hd) rfl q) k
theorem Go.i2c (C : Cx p s m meth c Z bytes own ret maxL) (X : On p l e R s m args below meth c n0 T h cells slots) {x : Int32} (hd : decode bytes pc = .ok (.i2c, 1))  (hp : pc + 1 = pc') (k : Go p e below s n0 rc rs P T (mkF m pc' Ls (.int (x.toUInt32.toUInt16.toUInt32.toInt32) :: st))) : Go p e below s n0 rc rs P T (mkF m pc Ls (.int x :: st)) := by
  obtain ⟨locs, X, eT, N, hn⟩ := X; obtain ⟨hx, hZ, hby, hown, hml, hlk, hrt⟩ := C
  subst hp; exact Go.of (fun t q => XS.i2c X.here hx rfl (hb hby hd) rfl q) k
theorem Go.lneg (C : Cx p s m meth c Z bytes own ret maxL) (X : On p l e R s m args below meth c n0 T h cells slots) {x : Int64} (hd : decode bytes pc = .ok (.lneg, 1))  (hp : pc + 1 = pc') (k : Go p e below s n0 rc rs P T (mkF m pc' Ls (.long (-x) :: st))) : Go p e below s n0 rc rs P T (mkF m pc Ls (.long x :: st)) := by
  obtain ⟨locs, X, eT, N, hn⟩ := X; obtain ⟨hx, hZ, hby, hown, hml, hlk, hrt⟩ := C
  subst hp; exact Go.of (fun t q => XS.lneg X.here hx rfl (hb hby hd) rfl q) k
theorem Go.ineg (C : Cx p s m meth c Z bytes own ret maxL) (X : On p l e R s m args below meth c n0 T h cells slots) {x : Int32} (hd : decode bytes pc = .ok (.ineg, 1))  (hp : pc + 1 = pc') (k : Go p e below s n0 rc rs P T (mkF m pc' Ls (.int (-x) :: st))) : Go p e below s n0 rc rs P T (mkF m pc Ls (.int x :: st)) := by
  obtain ⟨locs, X, eT, N, hn⟩ := X; obtain ⟨hx, hZ, hby, hown, hml, hlk, hrt⟩ := C
  subst hp; exact Go.of (fun t q => XS.ineg X.here hx rfl (hb hby hd) rfl q) k
theorem Go.idiv (C : Cx p s m meth c Z bytes own ret maxL) (X : On p l e R s m args below meth c n0 T h cells slots) {x y : Int32} (hd : decode bytes pc = .ok (.idiv, 1)) (hy : y ≠ 0) (hp : pc + 1 = pc') (k : Go p e below s n0 rc rs P T (mkF m pc' Ls (.int (x / y) :: st))) : Go p e below s n0 rc rs P T (mkF m pc Ls (.int y :: .int x :: st)) := by
  obtain ⟨locs, X, eT, N, hn⟩ := X; obtain ⟨hx, hZ, hby, hown, hml, hlk, hrt⟩ := C
  subst hp; exact Go.of (fun t q => XS.idiv X.here hx rfl (hb hby hd) rfl hy q) k
theorem Go.ldiv (C : Cx p s m meth c Z bytes own ret maxL) (X : On p l e R s m args below meth c n0 T h cells slots) {x y : Int64} (hd : decode bytes pc = .ok (.ldiv, 1)) (hy : y ≠ 0) (hp : pc + 1 = pc') (k : Go p e below s n0 rc rs P T (mkF m pc' Ls (.long (x / y) :: st))) : Go p e below s n0 rc rs P T (mkF m pc Ls (.long y :: .long x :: st)) := by
  obtain ⟨locs, X, eT, N, hn⟩ := X; obtain ⟨hx, hZ, hby, hown, hml, hlk, hrt⟩ := C
  subst hp; exact Go.of (fun t q => XS.ldiv X.here hx rfl (hb hby hd) rfl hy q) k
theorem Go.irem (C : Cx p s m meth c Z bytes own ret maxL) (X : On p l e R s m args below meth c n0 T h cells slots) {x y : Int32} (hd : decode bytes pc = .ok (.irem, 1)) (hy : y ≠ 0) (hp : pc + 1 = pc') (k : Go p e below s n0 rc rs P T (mkF m pc' Ls (.int (x % y) :: st))) : Go p e below s n0 rc rs P T (mkF m pc Ls (.int y :: .int x :: st)) := by
  obtain ⟨locs, X, eT, N, hn⟩ := X; obtain ⟨hx, hZ, hby, hown, hml, hlk, hrt⟩ := C
  subst hp; exact Go.of (fun t q => iremM X hx rfl (hb hby hd) rfl hy q) k
theorem Go.lrem (C : Cx p s m meth c Z bytes own ret maxL) (X : On p l e R s m args below meth c n0 T h cells slots) {x y : Int64} (hd : decode bytes pc = .ok (.lrem, 1)) (hy : y ≠ 0) (hp : pc + 1 = pc') (k : Go p e below s n0 rc rs P T (mkF m pc' Ls (.long (x % y) :: st))) : Go p e below s n0 rc rs P T (mkF m pc Ls (.long y :: .long x :: st)) := by
  obtain ⟨locs, X, eT, N, hn⟩ := X; obtain ⟨hx, hZ, hby, hown, hml, hlk, hrt⟩ := C
  subst hp; rw [← lrem_mod] at k; exact Go.of (fun t q => XS.lrem X.here hx rfl (hb hby hd) rfl hy q) k
theorem Go.lcmp (C : Cx p s m meth c Z bytes own ret maxL) (X : On p l e R s m args below meth c n0 T h cells slots) {x y : Int64} (hd : decode bytes pc = .ok (.lcmp, 1))  (hp : pc + 1 = pc') (k : Go p e below s n0 rc rs P T (mkF m pc' Ls (.int (lcmpW x y) :: st))) : Go p e below s n0 rc rs P T (mkF m pc Ls (.long y :: .long x :: st)) := by
  obtain ⟨locs, X, eT, N, hn⟩ := X; obtain ⟨hx, hZ, hby, hown, hml, hlk, hrt⟩ := C
  subst hp; exact Go.of (fun t q => XS.lcmp X.here hx rfl (hb hby hd) rfl q) k
theorem Go.dup (C : Cx p s m meth c Z bytes own ret maxL) (X : On p l e R s m args below meth c n0 T h cells slots) {v : Value} (hd : decode bytes pc = .ok (.dup, 1)) (hc : v.category = 1) (hp : pc + 1 = pc') (k : Go p e below s n0 rc rs P T (mkF m pc' Ls (v :: v :: st))) : Go p e below s n0 rc rs P T (mkF m pc Ls (v :: st)) := by
  obtain ⟨locs, X, eT, N, hn⟩ := X; obtain ⟨hx, hZ, hby, hown, hml, hlk, hrt⟩ := C
  subst hp; exact Go.of (fun t q => XS.dup X.here hx rfl (hb hby hd) rfl hc q) k
theorem Go.pop (C : Cx p s m meth c Z bytes own ret maxL) (X : On p l e R s m args below meth c n0 T h cells slots) {v : Value} (hd : decode bytes pc = .ok (.pop, 1)) (hc : v.category = 1) (hp : pc + 1 = pc') (k : Go p e below s n0 rc rs P T (mkF m pc' Ls st)) : Go p e below s n0 rc rs P T (mkF m pc Ls (v :: st)) := by
  obtain ⟨locs, X, eT, N, hn⟩ := X; obtain ⟨hx, hZ, hby, hown, hml, hlk, hrt⟩ := C
  subst hp; exact Go.of (fun t q => XS.pop X.here hx rfl (hb hby hd) rfl hc q) k
theorem Go.dup_x1 (C : Cx p s m meth c Z bytes own ret maxL) (X : On p l e R s m args below meth c n0 T h cells slots) {v u : Value} (hd : decode bytes pc = .ok (.dup_x1, 1)) (hc : v.category = 1) (hc2 : u.category = 1) (hp : pc + 1 = pc') (k : Go p e below s n0 rc rs P T (mkF m pc' Ls (v :: u :: v :: st))) : Go p e below s n0 rc rs P T (mkF m pc Ls (v :: u :: st)) := by
  obtain ⟨locs, X, eT, N, hn⟩ := X; obtain ⟨hx, hZ, hby, hown, hml, hlk, hrt⟩ := C
  subst hp; exact Go.of (fun t q => XS.dupX1 X.here hx rfl (hb hby hd) rfl hc hc2 q) k
theorem Go.dup2 (C : Cx p s m meth c Z bytes own ret maxL) (X : On p l e R s m args below meth c n0 T h cells slots) {v u : Value} (hd : decode bytes pc = .ok (.dup2, 1)) (hc : v.category = 1) (hc2 : u.category = 1) (hp : pc + 1 = pc') (k : Go p e below s n0 rc rs P T (mkF m pc' Ls (v :: u :: v :: u :: st))) : Go p e below s n0 rc rs P T (mkF m pc Ls (v :: u :: st)) := by
  obtain ⟨locs, X, eT, N, hn⟩ := X; obtain ⟨hx, hZ, hby, hown, hml, hlk, hrt⟩ := C
  subst hp; exact Go.of (fun t q => Jvm.Free.XT.dup2 X.here hx rfl (hb hby hd) rfl hc hc2 q) k
theorem Go.dup2L (C : Cx p s m meth c Z bytes own ret maxL) (X : On p l e R s m args below meth c n0 T h cells slots) {x : Int64} (hd : decode bytes pc = .ok (.dup2, 1))  (hp : pc + 1 = pc') (k : Go p e below s n0 rc rs P T (mkF m pc' Ls (.long x :: .long x :: st))) : Go p e below s n0 rc rs P T (mkF m pc Ls (.long x :: st)) := by
  obtain ⟨locs, X, eT, N, hn⟩ := X; obtain ⟨hx, hZ, hby, hown, hml, hlk, hrt⟩ := C
  subst hp; exact Go.of (fun t q => Jvm.Free.XT.dup2L X.here hx rfl (hb hby hd) rfl q) k
theorem Go.iconst (C : Cx p s m meth c Z bytes own ret maxL) (X : On p l e R s m args below meth c n0 T h cells slots) {i : Int} {v : Int32} (hd : decode bytes pc = .ok (.iconst i, 1)) (hv : Int32.ofInt i = v) (hp : pc + 1 = pc') (k : Go p e below s n0 rc rs P T (mkF m pc' Ls (.int v :: st))) : Go p e below s n0 rc rs P T (mkF m pc Ls st) := by
  obtain ⟨locs, X, eT, N, hn⟩ := X; obtain ⟨hx, hZ, hby, hown, hml, hlk, hrt⟩ := C
  subst hp hv; exact Go.of (fun t q => XS.iconst X.here hx rfl (hb hby hd) q) k
theorem Go.bipush (C : Cx p s m meth c Z bytes own ret maxL) (X : On p l e R s m args below meth c n0 T h cells slots) {i : Int} {v : Int32} (hd : decode bytes pc = .ok (.bipush i, 2)) (hv : (Int8.ofInt i).toInt32 = v) (hp : pc + 2 = pc') (k : Go p e below s n0 rc rs P T (mkF m pc' Ls (.int v :: st))) : Go p e below s n0 rc rs P T (mkF m pc Ls st) := by
  obtain ⟨locs, X, eT, N, hn⟩ := X; obtain ⟨hx, hZ, hby, hown, hml, hlk, hrt⟩ := C
  subst hp hv; exact Go.of (fun t q => XS.bipush X.here hx rfl (hb hby hd) q) k
theorem Go.sipush (C : Cx p s m meth c Z bytes own ret maxL) (X : On p l e R s m args below meth c n0 T h cells slots) {i : Int} {v : Int32} (hd : decode bytes pc = .ok (.sipush i, 3)) (hv : (Int16.ofInt i).toInt32 = v) (hp : pc + 3 = pc') (k : Go p e below s n0 rc rs P T (mkF m pc' Ls (.int v :: st))) : Go p e below s n0 rc rs P T (mkF m pc Ls st) := by
  obtain ⟨locs, X, eT, N, hn⟩ := X; obtain ⟨hx, hZ, hby, hown, hml, hlk, hrt⟩ := C
  subst hp hv; exact Go.of (fun t q => XS.sipush X.here hx rfl (hb hby hd) q) k
theorem Go.lconst (C : Cx p s m meth c Z bytes own ret maxL) (X : On p l e R s m args below meth c n0 T h cells slots) {i : Fin 2} {v : Int64} (hd : decode bytes pc = .ok (.lconst i, 1)) (hv : Int64.ofNat i = v) (hp : pc + 1 = pc') (k : Go p e below s n0 rc rs P T (mkF m pc' Ls (.long v :: st))) : Go p e below s n0 rc rs P T (mkF m pc Ls st) := by
  obtain ⟨locs, X, eT, N, hn⟩ := X; obtain ⟨hx, hZ, hby, hown, hml, hlk, hrt⟩ := C
  subst hp hv; exact Go.of (fun t q => XS.lconst X.here hx rfl (hb hby hd) q) k
theorem Go.aconst_null (C : Cx p s m meth c Z bytes own ret maxL) (X : On p l e R s m args below meth c n0 T h cells slots)  (hd : decode bytes pc = .ok (.aconst_null, 1))  (hp : pc + 1 = pc') (k : Go p e below s n0 rc rs P T (mkF m pc' Ls (.null :: st))) : Go p e below s n0 rc rs P T (mkF m pc Ls st) := by
  obtain ⟨locs, X, eT, N, hn⟩ := X; obtain ⟨hx, hZ, hby, hown, hml, hlk, hrt⟩ := C
  subst hp; exact Go.of (fun t q => XS.aconstNull X.here hx rfl (hb hby hd)  q) k
theorem Go.ldc (C : Cx p s m meth c Z bytes own ret maxL) (X : On p l e R s m args below meth c n0 T h cells slots) {i : Nat} {v : Int32} (hc : (Cond.constant own i v).before a0 Z = true) (hd : decode bytes pc = .ok (.ldc i, 2)) (hp : pc + 2 = pc') (k : Go p e below s n0 rc rs P T (mkF m pc' Ls (.int v :: st))) : Go p e below s n0 rc rs P T (mkF m pc Ls st) := by
  obtain ⟨locs, X, eT, N, hn⟩ := X; obtain ⟨hx, hZ, hby, hown, hml, hlk, hrt⟩ := C
  subst hp; exact Go.of (X.ldcInt hx hown (mvT hZ hc) (g := mkF m pc Ls st) rfl (hb hby hd)) k
theorem Go.ldc2 (C : Cx p s m meth c Z bytes own ret maxL) (X : On p l e R s m args below meth c n0 T h cells slots) {i : Nat} {v : Int64} (hc : (Cond.constantLong own i v).before a0 Z = true) (hd : decode bytes pc = .ok (.ldc2_w i, 3)) (hp : pc + 3 = pc') (k : Go p e below s n0 rc rs P T (mkF m pc' Ls (.long v :: st))) : Go p e below s n0 rc rs P T (mkF m pc Ls st) := by
  obtain ⟨locs, X, eT, N, hn⟩ := X; obtain ⟨hx, hZ, hby, hown, hml, hlk, hrt⟩ := C
  subst hp; exact Go.of (X.ldc2Long hx hown (mvT hZ hc) (g := mkF m pc Ls st) rfl (hb hby hd)) k
theorem Go.iload (C : Cx p s m meth c Z bytes own ret maxL) (X : On p l e R s m args below meth c n0 T h cells slots) {i : Nat} {v : Int32} (hd : decode bytes pc = .ok (.iload i, 2)) (hl : Ls[i]? = some (.val (.int v))) (hp : pc + 2 = pc') (k : Go p e below s n0 rc rs P T (mkF m pc' Ls (.int v :: st))) : Go p e below s n0 rc rs P T (mkF m pc Ls st) := by
  obtain ⟨locs, X, eT, N, hn⟩ := X; obtain ⟨hx, hZ, hby, hown, hml, hlk, hrt⟩ := C
  subst hp; exact Go.of (fun t q => XS.iload X.here hx rfl (hb hby hd) hl q) k
theorem Go.iloadN (C : Cx p s m meth c Z bytes own ret maxL) (X : On p l e R s m args below meth c n0 T h cells slots) {i : Fin 4} {v : Int32} (hd : decode bytes pc = .ok (.iload_n i, 1)) (hl : Ls[i.val]? = some (.val (.int v))) (hp : pc + 1 = pc') (k : Go p e below s n0 rc rs P T (mkF m pc' Ls (.int v :: st))) : Go p e below s n0 rc rs P T (mkF m pc Ls st) := by
  obtain ⟨locs, X, eT, N, hn⟩ := X; obtain ⟨hx, hZ, hby, hown, hml, hlk, hrt⟩ := C
  subst hp; exact Go.of (fun t q => XS.iloadN X.here hx rfl (hb hby hd) hl q) k
theorem Go.istore (C : Cx p s m meth c Z bytes own ret maxL) (X : On p l e R s m args below meth c n0 T h cells slots) {i : Nat} {v : Int32} {Ls' : Array Slot} (hd : decode bytes pc = .ok (.istore i, 2)) (hl : storeLocals Ls i (.int v) = some Ls') (hp : pc + 2 = pc') (k : Go p e below s n0 rc rs P T (mkF m pc' Ls' st)) : Go p e below s n0 rc rs P T (mkF m pc Ls (.int v :: st)) := by
  obtain ⟨locs, X, eT, N, hn⟩ := X; obtain ⟨hx, hZ, hby, hown, hml, hlk, hrt⟩ := C
  subst hp; exact Go.of (fun t q => XS.istore X.here hx rfl (hb hby hd) rfl hl q) k
theorem Go.istoreN (C : Cx p s m meth c Z bytes own ret maxL) (X : On p l e R s m args below meth c n0 T h cells slots) {i : Fin 4} {v : Int32} {Ls' : Array Slot} (hd : decode bytes pc = .ok (.istore_n i, 1)) (hl : storeLocals Ls i.val (.int v) = some Ls') (hp : pc + 1 = pc') (k : Go p e below s n0 rc rs P T (mkF m pc' Ls' st)) : Go p e below s n0 rc rs P T (mkF m pc Ls (.int v :: st)) := by
  obtain ⟨locs, X, eT, N, hn⟩ := X; obtain ⟨hx, hZ, hby, hown, hml, hlk, hrt⟩ := C
  subst hp; exact Go.of (fun t q => XS.istoreN X.here hx rfl (hb hby hd) rfl hl q) k
theorem Go.lload (C : Cx p s m meth c Z bytes own ret maxL) (X : On p l e R s m args below meth c n0 T h cells slots) {i : Nat} {v : Int64} (hd : decode bytes pc = .ok (.lload i, 2)) (hl : Ls[i]? = some (.val (.long v))) (hp : pc + 2 = pc') (k : Go p e below s n0 rc rs P T (mkF m pc' Ls (.long v :: st))) : Go p e below s n0 rc rs P T (mkF m pc Ls st) := by
  obtain ⟨locs, X, eT, N, hn⟩ := X; obtain ⟨hx, hZ, hby, hown, hml, hlk, hrt⟩ := C
  subst hp; exact Go.of (fun t q => XS.lload X.here hx rfl (hb hby hd) hl q) k
theorem Go.lloadN (C : Cx p s m meth c Z bytes own ret maxL) (X : On p l e R s m args below meth c n0 T h cells slots) {i : Fin 4} {v : Int64} (hd : decode bytes pc = .ok (.lload_n i, 1)) (hl : Ls[i.val]? = some (.val (.long v))) (hp : pc + 1 = pc') (k : Go p e below s n0 rc rs P T (mkF m pc' Ls (.long v :: st))) : Go p e below s n0 rc rs P T (mkF m pc Ls st) := by
  obtain ⟨locs, X, eT, N, hn⟩ := X; obtain ⟨hx, hZ, hby, hown, hml, hlk, hrt⟩ := C
  subst hp; exact Go.of (fun t q => XS.lloadN X.here hx rfl (hb hby hd) hl q) k
theorem Go.lstore (C : Cx p s m meth c Z bytes own ret maxL) (X : On p l e R s m args below meth c n0 T h cells slots) {i : Nat} {v : Int64} {Ls' : Array Slot} (hd : decode bytes pc = .ok (.lstore i, 2)) (hl : storeLocals Ls i (.long v) = some Ls') (hp : pc + 2 = pc') (k : Go p e below s n0 rc rs P T (mkF m pc' Ls' st)) : Go p e below s n0 rc rs P T (mkF m pc Ls (.long v :: st)) := by
  obtain ⟨locs, X, eT, N, hn⟩ := X; obtain ⟨hx, hZ, hby, hown, hml, hlk, hrt⟩ := C
  subst hp; exact Go.of (fun t q => XS.lstore X.here hx rfl (hb hby hd) rfl hl q) k
theorem Go.lstoreN (C : Cx p s m meth c Z bytes own ret maxL) (X : On p l e R s m args below meth c n0 T h cells slots) {i : Fin 4} {v : Int64} {Ls' : Array Slot} (hd : decode bytes pc = .ok (.lstore_n i, 1)) (hl : storeLocals Ls i.val (.long v) = some Ls') (hp : pc + 1 = pc') (k : Go p e below s n0 rc rs P T (mkF m pc' Ls' st)) : Go p e below s n0 rc rs P T (mkF m pc Ls (.long v :: st)) := by
  obtain ⟨locs, X, eT, N, hn⟩ := X; obtain ⟨hx, hZ, hby, hown, hml, hlk, hrt⟩ := C
  subst hp; exact Go.of (fun t q => XS.lstoreN X.here hx rfl (hb hby hd) rfl hl q) k
theorem Go.aload (C : Cx p s m meth c Z bytes own ret maxL) (X : On p l e R s m args below meth c n0 T h cells slots) {i : Nat} {v : Value} (hd : decode bytes pc = .ok (.aload i, 2)) (hl : Ls[i]? = some (.val v)) (hv : v.isRef = true) (hp : pc + 2 = pc') (k : Go p e below s n0 rc rs P T (mkF m pc' Ls (v :: st))) : Go p e below s n0 rc rs P T (mkF m pc Ls st) := by
  obtain ⟨locs, X, eT, N, hn⟩ := X; obtain ⟨hx, hZ, hby, hown, hml, hlk, hrt⟩ := C
  subst hp; exact Go.of (fun t q => XS.aload X.here hx rfl (hb hby hd) hl hv q) k
theorem Go.aloadN (C : Cx p s m meth c Z bytes own ret maxL) (X : On p l e R s m args below meth c n0 T h cells slots) {i : Fin 4} {v : Value} (hd : decode bytes pc = .ok (.aload_n i, 1)) (hl : Ls[i.val]? = some (.val v)) (hv : v.isRef = true) (hp : pc + 1 = pc') (k : Go p e below s n0 rc rs P T (mkF m pc' Ls (v :: st))) : Go p e below s n0 rc rs P T (mkF m pc Ls st) := by
  obtain ⟨locs, X, eT, N, hn⟩ := X; obtain ⟨hx, hZ, hby, hown, hml, hlk, hrt⟩ := C
  subst hp; exact Go.of (fun t q => XS.aloadN X.here hx rfl (hb hby hd) hl hv q) k
theorem Go.astore (C : Cx p s m meth c Z bytes own ret maxL) (X : On p l e R s m args below meth c n0 T h cells slots) {i : Nat} {v : Value} {Ls' : Array Slot} (hd : decode bytes pc = .ok (.astore i, 2)) (hv : v.isRef = true) (hl : storeLocals Ls i v = some Ls') (hp : pc + 2 = pc') (k : Go p e below s n0 rc rs P T (mkF m pc' Ls' st)) : Go p e below s n0 rc rs P T (mkF m pc Ls (v :: st)) := by
  obtain ⟨locs, X, eT, N, hn⟩ := X; obtain ⟨hx, hZ, hby, hown, hml, hlk, hrt⟩ := C
  subst hp; exact Go.of (fun t q => XS.astore X.here hx rfl (hb hby hd) rfl hv hl q) k
theorem Go.astoreN (C : Cx p s m meth c Z bytes own ret maxL) (X : On p l e R s m args below meth c n0 T h cells slots) {i : Fin 4} {v : Value} {Ls' : Array Slot} (hd : decode bytes pc = .ok (.astore_n i, 1)) (hv : v.isRef = true) (hl : storeLocals Ls i.val v = some Ls') (hp : pc + 1 = pc') (k : Go p e below s n0 rc rs P T (mkF m pc' Ls' st)) : Go p e below s n0 rc rs P T (mkF m pc Ls (v :: st)) := by
  obtain ⟨locs, X, eT, N, hn⟩ := X; obtain ⟨hx, hZ, hby, hown, hml, hlk, hrt⟩ := C
  subst hp; exact Go.of (fun t q => XS.astoreN X.here hx rfl (hb hby hd) rfl hv hl q) k
theorem Go.iinc (C : Cx p s m meth c Z bytes own ret maxL) (X : On p l e R s m args below meth c n0 T h cells slots) {i : Nat} {d : Int} {v v' : Int32} {Ls' : Array Slot} (hd : decode bytes pc = .ok (.iinc i d, 3)) (hl : Ls[i]? = some (.val (.int v))) (hv : v + Int32.ofInt d = v') (hl' : storeLocals Ls i (.int v') = some Ls') (hp : pc + 3 = pc') (k : Go p e below s n0 rc rs P T (mkF m pc' Ls' st)) : Go p e below s n0 rc rs P T (mkF m pc Ls st) := by
  obtain ⟨locs, X, eT, N, hn⟩ := X; obtain ⟨hx, hZ, hby, hown, hml, hlk, hrt⟩ := C
  subst hp hv; exact Go.of (fun t q => XS.iinc X.here hx rfl (hb hby hd) hl hl' q) k
theorem Go.goto (C : Cx p s m meth c Z bytes own ret maxL) (X : On p l e R s m args below meth c n0 T h cells slots) {o : Int} (hd : decode bytes pc = .ok (.goto o, 3)) (ho : 0 ≤ (pc : Int) + o) (hp : ((pc : Int) + o).toNat = pc') (k : Go p e below s n0 rc rs P T (mkF m pc' Ls st)) : Go p e below s n0 rc rs P T (mkF m pc Ls st) := by
  obtain ⟨locs, X, eT, N, hn⟩ := X; obtain ⟨hx, hZ, hby, hown, hml, hlk, hrt⟩ := C
  exact Go.of (fun t q => XS.goto X.here hx rfl (pc0 := pc) rfl (hb hby hd) ho hp q) k
theorem Go.ifYes (C : Cx p s m meth c Z bytes own ret maxL) (X : On p l e R s m args below meth c n0 T h cells slots) {o : Int} {cd : ClassFile.Cond} {x : Int32} (hd : decode bytes pc = .ok (.ifCond cd o, 3)) (hc : ifCond.holds cd x = true) (ho : 0 ≤ (pc : Int) + o) (hp : ((pc : Int) + o).toNat = pc') (k : Go p e below s n0 rc rs P T (mkF m pc' Ls st)) : Go p e below s n0 rc rs P T (mkF m pc Ls (.int x :: st)) := by
  obtain ⟨locs, X, eT, N, hn⟩ := X; obtain ⟨hx, hZ, hby, hown, hml, hlk, hrt⟩ := C
  exact Go.of (fun t q => XS.ifYes X.here hx rfl (pc0 := pc) rfl (hb hby hd) rfl hc ho hp q) k
theorem Go.ifNo (C : Cx p s m meth c Z bytes own ret maxL) (X : On p l e R s m args below meth c n0 T h cells slots) {o : Int} {cd : ClassFile.Cond} {x : Int32} (hd : decode bytes pc = .ok (.ifCond cd o, 3)) (hc : ifCond.holds cd x = false) (hp : pc + 3 = pc') (k : Go p e below s n0 rc rs P T (mkF m pc' Ls st)) : Go p e below s n0 rc rs P T (mkF m pc Ls (.int x :: st)) := by
  obtain ⟨locs, X, eT, N, hn⟩ := X; obtain ⟨hx, hZ, hby, hown, hml, hlk, hrt⟩ := C
  subst hp; exact Go.of (fun t q => XS.ifNo X.here hx rfl (hb hby hd) rfl hc q) k
theorem Go.icmpYes (C : Cx p s m meth c Z bytes own ret maxL) (X : On p l e R s m args below meth c n0 T h cells slots) {o : Int} {cd : ClassFile.Cond} {x y : Int32} (hd : decode bytes pc = .ok (.if_icmp cd o, 3)) (hc : if_icmp.holds cd x y = true) (ho : 0 ≤ (pc : Int) + o) (hp : ((pc : Int) + o).toNat = pc') (k : Go p e below s n0 rc rs P T (mkF m pc' Ls st)) : Go p e below s n0 rc rs P T (mkF m pc Ls (.int y :: .int x :: st)) := by
  obtain ⟨locs, X, eT, N, hn⟩ := X; obtain ⟨hx, hZ, hby, hown, hml, hlk, hrt⟩ := C
  exact Go.of (fun t q => XS.icmpYes X.here hx rfl (pc0 := pc) rfl (hb hby hd) rfl hc ho hp q) k
theorem Go.icmpNo (C : Cx p s m meth c Z bytes own ret maxL) (X : On p l e R s m args below meth c n0 T h cells slots) {o : Int} {cd : ClassFile.Cond} {x y : Int32} (hd : decode bytes pc = .ok (.if_icmp cd o, 3)) (hc : if_icmp.holds cd x y = false) (hp : pc + 3 = pc') (k : Go p e below s n0 rc rs P T (mkF m pc' Ls st)) : Go p e below s n0 rc rs P T (mkF m pc Ls (.int y :: .int x :: st)) := by
  obtain ⟨locs, X, eT, N, hn⟩ := X; obtain ⟨hx, hZ, hby, hown, hml, hlk, hrt⟩ := C
  subst hp; exact Go.of (fun t q => XS.icmpNo X.here hx rfl (hb hby hd) rfl hc q) k
theorem Go.acmpYes (C : Cx p s m meth c Z bytes own ret maxL) (X : On p l e R s m args below meth c n0 T h cells slots) {o : Int} {cd : ClassFile.ACond} {a b : Addr} (hd : decode bytes pc = .ok (.if_acmp cd o, 3)) (hc : if_acmp.holds cd (some a) (some b) = true) (ho : 0 ≤ (pc : Int) + o) (hp : ((pc : Int) + o).toNat = pc') (k : Go p e below s n0 rc rs P T (mkF m pc' Ls st)) : Go p e below s n0 rc rs P T (mkF m pc Ls (.ref b :: .ref a :: st)) := by
  obtain ⟨locs, X, eT, N, hn⟩ := X; obtain ⟨hx, hZ, hby, hown, hml, hlk, hrt⟩ := C
  exact Go.of (fun t q => XS.acmpYes X.here hx rfl (pc0 := pc) rfl (hb hby hd) rfl hc ho hp q) k
theorem Go.acmpNo (C : Cx p s m meth c Z bytes own ret maxL) (X : On p l e R s m args below meth c n0 T h cells slots) {o : Int} {cd : ClassFile.ACond} {a b : Addr} (hd : decode bytes pc = .ok (.if_acmp cd o, 3)) (hc : if_acmp.holds cd (some a) (some b) = false) (hp : pc + 3 = pc') (k : Go p e below s n0 rc rs P T (mkF m pc' Ls st)) : Go p e below s n0 rc rs P T (mkF m pc Ls (.ref b :: .ref a :: st)) := by
  obtain ⟨locs, X, eT, N, hn⟩ := X; obtain ⟨hx, hZ, hby, hown, hml, hlk, hrt⟩ := C
  subst hp; exact Go.of (fun t q => XS.acmpNo X.here hx rfl (hb hby hd) rfl hc q) k
theorem Go.acmpV (C : Cx p s m meth c Z bytes own ret maxL) (X : On p l e R s m args below meth c n0 T h cells slots) {o : Int} {cd : ClassFile.ACond} {u v : Value} {same : Bool} (hd : decode bytes pc = .ok (.if_acmp cd o, 3)) (h1 : u.isRef = true) (h2 : v.isRef = true) (hq : decide (u = v) = same) (ho : 0 ≤ (pc : Int) + o) (hp : pc' = if acV cd same = true then ((pc : Int) + o).toNat else pc + 3) (k : Go p e below s n0 rc rs P T (mkF m pc' Ls st)) : Go p e below s n0 rc rs P T (mkF m pc Ls (v :: u :: st)) := by
  obtain ⟨locs, X, eT, N, hn⟩ := X; obtain ⟨hx, hZ, hby, hown, hml, hlk, hrt⟩ := C
  exact Go.of (fun t q => acmp X hx rfl h1 h2 (pc0 := pc) rfl (hb hby hd) rfl hq ho hp q) k
theorem Go.ifnullYes (C : Cx p s m meth c Z bytes own ret maxL) (X : On p l e R s m args below meth c n0 T h cells slots) {o : Int} (hd : decode bytes pc = .ok (.ifnull o, 3)) (ho : 0 ≤ (pc : Int) + o) (hp : ((pc : Int) + o).toNat = pc') (k : Go p e below s n0 rc rs P T (mkF m pc' Ls st)) : Go p e below s n0 rc rs P T (mkF m pc Ls (.null :: st)) := by
  obtain ⟨locs, X, eT, N, hn⟩ := X; obtain ⟨hx, hZ, hby, hown, hml, hlk, hrt⟩ := C
  exact Go.of (fun t q => XS.ifnullYes X.here hx rfl (pc0 := pc) rfl (hb hby hd) rfl ho hp q) k
theorem Go.ifnullNo (C : Cx p s m meth c Z bytes own ret maxL) (X : On p l e R s m args below meth c n0 T h cells slots) {o : Int} {a : Addr} (hd : decode bytes pc = .ok (.ifnull o, 3)) (hp : pc + 3 = pc') (k : Go p e below s n0 rc rs P T (mkF m pc' Ls st)) : Go p e below s n0 rc rs P T (mkF m pc Ls (.ref a :: st)) := by
  obtain ⟨locs, X, eT, N, hn⟩ := X; obtain ⟨hx, hZ, hby, hown, hml, hlk, hrt⟩ := C
  subst hp; exact Go.of (fun t q => XS.ifnullNo X.here hx rfl (hb hby hd) rfl q) k
theorem Go.ifnonnullYes (C : Cx p s m meth c Z bytes own ret maxL) (X : On p l e R s m args below meth c n0 T h cells slots) {o : Int} {a : Addr} (hd : decode bytes pc = .ok (.ifnonnull o, 3)) (ho : 0 ≤ (pc : Int) + o) (hp : ((pc : Int) + o).toNat = pc') (k : Go p e below s n0 rc rs P T (mkF m pc' Ls st)) : Go p e below s n0 rc rs P T (mkF m pc Ls (.ref a :: st)) := by
  obtain ⟨locs, X, eT, N, hn⟩ := X; obtain ⟨hx, hZ, hby, hown, hml, hlk, hrt⟩ := C
  exact Go.of (fun t q => XS.ifnonnullYes X.here hx rfl (pc0 := pc) rfl (hb hby hd) rfl ho hp q) k
theorem Go.ifnonnullNo (C : Cx p s m meth c Z bytes own ret maxL) (X : On p l e R s m args below meth c n0 T h cells slots) {o : Int} (hd : decode bytes pc = .ok (.ifnonnull o, 3)) (hp : pc + 3 = pc') (k : Go p e below s n0 rc rs P T (mkF m pc' Ls st)) : Go p e below s n0 rc rs P T (mkF m pc Ls (.null :: st)) := by
  obtain ⟨locs, X, eT, N, hn⟩ := X; obtain ⟨hx, hZ, hby, hown, hml, hlk, hrt⟩ := C
  subst hp; exact Go.of (fun t q => XS.ifnonnullNo X.here hx rfl (hb hby hd) rfl q) k
theorem Go.lswHit (C : Cx p s m meth c Z bytes own ret maxL) (X : On p l e R s m args below meth c n0 T h cells slots) {dflt : Int} {pairs : Array (Int × Int)} {len : Nat} {x : Int32} {a off : Int} (hd : decode bytes pc = .ok (.lookupswitch dflt pairs, len)) (hs : (pairs.toList.zip (pairs.toList.drop 1)).all (fun (a, next) => a.1 < next.1) = true) (hf : pairs.find? (·.1 == x.toInt) = some (a, off)) (ho : 0 ≤ (pc : Int) + off) (hp : ((pc : Int) + off).toNat = pc') (k : Go p e below s n0 rc rs P T (mkF m pc' Ls st)) : Go p e below s n0 rc rs P T (mkF m pc Ls (.int x :: st)) := by
  obtain ⟨locs, X, eT, N, hn⟩ := X; obtain ⟨hx, hZ, hby, hown, hml, hlk, hrt⟩ := C
  subst hp; exact Go.of (fun t q => X.lookupswitchHit hx (g := mkF m pc Ls (.int x :: st)) rfl rfl (hb hby hd) hs hf ho t q) k
theorem Go.lswMiss (C : Cx p s m meth c Z bytes own ret maxL) (X : On p l e R s m args below meth c n0 T h cells slots) {dflt : Int} {pairs : Array (Int × Int)} {len : Nat} {x : Int32} (hd : decode bytes pc = .ok (.lookupswitch dflt pairs, len)) (hs : (pairs.toList.zip (pairs.toList.drop 1)).all (fun (a, next) => a.1 < next.1) = true) (hf : pairs.find? (·.1 == x.toInt) = none) (ho : 0 ≤ (pc : Int) + dflt) (hp : ((pc : Int) + dflt).toNat = pc') (k : Go p e below s n0 rc rs P T (mkF m pc' Ls st)) : Go p e below s n0 rc rs P T (mkF m pc Ls (.int x :: st)) := by
  obtain ⟨locs, X, eT, N, hn⟩ := X; obtain ⟨hx, hZ, hby, hown, hml, hlk, hrt⟩ := C
  subst hp; exact Go.of (fun t q => X.lookupswitchMiss hx (g := mkF m pc Ls (.int x :: st)) rfl rfl (hb hby hd) hs hf ho t q) k
theorem Go.retV  (C : Cx p s m meth c Z bytes own none maxL) (X : On p l e R s m args below meth c n0 T h cells slots) (hd : decode bytes pc = .ok (.return_, 1)) (hq : P none h) (hc : cells ≤ rc) (hs : slots ≤ rs) : Go p e below s n0 rc rs P T (mkF m pc Ls []) := by
  obtain ⟨locs, X, eT, N, hn⟩ := X; obtain ⟨hx, hZ, hby, hown, hml, hlk, hrt⟩ := C
  obtain ⟨fs, hr, hrun, hended, hW, hsame⟩ := X.leave (v := none) (fun _ => rfl) hlk
  refine ⟨_, _, ?_, hrun, hended, _, _, rfl, ⟨?_, N⟩, ⟨_, rfl⟩, hW, hsame.mono hc hs⟩
  · exact X.returnOut hx hrt (hb hby hd) hr
  · show P _ T.heap; rw [eT]; exact hq
theorem own_retS {locs : List Loc} (X : Stand p l e R s m args below meth c T locs cells slots) (hx : p.tables.exec = Jvm.exec) {z z' : Int32} {t : FieldType} {rest : List Value} (hret : meth.sig.returnType = some t) (hn : narrow t (.int z) = .int z') (hd : decode c.code pc = .ok (.ireturn, 1)) {fs : List Frame}
    (hl : ∀ (f : JFrame) (acts : List Action), f.method = m → f.locked = none → f.entered = [] → (doReturn e (T.setTop f) acts (some (.int z'))).1 = T.setFrames fs) : Steps p.tables e below (T.setTop (mkF m pc Ls (.int z :: rest))) (T.setFrames fs) := by
  have hm' : T.vm.method? m = some meth := X.method'
  show Steps p.tables e below (T.setTop { method := m, pc := pc, locals := Ls, stack := _ :: rest, locked := none }) _
  jvm_step X.here [X.here.top, hx, hd, hm', hret, hn]
  first | (intro acts; rw [hl _ acts rfl rfl rfl]) | rw [hl _ _ rfl rfl rfl]
  exact Steps.refl _
theorem Go.retZ {t : FieldType} (C : Cx p s m meth c Z bytes own (some t) maxL) (X : On p l e R s m args below meth c n0 T h cells slots) {z z' : Int32} (hz : narrow t (.int z) = .int z') (hd : decode bytes pc = .ok (.ireturn, 1)) (hq : P (some (.int z')) h) (hc : cells ≤ rc) (hs : slots ≤ rs) : Go p e below s n0 rc rs P T (mkF m pc Ls (.int z :: st)) := by
  obtain ⟨locs, X, eT, N, hn⟩ := X; obtain ⟨hx, hZ, hby, hown, hml, hlk, hrt⟩ := C
  obtain ⟨fs, hr, hrun, hended, hW, hsame⟩ := X.leave (v := (some (.int z'))) (fun h => by rw [hrt] at h; cases h) hlk
  refine ⟨_, _, ?_, hrun, hended, _, _, rfl, ⟨?_, N⟩, ⟨_, rfl⟩, hW, hsame.mono hc hs⟩
  · exact own_retS X hx hrt hz (hb hby hd) hr
  · show P _ T.heap; rw [eT]; exact hq
theorem Go.retI  (C : Cx p s m meth c Z bytes own (some .int) maxL) (X : On p l e R s m args below meth c n0 T h cells slots) {z : Int32} (hd : decode bytes pc = .ok (.ireturn, 1)) (hq : P (some (.int z)) h) (hc : cells ≤ rc) (hs : slots ≤ rs) : Go p e below s n0 rc rs P T (mkF m pc Ls (.int z :: st)) := by
  obtain ⟨locs, X, eT, N, hn⟩ := X; obtain ⟨hx, hZ, hby, hown, hml, hlk, hrt⟩ := C
  obtain ⟨fs, hr, hrun, hended, hW, hsame⟩ := X.leave (v := (some (.int z))) (fun h => by rw [hrt] at h; cases h) hlk
  refine ⟨_, _, ?_, hrun, hended, _, _, rfl, ⟨?_, N⟩, ⟨_, rfl⟩, hW, hsame.mono hc hs⟩
  · exact own_retS X hx hrt rfl (hb hby hd) hr
  · show P _ T.heap; rw [eT]; exact hq
theorem Go.retL  (C : Cx p s m meth c Z bytes own (some .long) maxL) (X : On p l e R s m args below meth c n0 T h cells slots) {z : Int64} (hd : decode bytes pc = .ok (.lreturn, 1)) (hq : P (some (.long z)) h) (hc : cells ≤ rc) (hs : slots ≤ rs) : Go p e below s n0 rc rs P T (mkF m pc Ls (.long z :: st)) := by
  obtain ⟨locs, X, eT, N, hn⟩ := X; obtain ⟨hx, hZ, hby, hown, hml, hlk, hrt⟩ := C
  obtain ⟨fs, hr, hrun, hended, hW, hsame⟩ := X.leave (v := (some (.long z))) (fun h => by rw [hrt] at h; cases h) hlk
  refine ⟨_, _, ?_, hrun, hended, _, _, rfl, ⟨?_, N⟩, ⟨_, rfl⟩, hW, hsame.mono hc hs⟩
  · jvm_step X.here [X.here.top, hx, (hb hby hd), X.method', hrt, narrow]
    first | (intro acts; rw [hr _ acts rfl rfl rfl]) | rw [hr _ _ rfl rfl rfl]
    exact Steps.refl _
  · show P _ T.heap; rw [eT]; exact hq
theorem Go.retA {cn : String} (C : Cx p s m meth c Z bytes own (some (.object cn)) maxL) (X : On p l e R s m args below meth c n0 T h cells slots) {z : Value} (hz : z.isRef = true) (hd : decode bytes pc = .ok (.areturn, 1)) (hq : P (some z) h) (hc : cells ≤ rc) (hs : slots ≤ rs) : Go p e below s n0 rc rs P T (mkF m pc Ls (z :: st)) := by
  obtain ⟨locs, X, eT, N, hn⟩ := X; obtain ⟨hx, hZ, hby, hown, hml, hlk, hrt⟩ := C
  obtain ⟨fs, hr, hrun, hended, hW, hsame⟩ := X.leave (v := (some z)) (fun h => by rw [hrt] at h; cases h) hlk
  refine ⟨_, _, ?_, hrun, hended, _, _, rfl, ⟨?_, N⟩, ⟨_, rfl⟩, hW, hsame.mono hc hs⟩
  · rcases ref_cases hz with rfl | ⟨a, rfl⟩ <;>
    · jvm_step X.here [X.here.top, hx, (hb hby hd), X.method', hrt, Value.isRef, FieldType.isReference]
      first | (intro acts; rw [hr _ acts rfl rfl rfl]) | rw [hr _ _ rfl rfl rfl]
      exact Steps.refl _
  · show P _ T.heap; rw [eT]; exact hq
theorem Go.retAA {ct : FieldType} (C : Cx p s m meth c Z bytes own (some (.array ct)) maxL) (X : On p l e R s m args below meth c n0 T h cells slots) {z : Value} (hz : z.isRef = true) (hd : decode bytes pc = .ok (.areturn, 1)) (hq : P (some z) h) (hc : cells ≤ rc) (hs : slots ≤ rs) : Go p e below s n0 rc rs P T (mkF m pc Ls (z :: st)) := by
  obtain ⟨locs, X, eT, N, hn⟩ := X; obtain ⟨hx, hZ, hby, hown, hml, hlk, hrt⟩ := C
  obtain ⟨fs, hr, hrun, hended, hW, hsame⟩ := X.leave (v := (some z)) (fun h => by rw [hrt] at h; cases h) hlk
  refine ⟨_, _, ?_, hrun, hended, _, _, rfl, ⟨?_, N⟩, ⟨_, rfl⟩, hW, hsame.mono hc hs⟩
  · rcases ref_cases hz with rfl | ⟨a, rfl⟩ <;>
    · jvm_step X.here [X.here.top, hx, (hb hby hd), X.method', hrt, Value.isRef, FieldType.isReference]
      first | (intro acts; rw [hr _ acts rfl rfl rfl]) | rw [hr _ _ rfl rfl rfl]
      exact Steps.refl _
  · show P _ T.heap; rw [eT]; exact hq
theorem Go.getF (C : Cx p s m meth c Z bytes own ret maxL) (X : On p l e R s m args below meth c n0 T h cells slots) {R0 O n d host : String} {i : Nat} {a : Addr} {v : Value} (w : (Cond.fieldLink own i R0 n d).before a0 Z = true ∨ (Cond.fieldLinkNest own i R0 n d host).before a0 Z = true) (via : Via Z R0 O n d) (F : Fld Z h a O n d v) (hd : decode bytes pc = .ok (.getfield i, 3)) (hp : pc + 3 = pc')
    (k : ∀ T', On p l e R s m args below meth c n0 T' h cells slots → Go p e below s n0 rc rs P T' (mkF m pc' Ls (v :: st))) : Go p e below s n0 rc rs P T (mkF m pc Ls (.ref a :: st)) := by
  obtain ⟨locs, X, eT, N, hn⟩ := X; obtain ⟨hx, hZ, hby, hown, hml, hlk, hrt⟩ := C; subst hp
  obtain ⟨T', X', e', st'⟩ := RoadKit.getF X hx hZ hown w via eT F (g := mkF m pc Ls (.ref a :: st)) rfl rfl (hb hby hd)
  exact Go.of st' (k T' ⟨locs, X', e', N, hn⟩)
theorem Go.getS (C : Cx p s m meth c Z bytes own ret maxL) (X : On p l e R s m args below meth c n0 T h cells slots) {R0 O n d : String} {i : Nat} {v : Value} (w : (Cond.fieldLink own i R0 n d).before a0 Z = true) (via : Via Z R0 O n d) (F : Sta Z h O n d v) (hd : decode bytes pc = .ok (.getstatic i, 3)) (hp : pc + 3 = pc')
    (k : ∀ T', On p l e R s m args below meth c n0 T' h cells slots → Go p e below s n0 rc rs P T' (mkF m pc' Ls (v :: st))) : Go p e below s n0 rc rs P T (mkF m pc Ls st) := by
  obtain ⟨locs, X, eT, N, hn⟩ := X; obtain ⟨hx, hZ, hby, hown, hml, hlk, hrt⟩ := C; subst hp
  obtain ⟨T', X', e', st'⟩ := RoadKit.getS X hx hZ (host := "") hown w via eT F (g := mkF m pc Ls st) rfl (hb hby hd)
  exact Go.of st' (k T' ⟨locs, X', e', N, hn⟩)
theorem Go.putF (C : Cx p s m meth c Z bytes own ret maxL) (X : On p l e R s m args below meth c n0 T h cells slots) {R0 O n d host K : String} {i kk : Nat} {ty : FieldType} {a : Addr} {v old : Value} (w : (Cond.fieldLink own i R0 n d).before a0 Z = true ∨ (Cond.fieldLinkNest own i R0 n d host).before a0 Z = true) (via : Via Z R0 O n d) (F : Fld Z h a O n d old) (E : Exa Z h a K) (L : (Cond.lays K O n d).before a0 Z = true ∨ ((Cond.laysFinal K O n d).before a0 Z = true ∧ own = O ∧ meth.name = "<init>")) (wi : (Cond.instantiable K kk).before a0 Z = true) (ha : n0 ≤ a) (hty : parseFieldDescriptor d = some ty) (hn : narrow ty v = v) (hf : fits ty v = true) (hd : decode bytes pc = .ok (.putfield i, 3)) (hp : pc + 3 = pc')
    (k : ∀ T' h', On p l e R s m args below meth c n0 T' h' cells slots → Wr h h' a (slotOf Z O n d) v → Go p e below s n0 rc rs P T' (mkF m pc' Ls st)) : Go p e below s n0 rc rs P T (mkF m pc Ls (v :: .ref a :: st)) := by
  obtain ⟨locs, X, eT, N, hz⟩ := X; obtain ⟨hx, hZ, hby, hown, hml, hlk, hrt⟩ := C; subst hp
  obtain ⟨T', h', X', e', W, st'⟩ := RoadKit.putF X hx hZ hown w via eT F E L wi hty hn hf (g := mkF m pc Ls (v :: .ref a :: st)) rfl rfl (hb hby hd)
  exact Go.of st' (k T' h' ⟨_, X', e', Fr.snoc X' N ha, by rw [W.size]; exact hz⟩ W)
theorem Go.putFN (C : Cx p s m meth c Z bytes own ret maxL) (X : On p l e R s m args below meth c n0 T h cells slots) {R0 O n d K : String} {i kk : Nat} {ty : FieldType} {a : Addr} {v v' old : Value} (w : (Cond.fieldLink own i R0 n d).before a0 Z = true) (via : Via Z R0 O n d) (F : Fld Z h a O n d old) (E : Exa Z h a K) (L : (Cond.lays K O n d).before a0 Z = true ∨ ((Cond.laysFinal K O n d).before a0 Z = true ∧ own = O ∧ meth.name = "<init>")) (wi : (Cond.instantiable K kk).before a0 Z = true) (ha : n0 ≤ a) (hty : parseFieldDescriptor d = some ty) (hn : narrow ty v = v') (hf : fits ty v' = true) (hd : decode bytes pc = .ok (.putfield i, 3)) (hp : pc + 3 = pc')
    (k : ∀ T' h', On p l e R s m args below meth c n0 T' h' cells slots → Wr h h' a (slotOf Z O n d) v' → Go p e below s n0 rc rs P T' (mkF m pc' Ls st)) : Go p e below s n0 rc rs P T (mkF m pc Ls (v :: .ref a :: st)) := by
  obtain ⟨locs, X, eT, N, hz⟩ := X; obtain ⟨hx, hZ, hby, hown, hml, hlk, hrt⟩ := C; subst hp
  obtain ⟨T', h', X', e', W, st'⟩ := RoadKit.putFN X hx hZ hown w via eT F E L wi hty hn hf (g := mkF m pc Ls (v :: .ref a :: st)) rfl rfl (hb hby hd)
  exact Go.of st' (k T' h' ⟨_, X', e', Fr.snoc X' N ha, by rw [W.size]; exact hz⟩ W)
theorem Go.newO (C : Cx p s m meth c Z bytes own ret maxL) (X : On p l e R s m args below meth c n0 T h cells slots) {K : String} {i kk : Nat} (w : (Cond.classLink own i K).before a0 Z = true) (wi : (Cond.instantiable K kk).before a0 Z = true) (wz : (Cond.initialized K).before a0 Z = true) (hd : decode bytes pc = .ok (.new i, 3)) (hc : cells + 1 ≤ R.cells) (hl : slots + kk ≤ R.slots) (hp : pc + 3 = pc')
    (k : ∀ T' h' a, On p l e R s m args below meth c n0 T' h' (cells + 1) (slots + kk) → a = h.size → Ext h h' → Exa Z h' a K → (∀ {O nm d : String} {ty : FieldType}, Laid Z a0 K O nm d → parseFieldDescriptor d = some ty → Fld Z h' a O nm d (defaultValue ty)) → n0 ≤ a → Go p e below s n0 rc rs P T' (mkF m pc' Ls (.ref a :: st))) : Go p e below s n0 rc rs P T (mkF m pc Ls st) := by
  obtain ⟨locs, X, eT, N, hz⟩ := X; obtain ⟨hx, hZ, hby, hown, hml, hlk, hrt⟩ := C; subst hp
  obtain ⟨T', h', X', e', E, A, D, -, st'⟩ := RoadKit.newO X hx hZ hown w wi wz eT (g := mkF m pc Ls st) rfl (hb hby hd) hc hl
  exact Go.of st' (k T' h' h.size ⟨_, X', e', N, Nat.le_trans hz E.1⟩ rfl E A D hz)
theorem Go.initO (C : Cx p s m meth c Z bytes own ret maxL) (X : On p l e R s m args below meth c n0 T h cells slots) {a : Addr} (hI : ∀ locs, Stand p l e R s m args below meth c T locs cells slots → T.heap = h → ∃ T', Stand p l e R s m args below meth c T' locs cells slots ∧ T'.heap = h ∧ ∀ target, Steps p.tables e below (T'.setTop (mkF m (pc + 3) Ls st)) target → Steps p.tables e below (T.setTop (mkF m pc Ls (.ref a :: st))) target) (hp : pc + 3 = pc')
    (k : ∀ T', On p l e R s m args below meth c n0 T' h cells slots → Go p e below s n0 rc rs P T' (mkF m pc' Ls st)) : Go p e below s n0 rc rs P T (mkF m pc Ls (.ref a :: st)) := by
  obtain ⟨locs, X, eT, N, hz⟩ := X; subst hp
  obtain ⟨T', X', e', st'⟩ := hI locs X eT
  exact Go.of st' (k T' ⟨_, X', e', N, hz⟩)
theorem Go.castY (C : Cx p s m meth c Z bytes own ret maxL) (X : On p l e R s m args below meth c n0 T h cells slots) {K : String} {i : Nat} {a : Addr} (w : (Cond.classLink own i K).before a0 Z = true) (F : Ins Z h a K true) (hd : decode bytes pc = .ok (.checkcast i, 3)) (hp : pc + 3 = pc')
    (k : ∀ T', On p l e R s m args below meth c n0 T' h cells slots → Go p e below s n0 rc rs P T' (mkF m pc' Ls (.ref a :: st))) : Go p e below s n0 rc rs P T (mkF m pc Ls (.ref a :: st)) := by
  obtain ⟨locs, X, eT, N, hn⟩ := X; obtain ⟨hx, hZ, hby, hown, hml, hlk, hrt⟩ := C; subst hp
  obtain ⟨T', X', e', st'⟩ := RoadKit.castY X hx hZ hown w eT F (g := mkF m pc Ls (.ref a :: st)) rfl rfl (hb hby hd)
  exact Go.of st' (k T' ⟨locs, X', e', N, hn⟩)
theorem Go.instY (C : Cx p s m meth c Z bytes own ret maxL) (X : On p l e R s m args below meth c n0 T h cells slots) {K : String} {i : Nat} {a : Addr} (w : (Cond.classLink own i K).before a0 Z = true) (F : Ins Z h a K true) (hd : decode bytes pc = .ok (.instanceof i, 3)) (hp : pc + 3 = pc')
    (k : ∀ T', On p l e R s m args below meth c n0 T' h cells slots → Go p e below s n0 rc rs P T' (mkF m pc' Ls (.int 1 :: st))) : Go p e below s n0 rc rs P T (mkF m pc Ls (.ref a :: st)) := by
  obtain ⟨locs, X, eT, N, hn⟩ := X; obtain ⟨hx, hZ, hby, hown, hml, hlk, hrt⟩ := C; subst hp
  obtain ⟨T', X', e', st'⟩ := RoadKit.instY X hx hZ hown w eT F (g := mkF m pc Ls (.ref a :: st)) rfl rfl (hb hby hd)
  exact Go.of st' (k T' ⟨locs, X', e', N, hn⟩)
def AI (Z : State) (h : Heap) (a : Addr) (ty : FieldType) (n : Nat) (f : Nat → Int32) : Prop := ∃ cl : Cell, Arr Z h a cl ty ∧ cl.slots.size = n ∧ n < 2 ^ 31 ∧ ∀ i, i < n → cl.slots[i]? = some (.int (f i))
def AJ (Z : State) (h : Heap) (a : Addr) (n : Nat) (f : Nat → Int64) : Prop := ∃ cl : Cell, Arr Z h a cl .long ∧ cl.slots.size = n ∧ n < 2 ^ 31 ∧ ∀ i, i < n → cl.slots[i]? = some (.long (f i))
theorem clamp_of {j : Int32} {i : Nat} (hj : j.toInt = (i : Int)) : j.toNatClampNeg = i := by
  show j.toInt.toNat = i
  omega
theorem in_of {j : Int32} {i n : Nat} (hj : j.toInt = (i : Int)) (hi : i < n) {sz : Nat} (hs : sz = n) : ¬ (j < 0 ∨ sz ≤ j.toNatClampNeg) := by
  rw [clamp_of hj]
  intro q
  rcases q with q | q
  · rw [Int32.lt_iff_toInt_lt] at q
    have : (0 : Int32).toInt = 0 := rfl
    omega
  · omega
theorem len32 {z : Int32} {n : Nat} (hz : z.toInt = (n : Int)) : n.toInt32 = z := by
  apply Int32.toInt_inj.mp
  rw [hz]
  have h2 : z.toInt < 2147483648 := z.toInt_lt
  rw [hz] at h2
  exact Int32.toInt_ofNat_of_lt (by omega)
section AFacts
variable {h' : Heap} {a b : Addr} {ty : FieldType} {n sl : Nat} {f : Nat → Int32} {g : Nat → Int64} {v : Value} {ws : List Addr}
theorem AI.lt (F : AI Z h a ty n f) : a < h.size := by obtain ⟨c, A, -⟩ := F; exact A.lt
theorem AI.ext (F : AI Z h a ty n f) (E : Ext h h') : AI Z h' a ty n f := by obtain ⟨c, A, r⟩ := F; exact ⟨c, A.ext E, r⟩
theorem AI.other (F : AI Z h b ty n f) (W : Wr h h' a sl v) (q : b ≠ a) : AI Z h' b ty n f := by obtain ⟨c, A, r⟩ := F; exact ⟨c, A.other W q, r⟩
theorem AI.keep (F : AI Z h a ty n f) (K : Keep h h' ws) (q : a ∉ ws) : AI Z h' a ty n f := by obtain ⟨c, A, r⟩ := F; exact ⟨c, ⟨K.2.1 a c A.1 q, A.2⟩, r⟩
theorem AI.congr {f' : Nat → Int32} (F : AI Z h a ty n f) (q : ∀ i, i < n → f i = f' i) : AI Z h a ty n f' := by
  obtain ⟨c, A, r1, r2, r3⟩ := F; exact ⟨c, A, r1, r2, fun i hi => by rw [r3 i hi, q i hi]⟩
theorem AI.bound (F : AI Z h a ty n f) : n < 2 ^ 31 := by obtain ⟨c, A, r1, r2, r3⟩ := F; exact r2
theorem AI.set {i : Nat} {x : Int32} (F : AI Z h a ty n f) (W : Wr h h' a i (.int x)) : AI Z h' a ty n (fun k => if k = i then x else f k) := by
  obtain ⟨c, A, r1, r2, r3⟩ := F
  refine ⟨_, A.same W, by rw [sz_set]; exact r1, r2, fun k hk => ?_⟩
  by_cases q : k = i
  · subst q; simp [Cell.setSlot, r1, hk]
  · simp only [Cell.setSlot, if_neg q]
    rw [Array.getElem?_setIfInBounds_ne (fun e => q e.symm)]
    exact r3 k hk
theorem AI.new {k : ClassId} {z : Int32} {n : Nat} (hz : z.toInt = (n : Int)) (ht : defaultValue ty = .int 0) (A : Arr Z h a (newA k ty z) ty) : AI Z h a ty n (fun _ => 0) := by
  have h2 : z.toInt < 2147483648 := z.toInt_lt
  refine ⟨_, A, by rw [sz_new, clamp_of hz], by omega, fun i hi => ?_⟩
  simp [newA, clamp_of hz, hi, ht]
theorem AJ.lt (F : AJ Z h a n g) : a < h.size := by obtain ⟨c, A, -⟩ := F; exact A.lt
theorem AJ.ext (F : AJ Z h a n g) (E : Ext h h') : AJ Z h' a n g := by obtain ⟨c, A, r⟩ := F; exact ⟨c, A.ext E, r⟩
theorem AJ.other (F : AJ Z h b n g) (W : Wr h h' a sl v) (q : b ≠ a) : AJ Z h' b n g := by obtain ⟨c, A, r⟩ := F; exact ⟨c, A.other W q, r⟩
theorem AJ.keep (F : AJ Z h a n g) (K : Keep h h' ws) (q : a ∉ ws) : AJ Z h' a n g := by obtain ⟨c, A, r⟩ := F; exact ⟨c, ⟨K.2.1 a c A.1 q, A.2⟩, r⟩
theorem AJ.congr {g' : Nat → Int64} (F : AJ Z h a n g) (q : ∀ i, i < n → g i = g' i) : AJ Z h a n g' := by
  obtain ⟨c, A, r1, r2, r3⟩ := F; exact ⟨c, A, r1, r2, fun i hi => by rw [r3 i hi, q i hi]⟩
theorem AJ.set {i : Nat} {x : Int64} (F : AJ Z h a n g) (W : Wr h h' a i (.long x)) : AJ Z h' a n (fun k => if k = i then x else g k) := by
  obtain ⟨c, A, r1, r2, r3⟩ := F
  refine ⟨_, A.same W, by rw [sz_set]; exact r1, r2, fun k hk => ?_⟩
  by_cases q : k = i
  · subst q; simp [Cell.setSlot, r1, hk]
  · simp only [Cell.setSlot, if_neg q]
    rw [Array.getElem?_setIfInBounds_ne (fun e => q e.symm)]
    exact r3 k hk
theorem AJ.new {k : ClassId} {z : Int32} {n : Nat} (hz : z.toInt = (n : Int)) (A : Arr Z h a (newA k .long z) .long) : AJ Z h a n (fun _ => 0) := by
  have h2 : z.toInt < 2147483648 := z.toInt_lt
  refine ⟨_, A, by rw [sz_new, clamp_of hz], by omega, fun i hi => ?_⟩
  simp [newA, clamp_of hz, hi, defaultValue]
end AFacts
theorem Go.newP (C : Cx p s m meth c Z bytes own ret maxL) (X : On p l e R s m args below meth c n0 T h cells slots) {aty : ArrayType} {z : Int32} {nn cap : Nat} (w : (Cond.arrayClass (newarray.typeOf aty)).before a0 Z = true) (hd : decode bytes pc = .ok (.newarray aty, 2)) (hz : z.toInt = (nn : Int)) (hcap : nn ≤ cap) (hbig : cap * 8 ≤ 536870912) (hc : cells + 1 ≤ R.cells) (hl : slots + cap ≤ R.slots) (hp : pc + 2 = pc')
    (k : ∀ T' h' a cA, On p l e R s m args below meth c n0 T' h' (cells + 1) (slots + cap) → a = h.size → Ext h h' → Arr Z h' a (newA cA (newarray.typeOf aty) z) (newarray.typeOf aty) → n0 ≤ a → Go p e below s n0 rc rs P T' (mkF m pc' Ls (.ref a :: st))) : Go p e below s n0 rc rs P T (mkF m pc Ls (.int z :: st)) := by
  obtain ⟨locs, X, eT, N, hn⟩ := X; obtain ⟨hx, hZ, hby, hown, hml, hlk, hrt⟩ := C; subst hp
  obtain ⟨T', h', cA, X', e', E, A, st'⟩ := RoadKit.newP X hx hZ w eT (g := mkF m pc Ls (.int z :: st)) rfl (hb hby hd) rfl (by rw [Int32.lt_iff_toInt_lt]; have : (0 : Int32).toInt = 0 := rfl; omega) (cap := cap) (by rw [clamp_of hz]; exact hcap) hbig hc hl
  exact Go.of st' (k T' h' h.size cA ⟨_, X', e', N, Nat.le_trans hn E.1⟩ rfl E A hn)
theorem Go.alenI (C : Cx p s m meth c Z bytes own ret maxL) (X : On p l e R s m args below meth c n0 T h cells slots) {a : Addr} {ty : FieldType} {n : Nat} {f : Nat → Int32} {z : Int32} (A : AI Z h a ty n f) (hz : z.toInt = (n : Int)) (hd : decode bytes pc = .ok (.arraylength, 1)) (hp : pc + 1 = pc') (k : Go p e below s n0 rc rs P T (mkF m pc' Ls (.int z :: st))) : Go p e below s n0 rc rs P T (mkF m pc Ls (.ref a :: st)) := by
  obtain ⟨locs, X, eT, N, hn⟩ := X; obtain ⟨hx, hZ, hby, hown, hml, hlk, hrt⟩ := C; subst hp
  obtain ⟨cl, A, r1, r2, r3⟩ := A
  refine Go.of (fun t q => X.arraylength hx (by rw [eT]; exact A.1) (State.isArrayOf_alike hZ.alike A.2.1) (g := mkF m pc Ls (.ref a :: st)) rfl rfl (hb hby hd) t ?_) k
  rw [r1, len32 hz]; exact q
theorem Go.alenJ (C : Cx p s m meth c Z bytes own ret maxL) (X : On p l e R s m args below meth c n0 T h cells slots) {a : Addr} {n : Nat} {f : Nat → Int64} {z : Int32} (A : AJ Z h a n f) (hz : z.toInt = (n : Int)) (hd : decode bytes pc = .ok (.arraylength, 1)) (hp : pc + 1 = pc') (k : Go p e below s n0 rc rs P T (mkF m pc' Ls (.int z :: st))) : Go p e below s n0 rc rs P T (mkF m pc Ls (.ref a :: st)) := by
  obtain ⟨locs, X, eT, N, hn⟩ := X; obtain ⟨hx, hZ, hby, hown, hml, hlk, hrt⟩ := C; subst hp
  obtain ⟨cl, A, r1, r2, r3⟩ := A
  refine Go.of (fun t q => X.arraylength hx (by rw [eT]; exact A.1) (State.isArrayOf_alike hZ.alike A.2.1) (g := mkF m pc Ls (.ref a :: st)) rfl rfl (hb hby hd) t ?_) k
  rw [r1, len32 hz]; exact q
theorem Go.iaload (C : Cx p s m meth c Z bytes own ret maxL) (X : On p l e R s m args below meth c n0 T h cells slots) {a : Addr} {n : Nat} {f : Nat → Int32} {j : Int32} {i : Nat} {w : Int32} (A : AI Z h a .int n f) (hj : j.toInt = (i : Int)) (hi : i < n) (hw : f i = w) (hd : decode bytes pc = .ok (.iaload, 1)) (hp : pc + 1 = pc') (k : Go p e below s n0 rc rs P T (mkF m pc' Ls (.int w :: st))) : Go p e below s n0 rc rs P T (mkF m pc Ls (.int j :: .ref a :: st)) := by
  obtain ⟨locs, X, eT, N, hn⟩ := X; obtain ⟨hx, hZ, hby, hown, hml, hlk, hrt⟩ := C; subst hp hw
  obtain ⟨cl, A, r1, r2, r3⟩ := A
  exact Go.of (fun t q => X.iaload hx (j := j) (v := .int (f i)) (by rw [eT]; exact A.1) (State.isArrayOf_alike hZ.alike A.2.1) A.2.2 (in_of hj hi r1) (by rw [clamp_of hj]; exact r3 i hi) (g := mkF m pc Ls (.int j :: .ref a :: st)) rfl rfl (hb hby hd) t q) k
theorem Go.baload (C : Cx p s m meth c Z bytes own ret maxL) (X : On p l e R s m args below meth c n0 T h cells slots) {a : Addr} {n : Nat} {f : Nat → Int32} {j : Int32} {i : Nat} {w : Int32} (A : AI Z h a .byte n f) (hj : j.toInt = (i : Int)) (hi : i < n) (hw : f i = w) (hd : decode bytes pc = .ok (.baload, 1)) (hp : pc + 1 = pc') (k : Go p e below s n0 rc rs P T (mkF m pc' Ls (.int w :: st))) : Go p e below s n0 rc rs P T (mkF m pc Ls (.int j :: .ref a :: st)) := by
  obtain ⟨locs, X, eT, N, hn⟩ := X; obtain ⟨hx, hZ, hby, hown, hml, hlk, hrt⟩ := C; subst hp hw
  obtain ⟨cl, A, r1, r2, r3⟩ := A
  exact Go.of (fun t q => X.baloadBytes hx (j := j) (v := .int (f i)) (by rw [eT]; exact A.1) (State.isArrayOf_alike hZ.alike A.2.1) A.2.2 (in_of hj hi r1) (by rw [clamp_of hj]; exact r3 i hi) (g := mkF m pc Ls (.int j :: .ref a :: st)) rfl rfl (hb hby hd) t q) k
theorem Go.zaload (C : Cx p s m meth c Z bytes own ret maxL) (X : On p l e R s m args below meth c n0 T h cells slots) {a : Addr} {n : Nat} {f : Nat → Int32} {j : Int32} {i : Nat} {w : Int32} (A : AI Z h a .boolean n f) (hj : j.toInt = (i : Int)) (hi : i < n) (hw : f i = w) (hd : decode bytes pc = .ok (.baload, 1)) (hp : pc + 1 = pc') (k : Go p e below s n0 rc rs P T (mkF m pc' Ls (.int w :: st))) : Go p e below s n0 rc rs P T (mkF m pc Ls (.int j :: .ref a :: st)) := by
  obtain ⟨locs, X, eT, N, hn⟩ := X; obtain ⟨hx, hZ, hby, hown, hml, hlk, hrt⟩ := C; subst hp hw
  obtain ⟨cl, A, r1, r2, r3⟩ := A
  exact Go.of (fun t q => X.baloadBooleans hx (j := j) (v := .int (f i)) (by rw [eT]; exact A.1) (State.isArrayOf_alike hZ.alike A.2.1) A.2.2 (in_of hj hi r1) (by rw [clamp_of hj]; exact r3 i hi) (g := mkF m pc Ls (.int j :: .ref a :: st)) rfl rfl (hb hby hd) t q) k
theorem Go.caload (C : Cx p s m meth c Z bytes own ret maxL) (X : On p l e R s m args below meth c n0 T h cells slots) {a : Addr} {n : Nat} {f : Nat → Int32} {j : Int32} {i : Nat} {w : Int32} (A : AI Z h a .char n f) (hj : j.toInt = (i : Int)) (hi : i < n) (hw : f i = w) (hd : decode bytes pc = .ok (.caload, 1)) (hp : pc + 1 = pc') (k : Go p e below s n0 rc rs P T (mkF m pc' Ls (.int w :: st))) : Go p e below s n0 rc rs P T (mkF m pc Ls (.int j :: .ref a :: st)) := by
  obtain ⟨locs, X, eT, N, hn⟩ := X; obtain ⟨hx, hZ, hby, hown, hml, hlk, hrt⟩ := C; subst hp hw
  obtain ⟨cl, A, r1, r2, r3⟩ := A
  exact Go.of (fun t q => X.caload hx (j := j) (v := .int (f i)) (by rw [eT]; exact A.1) (State.isArrayOf_alike hZ.alike A.2.1) A.2.2 (in_of hj hi r1) (by rw [clamp_of hj]; exact r3 i hi) (g := mkF m pc Ls (.int j :: .ref a :: st)) rfl rfl (hb hby hd) t q) k
theorem Go.laload (C : Cx p s m meth c Z bytes own ret maxL) (X : On p l e R s m args below meth c n0 T h cells slots) {a : Addr} {n : Nat} {f : Nat → Int64} {j : Int32} {i : Nat} {w : Int64} (A : AJ Z h a n f) (hj : j.toInt = (i : Int)) (hi : i < n) (hw : f i = w) (hd : decode bytes pc = .ok (.laload, 1)) (hp : pc + 1 = pc') (k : Go p e below s n0 rc rs P T (mkF m pc' Ls (.long w :: st))) : Go p e below s n0 rc rs P T (mkF m pc Ls (.int j :: .ref a :: st)) := by
  obtain ⟨locs, X, eT, N, hn⟩ := X; obtain ⟨hx, hZ, hby, hown, hml, hlk, hrt⟩ := C; subst hp hw
  obtain ⟨cl, A, r1, r2, r3⟩ := A
  exact Go.of (fun t q => X.laload hx (j := j) (v := .long (f i)) (by rw [eT]; exact A.1) (State.isArrayOf_alike hZ.alike A.2.1) A.2.2 (in_of hj hi r1) (by rw [clamp_of hj]; exact r3 i hi) (g := mkF m pc Ls (.int j :: .ref a :: st)) rfl rfl (hb hby hd) t q) k
theorem Go.iastore (C : Cx p s m meth c Z bytes own ret maxL) (X : On p l e R s m args below meth c n0 T h cells slots) {a : Addr} {n : Nat} {f : Nat → Int32} {j x x' : Int32} {i : Nat} (A : AI Z h a .int n f) (hj : j.toInt = (i : Int)) (hi : i < n) (hv : x = x') (ha : n0 ≤ a) (hd : decode bytes pc = .ok (.iastore, 1)) (hp : pc + 1 = pc')
    (k : ∀ T' h', On p l e R s m args below meth c n0 T' h' cells slots → Wr h h' a i (.int x') → AI Z h' a .int n (fun q => if q = i then x' else f q) → Go p e below s n0 rc rs P T' (mkF m pc' Ls st)) : Go p e below s n0 rc rs P T (mkF m pc Ls (.int x :: .int j :: .ref a :: st)) := by
  obtain ⟨locs, X, eT, N, hn⟩ := X; obtain ⟨hx, hZ, hby, hown, hml, hlk, hrt⟩ := C; subst hp hv
  obtain ⟨cl, A', r1, r2, r3⟩ := id A
  obtain ⟨T', h', X', e', W, st'⟩ := RoadKit.stI X hx hZ eT A' (in_of hj hi r1) (g := mkF m pc Ls (.int x :: .int j :: .ref a :: st)) rfl rfl (hb hby hd)
  have N' := Fr.snoc X' N ha
  rw [clamp_of hj] at W
  exact Go.of st' (k T' h' ⟨_, X', e', N', by rw [W.size]; exact hn⟩ W (A.set W))
theorem Go.bastore (C : Cx p s m meth c Z bytes own ret maxL) (X : On p l e R s m args below meth c n0 T h cells slots) {a : Addr} {n : Nat} {f : Nat → Int32} {j x x' : Int32} {i : Nat} (A : AI Z h a .byte n f) (hj : j.toInt = (i : Int)) (hi : i < n) (hv : nar .byte x = x') (ha : n0 ≤ a) (hd : decode bytes pc = .ok (.bastore, 1)) (hp : pc + 1 = pc')
    (k : ∀ T' h', On p l e R s m args below meth c n0 T' h' cells slots → Wr h h' a i (.int x') → AI Z h' a .byte n (fun q => if q = i then x' else f q) → Go p e below s n0 rc rs P T' (mkF m pc' Ls st)) : Go p e below s n0 rc rs P T (mkF m pc Ls (.int x :: .int j :: .ref a :: st)) := by
  obtain ⟨locs, X, eT, N, hn⟩ := X; obtain ⟨hx, hZ, hby, hown, hml, hlk, hrt⟩ := C; subst hp hv
  obtain ⟨cl, A', r1, r2, r3⟩ := id A
  obtain ⟨T', h', X', e', W, st'⟩ := RoadKit.stB X hx hZ eT A' (in_of hj hi r1) (g := mkF m pc Ls (.int x :: .int j :: .ref a :: st)) rfl rfl (hb hby hd)
  have N' := Fr.snoc X' N ha
  rw [clamp_of hj] at W
  exact Go.of st' (k T' h' ⟨_, X', e', N', by rw [W.size]; exact hn⟩ W (A.set W))
theorem Go.castore (C : Cx p s m meth c Z bytes own ret maxL) (X : On p l e R s m args below meth c n0 T h cells slots) {a : Addr} {n : Nat} {f : Nat → Int32} {j x x' : Int32} {i : Nat} (A : AI Z h a .char n f) (hj : j.toInt = (i : Int)) (hi : i < n) (hv : nar .char x = x') (ha : n0 ≤ a) (hd : decode bytes pc = .ok (.castore, 1)) (hp : pc + 1 = pc')
    (k : ∀ T' h', On p l e R s m args below meth c n0 T' h' cells slots → Wr h h' a i (.int x') → AI Z h' a .char n (fun q => if q = i then x' else f q) → Go p e below s n0 rc rs P T' (mkF m pc' Ls st)) : Go p e below s n0 rc rs P T (mkF m pc Ls (.int x :: .int j :: .ref a :: st)) := by
  obtain ⟨locs, X, eT, N, hn⟩ := X; obtain ⟨hx, hZ, hby, hown, hml, hlk, hrt⟩ := C; subst hp hv
  obtain ⟨cl, A', r1, r2, r3⟩ := id A
  obtain ⟨T', h', X', e', W, st'⟩ := RoadKit.stC X hx hZ eT A' (in_of hj hi r1) (g := mkF m pc Ls (.int x :: .int j :: .ref a :: st)) rfl rfl (hb hby hd)
  have N' := Fr.snoc X' N ha
  rw [clamp_of hj] at W
  exact Go.of st' (k T' h' ⟨_, X', e', N', by rw [W.size]; exact hn⟩ W (A.set W))
theorem Go.zastore (C : Cx p s m meth c Z bytes own ret maxL) (X : On p l e R s m args below meth c n0 T h cells slots) {a : Addr} {n : Nat} {f : Nat → Int32} {j x x' : Int32} {i : Nat} (A : AI Z h a .boolean n f) (hj : j.toInt = (i : Int)) (hi : i < n) (hv : nar .boolean x = x') (ha : n0 ≤ a) (hd : decode bytes pc = .ok (.bastore, 1)) (hp : pc + 1 = pc')
    (k : ∀ T' h', On p l e R s m args below meth c n0 T' h' cells slots → Wr h h' a i (.int x') → AI Z h' a .boolean n (fun q => if q = i then x' else f q) → Go p e below s n0 rc rs P T' (mkF m pc' Ls st)) : Go p e below s n0 rc rs P T (mkF m pc Ls (.int x :: .int j :: .ref a :: st)) := by
  obtain ⟨locs, X, eT, N, hn⟩ := X; obtain ⟨hx, hZ, hby, hown, hml, hlk, hrt⟩ := C; subst hp hv
  obtain ⟨cl, A', r1, r2, r3⟩ := id A
  obtain ⟨T', h', X', e', W, st'⟩ := RoadKit.stZ X hx hZ eT A' (in_of hj hi r1) (g := mkF m pc Ls (.int x :: .int j :: .ref a :: st)) rfl rfl (hb hby hd)
  have N' := Fr.snoc X' N ha
  rw [clamp_of hj] at W
  exact Go.of st' (k T' h' ⟨_, X', e', N', by rw [W.size]; exact hn⟩ W (A.set W))
theorem Go.lastore (C : Cx p s m meth c Z bytes own ret maxL) (X : On p l e R s m args below meth c n0 T h cells slots) {a : Addr} {n : Nat} {f : Nat → Int64} {j : Int32} {x : Int64} {i : Nat} (A : AJ Z h a n f) (hj : j.toInt = (i : Int)) (hi : i < n) (ha : n0 ≤ a) (hd : decode bytes pc = .ok (.lastore, 1)) (hp : pc + 1 = pc')
    (k : ∀ T' h', On p l e R s m args below meth c n0 T' h' cells slots → Wr h h' a i (.long x) → AJ Z h' a n (fun q => if q = i then x else f q) → Go p e below s n0 rc rs P T' (mkF m pc' Ls st)) : Go p e below s n0 rc rs P T (mkF m pc Ls (.long x :: .int j :: .ref a :: st)) := by
  obtain ⟨locs, X, eT, N, hn⟩ := X; obtain ⟨hx, hZ, hby, hown, hml, hlk, hrt⟩ := C; subst hp
  obtain ⟨cl, A', r1, r2, r3⟩ := id A
  obtain ⟨T', h', X', e', W, st'⟩ := RoadKit.stJ X hx hZ eT A' (in_of hj hi r1) (g := mkF m pc Ls (.long x :: .int j :: .ref a :: st)) rfl rfl (hb hby hd)
  have N' := Fr.snoc X' N ha
  rw [clamp_of hj] at W
  exact Go.of st' (k T' h' ⟨_, X', e', N', by rw [W.size]; exact hn⟩ W (A.set W))
def AR (Z : State) (h : Heap) (a : Addr) (ty : FieldType) (n : Nat) (f : Nat → Value) : Prop := ∃ cl : Cell, Arr Z h a cl ty ∧ cl.slots.size = n ∧ n < 2 ^ 31 ∧ (∀ i, i < n → cl.slots[i]? = some (f i)) ∧ FitC Z cl
theorem AR.lt {a : Addr} {ty : FieldType} {n : Nat} {f : Nat → Value} (F : AR Z h a ty n f) : a < h.size := by obtain ⟨c, A, -⟩ := F; exact A.lt
theorem AR.ext {h' : Heap} {a : Addr} {ty : FieldType} {n : Nat} {f : Nat → Value} (F : AR Z h a ty n f) (E : Ext h h') : AR Z h' a ty n f := by obtain ⟨c, A, r⟩ := F; exact ⟨c, A.ext E, r⟩
theorem AR.other {h' : Heap} {a b : Addr} {sl : Nat} {v : Value} {ty : FieldType} {n : Nat} {f : Nat → Value} (F : AR Z h b ty n f) (W : Wr h h' a sl v) (q : b ≠ a) : AR Z h' b ty n f := by obtain ⟨c, A, r⟩ := F; exact ⟨c, A.other W q, r⟩
theorem AR.keep {h' : Heap} {a : Addr} {ws : List Addr} {ty : FieldType} {n : Nat} {f : Nat → Value} (F : AR Z h a ty n f) (K : Keep h h' ws) (q : a ∉ ws) : AR Z h' a ty n f := by obtain ⟨c, A, r⟩ := F; exact ⟨c, ⟨K.2.1 a c A.1 q, A.2⟩, r⟩
theorem Go.alenR (C : Cx p s m meth c Z bytes own ret maxL) (X : On p l e R s m args below meth c n0 T h cells slots) {a : Addr} {ty : FieldType} {n : Nat} {f : Nat → Value} {z : Int32} (A : AR Z h a ty n f) (hz : z.toInt = (n : Int)) (hd : decode bytes pc = .ok (.arraylength, 1)) (hp : pc + 1 = pc') (k : Go p e below s n0 rc rs P T (mkF m pc' Ls (.int z :: st))) : Go p e below s n0 rc rs P T (mkF m pc Ls (.ref a :: st)) := by
  obtain ⟨locs, X, eT, N, hn⟩ := X; obtain ⟨hx, hZ, hby, hown, hml, hlk, hrt⟩ := C; subst hp
  obtain ⟨cl, A, r1, r2, r3⟩ := A
  refine Go.of (fun t q => X.arraylength hx (by rw [eT]; exact A.1) (State.isArrayOf_alike hZ.alike A.2.1) (g := mkF m pc Ls (.ref a :: st)) rfl rfl (hb hby hd) t ?_) k
  rw [r1, len32 hz]; exact q
theorem Go.aaload (C : Cx p s m meth c Z bytes own ret maxL) (X : On p l e R s m args below meth c n0 T h cells slots) {a : Addr} {ty : FieldType} {n : Nat} {f : Nat → Value} {j : Int32} {i : Nat} {w : Value} (A : AR Z h a ty n f) (hty : ty.isReference = true) (hj : j.toInt = (i : Int)) (hi : i < n) (hw : f i = w) (hd : decode bytes pc = .ok (.aaload, 1)) (hp : pc + 1 = pc') (k : Go p e below s n0 rc rs P T (mkF m pc' Ls (w :: st))) : Go p e below s n0 rc rs P T (mkF m pc Ls (.int j :: .ref a :: st)) := by
  obtain ⟨locs, X, eT, N, hn⟩ := X; obtain ⟨hx, hZ, hby, hown, hml, hlk, hrt⟩ := C; subst hp hw
  obtain ⟨cl, A, r1, r2, r3, r4⟩ := A
  exact Go.of (fun t q => X.aaload hx (j := j) (v := f i) (by rw [eT]; exact A.1) (State.isArrayOf_alike hZ.alike A.2.1) hty A.2.2 (in_of hj hi r1) (by rw [clamp_of hj]; exact r3 i hi) (g := mkF m pc Ls (.int j :: .ref a :: st)) rfl rfl (hb hby hd) t q) k
theorem Go.cloneA (C : Cx p s m meth c Z bytes own ret maxL) (X : On p l e R s m args below meth c n0 T h cells slots) {ad : String} {i : Nat} {a : Addr} {ty : FieldType} {n W cap : Nat} {f : Nat → Value}
    (w1 : (Cond.methodLink own i ⟨ad, "clone", "()Ljava/lang/Object;"⟩).before a0 Z = true) (w2 : (Cond.sameMethod ad "java/lang/Object" "clone" "()Ljava/lang/Object;").before a0 Z = true) (w3 : (Cond.native ⟨"java/lang/Object", "clone", "()Ljava/lang/Object;"⟩).before a0 Z = true)
    (w4 : (Cond.instanceMethod ⟨"java/lang/Object", "clone", "()Ljava/lang/Object;"⟩).before a0 Z = true) (w5 : (Cond.selects ad ⟨ad, "clone", "()Ljava/lang/Object;"⟩ ⟨"java/lang/Object", "clone", "()Ljava/lang/Object;"⟩).before a0 Z = true) (w6 : (Cond.castable ad "java/lang/Cloneable").before a0 Z = true)
    (A : AR Z h a ty n f) (E : Exa Z h a ad) (hsz : Ls.size = maxL) (hd : decode bytes pc = .ok (.invokevirtual i, 3)) (hf : 1 ≤ R.frames) (hW : (st.map fun v => v.category).sum ≤ W) (hl : W + 14 ≤ R.locals) (hcap : n ≤ cap) (hc : cells + 1 ≤ R.cells) (hsl : slots + cap ≤ R.slots) (hp : pc + 3 = pc')
    (k : ∀ T' h' b, On p l e R s m args below meth c n0 T' h' (cells + 1) (slots + cap) → b = h.size → Ext h h' → AR Z h' b ty n f → Exa Z h' b ad → n0 ≤ b → Go p e below s n0 rc rs P T' (mkF m pc' Ls (.ref b :: st))) : Go p e below s n0 rc rs P T (mkF m pc Ls (.ref a :: st)) := by
  obtain ⟨locs, X, eT, N, hn⟩ := X; obtain ⟨hx, hZ, hby, hown, hml, hlk, hrt⟩ := C; subst hp
  obtain ⟨cl, A, r1, r2, r3, r4⟩ := A
  obtain ⟨T', h', X', e', ex, A', E', st'⟩ := RoadKit.cloneA X hx hZ hown w1 w2 w3 w4 w5 w6 eT A E r4 (g := mkF m pc Ls (.ref a :: st)) rfl (by rw [hml]; exact hsz) rfl (hb hby hd) hf (W := W) (cap := cap) (by simpa using hW) hl (by rw [r1]; exact hcap) hc hsl
  exact Go.of st' (k T' h' h.size ⟨_, X', e', N, Nat.le_trans hn ex.1⟩ rfl ex ⟨cloneOf cl, A', r1, r2, r3, r4⟩ E' hn)
theorem Go.callS (C : Cx p s m meth c Z bytes own ret maxL) (X : On p l e R s m args below meth c n0 T h cells slots) {y : MethodName} {cb : ByteArray} {cm : Nat} {cr : Option FieldType} {rm : Room} {as' : Array Value} {P' : Option Value → Heap → Prop} {i W : Nat} {argsL rest : List Value} (K : Con l Z y cb cm cr rm as' h n0 P') (w1 : (Cond.methodLink own i y).before a0 Z = true) (w2 : (Cond.static y).before a0 Z = true) (w3 : (Cond.initialized y.cls).before a0 Z = true) (w4 : (Cond.code y cb cm cr).before a0 Z = true) (hy : y.cls ≠ "java/lang/invoke/MethodHandle" ∧ y.cls ≠ "java/lang/invoke/VarHandle")
    (has : argsL.toArray = as') (hst : st = argsL.reverse ++ rest) (hlen : ∀ sig, parseMethodDescriptor y.desc = some sig → argsL.length = sig.parameters.length) (hsz : Ls.size = maxL) (hW : (rest.map fun v => v.category).sum ≤ W) (hf : rm.frames + 1 ≤ R.frames) (hlo : W + (cm + 11) + rm.locals ≤ R.locals) (hce : cells + rm.cells ≤ R.cells) (hsl : slots + rm.slots ≤ R.slots) (hd : decode bytes pc = .ok (.invokestatic i, 3)) (hp : pc + 3 = pc')
    (hgrow : ∀ v h', P' v h' → h.size ≤ h'.size)
    (k : ∀ T' h' v, On p l e R s m args below meth c n0 T' h' (cells + rm.cells) (slots + rm.slots) → P' v h' → Go p e below s n0 rc rs P T' (mkF m pc' Ls (v.toList ++ rest))) : Go p e below s n0 rc rs P T (mkF m pc Ls st) := by
  obtain ⟨locs, X, eT, N, hn⟩ := X; obtain ⟨hx, hZ, hby, hown, hml, hlk, hrt⟩ := C; subst hp has hst
  obtain ⟨v, _, ⟨T', L', k', n'⟩, -, X', ⟨Lc, hQ, l', y', z'⟩, st'⟩ := Jvm.LawKit.callS X hx (y := y) hown (mvT hZ w1) (mvT hZ w2) (mvT hZ w3) (mvT hZ w4) hy (K.back (W := W) hZ w4 w3 hf hlo) (g := mkF m pc Ls (argsL.reverse ++ rest)) rfl (by rw [hml]; exact hsz) (argsL := argsL) (rest := rest) hlen rfl (by simpa using hW) (hb hby hd) (fun _ _ => ⟨rfl, eT, hce, hsl⟩)
  dsimp only [Pt.U, Pt.locs, Pt.cells, Pt.slots] at X' l' y' z' st' hQ
  subst l' y' z'
  exact Go.of st' (k T' _ v ⟨_, X', rfl, Fr.app N hQ.2, Nat.le_trans hn (hgrow _ _ hQ.1)⟩ hQ.1)
theorem Go.callI (C : Cx p s m meth c Z bytes own ret maxL) (X : On p l e R s m args below meth c n0 T h cells slots) {y : MethodName} {cb : ByteArray} {cm : Nat} {cr : Option FieldType} {rm : Room} {as' : Array Value} {P' : Option Value → Heap → Prop} {i W : Nat} {argsL rest : List Value} (K : Con l Z y cb cm cr rm as' h n0 P') {a : Addr} (hy1 : y.name = "<init>") (hcr : cr = none) (w1 : (Cond.methodLink own i y).before a0 Z = true) (w2 : (Cond.instanceMethod y).before a0 Z = true) (w3 : (Cond.initialized y.cls).before a0 Z = true) (w4 : (Cond.code y cb cm cr).before a0 Z = true) (hy : y.cls ≠ "java/lang/invoke/MethodHandle" ∧ y.cls ≠ "java/lang/invoke/VarHandle")
    (has : (.ref a :: argsL).toArray = as') (hst : st = argsL.reverse ++ .ref a :: rest) (hlen : ∀ sig, parseMethodDescriptor y.desc = some sig → argsL.length = sig.parameters.length) (hsz : Ls.size = maxL) (hW : (rest.map fun v => v.category).sum ≤ W) (hf : rm.frames + 1 ≤ R.frames) (hlo : W + (cm + 11) + rm.locals ≤ R.locals) (hce : cells + rm.cells ≤ R.cells) (hsl : slots + rm.slots ≤ R.slots) (hd : decode bytes pc = .ok (.invokespecial i, 3)) (hp : pc + 3 = pc')
    (hgrow : ∀ v h', P' v h' → h.size ≤ h'.size)
    (k : ∀ T' h' v, On p l e R s m args below meth c n0 T' h' (cells + rm.cells) (slots + rm.slots) → P' v h' → Go p e below s n0 rc rs P T' (mkF m pc' Ls (v.toList ++ rest))) : Go p e below s n0 rc rs P T (mkF m pc Ls st) := by
  obtain ⟨locs, X, eT, N, hn⟩ := X; obtain ⟨hx, hZ, hby, hown, hml, hlk, hrt⟩ := C; subst hp has hst hcr
  obtain ⟨v, _, ⟨T', L', k', n'⟩, -, X', ⟨Lc, hQ, l', y', z'⟩, st'⟩ := X.specialBack hx (y := y) hy1 hown (mvT hZ w1) (mvT hZ w2) (mvT hZ w4) hy (K.back (W := W) hZ w4 w3 hf hlo) (g := mkF m pc Ls (argsL.reverse ++ .ref a :: rest)) rfl (by rw [hml]; exact hsz) (Steps.refl _) (a := a) (argsL := argsL) (rest := rest) hlen rfl (by simpa using hW) (hb hby hd) (fun _ _ => ⟨rfl, eT, hce, hsl⟩)
  dsimp only [Pt.U, Pt.locs, Pt.cells, Pt.slots] at X' l' y' z' st' hQ
  subst l' y' z'
  exact Go.tr st' (k T' _ v ⟨_, X', rfl, Fr.app N hQ.2, Nat.le_trans hn (hgrow _ _ hQ.1)⟩ hQ.1)
theorem Go.callV (C : Cx p s m meth c Z bytes own ret maxL) (X : On p l e R s m args below meth c n0 T h cells slots) {y : MethodName} {cb : ByteArray} {cm : Nat} {cr : Option FieldType} {rm : Room} {as' : Array Value} {P' : Option Value → Heap → Prop} {i W : Nat} {argsL rest : List Value} (K : Con l Z y cb cm cr rm as' h n0 P') {y0 : MethodName} {a : Addr} {Ck : String} (E : Exa Z h a Ck) (nf : NotFace s y0) (w1 : (Cond.methodLink own i y0).before a0 Z = true) (w2 : (Cond.declares y0).before a0 Z = true) (w5 : (Cond.selects Ck y0 y).before a0 Z = true) (w6 : (Cond.instanceMethod y).before a0 Z = true) (w3 : (Cond.initialized y.cls).before a0 Z = true) (w4 : (Cond.code y cb cm cr).before a0 Z = true) (hy : y0.cls ≠ "java/lang/invoke/MethodHandle" ∧ y0.cls ≠ "java/lang/invoke/VarHandle")
    (has : (.ref a :: argsL).toArray = as') (hst : st = argsL.reverse ++ .ref a :: rest) (hlen : ∀ sig, parseMethodDescriptor y0.desc = some sig → argsL.length = sig.parameters.length) (hsz : Ls.size = maxL) (hW : (rest.map fun v => v.category).sum ≤ W) (hf : rm.frames + 1 ≤ R.frames) (hlo : W + (cm + 11) + rm.locals ≤ R.locals) (hce : cells + rm.cells ≤ R.cells) (hsl : slots + rm.slots ≤ R.slots) (hd : decode bytes pc = .ok (.invokevirtual i, 3)) (hp : pc + 3 = pc')
    (hgrow : ∀ v h', P' v h' → h.size ≤ h'.size)
    (k : ∀ T' h' v, On p l e R s m args below meth c n0 T' h' (cells + rm.cells) (slots + rm.slots) → P' v h' → Go p e below s n0 rc rs P T' (mkF m pc' Ls (v.toList ++ rest))) : Go p e below s n0 rc rs P T (mkF m pc Ls st) := by
  obtain ⟨locs, X, eT, N, hn⟩ := X; obtain ⟨hx, hZ, hby, hown, hml, hlk, hrt⟩ := C; subst hp has hst
  obtain ⟨cq, kq, qa, qb, qc⟩ := isOf hZ eT E
  obtain ⟨v, _, ⟨T', L', k', n'⟩, -, X', ⟨Lc, hQ, l', y', z'⟩, st'⟩ := X.virtualBack hx (y := y0) (z := y) hown (mvT hZ w1) (mvT hZ w2) nf (mvT hZ w5) (mvT hZ w6) hy (K.back (W := W) hZ w4 w3 hf hlo) qa qc (g := mkF m pc Ls (argsL.reverse ++ .ref a :: rest)) rfl (by rw [hml]; exact hsz) (Steps.refl _) (argsL := argsL) (rest := rest) hlen rfl (by simpa using hW) (hb hby hd) (fun _ _ => ⟨rfl, eT, hce, hsl⟩)
  dsimp only [Pt.U, Pt.locs, Pt.cells, Pt.slots] at X' l' y' z' st' hQ
  subst l' y' z'
  exact Go.tr st' (k T' _ v ⟨_, X', rfl, Fr.app N hQ.2, Nat.le_trans hn (hgrow _ _ hQ.1)⟩ hQ.1)
theorem own_selp {y : MethodName} {kk : Nat} (hZ : Z.Warmed39 s.vm) (wi : (Cond.instantiable y.cls kk).before a0 Z = true) (w2 : (Cond.instanceMethod y).before a0 Z = true) (w6 : (Cond.privateMethod y).before a0 Z = true) (hy : y.cls ≠ "java/lang/invoke/MethodHandle" ∧ y.cls ≠ "java/lang/invoke/VarHandle") : (Cond.selects y.cls y y).before args s = true := by
  have wi' : (Cond.instantiable y.cls kk).before args s = true := mvT hZ wi
  obtain ⟨c2, k2, i1, i2, i3, i4, -⟩ := Cond.instantiable_spec wi'
  exact Jvm.Stand.selects_self_of_private i1 i2 (by simp only [Bool.or_eq_false_iff] at i4; exact i4.1) (Cond.privateMethod_at (mvP hZ w6 (args := #[]))) (mvT hZ w2) hy
theorem Go.callP (C : Cx p s m meth c Z bytes own ret maxL) (X : On p l e R s m args below meth c n0 T h cells slots) {y : MethodName} {cb : ByteArray} {cm : Nat} {cr : Option FieldType} {rm : Room} {as' : Array Value} {P' : Option Value → Heap → Prop} {i W : Nat} {argsL rest : List Value} (K : Con l Z y cb cm cr rm as' h n0 P') {a : Addr} {Ck : String} (E : Exa Z h a Ck) (w1 : (Cond.methodLink own i y).before a0 Z = true) (w2 : (Cond.instanceMethod y).before a0 Z = true) {kk : Nat} (w5 : (Cond.instantiable y.cls kk).before a0 Z = true) (w6 : (Cond.privateMethod y).before a0 Z = true) (w3 : (Cond.initialized y.cls).before a0 Z = true) (w4 : (Cond.code y cb cm cr).before a0 Z = true) (hy : y.cls ≠ "java/lang/invoke/MethodHandle" ∧ y.cls ≠ "java/lang/invoke/VarHandle")
    (has : (.ref a :: argsL).toArray = as') (hst : st = argsL.reverse ++ .ref a :: rest) (hlen : ∀ sig, parseMethodDescriptor y.desc = some sig → argsL.length = sig.parameters.length) (hsz : Ls.size = maxL) (hW : (rest.map fun v => v.category).sum ≤ W) (hf : rm.frames + 1 ≤ R.frames) (hlo : W + (cm + 11) + rm.locals ≤ R.locals) (hce : cells + rm.cells ≤ R.cells) (hsl : slots + rm.slots ≤ R.slots) (hd : decode bytes pc = .ok (.invokevirtual i, 3)) (hp : pc + 3 = pc')
    (hgrow : ∀ v h', P' v h' → h.size ≤ h'.size)
    (k : ∀ T' h' v, On p l e R s m args below meth c n0 T' h' (cells + rm.cells) (slots + rm.slots) → P' v h' → Go p e below s n0 rc rs P T' (mkF m pc' Ls (v.toList ++ rest))) : Go p e below s n0 rc rs P T (mkF m pc Ls st) := by
  obtain ⟨locs, X, eT, N, hn⟩ := X; obtain ⟨hx, hZ, hby, hown, hml, hlk, hrt⟩ := C; subst hp has hst
  obtain ⟨cq, qa, qb⟩ := E.cell
  obtain ⟨v, _, ⟨T', L', k', n'⟩, -, X', ⟨Lc, hQ, l', y', z'⟩, st'⟩ := X.privateBack hx (y := y) hown (mvT hZ w1) (mvT hZ w2) (own_selp hZ w5 w2 w6 hy) (Cond.privateMethod_at (mvP hZ w6 (args := #[]))) (mvT hZ w4) hy (K.back (W := W) hZ w4 w3 hf hlo) (g := mkF m pc Ls (argsL.reverse ++ .ref a :: rest)) rfl (by rw [hml]; exact hsz) (Steps.refl _) (a := a) (by rw [eT]; exact qa) qb (argsL := argsL) (rest := rest) hlen rfl (by simpa using hW) (hb hby hd) (fun _ _ => ⟨rfl, eT, hce, hsl⟩)
  dsimp only [Pt.U, Pt.locs, Pt.cells, Pt.slots] at X' l' y' z' st' hQ
  subst l' y' z'
  exact Go.tr st' (k T' _ v ⟨_, X', rfl, Fr.app N hQ.2, Nat.le_trans hn (hgrow _ _ hQ.1)⟩ hQ.1)
end Own
end Jvm.RoadKit
namespace Jvm.RoadKit
theorem own_iadd {x y : Int32} (h1 : -2147483648 ≤ x.toInt + y.toInt) (h2 : x.toInt + y.toInt < 2147483648) : (x + y).toInt = x.toInt + y.toInt := by
  have h3 := c_iadd x y; have h4 := rng32 (x + y); omega
theorem own_isub {x y : Int32} (h1 : -2147483648 ≤ x.toInt - y.toInt) (h2 : x.toInt - y.toInt < 2147483648) : (x - y).toInt = x.toInt - y.toInt := by
  have h3 := c_isub x y; have h4 := rng32 (x - y); omega
theorem own_imul {x y : Int32} (h1 : -2147483648 ≤ x.toInt * y.toInt) (h2 : x.toInt * y.toInt < 2147483648) : (x * y).toInt = x.toInt * y.toInt := by
  have h3 := c_imul x y; have h4 := rng32 (x * y); omega
theorem own_ladd {x y : Int64} (h1 : -9223372036854775808 ≤ x.toInt + y.toInt) (h2 : x.toInt + y.toInt < 9223372036854775808) : (x + y).toInt = x.toInt + y.toInt := by
  have h3 := c_ladd x y; have h4 := rng64 (x + y); omega
theorem own_lsub {x y : Int64} (h1 : -9223372036854775808 ≤ x.toInt - y.toInt) (h2 : x.toInt - y.toInt < 9223372036854775808) : (x - y).toInt = x.toInt - y.toInt := by
  have h3 := c_lsub x y; have h4 := rng64 (x - y); omega
theorem own_lmul {x y : Int64} (h1 : -9223372036854775808 ≤ x.toInt * y.toInt) (h2 : x.toInt * y.toInt < 9223372036854775808) : (x * y).toInt = x.toInt * y.toInt := by
  have h3 := c_lmul x y; have h4 := rng64 (x * y); omega
theorem own_ilt {x y : Int32} : x < y ↔ x.toInt < y.toInt := Int32.lt_iff_toInt_lt
theorem own_jlt {x y : Int64} : x < y ↔ x.toInt < y.toInt := Int64.lt_iff_toInt_lt
theorem own_ieq {x y : Int32} : x = y ↔ x.toInt = y.toInt := Int32.toInt_inj.symm
theorem own_jeq {x y : Int64} : x = y ↔ x.toInt = y.toInt := Int64.toInt_inj.symm
theorem own_nilt {x y : Int32} (h : ¬ x < y) : ¬ x.toInt < y.toInt := fun q => h (own_ilt.mpr q)
theorem own_njlt {x y : Int64} (h : ¬ x < y) : ¬ x.toInt < y.toInt := fun q => h (own_jlt.mpr q)
theorem own_nieq {x y : Int32} (h : ¬ x = y) : ¬ x.toInt = y.toInt := fun q => h (own_ieq.mpr q)
theorem own_njeq {x y : Int64} (h : ¬ x = y) : ¬ x.toInt = y.toInt := fun q => h (own_jeq.mpr q)
theorem own_inc {x y : Int32} (h : x < y) : (x + (1 : Int32)).toInt = x.toInt + 1 := by
  rw [own_ilt] at h
  have h1 := rng32 x; have h2 := rng32 y
  have e : (1 : Int32).toInt = 1 := rfl
  rw [own_iadd (by omega) (by omega), e]
theorem own_dec {x y : Int32} (h : y < x) : (x + (-1 : Int32)).toInt = x.toInt - 1 := by
  rw [own_ilt] at h
  have h1 := rng32 x; have h2 := rng32 y
  have e : (-1 : Int32).toInt = -1 := rfl
  rw [own_iadd (by omega) (by omega), e]; omega
theorem own_nat32 {x : Int32} {n : Nat} (h : x.toInt = (n : Int)) : x = Int32.ofNat n := by
  apply Int32.toInt_inj.mp
  have := rng32 x
  rw [Int32.toInt_ofNat_of_lt (by omega), h]
theorem own_pos31 (x : Int32) : 0 ≤ (x &&& (2147483647 : Int32)).toInt := by
  have h := c_mask x 2147483647 31 (by decide) (by decide)
  rw [h]; exact Int.emod_nonneg _ (by decide)
theorem own_mod (x : Int32) (k : Int32) (d : Int) (hk : k.toInt = d) (hd : 0 < d) : ((x &&& (2147483647 : Int32)) % k).toInt = (x &&& (2147483647 : Int32)).toInt % d ∧ 0 ≤ ((x &&& (2147483647 : Int32)) % k).toInt ∧ ((x &&& (2147483647 : Int32)) % k).toInt < d := by
  have h := (c_irem (x &&& (2147483647 : Int32)) k d hk).1 (own_pos31 x)
  exact ⟨h, by rw [h]; exact Int.emod_nonneg _ (by omega), by rw [h]; exact Int.emod_lt_of_pos _ hd⟩
theorem own_upd {R : Int32 → Prop} {f : Nat → Int32} {x : Int32} {i : Nat} (h : ∀ q, R (f q)) (hx : R x) : ∀ q, R ((fun q => if q = i then x else f q) q) := fun q => by
  by_cases e : q = i
  · simp only [if_pos e]; exact hx
  · simp only [if_neg e]; exact h q
theorem own_i2b (x : Int32) : -128 ≤ (x.toInt8.toInt32).toInt ∧ (x.toInt8.toInt32).toInt ≤ 127 := by have := c_i2b x; omega
theorem own_b2 (x : Int32) : x.toInt8.toInt32.toInt8.toInt32 = x.toInt8.toInt32 := by rw [Int8.toInt8_toInt32]
theorem own_and3 (x : Int32) : x &&& (3 : Int32) = 0 ∨ x &&& (3 : Int32) = 1 ∨ x &&& (3 : Int32) = 2 ∨ x &&& (3 : Int32) = 3 := by
  have h := c_mask x 3 2 (by decide) (by decide)
  have z0 : (0 : Int32).toInt = 0 := rfl
  have z1 : (1 : Int32).toInt = 1 := rfl
  have z2 : (2 : Int32).toInt = 2 := rfl
  have z3 : (3 : Int32).toInt = 3 := rfl
  have h1 : ((2 ^ 2 : Nat) : Int) = 4 := rfl
  rw [h1] at h
  rw [own_ieq, own_ieq, own_ieq, own_ieq, z0, z1, z2, z3]
  omega
theorem own_and1 (x : Int32) : x &&& (1 : Int32) = 0 ∨ x &&& (1 : Int32) = 1 := by
  have h := c_mask x 1 1 (by decide) (by decide)
  have z0 : (0 : Int32).toInt = 0 := rfl
  have z1 : (1 : Int32).toInt = 1 := rfl
  have h1 : ((2 ^ 1 : Nat) : Int) = 2 := rfl
  rw [h1] at h
  rw [own_ieq, own_ieq, z0, z1]
  omega
end Jvm.RoadKit
namespace Jvm.Pilot.@@N@@
open Jvm Jvm.ClassFile Sem Op Lib Jvm.Free Jvm.Stand Jvm.LawKit Jvm.RoadKit Bundle Jvm.Pilot.@@N@@.Jvm.D
def own_dg (v k : Nat) : Int32 := Int32.ofNat (48 + v / 10 ^ k % 10)
theorem own_dg_toInt (v k : Nat) : (own_dg v k).toInt = ((48 + v / 10 ^ k % 10 : Nat) : Int) := by
  unfold own_dg
  have := Nat.mod_lt (v / 10 ^ k) (by decide : 0 < 10)
  rw [Int32.toInt_ofNat_of_lt (by omega)]
def own_len (v l L : Nat) : Prop := 1 ≤ L ∧ v < 10 ^ L ∧ l ≤ L ∧ ∀ k, 1 ≤ k → k < L → v < 10 ^ k → k < l
def own_pb (f : Nat → Int32) (v e k : Nat) : Nat → Int32 := fun i => if e - k ≤ i ∧ i < e then own_dg v (e - 1 - i) else f i
theorem own_pb0 (f : Nat → Int32) (v e n : Nat) : ∀ i, i < n → f i = own_pb f v e 0 i := fun i _ => by
  unfold own_pb; rw [if_neg (by omega)]
theorem own_pb1 (f : Nat → Int32) (v e k n : Nat) (h : k < e) : ∀ i, i < n → (if i = e - k - 1 then own_dg v k else own_pb f v e k i) = own_pb f v e (k + 1) i := fun i _ => by
  unfold own_pb
  by_cases q : i = e - k - 1
  · rw [if_pos q, if_pos (by omega)]; congr 1; omega
  · rw [if_neg q]
    by_cases u : e - k ≤ i ∧ i < e
    · rw [if_pos u, if_pos (by omega)]
    · rw [if_neg u, if_neg (by omega)]
theorem own_least (p : Nat → Prop) : ∀ B, p B → ∃ L, L ≤ B ∧ p L ∧ ∀ k, k < L → ¬ p k := by
  intro B
  induction B using Nat.strongRecOn with
  | _ B ih =>
    intro hB
    by_cases h : ∃ k, k < B ∧ p k
    · obtain ⟨k, hk, pk⟩ := h
      obtain ⟨L, h1, h2, h3⟩ := ih k hk pk
      exact ⟨L, by omega, h2, h3⟩
    · exact ⟨B, Nat.le_refl _, hB, fun k hk pk => h ⟨k, hk, pk⟩⟩
theorem own_ex (v l B : Nat) (hv : v < 10 ^ B) (hl : l ≤ B) (hB : 1 ≤ B) : ∃ L, L ≤ B ∧ own_len v l L := by
  obtain ⟨L, h1, ⟨h2, h3, h4⟩, h5⟩ := own_least (fun k => 1 ≤ k ∧ v < 10 ^ k ∧ l ≤ k) B ⟨hB, hv, hl⟩
  refine ⟨L, h1, h2, h3, h4, fun k a b d => ?_⟩
  have := h5 k b
  exact Nat.lt_of_not_le fun q => this ⟨a, d, q⟩
theorem own_more {v l L k : Nat} (h : own_len v l L) (hk : 0 < v / 10 ^ k) : k < L := by
  refine Nat.lt_of_not_le fun q => ?_
  have h1 : 10 ^ L ≤ 10 ^ k := Nat.pow_le_pow_right (by decide) q
  have h2 : v / 10 ^ k = 0 := Nat.div_eq_of_lt (Nat.lt_of_lt_of_le h.2.1 h1)
  omega
theorem own_done {v l L k : Nat} (h : own_len v l L) (hk : k < L) (h0 : v / 10 ^ (k + 1) = 0) (hl : l ≤ k + 1) : k + 1 = L := by
  have hv : v < 10 ^ (k + 1) := (Nat.div_eq_zero_iff_lt (Nat.pow_pos (by decide))).mp h0
  have := h.2.2.2 (k + 1)
  omega
theorem own_digit {q : Int64} {v k : Nat} (hq : q.toInt = ((v / 10 ^ k : Nat) : Int)) : nar .byte ((((48 : Int64) + (q % (10 : Int64)))).toInt32).toInt8.toInt32 = own_dg v k := by
  apply Int32.toInt_inj.mp
  rw [own_dg_toInt]
  generalize v / 10 ^ k = N at hq ⊢
  have e10 : (10 : Int64).toInt = 10 := rfl
  have e48 : (48 : Int64).toInt = 48 := rfl
  have h1 : (q % (10 : Int64)).toInt = q.toInt % 10 := by
    rw [Int64.toInt_mod, e10]; exact Int.tmod_eq_emod_of_nonneg (by omega)
  have h2 : ((48 : Int64) + (q % (10 : Int64))).toInt = 48 + q.toInt % 10 := by rw [own_ladd (by omega) (by omega), h1, e48]
  have h3 := c_l2i ((48 : Int64) + (q % (10 : Int64)))
  have h4 := rng32 (((48 : Int64) + (q % (10 : Int64))).toInt32)
  have h5 := c_i2b (((48 : Int64) + (q % (10 : Int64))).toInt32)
  show ((((((48 : Int64) + (q % (10 : Int64)))).toInt32).toInt8.toInt32).toInt8.toInt32).toInt = _
  rw [own_b2]
  omega
theorem own_div10 {q : Int64} {v k : Nat} (hq : q.toInt = ((v / 10 ^ k : Nat) : Int)) : (q / (10 : Int64)).toInt = ((v / 10 ^ (k + 1) : Nat) : Int) := by
  rw [Nat.pow_succ, ← Nat.div_div_eq_div_mul]
  generalize v / 10 ^ k = N at hq ⊢
  have h := (c_ldiv q 10 10 rfl (by decide)).1 (by omega)
  rw [h, hq]; omega
theorem own_st {u : Int32} {e k L : Nat} (h : u.toInt = (e : Int) - (k : Int)) (h1 : k < L) (h2 : L ≤ e) (h3 : e < 1000) : (u + (-1 : Int32)).toInt = (e : Int) - ((k + 1 : Nat) : Int) := by
  have e1 : (-1 : Int32).toInt = -1 := rfl
  rw [own_iadd (by omega) (by omega), e1]; omega
theorem own_z64 : (0 : Int64).toInt = 0 := rfl
theorem own_zc {x : Int64} {N : Nat} (hq : x.toInt = (N : Int)) (h : ¬ (0 : Int64) < x) : N = 0 := by
  have := own_njlt h
  rw [hq, own_z64] at this; omega
theorem own_pc {x : Int64} {N : Nat} (hq : x.toInt = (N : Int)) (h : (0 : Int64) < x) : 0 < N := by
  have := own_jlt.mp h
  rw [hq, own_z64] at this; omega
theorem own_ic {x y : Int32} {a b : Nat} (hx : x.toInt = (a : Int)) (hy : y.toInt = (b : Int)) (h : x < y) : a < b := by
  have := own_ilt.mp h; rw [hx, hy] at this; omega
theorem own_nc {x y : Int32} {a b : Nat} (hx : x.toInt = (a : Int)) (hy : y.toInt = (b : Int)) (h : ¬ x < y) : b ≤ a := by
  have := own_nilt h; rw [hx, hy] at this; omega
theorem own_sb1 {en u : Int32} {e k L : Nat} (hE : en.toInt = (e : Int)) (h : u.toInt = (e : Int) - (k : Int)) (h1 : k < L) (h2 : L ≤ e) (h3 : e < 1000) : (en - (u + (-1 : Int32))).toInt = ((k + 1 : Nat) : Int) := by
  have h4 := own_st h h1 h2 h3
  rw [own_isub (by rw [hE, h4]; omega) (by rw [hE, h4]; omega), hE, h4]; omega
theorem own_pn0 : plainName "com/example/streamgauge/streamgauge/workloads/Decimal" = true := by first | (simp [plainName, overriddenIn]; done) | decide +kernel
theorem own_ef_rm_put (m : MethodId) (x0 : Int64) (x1 : Int32) (x2 : Addr) (x3 : Int32) : entryFrame m #[(.long x0), (.int x1), (.ref x2), (.int x3)] 8 = mkF m 0 #[.val (.long x0), .second, .val (.int x1), .val (.ref x2), .val (.int x3), .unset, .unset, .unset] [] := by first | (simp [entryFrame, mkF, argsToLocals, Value.category]; done) | rfl
theorem d1_0 : decode prog_126_method_4_code 0 = .ok (.iload 4, 2) := by decide +kernel
theorem d1_2 : decode prog_126_method_4_code 2 = .ok (.istore 5, 2) := by decide +kernel
theorem d1_4 : decode prog_126_method_4_code 4 = .ok (.lload_n 0, 1) := by decide +kernel
theorem d1_5 : decode prog_126_method_4_code 5 = .ok (.lstore 6, 2) := by decide +kernel
theorem d1_7 : decode prog_126_method_4_code 7 = .ok (.aload_n 3, 1) := by decide +kernel
theorem d1_8 : decode prog_126_method_4_code 8 = .ok (.iinc 5 (-1), 3) := by decide +kernel
theorem d1_11 : decode prog_126_method_4_code 11 = .ok (.iload 5, 2) := by decide +kernel
theorem d1_13 : decode prog_126_method_4_code 13 = .ok (.ldc2_w 13, 3) := by decide +kernel
theorem d1_16 : decode prog_126_method_4_code 16 = .ok (.lload 6, 2) := by decide +kernel
theorem d1_18 : decode prog_126_method_4_code 18 = .ok (.ldc2_w 15, 3) := by decide +kernel
theorem d1_21 : decode prog_126_method_4_code 21 = .ok (.lrem, 1) := by decide +kernel
theorem d1_22 : decode prog_126_method_4_code 22 = .ok (.ladd, 1) := by decide +kernel
theorem d1_23 : decode prog_126_method_4_code 23 = .ok (.l2i, 1) := by decide +kernel
theorem d1_24 : decode prog_126_method_4_code 24 = .ok (.i2b, 1) := by decide +kernel
theorem d1_25 : decode prog_126_method_4_code 25 = .ok (.bastore, 1) := by decide +kernel
theorem d1_26 : decode prog_126_method_4_code 26 = .ok (.lload 6, 2) := by decide +kernel
theorem d1_28 : decode prog_126_method_4_code 28 = .ok (.ldc2_w 15, 3) := by decide +kernel
theorem d1_31 : decode prog_126_method_4_code 31 = .ok (.ldiv, 1) := by decide +kernel
theorem d1_32 : decode prog_126_method_4_code 32 = .ok (.lstore 6, 2) := by decide +kernel
theorem d1_34 : decode prog_126_method_4_code 34 = .ok (.lload 6, 2) := by decide +kernel
theorem d1_36 : decode prog_126_method_4_code 36 = .ok (.lconst 0, 1) := by decide +kernel
theorem d1_37 : decode prog_126_method_4_code 37 = .ok (.lcmp, 1) := by decide +kernel
theorem d1_38 : decode prog_126_method_4_code 38 = .ok (.ifCond .gt (-31), 3) := by decide +kernel
theorem d1_41 : decode prog_126_method_4_code 41 = .ok (.iload 4, 2) := by decide +kernel
theorem d1_43 : decode prog_126_method_4_code 43 = .ok (.iload 5, 2) := by decide +kernel
theorem d1_45 : decode prog_126_method_4_code 45 = .ok (.isub, 1) := by decide +kernel
theorem d1_46 : decode prog_126_method_4_code 46 = .ok (.iload_n 2, 1) := by decide +kernel
theorem d1_47 : decode prog_126_method_4_code 47 = .ok (.if_icmp .lt (-40), 3) := by decide +kernel
theorem d1_50 : decode prog_126_method_4_code 50 = .ok (.iload 5, 2) := by decide +kernel
theorem d1_52 : decode prog_126_method_4_code 52 = .ok (.ireturn, 1) := by decide +kernel
set_option maxRecDepth 65536 in
set_option maxHeartbeats 40000000 in
theorem rm_put (l : Launch) (Z : State) (a0 : Array Value) (hw : ∀ d ∈ tables_1, d.before a0 Z = true) (q : Int64) (ls : Int32) (t : Addr) (en : Int32) (n : Nat) (f : Nat → Int32) (v : Nat) (l' : Nat) (L : Nat) (ee : Nat) (h0 : Heap) (n0 : Nat) (Z0 : n0 ≤ h0.size) (f0 : AI Z h0 t .byte n f) (f1 : n0 ≤ t) (hq : q.toInt = (v : Int)) (hl : ls.toInt = (l' : Int)) (hL : own_len v l' L) (hE : en.toInt = (ee : Int)) (hLe : L ≤ ee) (hen : ee ≤ n) (hee : ee < 1000) :
    Con l Z (⟨"com/example/streamgauge/streamgauge/workloads/Decimal", "putBefore", "(JI[BI)I"⟩ : MethodName) prog_126_method_4_code 8 (some .int) ({ frames := 0, cells := 0, slots := 0, locals := 0 } : Room) #[(.long q), (.int ls), (.ref t), (.int en)] h0 n0 (fun rv hv => ∃ r : Int32, rv = some (.int r) ∧ Keep h0 hv [t] ∧ AI Z hv t .byte n (own_pb f v ee L) ∧ (r.toInt = (ee : Int) - (L : Int))) := by
  refine Con.enter (plainFor_of_name own_pn0) Z0 ?_
  intro p e s m below meth c T0 C hnm X0
  refine Go.cast (own_ef_rm_put m q ls t en) ?_
  refine Go.iload C X0 (pc' := 2) d1_0 rfl rfl ?_
  refine Go.istore C X0 (pc' := 4) (Ls' := #[.val (.long q), .second, .val (.int ls), .val (.ref t), .val (.int en), .val (.int en), .unset, .unset]) d1_2 rfl rfl ?_
  refine Go.lloadN C X0 (pc' := 5) d1_4 rfl rfl ?_
  refine Go.lstore C X0 (pc' := 7) (Ls' := #[.val (.long q), .second, .val (.int ls), .val (.ref t), .val (.int en), .val (.int en), .val (.long q), .second]) d1_5 rfl rfl ?_
  have Cut7 : ∀ (fuel : Nat) (T_7 : State) (h_7 : Heap) (k : Nat) (u5 : Int32) (u6 : Int64), (L - k) < fuel → (k < L) → (u5.toInt = (ee : Int) - (k : Int)) → (u6.toInt = ((v / 10 ^ k : Nat) : Int)) → On p l e ({ frames := 0, cells := 0, slots := 0, locals := 0 } : Room) s m #[(.long q), (.int ls), (.ref t), (.int en)] below meth c n0 T_7 h_7 0 0 → Keep h0 h_7 [t] → AI Z h_7 t .byte n (own_pb f v ee k) → Go p e below s n0 (({ frames := 0, cells := 0, slots := 0, locals := 0 } : Room)).cells (({ frames := 0, cells := 0, slots := 0, locals := 0 } : Room)).slots (fun rv hv => ∃ r : Int32, rv = some (.int r) ∧ Keep h0 hv [t] ∧ AI Z hv t .byte n (own_pb f v ee L) ∧ (r.toInt = (ee : Int) - (L : Int))) T_7 (mkF m 7 #[.val (.long q), .second, .val (.int ls), .val (.ref t), .val (.int en), .val (.int u5), .val (.long u6), .second] []) := by
    intro fuel
    induction fuel with
    | zero => intro T_7 h_7 k u5 u6 hM_7 hk h5 h6 X_7 K_7 G7_0; exact absurd hM_7 (Nat.not_lt_zero _)
    | succ fuel ih_7 =>
      intro T_7 h_7 k u5 u6 hM_7 hk h5 h6 X_7 K_7 G7_0
      refine Go.aloadN C X_7 (pc' := 8) d1_7 rfl rfl rfl ?_
      refine Go.iinc C X_7 (pc' := 11) (Ls' := #[.val (.long q), .second, .val (.int ls), .val (.ref t), .val (.int en), .val (.int (u5 + (-1 : Int32))), .val (.long u6), .second]) (v' := (u5 + (-1 : Int32))) d1_8 rfl (by rfl) rfl rfl ?_
      refine Go.iload C X_7 (pc' := 13) d1_11 rfl rfl ?_
      refine Go.ldc2 C X_7 (pc' := 16) (hw _ (List.mem_of_getElem? (i := 6) rfl)) d1_13 rfl ?_
      refine Go.lload C X_7 (pc' := 18) d1_16 rfl rfl ?_
      refine Go.ldc2 C X_7 (pc' := 21) (hw _ (List.mem_of_getElem? (i := 7) rfl)) d1_18 rfl ?_
      refine Go.lrem C X_7 (pc' := 22) d1_21 (by decide) rfl ?_
      refine Go.ladd C X_7 (pc' := 23) d1_22 rfl ?_
      refine Go.l2i C X_7 (pc' := 24) d1_23 rfl ?_
      refine Go.i2b C X_7 (pc' := 25) d1_24 rfl ?_
      refine Go.bastore C X_7 (pc' := 26) (i := (ee - k - 1)) (x' := (own_dg v k)) G7_0 (by rw [own_st h5 hk hLe hee]; omega) (by omega) (own_digit h6) f1 d1_25 rfl (fun T1 h1 X1 W1 A1 => ?_)
      have K2 : Keep h0 h1 [t] := K_7.wr W1 (Or.inl (List.mem_of_getElem? (i := 0) rfl))
      refine Go.lload C X1 (pc' := 28) d1_26 rfl rfl ?_
      refine Go.ldc2 C X1 (pc' := 31) (hw _ (List.mem_of_getElem? (i := 7) rfl)) d1_28 rfl ?_
      refine Go.ldiv C X1 (pc' := 32) d1_31 (by decide) rfl ?_
      refine Go.lstore C X1 (pc' := 34) (Ls' := #[.val (.long q), .second, .val (.int ls), .val (.ref t), .val (.int en), .val (.int (u5 + (-1 : Int32))), .val (.long (u6 / (10 : Int64))), .second]) d1_32 rfl rfl ?_
      refine Go.lload C X1 (pc' := 36) d1_34 rfl rfl ?_
      refine Go.lconst C X1 (pc' := 37) (v := (0 : Int64)) d1_36 rfl rfl ?_
      refine Go.lcmp C X1 (pc' := 38) d1_37 rfl ?_
      by_cases c3 : (0 : Int64) < (u6 / (10 : Int64))
      · refine Go.ifYes C X1 (pc' := 7) d1_38 ((if0 _ _).trans (tlt ((lw_gt _ _).mpr c3)).2.2.1) (by decide) (by decide) ?_
        exact ih_7 T1 h1 (k + 1) (u5 + (-1 : Int32)) (u6 / (10 : Int64)) (by omega) (own_more hL (own_pc (own_div10 h6) c3)) (own_st h5 hk hLe hee) (own_div10 h6) X1 K2 (AI.congr A1 (own_pb1 f v ee k n (by omega)))
      · refine Go.ifNo C X1 (pc' := 41) d1_38 ((if0 _ _).trans (flt (fun q => c3 ((lw_gt _ _).mp q))).2.2.1) rfl ?_
        refine Go.iload C X1 (pc' := 43) d1_41 rfl rfl ?_
        refine Go.iload C X1 (pc' := 45) d1_43 rfl rfl ?_
        refine Go.isub C X1 (pc' := 46) d1_45 rfl ?_
        refine Go.iloadN C X1 (pc' := 47) d1_46 rfl rfl ?_
        by_cases c4 : (en - (u5 + (-1 : Int32))) < ls
        · refine Go.icmpYes C X1 (pc' := 7) d1_47 (tlt c4).1 (by decide) (by decide) ?_
          exact ih_7 T1 h1 (k + 1) (u5 + (-1 : Int32)) (u6 / (10 : Int64)) (by omega) (Nat.lt_of_lt_of_le (own_ic (own_sb1 hE h5 hk hLe hee) hl c4) hL.2.2.1) (own_st h5 hk hLe hee) (own_div10 h6) X1 K2 (AI.congr A1 (own_pb1 f v ee k n (by omega)))
        · refine Go.icmpNo C X1 (pc' := 50) d1_47 (flt c4).1 rfl ?_
          refine Go.iload C X1 (pc' := 52) d1_50 rfl rfl ?_
          exact Go.retI C X1 d1_52 ⟨(u5 + (-1 : Int32)), rfl, K2, (by have eL := own_done hL hk (own_zc (own_div10 h6) c3) (own_nc (own_sb1 hE h5 hk hLe hee) hl c4); rw [← eL]; exact AI.congr A1 (own_pb1 f v ee k n (by omega))), (by have eL := own_done hL hk (own_zc (own_div10 h6) c3) (own_nc (own_sb1 hE h5 hk hLe hee) hl c4); rw [← eL]; exact own_st h5 hk hLe hee)⟩ (by decide) (by decide)
  exact Cut7 (_) T0 h0 0 en q (Nat.lt_succ_self _) (by have := hL.1; omega) (by omega) (by rw [hq]; simp) X0 (Keep.refl h0 [t]) (AI.congr f0 (own_pb0 f v ee n))
def own_pwf : Nat → Int64 := (fun q => if q = 18 then (1000000000000000000 : Int64) else (fun q => if q = 17 then (100000000000000000 : Int64) else (fun q => if q = 16 then (10000000000000000 : Int64) else (fun q => if q = 15 then (1000000000000000 : Int64) else (fun q => if q = 14 then (100000000000000 : Int64) else (fun q => if q = 13 then (10000000000000 : Int64) else (fun q => if q = 12 then (1000000000000 : Int64) else (fun q => if q = 11 then (100000000000 : Int64) else (fun q => if q = 10 then (10000000000 : Int64) else (fun q => if q = 9 then (1000000000 : Int64) else (fun q => if q = 8 then (100000000 : Int64) else (fun q => if q = 7 then (10000000 : Int64) else (fun q => if q = 6 then (1000000 : Int64) else (fun q => if q = 5 then (100000 : Int64) else (fun q => if q = 4 then (10000 : Int64) else (fun q => if q = 3 then (1000 : Int64) else (fun q => if q = 2 then (100 : Int64) else (fun q => if q = 1 then (10 : Int64) else (fun q => if q = 0 then (1 : Int64) else (fun _ => 0) q) q) q) q) q) q) q) q) q) q) q) q) q) q) q) q) q) q) q)
theorem own_pwd : ∀ k : Fin 19, own_pwf k.1 = Int64.ofNat (10 ^ k.1) ∧ (Int64.ofNat (10 ^ k.1)).toInt = ((10 ^ k.1 : Nat) : Int) := by decide +kernel
theorem own_pw (kk : Nat) (h : kk ≤ 18) : own_pwf kk = Int64.ofNat (10 ^ kk) := (own_pwd ⟨kk, by omega⟩).1
theorem own_pwi (kk : Nat) (h : kk ≤ 18) : (Int64.ofNat (10 ^ kk)).toInt = ((10 ^ kk : Nat) : Int) := (own_pwd ⟨kk, by omega⟩).2
theorem own_pw0 (kk : Nat) (h : kk ≤ 18) : Int64.ofNat (10 ^ kk) ≠ 0 := fun q => by
  have h1 := own_pwi kk h
  rw [q, own_z64] at h1
  have := Nat.pow_pos (n := kk) (by decide : 0 < 10)
  omega
theorem own_pn1 : plainName "com/example/streamgauge/streamgauge/workloads/DecimalPutBeforePinLaw" = true := by first | (simp [plainName, overriddenIn]; done) | decide +kernel
theorem own_ef_rm_pw (m : MethodId) (x0 : Int32) : entryFrame m #[(.int x0)] 2 = mkF m 0 #[.val (.int x0), .unset] [] := by first | (simp [entryFrame, mkF, argsToLocals, Value.category]; done) | rfl
theorem d3_0 : decode method_2_code 0 = .ok (.bipush 19, 2) := by decide +kernel
theorem d3_2 : decode method_2_code 2 = .ok (.newarray .long, 2) := by decide +kernel
theorem d3_4 : decode method_2_code 4 = .ok (.dup, 1) := by decide +kernel
theorem d3_5 : decode method_2_code 5 = .ok (.iconst 0, 1) := by decide +kernel
theorem d3_6 : decode method_2_code 6 = .ok (.lconst 1, 1) := by decide +kernel
theorem d3_7 : decode method_2_code 7 = .ok (.lastore, 1) := by decide +kernel
theorem d3_8 : decode method_2_code 8 = .ok (.dup, 1) := by decide +kernel
theorem d3_9 : decode method_2_code 9 = .ok (.iconst 1, 1) := by decide +kernel
theorem d3_10 : decode method_2_code 10 = .ok (.ldc2_w 7, 3) := by decide +kernel
theorem d3_13 : decode method_2_code 13 = .ok (.lastore, 1) := by decide +kernel
theorem d3_14 : decode method_2_code 14 = .ok (.dup, 1) := by decide +kernel
theorem d3_15 : decode method_2_code 15 = .ok (.iconst 2, 1) := by decide +kernel
theorem d3_16 : decode method_2_code 16 = .ok (.ldc2_w 9, 3) := by decide +kernel
theorem d3_19 : decode method_2_code 19 = .ok (.lastore, 1) := by decide +kernel
theorem d3_20 : decode method_2_code 20 = .ok (.dup, 1) := by decide +kernel
theorem d3_21 : decode method_2_code 21 = .ok (.iconst 3, 1) := by decide +kernel
theorem d3_22 : decode method_2_code 22 = .ok (.ldc2_w 11, 3) := by decide +kernel
theorem d3_25 : decode method_2_code 25 = .ok (.lastore, 1) := by decide +kernel
theorem d3_26 : decode method_2_code 26 = .ok (.dup, 1) := by decide +kernel
theorem d3_27 : decode method_2_code 27 = .ok (.iconst 4, 1) := by decide +kernel
theorem d3_28 : decode method_2_code 28 = .ok (.ldc2_w 13, 3) := by decide +kernel
theorem d3_31 : decode method_2_code 31 = .ok (.lastore, 1) := by decide +kernel
theorem d3_32 : decode method_2_code 32 = .ok (.dup, 1) := by decide +kernel
theorem d3_33 : decode method_2_code 33 = .ok (.iconst 5, 1) := by decide +kernel
theorem d3_34 : decode method_2_code 34 = .ok (.ldc2_w 15, 3) := by decide +kernel
theorem d3_37 : decode method_2_code 37 = .ok (.lastore, 1) := by decide +kernel
theorem d3_38 : decode method_2_code 38 = .ok (.dup, 1) := by decide +kernel
theorem d3_39 : decode method_2_code 39 = .ok (.bipush 6, 2) := by decide +kernel
theorem d3_41 : decode method_2_code 41 = .ok (.ldc2_w 17, 3) := by decide +kernel
theorem d3_44 : decode method_2_code 44 = .ok (.lastore, 1) := by decide +kernel
theorem d3_45 : decode method_2_code 45 = .ok (.dup, 1) := by decide +kernel
theorem d3_46 : decode method_2_code 46 = .ok (.bipush 7, 2) := by decide +kernel
theorem d3_48 : decode method_2_code 48 = .ok (.ldc2_w 19, 3) := by decide +kernel
theorem d3_51 : decode method_2_code 51 = .ok (.lastore, 1) := by decide +kernel
theorem d3_52 : decode method_2_code 52 = .ok (.dup, 1) := by decide +kernel
theorem d3_53 : decode method_2_code 53 = .ok (.bipush 8, 2) := by decide +kernel
theorem d3_55 : decode method_2_code 55 = .ok (.ldc2_w 21, 3) := by decide +kernel
theorem d3_58 : decode method_2_code 58 = .ok (.lastore, 1) := by decide +kernel
theorem d3_59 : decode method_2_code 59 = .ok (.dup, 1) := by decide +kernel
theorem d3_60 : decode method_2_code 60 = .ok (.bipush 9, 2) := by decide +kernel
theorem d3_62 : decode method_2_code 62 = .ok (.ldc2_w 23, 3) := by decide +kernel
theorem d3_65 : decode method_2_code 65 = .ok (.lastore, 1) := by decide +kernel
theorem d3_66 : decode method_2_code 66 = .ok (.dup, 1) := by decide +kernel
theorem d3_67 : decode method_2_code 67 = .ok (.bipush 10, 2) := by decide +kernel
theorem d3_69 : decode method_2_code 69 = .ok (.ldc2_w 25, 3) := by decide +kernel
theorem d3_72 : decode method_2_code 72 = .ok (.lastore, 1) := by decide +kernel
theorem d3_73 : decode method_2_code 73 = .ok (.dup, 1) := by decide +kernel
theorem d3_74 : decode method_2_code 74 = .ok (.bipush 11, 2) := by decide +kernel
theorem d3_76 : decode method_2_code 76 = .ok (.ldc2_w 27, 3) := by decide +kernel
theorem d3_79 : decode method_2_code 79 = .ok (.lastore, 1) := by decide +kernel
theorem d3_80 : decode method_2_code 80 = .ok (.dup, 1) := by decide +kernel
theorem d3_81 : decode method_2_code 81 = .ok (.bipush 12, 2) := by decide +kernel
theorem d3_83 : decode method_2_code 83 = .ok (.ldc2_w 29, 3) := by decide +kernel
theorem d3_86 : decode method_2_code 86 = .ok (.lastore, 1) := by decide +kernel
theorem d3_87 : decode method_2_code 87 = .ok (.dup, 1) := by decide +kernel
theorem d3_88 : decode method_2_code 88 = .ok (.bipush 13, 2) := by decide +kernel
theorem d3_90 : decode method_2_code 90 = .ok (.ldc2_w 31, 3) := by decide +kernel
theorem d3_93 : decode method_2_code 93 = .ok (.lastore, 1) := by decide +kernel
theorem d3_94 : decode method_2_code 94 = .ok (.dup, 1) := by decide +kernel
theorem d3_95 : decode method_2_code 95 = .ok (.bipush 14, 2) := by decide +kernel
theorem d3_97 : decode method_2_code 97 = .ok (.ldc2_w 33, 3) := by decide +kernel
theorem d3_100 : decode method_2_code 100 = .ok (.lastore, 1) := by decide +kernel
theorem d3_101 : decode method_2_code 101 = .ok (.dup, 1) := by decide +kernel
theorem d3_102 : decode method_2_code 102 = .ok (.bipush 15, 2) := by decide +kernel
theorem d3_104 : decode method_2_code 104 = .ok (.ldc2_w 35, 3) := by decide +kernel
theorem d3_107 : decode method_2_code 107 = .ok (.lastore, 1) := by decide +kernel
theorem d3_108 : decode method_2_code 108 = .ok (.dup, 1) := by decide +kernel
theorem d3_109 : decode method_2_code 109 = .ok (.bipush 16, 2) := by decide +kernel
theorem d3_111 : decode method_2_code 111 = .ok (.ldc2_w 37, 3) := by decide +kernel
theorem d3_114 : decode method_2_code 114 = .ok (.lastore, 1) := by decide +kernel
theorem d3_115 : decode method_2_code 115 = .ok (.dup, 1) := by decide +kernel
theorem d3_116 : decode method_2_code 116 = .ok (.bipush 17, 2) := by decide +kernel
theorem d3_118 : decode method_2_code 118 = .ok (.ldc2_w 39, 3) := by decide +kernel
theorem d3_121 : decode method_2_code 121 = .ok (.lastore, 1) := by decide +kernel
theorem d3_122 : decode method_2_code 122 = .ok (.dup, 1) := by decide +kernel
theorem d3_123 : decode method_2_code 123 = .ok (.bipush 18, 2) := by decide +kernel
theorem d3_125 : decode method_2_code 125 = .ok (.ldc2_w 41, 3) := by decide +kernel
theorem d3_128 : decode method_2_code 128 = .ok (.lastore, 1) := by decide +kernel
theorem d3_129 : decode method_2_code 129 = .ok (.astore_n 1, 1) := by decide +kernel
theorem d3_130 : decode method_2_code 130 = .ok (.aload_n 1, 1) := by decide +kernel
theorem d3_131 : decode method_2_code 131 = .ok (.iload_n 0, 1) := by decide +kernel
theorem d3_132 : decode method_2_code 132 = .ok (.laload, 1) := by decide +kernel
theorem d3_133 : decode method_2_code 133 = .ok (.lreturn, 1) := by decide +kernel
set_option maxRecDepth 65536 in
set_option maxHeartbeats 40000000 in
theorem rm_pw (l : Launch) (Z : State) (a0 : Array Value) (hw : ∀ d ∈ tables_1, d.before a0 Z = true) (k : Int32) (kk : Nat) (h0 : Heap) (n0 : Nat) (Z0 : n0 ≤ h0.size) (hk : k.toInt = (kk : Int)) (hk18 : kk ≤ 18) :
    Con l Z (⟨"com/example/streamgauge/streamgauge/workloads/DecimalPutBeforePinLaw", "pow10", "(I)J"⟩ : MethodName) method_2_code 2 (some .long) ({ frames := 0, cells := 1, slots := 19, locals := 0 } : Room) #[(.int k)] h0 n0 (fun rv hv => rv = some (.long (Int64.ofNat (10 ^ kk))) ∧ Keep h0 hv []) := by
  refine Con.enter (plainFor_of_name own_pn1) Z0 ?_
  intro p e s m below meth c T0 C hnm X0
  refine Go.cast (own_ef_rm_pw m k) ?_
  refine Go.bipush C X0 (pc' := 2) (v := (19 : Int32)) d3_0 rfl rfl ?_
  refine Go.newP C X0 (pc' := 4) (nn := 19) (cap := 19) (hw _ (List.mem_of_getElem? (i := 15) rfl)) d3_2 rfl (by decide) (by decide) (by decide) (by decide) rfl (fun T5 h5 b5 k5 X5 g5 E5 Ar5 N5 => ?_)
  have Q5 : h0.size ≤ b5 := Nat.le_trans (Keep.refl h0 []).1 (Nat.le_of_eq g5.symm)
  have K6 : Keep h0 h5 [] := (Keep.refl h0 []).ext E5
  have A5 : AJ Z h5 b5 19 (fun _ => 0) := AJ.new rfl Ar5
  refine Go.dup C X5 (pc' := 5) d3_4 rfl rfl ?_
  refine Go.iconst C X5 (pc' := 6) (v := (0 : Int32)) d3_5 rfl rfl ?_
  refine Go.lconst C X5 (pc' := 7) (v := (1 : Int64)) d3_6 rfl rfl ?_
  refine Go.lastore C X5 (pc' := 8) (i := 0) A5 rfl (by decide) N5 d3_7 rfl (fun T7 h7 X7 W7 A7 => ?_)
  have K8 : Keep h0 h7 [] := K6.wr W7 (Or.inr Q5)
  refine Go.dup C X7 (pc' := 9) d3_8 rfl rfl ?_
  refine Go.iconst C X7 (pc' := 10) (v := (1 : Int32)) d3_9 rfl rfl ?_
  refine Go.ldc2 C X7 (pc' := 13) (hw _ (List.mem_of_getElem? (i := 16) rfl)) d3_10 rfl ?_
  refine Go.lastore C X7 (pc' := 14) (i := 1) A7 rfl (by decide) N5 d3_13 rfl (fun T9 h9 X9 W9 A9 => ?_)
  have K10 : Keep h0 h9 [] := K8.wr W9 (Or.inr Q5)
  refine Go.dup C X9 (pc' := 15) d3_14 rfl rfl ?_
  refine Go.iconst C X9 (pc' := 16) (v := (2 : Int32)) d3_15 rfl rfl ?_
  refine Go.ldc2 C X9 (pc' := 19) (hw _ (List.mem_of_getElem? (i := 17) rfl)) d3_16 rfl ?_
  refine Go.lastore C X9 (pc' := 20) (i := 2) A9 rfl (by decide) N5 d3_19 rfl (fun T11 h11 X11 W11 A11 => ?_)
  have K12 : Keep h0 h11 [] := K10.wr W11 (Or.inr Q5)
  refine Go.dup C X11 (pc' := 21) d3_20 rfl rfl ?_
  refine Go.iconst C X11 (pc' := 22) (v := (3 : Int32)) d3_21 rfl rfl ?_
  refine Go.ldc2 C X11 (pc' := 25) (hw _ (List.mem_of_getElem? (i := 18) rfl)) d3_22 rfl ?_
  refine Go.lastore C X11 (pc' := 26) (i := 3) A11 rfl (by decide) N5 d3_25 rfl (fun T13 h13 X13 W13 A13 => ?_)
  have K14 : Keep h0 h13 [] := K12.wr W13 (Or.inr Q5)
  refine Go.dup C X13 (pc' := 27) d3_26 rfl rfl ?_
  refine Go.iconst C X13 (pc' := 28) (v := (4 : Int32)) d3_27 rfl rfl ?_
  refine Go.ldc2 C X13 (pc' := 31) (hw _ (List.mem_of_getElem? (i := 19) rfl)) d3_28 rfl ?_
  refine Go.lastore C X13 (pc' := 32) (i := 4) A13 rfl (by decide) N5 d3_31 rfl (fun T15 h15 X15 W15 A15 => ?_)
  have K16 : Keep h0 h15 [] := K14.wr W15 (Or.inr Q5)
  refine Go.dup C X15 (pc' := 33) d3_32 rfl rfl ?_
  refine Go.iconst C X15 (pc' := 34) (v := (5 : Int32)) d3_33 rfl rfl ?_
  refine Go.ldc2 C X15 (pc' := 37) (hw _ (List.mem_of_getElem? (i := 20) rfl)) d3_34 rfl ?_
  refine Go.lastore C X15 (pc' := 38) (i := 5) A15 rfl (by decide) N5 d3_37 rfl (fun T17 h17 X17 W17 A17 => ?_)
  have K18 : Keep h0 h17 [] := K16.wr W17 (Or.inr Q5)
  refine Go.dup C X17 (pc' := 39) d3_38 rfl rfl ?_
  refine Go.bipush C X17 (pc' := 41) (v := (6 : Int32)) d3_39 rfl rfl ?_
  refine Go.ldc2 C X17 (pc' := 44) (hw _ (List.mem_of_getElem? (i := 21) rfl)) d3_41 rfl ?_
  refine Go.lastore C X17 (pc' := 45) (i := 6) A17 rfl (by decide) N5 d3_44 rfl (fun T19 h19 X19 W19 A19 => ?_)
  have K20 : Keep h0 h19 [] := K18.wr W19 (Or.inr Q5)
  refine Go.dup C X19 (pc' := 46) d3_45 rfl rfl ?_
  refine Go.bipush C X19 (pc' := 48) (v := (7 : Int32)) d3_46 rfl rfl ?_
  refine Go.ldc2 C X19 (pc' := 51) (hw _ (List.mem_of_getElem? (i := 22) rfl)) d3_48 rfl ?_
  refine Go.lastore C X19 (pc' := 52) (i := 7) A19 rfl (by decide) N5 d3_51 rfl (fun T21 h21 X21 W21 A21 => ?_)
  have K22 : Keep h0 h21 [] := K20.wr W21 (Or.inr Q5)
  refine Go.dup C X21 (pc' := 53) d3_52 rfl rfl ?_
  refine Go.bipush C X21 (pc' := 55) (v := (8 : Int32)) d3_53 rfl rfl ?_
  refine Go.ldc2 C X21 (pc' := 58) (hw _ (List.mem_of_getElem? (i := 23) rfl)) d3_55 rfl ?_
  refine Go.lastore C X21 (pc' := 59) (i := 8) A21 rfl (by decide) N5 d3_58 rfl (fun T23 h23 X23 W23 A23 => ?_)
  have K24 : Keep h0 h23 [] := K22.wr W23 (Or.inr Q5)
  refine Go.dup C X23 (pc' := 60) d3_59 rfl rfl ?_
  refine Go.bipush C X23 (pc' := 62) (v := (9 : Int32)) d3_60 rfl rfl ?_
  refine Go.ldc2 C X23 (pc' := 65) (hw _ (List.mem_of_getElem? (i := 24) rfl)) d3_62 rfl ?_
  refine Go.lastore C X23 (pc' := 66) (i := 9) A23 rfl (by decide) N5 d3_65 rfl (fun T25 h25 X25 W25 A25 => ?_)
  have K26 : Keep h0 h25 [] := K24.wr W25 (Or.inr Q5)
  refine Go.dup C X25 (pc' := 67) d3_66 rfl rfl ?_
  refine Go.bipush C X25 (pc' := 69) (v := (10 : Int32)) d3_67 rfl rfl ?_
  refine Go.ldc2 C X25 (pc' := 72) (hw _ (List.mem_of_getElem? (i := 25) rfl)) d3_69 rfl ?_
  refine Go.lastore C X25 (pc' := 73) (i := 10) A25 rfl (by decide) N5 d3_72 rfl (fun T27 h27 X27 W27 A27 => ?_)
  have K28 : Keep h0 h27 [] := K26.wr W27 (Or.inr Q5)
  refine Go.dup C X27 (pc' := 74) d3_73 rfl rfl ?_
  refine Go.bipush C X27 (pc' := 76) (v := (11 : Int32)) d3_74 rfl rfl ?_
  refine Go.ldc2 C X27 (pc' := 79) (hw _ (List.mem_of_getElem? (i := 26) rfl)) d3_76 rfl ?_
  refine Go.lastore C X27 (pc' := 80) (i := 11) A27 rfl (by decide) N5 d3_79 rfl (fun T29 h29 X29 W29 A29 => ?_)
  have K30 : Keep h0 h29 [] := K28.wr W29 (Or.inr Q5)
  refine Go.dup C X29 (pc' := 81) d3_80 rfl rfl ?_
  refine Go.bipush C X29 (pc' := 83) (v := (12 : Int32)) d3_81 rfl rfl ?_
  refine Go.ldc2 C X29 (pc' := 86) (hw _ (List.mem_of_getElem? (i := 27) rfl)) d3_83 rfl ?_
  refine Go.lastore C X29 (pc' := 87) (i := 12) A29 rfl (by decide) N5 d3_86 rfl (fun T31 h31 X31 W31 A31 => ?_)
  have K32 : Keep h0 h31 [] := K30.wr W31 (Or.inr Q5)
  refine Go.dup C X31 (pc' := 88) d3_87 rfl rfl ?_
  refine Go.bipush C X31 (pc' := 90) (v := (13 : Int32)) d3_88 rfl rfl ?_
  refine Go.ldc2 C X31 (pc' := 93) (hw _ (List.mem_of_getElem? (i := 28) rfl)) d3_90 rfl ?_
  refine Go.lastore C X31 (pc' := 94) (i := 13) A31 rfl (by decide) N5 d3_93 rfl (fun T33 h33 X33 W33 A33 => ?_)
  have K34 : Keep h0 h33 [] := K32.wr W33 (Or.inr Q5)
  refine Go.dup C X33 (pc' := 95) d3_94 rfl rfl ?_
  refine Go.bipush C X33 (pc' := 97) (v := (14 : Int32)) d3_95 rfl rfl ?_
  refine Go.ldc2 C X33 (pc' := 100) (hw _ (List.mem_of_getElem? (i := 29) rfl)) d3_97 rfl ?_
  refine Go.lastore C X33 (pc' := 101) (i := 14) A33 rfl (by decide) N5 d3_100 rfl (fun T35 h35 X35 W35 A35 => ?_)
  have K36 : Keep h0 h35 [] := K34.wr W35 (Or.inr Q5)
  refine Go.dup C X35 (pc' := 102) d3_101 rfl rfl ?_
  refine Go.bipush C X35 (pc' := 104) (v := (15 : Int32)) d3_102 rfl rfl ?_
  refine Go.ldc2 C X35 (pc' := 107) (hw _ (List.mem_of_getElem? (i := 30) rfl)) d3_104 rfl ?_
  refine Go.lastore C X35 (pc' := 108) (i := 15) A35 rfl (by decide) N5 d3_107 rfl (fun T37 h37 X37 W37 A37 => ?_)
  have K38 : Keep h0 h37 [] := K36.wr W37 (Or.inr Q5)
  refine Go.dup C X37 (pc' := 109) d3_108 rfl rfl ?_
  refine Go.bipush C X37 (pc' := 111) (v := (16 : Int32)) d3_109 rfl rfl ?_
  refine Go.ldc2 C X37 (pc' := 114) (hw _ (List.mem_of_getElem? (i := 31) rfl)) d3_111 rfl ?_
  refine Go.lastore C X37 (pc' := 115) (i := 16) A37 rfl (by decide) N5 d3_114 rfl (fun T39 h39 X39 W39 A39 => ?_)
  have K40 : Keep h0 h39 [] := K38.wr W39 (Or.inr Q5)
  refine Go.dup C X39 (pc' := 116) d3_115 rfl rfl ?_
  refine Go.bipush C X39 (pc' := 118) (v := (17 : Int32)) d3_116 rfl rfl ?_
  refine Go.ldc2 C X39 (pc' := 121) (hw _ (List.mem_of_getElem? (i := 32) rfl)) d3_118 rfl ?_
  refine Go.lastore C X39 (pc' := 122) (i := 17) A39 rfl (by decide) N5 d3_121 rfl (fun T41 h41 X41 W41 A41 => ?_)
  have K42 : Keep h0 h41 [] := K40.wr W41 (Or.inr Q5)
  refine Go.dup C X41 (pc' := 123) d3_122 rfl rfl ?_
  refine Go.bipush C X41 (pc' := 125) (v := (18 : Int32)) d3_123 rfl rfl ?_
  refine Go.ldc2 C X41 (pc' := 128) (hw _ (List.mem_of_getElem? (i := 33) rfl)) d3_125 rfl ?_
  refine Go.lastore C X41 (pc' := 129) (i := 18) A41 rfl (by decide) N5 d3_128 rfl (fun T43 h43 X43 W43 A43 => ?_)
  have K44 : Keep h0 h43 [] := K42.wr W43 (Or.inr Q5)
  refine Go.astoreN C X43 (pc' := 130) (Ls' := #[.val (.int k), .val (.ref b5)]) d3_129 rfl rfl rfl ?_
  refine Go.aloadN C X43 (pc' := 131) d3_130 rfl rfl rfl ?_
  refine Go.iloadN C X43 (pc' := 132) d3_131 rfl rfl ?_
  refine Go.laload C X43 (pc' := 133) (i := kk) (w := ((fun q => if q = 18 then (1000000000000000000 : Int64) else (fun q => if q = 17 then (100000000000000000 : Int64) else (fun q => if q = 16 then (10000000000000000 : Int64) else (fun q => if q = 15 then (1000000000000000 : Int64) else (fun q => if q = 14 then (100000000000000 : Int64) else (fun q => if q = 13 then (10000000000000 : Int64) else (fun q => if q = 12 then (1000000000000 : Int64) else (fun q => if q = 11 then (100000000000 : Int64) else (fun q => if q = 10 then (10000000000 : Int64) else (fun q => if q = 9 then (1000000000 : Int64) else (fun q => if q = 8 then (100000000 : Int64) else (fun q => if q = 7 then (10000000 : Int64) else (fun q => if q = 6 then (1000000 : Int64) else (fun q => if q = 5 then (100000 : Int64) else (fun q => if q = 4 then (10000 : Int64) else (fun q => if q = 3 then (1000 : Int64) else (fun q => if q = 2 then (100 : Int64) else (fun q => if q = 1 then (10 : Int64) else (fun q => if q = 0 then (1 : Int64) else (fun _ => 0) q) q) q) q) q) q) q) q) q) q) q) q) q) q) q) q) q) q) q) kk)) A43 hk (by omega) rfl d3_132 rfl ?_
  exact Go.retL C X43 d3_133 ⟨(congrArg (fun z => some (Value.long z)) (own_pw kk hk18)), K44⟩ (by decide) (by decide)
theorem own_wt {kk L : Nat} (h : kk < L) : some (Value.int (1 : Int32)) = some (.int (if kk < L then (1 : Int32) else (0 : Int32))) := by rw [if_pos h]
theorem own_wf {kk L : Nat} (h : ¬ kk < L) : some (Value.int (0 : Int32)) = some (.int (if kk < L then (1 : Int32) else (0 : Int32))) := by rw [if_neg h]
theorem own_not {v l L k : Nat} (h : own_len v l L) (h1 : 1 ≤ k) (h2 : v < 10 ^ k) (h3 : l ≤ k) : ¬ k < L := fun q => by
  have := h.2.2.2 k h1 q h2; omega
theorem own_big {v l L k : Nat} (h : own_len v l L) (h2 : ¬ v < 10 ^ k) : k < L := by
  refine Nat.lt_of_not_le fun q => h2 ?_
  exact Nat.lt_of_lt_of_le h.2.1 (Nat.pow_le_pow_right (by decide) q)
theorem own_19 {v k : Nat} (hv : v < 10 ^ 19) (h : 19 ≤ k) : v < 10 ^ k := Nat.lt_of_lt_of_le hv (Nat.pow_le_pow_right (by decide) h)
theorem own_i0 : (0 : Int32).toInt = 0 := rfl
theorem own_i18 : (18 : Int32).toInt = 18 := rfl
theorem own_ef_rm_wr (m : MethodId) (x0 : Int64) (x1 : Int32) (x2 : Int32) : entryFrame m #[(.long x0), (.int x1), (.int x2)] 4 = mkF m 0 #[.val (.long x0), .second, .val (.int x1), .val (.int x2)] [] := by first | (simp [entryFrame, mkF, argsToLocals, Value.category]; done) | rfl
theorem d2_0 : decode method_3_code 0 = .ok (.iload_n 3, 1) := by decide +kernel
theorem d2_1 : decode method_3_code 1 = .ok (.ifCond .eq 23, 3) := by decide +kernel
theorem d2_24 : decode method_3_code 24 = .ok (.iconst 1, 1) := by decide +kernel
theorem d2_25 : decode method_3_code 25 = .ok (.goto 4, 3) := by decide +kernel
theorem d2_29 : decode method_3_code 29 = .ok (.ireturn, 1) := by decide +kernel
theorem d2_4 : decode method_3_code 4 = .ok (.iload_n 3, 1) := by decide +kernel
theorem d2_5 : decode method_3_code 5 = .ok (.iload_n 2, 1) := by decide +kernel
theorem d2_6 : decode method_3_code 6 = .ok (.if_icmp .lt 18, 3) := by decide +kernel
theorem d2_9 : decode method_3_code 9 = .ok (.iload_n 3, 1) := by decide +kernel
theorem d2_10 : decode method_3_code 10 = .ok (.bipush 18, 2) := by decide +kernel
theorem d2_12 : decode method_3_code 12 = .ok (.if_icmp .gt 16, 3) := by decide +kernel
theorem d2_28 : decode method_3_code 28 = .ok (.iconst 0, 1) := by decide +kernel
theorem d2_15 : decode method_3_code 15 = .ok (.lload_n 0, 1) := by decide +kernel
theorem d2_16 : decode method_3_code 16 = .ok (.iload_n 3, 1) := by decide +kernel
theorem d2_17 : decode method_3_code 17 = .ok (.invokestatic 43, 3) := by decide +kernel
theorem own_pd0 : parseMethodDescriptor "(I)J" = some ⟨[.int], some .long⟩ := by decide +kernel
theorem d2_20 : decode method_3_code 20 = .ok (.lcmp, 1) := by decide +kernel
theorem d2_21 : decode method_3_code 21 = .ok (.ifCond .lt 7, 3) := by decide +kernel
set_option maxRecDepth 65536 in
set_option maxHeartbeats 40000000 in
theorem rm_wr (l : Launch) (Z : State) (a0 : Array Value) (hw : ∀ d ∈ tables_1, d.before a0 Z = true) (q : Int64) (ls : Int32) (k : Int32) (v : Nat) (l' : Nat) (L : Nat) (kk : Nat) (h0 : Heap) (n0 : Nat) (Z0 : n0 ≤ h0.size) (hq : q.toInt = (v : Int)) (hv : v < 10 ^ 19) (hl : ls.toInt = (l' : Int)) (hL : own_len v l' L) (hk : k.toInt = (kk : Int)) :
    Con l Z (⟨"com/example/streamgauge/streamgauge/workloads/DecimalPutBeforePinLaw", "written", "(JII)Z"⟩ : MethodName) method_3_code 4 (some .boolean) ({ frames := 1, cells := 1, slots := 19, locals := 15 } : Room) #[(.long q), (.int ls), (.int k)] h0 n0 (fun rv hv => rv = some (.int (if kk < L then (1 : Int32) else (0 : Int32))) ∧ Keep h0 hv []) := by
  refine Con.enter (plainFor_of_name own_pn1) Z0 ?_
  intro p e s m below meth c T0 C hnm X0
  refine Go.cast (own_ef_rm_wr m q ls k) ?_
  refine Go.iloadN C X0 (pc' := 1) d2_0 rfl rfl ?_
  by_cases c45 : k = (0 : Int32)
  · refine Go.ifYes C X0 (pc' := 24) d2_1 ((if0 _ _).trans (teq c45).1) (by decide) (by decide) ?_
    refine Go.iconst C X0 (pc' := 25) (v := (1 : Int32)) d2_24 rfl rfl ?_
    refine Go.goto C X0 (pc' := 29) d2_25 (by decide) (by decide) ?_
    exact Go.retZ (t := .boolean) C X0 (z' := (1 : Int32)) (by decide) d2_29 ⟨(own_wt (by have := own_ieq.mp c45; rw [hk, own_i0] at this; have := hL.1; omega)), (Keep.refl h0 [])⟩ (by decide) (by decide)
  · refine Go.ifNo C X0 (pc' := 4) d2_1 ((if0 _ _).trans (feq c45).1) rfl ?_
    refine Go.iloadN C X0 (pc' := 5) d2_4 rfl rfl ?_
    refine Go.iloadN C X0 (pc' := 6) d2_5 rfl rfl ?_
    by_cases c46 : k < ls
    · refine Go.icmpYes C X0 (pc' := 24) d2_6 (tlt c46).1 (by decide) (by decide) ?_
      refine Go.iconst C X0 (pc' := 25) (v := (1 : Int32)) d2_24 rfl rfl ?_
      refine Go.goto C X0 (pc' := 29) d2_25 (by decide) (by decide) ?_
      exact Go.retZ (t := .boolean) C X0 (z' := (1 : Int32)) (by decide) d2_29 ⟨(own_wt (by have := own_ilt.mp c46; rw [hk, hl] at this; have := hL.2.2.1; omega)), (Keep.refl h0 [])⟩ (by decide) (by decide)
    · refine Go.icmpNo C X0 (pc' := 9) d2_6 (flt c46).1 rfl ?_
      refine Go.iloadN C X0 (pc' := 10) d2_9 rfl rfl ?_
      refine Go.bipush C X0 (pc' := 12) (v := (18 : Int32)) d2_10 rfl rfl ?_
      by_cases c47 : (18 : Int32) < k
      · refine Go.icmpYes C X0 (pc' := 28) d2_12 (tlt c47).2.2.1 (by decide) (by decide) ?_
        refine Go.iconst C X0 (pc' := 29) (v := (0 : Int32)) d2_28 rfl rfl ?_
        exact Go.retZ (t := .boolean) C X0 (z' := (0 : Int32)) (by decide) d2_29 ⟨(own_wf (own_not hL (by have := own_nieq c45; rw [hk, own_i0] at this; omega) (own_19 hv (by have := own_ilt.mp c47; rw [hk, own_i18] at this; omega)) (by have := own_nilt c46; rw [hk, hl] at this; omega))), (Keep.refl h0 [])⟩ (by decide) (by decide)
      · refine Go.icmpNo C X0 (pc' := 15) d2_12 (flt c47).2.2.1 rfl ?_
        refine Go.lloadN C X0 (pc' := 16) d2_15 rfl rfl ?_
        refine Go.iloadN C X0 (pc' := 17) d2_16 rfl rfl ?_
        refine Go.callS C X0 (pc' := 20) (W := 2) (argsL := [(.int k)]) (rest := [(.long q)]) (rm_pw l Z a0 hw k kk h0 n0 X0.sz hk (by have := own_nilt c47; rw [hk, own_i18] at this; omega)) (hw _ (List.mem_of_getElem? (i := 12) rfl)) (hw _ (List.mem_of_getElem? (i := 13) rfl)) (hw _ (List.mem_of_getElem? (i := 10) rfl)) (hw _ (List.mem_of_getElem? (i := 14) rfl)) (by decide) rfl rfl (lenOf own_pd0 rfl) rfl (Nat.le_of_eq rfl) (by decide) (by decide) (by decide) (by decide) d2_17 rfl (fun _ _ q => by obtain ⟨_, K⟩ := q; exact K.1) (fun T48 h48 v48 X48 P48 => ?_)
        obtain ⟨rfl, K48⟩ := P48
        have K49 : Keep h0 h48 [] := (Keep.refl h0 []).trans K48 all0
        show Go p e below s n0 _ _ _ T48 (mkF m 20 #[.val (.long q), .second, .val (.int ls), .val (.int k)] [(.long (Int64.ofNat (10 ^ kk))), (.long q)])
        refine Go.lcmp C X48 (pc' := 21) d2_20 rfl ?_
        by_cases c50 : q < (Int64.ofNat (10 ^ kk))
        · refine Go.ifYes C X48 (pc' := 28) d2_21 ((if0 _ _).trans (tlt ((lw_lt _ _).mpr c50)).1) (by decide) (by decide) ?_
          refine Go.iconst C X48 (pc' := 29) (v := (0 : Int32)) d2_28 rfl rfl ?_
          exact Go.retZ (t := .boolean) C X48 (z' := (0 : Int32)) (by decide) d2_29 ⟨(own_wf (own_not hL (by have := own_nieq c45; rw [hk, own_i0] at this; omega) (by have := own_jlt.mp c50; rw [hq, own_pwi kk (by have := own_nilt c47; rw [hk, own_i18] at this; omega)] at this; omega) (by have := own_nilt c46; rw [hk, hl] at this; omega))), K49⟩ (by decide) (by decide)
        · refine Go.ifNo C X48 (pc' := 24) d2_21 ((if0 _ _).trans (flt (fun q => c50 ((lw_lt _ _).mp q))).1) rfl ?_
          refine Go.iconst C X48 (pc' := 25) (v := (1 : Int32)) d2_24 rfl rfl ?_
          refine Go.goto C X48 (pc' := 29) d2_25 (by decide) (by decide) ?_
          exact Go.retZ (t := .boolean) C X48 (z' := (1 : Int32)) (by decide) d2_29 ⟨(own_wt (own_big hL (by have := own_njlt c50; rw [hq, own_pwi kk (by have := own_nilt c47; rw [hk, own_i18] at this; omega)] at this; omega))), K49⟩ (by decide) (by decide)
theorem own_kt {en i : Int32} {ee ii : Nat} (hE : en.toInt = (ee : Int)) (hee : ee ≤ 24) (hi : i.toInt = (ii : Int)) (hii : ii < 24) : ((en - (1 : Int32)) - i).toInt = (ee : Int) - 1 - (ii : Int) := by
  have e1 : (1 : Int32).toInt = 1 := rfl
  have h1 : (en - (1 : Int32)).toInt = (ee : Int) - 1 := by rw [own_isub (by omega) (by omega), hE, e1]
  rw [own_isub (by omega) (by omega), h1, hi]
theorem own_out {v ee L ii : Nat} (h : ¬ (ee - L ≤ ii ∧ ii < ee)) : (own_pb (fun _ => (120 : Int32)) v ee L) ii = (120 : Int32) := by unfold own_pb; rw [if_neg h]
theorem own_in {v ee L ii : Nat} (h : ee - L ≤ ii ∧ ii < ee) : (own_pb (fun _ => (120 : Int32)) v ee L) ii = own_dg v (ee - 1 - ii) := by unfold own_pb; rw [if_pos h]
theorem own_digit' {q : Int64} {v k : Nat} (hq : q.toInt = ((v / 10 ^ k : Nat) : Int)) : (((48 : Int64) + (q % (10 : Int64)))).toInt32.toInt8.toInt32 = own_dg v k := by
  have := own_digit hq
  rw [← this]; exact (own_b2 _).symm
theorem own_quot {q : Int64} {v kk : Nat} (hq : q.toInt = (v : Int)) (h : kk ≤ 18) : (q / Int64.ofNat (10 ^ kk)).toInt = ((v / 10 ^ kk : Nat) : Int) := by
  have h1 := own_pwi kk h
  have hp := Nat.pow_pos (n := kk) (by decide : 0 < 10)
  have h2 := (c_ldiv q (Int64.ofNat (10 ^ kk)) ((10 ^ kk : Nat) : Int) h1 (fun e => by rw [e] at h1; have : (-1 : Int64).toInt = -1 := rfl; omega)).1 (by omega)
  rw [h2, hq]; omega
theorem own_zero {v kk : Nat} (hv : v < 10 ^ 19) (h : 19 ≤ kk) : (((48 : Int64) + (0 : Int64))).toInt32.toInt8.toInt32 = own_dg v kk := by
  unfold own_dg
  rw [Nat.div_eq_of_lt (own_19 hv h)]; decide
theorem own_ef_rm_at (m : MethodId) (x0 : Addr) (x1 : Int32) (x2 : Int64) (x3 : Int32) (x4 : Int32) : entryFrame m #[(.ref x0), (.int x1), (.long x2), (.int x3), (.int x4)] 9 = mkF m 0 #[.val (.ref x0), .val (.int x1), .val (.long x2), .second, .val (.int x3), .val (.int x4), .unset, .unset, .unset] [] := by first | (simp [entryFrame, mkF, argsToLocals, Value.category]; done) | rfl
theorem d4_0 : decode method_4_code 0 = .ok (.iload 5, 2) := by decide +kernel
theorem d4_2 : decode method_4_code 2 = .ok (.iconst 1, 1) := by decide +kernel
theorem d4_3 : decode method_4_code 3 = .ok (.isub, 1) := by decide +kernel
theorem d4_4 : decode method_4_code 4 = .ok (.iload_n 1, 1) := by decide +kernel
theorem d4_5 : decode method_4_code 5 = .ok (.isub, 1) := by decide +kernel
theorem d4_6 : decode method_4_code 6 = .ok (.istore 6, 2) := by decide +kernel
theorem d4_8 : decode method_4_code 8 = .ok (.iload 6, 2) := by decide +kernel
theorem d4_10 : decode method_4_code 10 = .ok (.ifCond .lt 14, 3) := by decide +kernel
theorem d4_24 : decode method_4_code 24 = .ok (.aload_n 0, 1) := by decide +kernel
theorem d4_25 : decode method_4_code 25 = .ok (.iload_n 1, 1) := by decide +kernel
theorem d4_26 : decode method_4_code 26 = .ok (.baload, 1) := by decide +kernel
theorem d4_27 : decode method_4_code 27 = .ok (.bipush 120, 2) := by decide +kernel
theorem d4_29 : decode method_4_code 29 = .ok (.if_icmp .ne 7, 3) := by decide +kernel
theorem d4_32 : decode method_4_code 32 = .ok (.iconst 1, 1) := by decide +kernel
theorem d4_33 : decode method_4_code 33 = .ok (.goto 4, 3) := by decide +kernel
theorem d4_37 : decode method_4_code 37 = .ok (.ireturn, 1) := by decide +kernel
theorem d4_13 : decode method_4_code 13 = .ok (.lload_n 2, 1) := by decide +kernel
theorem d4_14 : decode method_4_code 14 = .ok (.iload 4, 2) := by decide +kernel
theorem d4_16 : decode method_4_code 16 = .ok (.iload 6, 2) := by decide +kernel
theorem d4_18 : decode method_4_code 18 = .ok (.invokestatic 49, 3) := by decide +kernel
theorem own_pd1 : parseMethodDescriptor "(JII)Z" = some ⟨[.long, .int, .int], some .boolean⟩ := by decide +kernel
theorem d4_21 : decode method_4_code 21 = .ok (.ifCond .ne 17, 3) := by decide +kernel
theorem d4_38 : decode method_4_code 38 = .ok (.iload 6, 2) := by decide +kernel
theorem d4_40 : decode method_4_code 40 = .ok (.bipush 18, 2) := by decide +kernel
theorem d4_42 : decode method_4_code 42 = .ok (.if_icmp .gt 17, 3) := by decide +kernel
theorem d4_59 : decode method_4_code 59 = .ok (.lconst 0, 1) := by decide +kernel
theorem d4_60 : decode method_4_code 60 = .ok (.lstore 7, 2) := by decide +kernel
theorem d4_62 : decode method_4_code 62 = .ok (.aload_n 0, 1) := by decide +kernel
theorem d4_63 : decode method_4_code 63 = .ok (.iload_n 1, 1) := by decide +kernel
theorem d4_64 : decode method_4_code 64 = .ok (.baload, 1) := by decide +kernel
theorem d4_65 : decode method_4_code 65 = .ok (.ldc2_w 53, 3) := by decide +kernel
theorem d4_68 : decode method_4_code 68 = .ok (.lload 7, 2) := by decide +kernel
theorem d4_70 : decode method_4_code 70 = .ok (.ladd, 1) := by decide +kernel
theorem d4_71 : decode method_4_code 71 = .ok (.l2i, 1) := by decide +kernel
theorem d4_72 : decode method_4_code 72 = .ok (.i2b, 1) := by decide +kernel
theorem d4_73 : decode method_4_code 73 = .ok (.if_icmp .ne 7, 3) := by decide +kernel
theorem d4_76 : decode method_4_code 76 = .ok (.iconst 1, 1) := by decide +kernel
theorem d4_77 : decode method_4_code 77 = .ok (.goto 4, 3) := by decide +kernel
theorem d4_81 : decode method_4_code 81 = .ok (.ireturn, 1) := by decide +kernel
theorem d4_45 : decode method_4_code 45 = .ok (.lload_n 2, 1) := by decide +kernel
theorem d4_46 : decode method_4_code 46 = .ok (.iload 6, 2) := by decide +kernel
theorem d4_48 : decode method_4_code 48 = .ok (.invokestatic 43, 3) := by decide +kernel
theorem d4_51 : decode method_4_code 51 = .ok (.ldiv, 1) := by decide +kernel
theorem d4_52 : decode method_4_code 52 = .ok (.ldc2_w 7, 3) := by decide +kernel
theorem d4_55 : decode method_4_code 55 = .ok (.lrem, 1) := by decide +kernel
theorem d4_56 : decode method_4_code 56 = .ok (.goto 4, 3) := by decide +kernel
set_option maxRecDepth 65536 in
set_option maxHeartbeats 40000000 in
theorem rm_at (l : Launch) (Z : State) (a0 : Array Value) (hw : ∀ d ∈ tables_1, d.before a0 Z = true) (b : Addr) (i : Int32) (q : Int64) (ls : Int32) (en : Int32) (v : Nat) (l' : Nat) (L : Nat) (ee : Nat) (ii : Nat) (h0 : Heap) (n0 : Nat) (Z0 : n0 ≤ h0.size) (f0 : AI Z h0 b .byte 24 (own_pb (fun _ => (120 : Int32)) v ee L)) (hq : q.toInt = (v : Int)) (hv : v < 10 ^ 19) (hl : ls.toInt = (l' : Int)) (hL : own_len v l' L) (hE : en.toInt = (ee : Int)) (hLe : L ≤ ee) (hee : ee ≤ 24) (hi : i.toInt = (ii : Int)) (hii : ii < 24) :
    Con l Z (⟨"com/example/streamgauge/streamgauge/workloads/DecimalPutBeforePinLaw", "at", "([BIJII)Z"⟩ : MethodName) method_4_code 9 (some .boolean) ({ frames := 2, cells := 2, slots := 38, locals := 30 } : Room) #[(.ref b), (.int i), (.long q), (.int ls), (.int en)] h0 n0 (fun rv hv => rv = some (.int (1 : Int32)) ∧ Keep h0 hv []) := by
  refine Con.enter (plainFor_of_name own_pn1) Z0 ?_
  intro p e s m below meth c T0 C hnm X0
  refine Go.cast (own_ef_rm_at m b i q ls en) ?_
  refine Go.iload C X0 (pc' := 2) d4_0 rfl rfl ?_
  refine Go.iconst C X0 (pc' := 3) (v := (1 : Int32)) d4_2 rfl rfl ?_
  refine Go.isub C X0 (pc' := 4) d4_3 rfl ?_
  refine Go.iloadN C X0 (pc' := 5) d4_4 rfl rfl ?_
  refine Go.isub C X0 (pc' := 6) d4_5 rfl ?_
  refine Go.istore C X0 (pc' := 8) (Ls' := #[.val (.ref b), .val (.int i), .val (.long q), .second, .val (.int ls), .val (.int en), .val (.int ((en - (1 : Int32)) - i)), .unset, .unset]) d4_6 rfl rfl ?_
  refine Go.iload C X0 (pc' := 10) d4_8 rfl rfl ?_
  by_cases c51 : ((en - (1 : Int32)) - i) < (0 : Int32)
  · refine Go.ifYes C X0 (pc' := 24) d4_10 ((if0 _ _).trans (tlt c51).1) (by decide) (by decide) ?_
    refine Go.aloadN C X0 (pc' := 25) d4_24 rfl rfl rfl ?_
    refine Go.iloadN C X0 (pc' := 26) d4_25 rfl rfl ?_
    refine Go.baload C X0 (pc' := 27) (i := ii) (w := (own_pb (fun _ => (120 : Int32)) v ee L ii)) f0 hi hii rfl d4_26 rfl ?_
    refine Go.bipush C X0 (pc' := 29) (v := (120 : Int32)) d4_27 rfl rfl ?_
    refine Go.icmpNo C X0 (pc' := 32) d4_29 (teq (own_out (by have := own_ilt.mp c51; rw [own_kt hE hee hi hii, own_i0] at this; omega))).2 rfl ?_
    refine Go.iconst C X0 (pc' := 33) (v := (1 : Int32)) d4_32 rfl rfl ?_
    refine Go.goto C X0 (pc' := 37) d4_33 (by decide) (by decide) ?_
    exact Go.retZ (t := .boolean) C X0 (z' := (1 : Int32)) (by decide) d4_37 ⟨rfl, (Keep.refl h0 [])⟩ (by decide) (by decide)
  · refine Go.ifNo C X0 (pc' := 13) d4_10 ((if0 _ _).trans (flt c51).1) rfl ?_
    refine Go.lloadN C X0 (pc' := 14) d4_13 rfl rfl ?_
    refine Go.iload C X0 (pc' := 16) d4_14 rfl rfl ?_
    refine Go.iload C X0 (pc' := 18) d4_16 rfl rfl ?_
    refine Go.callS C X0 (pc' := 21) (W := 0) (argsL := [(.long q), (.int ls), (.int ((en - (1 : Int32)) - i))]) (rest := []) (rm_wr l Z a0 hw q ls ((en - (1 : Int32)) - i) v l' L (ee - 1 - ii) h0 n0 X0.sz hq hv hl hL (by rw [own_kt hE hee hi hii]; have := own_nilt c51; rw [own_kt hE hee hi hii, own_i0] at this; omega)) (hw _ (List.mem_of_getElem? (i := 8) rfl)) (hw _ (List.mem_of_getElem? (i := 9) rfl)) (hw _ (List.mem_of_getElem? (i := 10) rfl)) (hw _ (List.mem_of_getElem? (i := 11) rfl)) (by decide) rfl rfl (lenOf own_pd1 rfl) rfl (Nat.le_of_eq rfl) (by decide) (by decide) (by decide) (by decide) d4_18 rfl (fun _ _ q => by obtain ⟨_, K⟩ := q; exact K.1) (fun T52 h52 v52 X52 P52 => ?_)
    obtain ⟨rfl, K52⟩ := P52
    have K53 : Keep h0 h52 [] := (Keep.refl h0 []).trans K52 all0
    have A54 := f0.keep K52 nin0
    show Go p e below s n0 _ _ _ T52 (mkF m 21 #[.val (.ref b), .val (.int i), .val (.long q), .second, .val (.int ls), .val (.int en), .val (.int ((en - (1 : Int32)) - i)), .unset, .unset] [(.int (if (ee - 1 - ii) < L then (1 : Int32) else (0 : Int32)))])
    by_cases c55 : (if (ee - 1 - ii) < L then (1 : Int32) else (0 : Int32)) = (0 : Int32)
    · refine Go.ifNo C X52 (pc' := 24) d4_21 ((if0 _ _).trans (teq c55).2) rfl ?_
      refine Go.aloadN C X52 (pc' := 25) d4_24 rfl rfl rfl ?_
      refine Go.iloadN C X52 (pc' := 26) d4_25 rfl rfl ?_
      refine Go.baload C X52 (pc' := 27) (i := ii) (w := (own_pb (fun _ => (120 : Int32)) v ee L ii)) A54 hi hii rfl d4_26 rfl ?_
      refine Go.bipush C X52 (pc' := 29) (v := (120 : Int32)) d4_27 rfl rfl ?_
      refine Go.icmpNo C X52 (pc' := 32) d4_29 (teq (own_out (fun z => by rw [if_pos (by omega)] at c55; exact absurd c55 (by decide)))).2 rfl ?_
      refine Go.iconst C X52 (pc' := 33) (v := (1 : Int32)) d4_32 rfl rfl ?_
      refine Go.goto C X52 (pc' := 37) d4_33 (by decide) (by decide) ?_
      exact Go.retZ (t := .boolean) C X52 (z' := (1 : Int32)) (by decide) d4_37 ⟨rfl, K53⟩ (by decide) (by decide)
    · refine Go.ifYes C X52 (pc' := 38) d4_21 ((if0 _ _).trans (feq c55).2) (by decide) (by decide) ?_
      refine Go.iload C X52 (pc' := 40) d4_38 rfl rfl ?_
      refine Go.bipush C X52 (pc' := 42) (v := (18 : Int32)) d4_40 rfl rfl ?_
      by_cases c56 : (18 : Int32) < ((en - (1 : Int32)) - i)
      · refine Go.icmpYes C X52 (pc' := 59) d4_42 (tlt c56).2.2.1 (by decide) (by decide) ?_
        refine Go.lconst C X52 (pc' := 60) (v := (0 : Int64)) d4_59 rfl rfl ?_
        refine Go.lstore C X52 (pc' := 62) (Ls' := #[.val (.ref b), .val (.int i), .val (.long q), .second, .val (.int ls), .val (.int en), .val (.int ((en - (1 : Int32)) - i)), .val (.long (0 : Int64)), .second]) d4_60 rfl rfl ?_
        refine Go.aloadN C X52 (pc' := 63) d4_62 rfl rfl rfl ?_
        refine Go.iloadN C X52 (pc' := 64) d4_63 rfl rfl ?_
        refine Go.baload C X52 (pc' := 65) (i := ii) (w := (own_pb (fun _ => (120 : Int32)) v ee L ii)) A54 hi hii rfl d4_64 rfl ?_
        refine Go.ldc2 C X52 (pc' := 68) (hw _ (List.mem_of_getElem? (i := 37) rfl)) d4_65 rfl ?_
        refine Go.lload C X52 (pc' := 70) d4_68 rfl rfl ?_
        refine Go.ladd C X52 (pc' := 71) d4_70 rfl ?_
        refine Go.l2i C X52 (pc' := 72) d4_71 rfl ?_
        refine Go.i2b C X52 (pc' := 73) d4_72 rfl ?_
        refine Go.icmpNo C X52 (pc' := 76) d4_73 (teq ((own_in (by have := own_nilt c51; rw [own_kt hE hee hi hii, own_i0] at this; have : ¬ ¬ (ee - 1 - ii < L) := fun z => c55 (if_neg z); omega)).trans (own_zero hv (by have := own_ilt.mp c56; rw [own_kt hE hee hi hii, own_i18] at this; omega)).symm)).2 rfl ?_
        refine Go.iconst C X52 (pc' := 77) (v := (1 : Int32)) d4_76 rfl rfl ?_
        refine Go.goto C X52 (pc' := 81) d4_77 (by decide) (by decide) ?_
        exact Go.retZ (t := .boolean) C X52 (z' := (1 : Int32)) (by decide) d4_81 ⟨rfl, K53⟩ (by decide) (by decide)
      · refine Go.icmpNo C X52 (pc' := 45) d4_42 (flt c56).2.2.1 rfl ?_
        refine Go.lloadN C X52 (pc' := 46) d4_45 rfl rfl ?_
        refine Go.iload C X52 (pc' := 48) d4_46 rfl rfl ?_
        refine Go.callS C X52 (pc' := 51) (W := 2) (argsL := [(.int ((en - (1 : Int32)) - i))]) (rest := [(.long q)]) (rm_pw l Z a0 hw ((en - (1 : Int32)) - i) (ee - 1 - ii) h52 n0 X52.sz (by rw [own_kt hE hee hi hii]; have := own_nilt c51; rw [own_kt hE hee hi hii, own_i0] at this; omega) (by have := own_nilt c56; rw [own_kt hE hee hi hii, own_i18] at this; omega)) (hw _ (List.mem_of_getElem? (i := 12) rfl)) (hw _ (List.mem_of_getElem? (i := 13) rfl)) (hw _ (List.mem_of_getElem? (i := 10) rfl)) (hw _ (List.mem_of_getElem? (i := 14) rfl)) (by decide) rfl rfl (lenOf own_pd0 rfl) rfl (Nat.le_of_eq rfl) (by decide) (by decide) (by decide) (by decide) d4_48 rfl (fun _ _ q => by obtain ⟨_, K⟩ := q; exact K.1) (fun T57 h57 v57 X57 P57 => ?_)
        obtain ⟨rfl, K57⟩ := P57
        have K58 : Keep h0 h57 [] := K53.trans K57 all0
        have A59 := A54.keep K57 nin0
        show Go p e below s n0 _ _ _ T57 (mkF m 51 #[.val (.ref b), .val (.int i), .val (.long q), .second, .val (.int ls), .val (.int en), .val (.int ((en - (1 : Int32)) - i)), .unset, .unset] [(.long (Int64.ofNat (10 ^ (ee - 1 - ii)))), (.long q)])
        refine Go.ldiv C X57 (pc' := 52) d4_51 (own_pw0 _ (by have := own_nilt c56; rw [own_kt hE hee hi hii, own_i18] at this; omega)) rfl ?_
        refine Go.ldc2 C X57 (pc' := 55) (hw _ (List.mem_of_getElem? (i := 16) rfl)) d4_52 rfl ?_
        refine Go.lrem C X57 (pc' := 56) d4_55 (by decide) rfl ?_
        refine Go.goto C X57 (pc' := 60) d4_56 (by decide) (by decide) ?_
        refine Go.lstore C X57 (pc' := 62) (Ls' := #[.val (.ref b), .val (.int i), .val (.long q), .second, .val (.int ls), .val (.int en), .val (.int ((en - (1 : Int32)) - i)), .val (.long ((q / (Int64.ofNat (10 ^ (ee - 1 - ii)))) % (10 : Int64))), .second]) d4_60 rfl rfl ?_
        refine Go.aloadN C X57 (pc' := 63) d4_62 rfl rfl rfl ?_
        refine Go.iloadN C X57 (pc' := 64) d4_63 rfl rfl ?_
        refine Go.baload C X57 (pc' := 65) (i := ii) (w := (own_pb (fun _ => (120 : Int32)) v ee L ii)) A59 hi hii rfl d4_64 rfl ?_
        refine Go.ldc2 C X57 (pc' := 68) (hw _ (List.mem_of_getElem? (i := 37) rfl)) d4_65 rfl ?_
        refine Go.lload C X57 (pc' := 70) d4_68 rfl rfl ?_
        refine Go.ladd C X57 (pc' := 71) d4_70 rfl ?_
        refine Go.l2i C X57 (pc' := 72) d4_71 rfl ?_
        refine Go.i2b C X57 (pc' := 73) d4_72 rfl ?_
        refine Go.icmpNo C X57 (pc' := 76) d4_73 (teq ((own_in (by have := own_nilt c51; rw [own_kt hE hee hi hii, own_i0] at this; have : ¬ ¬ (ee - 1 - ii < L) := fun z => c55 (if_neg z); omega)).trans (own_digit' (own_quot hq (by have := own_nilt c56; rw [own_kt hE hee hi hii, own_i18] at this; omega))).symm)).2 rfl ?_
        refine Go.iconst C X57 (pc' := 77) (v := (1 : Int32)) d4_76 rfl rfl ?_
        refine Go.goto C X57 (pc' := 81) d4_77 (by decide) (by decide) ?_
        exact Go.retZ (t := .boolean) C X57 (z' := (1 : Int32)) (by decide) d4_81 ⟨rfl, K58⟩ (by decide) (by decide)
theorem own_120 : ∀ i, i < 24 → (fun q => if q = 23 then (120 : Int32) else (fun q => if q = 22 then (120 : Int32) else (fun q => if q = 21 then (120 : Int32) else (fun q => if q = 20 then (120 : Int32) else (fun q => if q = 19 then (120 : Int32) else (fun q => if q = 18 then (120 : Int32) else (fun q => if q = 17 then (120 : Int32) else (fun q => if q = 16 then (120 : Int32) else (fun q => if q = 15 then (120 : Int32) else (fun q => if q = 14 then (120 : Int32) else (fun q => if q = 13 then (120 : Int32) else (fun q => if q = 12 then (120 : Int32) else (fun q => if q = 11 then (120 : Int32) else (fun q => if q = 10 then (120 : Int32) else (fun q => if q = 9 then (120 : Int32) else (fun q => if q = 8 then (120 : Int32) else (fun q => if q = 7 then (120 : Int32) else (fun q => if q = 6 then (120 : Int32) else (fun q => if q = 5 then (120 : Int32) else (fun q => if q = 4 then (120 : Int32) else (fun q => if q = 3 then (120 : Int32) else (fun q => if q = 2 then (120 : Int32) else (fun q => if q = 1 then (120 : Int32) else (fun q => if q = 0 then (120 : Int32) else (fun _ => 0) q) q) q) q) q) q) q) q) q) q) q) q) q) q) q) q) q) q) q) q) q) q) q) q) i = (120 : Int32) := by decide
theorem own_start (x0 : Int64) (x1 x2 : Int32) : ∃ v l' ee L : Nat, (x0 &&& (9223372036854775807 : Int64)).toInt = (v : Int) ∧ v < 10 ^ 19 ∧ ((x1 &&& (31 : Int32)) % (23 : Int32)).toInt = (l' : Int) ∧ ((22 : Int32) + (x2 &&& (1 : Int32))).toInt = (ee : Int) ∧ 22 ≤ ee ∧ ee ≤ 23 ∧ L ≤ 22 ∧ own_len v l' L := by
  have h1 := c_maskL x0 9223372036854775807 63 (by decide) (by decide)
  have h2 := c_mask x1 31 5 (by decide) (by decide)
  have e5 : ((2 ^ 5 : Nat) : Int) = 32 := rfl
  have e63 : ((2 ^ 63 : Nat) : Int) = 9223372036854775808 := rfl
  rw [e5] at h2; rw [e63] at h1
  have h3 := (c_irem (x1 &&& (31 : Int32)) 23 23 rfl).1 (by omega)
  have hv : (x0 &&& (9223372036854775807 : Int64)).toInt.toNat < 10 ^ 19 := by omega
  have hl : ((x1 &&& (31 : Int32)) % (23 : Int32)).toInt.toNat ≤ 22 := by omega
  obtain ⟨L, hLB, hL⟩ := own_ex (x0 &&& (9223372036854775807 : Int64)).toInt.toNat ((x1 &&& (31 : Int32)) % (23 : Int32)).toInt.toNat 22 (by omega) hl (by decide)
  have he : ∃ ee : Nat, ((22 : Int32) + (x2 &&& (1 : Int32))).toInt = (ee : Int) ∧ 22 ≤ ee ∧ ee ≤ 23 := by
    rcases own_and1 x2 with q | q <;> rw [q]
    · exact ⟨22, rfl, by decide, by decide⟩
    · exact ⟨23, rfl, by decide, by decide⟩
  obtain ⟨ee, e1, e2, e3⟩ := he
  exact ⟨_, _, ee, L, by omega, hv, by omega, e1, e2, e3, hLB, hL⟩
theorem own_k1 {en r : Int32} {ee L : Nat} (hE : en.toInt = (ee : Int)) (h2 : ee ≤ 23) (hr : r.toInt = (ee : Int) - (L : Int)) (h0 : 1 ≤ L) (h1 : L ≤ ee) : ((en - (1 : Int32)) - r).toInt = ((L - 1 : Nat) : Int) := by
  have e1 : (1 : Int32).toInt = 1 := rfl
  have h1 : (en - (1 : Int32)).toInt = (ee : Int) - 1 := by rw [own_isub (by omega) (by omega), hE, e1]
  rw [own_isub (by omega) (by omega), h1, hr]; omega
theorem own_k2 {en r : Int32} {ee L : Nat} (hE : en.toInt = (ee : Int)) (h2 : ee ≤ 23) (hr : r.toInt = (ee : Int) - (L : Int)) (h1 : L ≤ ee) : (en - r).toInt = (L : Int) := by
  rw [own_isub (by omega) (by omega), hE, hr]; omega
theorem own_k3 {en r : Int32} {ee L : Nat} (hE : en.toInt = (ee : Int)) (h2 : ee ≤ 23) (hr : r.toInt = (ee : Int) - (L : Int)) (h0 : 1 ≤ L) (h1 : L ≤ ee) : ¬ (en - (1 : Int32)) < r := by
  have e1 : (1 : Int32).toInt = 1 := rfl
  rw [own_ilt, own_isub (by omega) (by omega), hE, hr, e1]; omega
theorem own_k4 {r : Int32} {ee L : Nat} (hr : r.toInt = (ee : Int) - (L : Int)) (h1 : L ≤ ee) : ¬ r < (0 : Int32) := by
  rw [own_ilt, hr, own_i0]; omega
theorem own_ef_rm0 (m : MethodId) (x0 : Int64) (x1 : Int32) (x2 : Int32) : entryFrame m #[(.long x0), (.int x1), (.int x2)] maxLocals = mkF m 0 #[.val (.long x0), .second, .val (.int x1), .val (.int x2), .unset, .unset, .unset, .unset, .unset, .unset, .unset] [] := by first | (simp [entryFrame, mkF, argsToLocals, Value.category, maxLocals]; done) | rfl
theorem own_pd2 : parseMethodDescriptor "(JI[BI)I" = some ⟨[.long, .int, (.array .byte), .int], some .int⟩ := by decide +kernel
theorem own_pd3 : parseMethodDescriptor "([BIJII)Z" = some ⟨[(.array .byte), .int, .long, .int, .int], some .boolean⟩ := by decide +kernel
set_option maxRecDepth 65536 in
set_option maxHeartbeats 40000000 in
theorem rm0 (l : Launch) (Z : State) (a0 : Array Value) (hw : ∀ d ∈ tables_1, d.before a0 Z = true) (x0 : Int64) (x1 x2 : Int32) (h0 : Heap) (n0 : Nat) (Z0 : n0 ≤ h0.size)  :
    Con l Z x code maxLocals ret room_1 #[(.long x0), (.int x1), (.int x2)] h0 n0 (fun rv hv => rv = some (.int 1)) := by
  refine Con.enter (plainFor_of_name own_pn1) Z0 ?_
  intro p e s m below meth c T0 C hnm X0
  refine Go.cast (own_ef_rm0 m x0 x1 x2) ?_
  refine Go.lloadN C X0 (pc' := 1) at_0 rfl rfl ?_
  refine Go.ldc2 C X0 (pc' := 4) (hw _ (List.mem_of_getElem? (i := 0) rfl)) at_1 rfl ?_
  refine Go.land C X0 (pc' := 5) at_4 rfl ?_
  refine Go.lstore C X0 (pc' := 7) (Ls' := #[.val (.long x0), .second, .val (.int x1), .val (.int x2), .val (.long (x0 &&& (9223372036854775807 : Int64))), .second, .unset, .unset, .unset, .unset, .unset]) at_5 rfl rfl ?_
  refine Go.iloadN C X0 (pc' := 8) at_7 rfl rfl ?_
  refine Go.bipush C X0 (pc' := 10) (v := (31 : Int32)) at_8 rfl rfl ?_
  refine Go.iand C X0 (pc' := 11) at_10 rfl ?_
  refine Go.bipush C X0 (pc' := 13) (v := (23 : Int32)) at_11 rfl rfl ?_
  refine Go.irem C X0 (pc' := 14) at_13 (by decide) rfl ?_
  refine Go.istore C X0 (pc' := 16) (Ls' := #[.val (.long x0), .second, .val (.int x1), .val (.int x2), .val (.long (x0 &&& (9223372036854775807 : Int64))), .second, .val (.int ((x1 &&& (31 : Int32)) % (23 : Int32))), .unset, .unset, .unset, .unset]) at_14 rfl rfl ?_
  refine Go.bipush C X0 (pc' := 18) (v := (22 : Int32)) at_16 rfl rfl ?_
  refine Go.iloadN C X0 (pc' := 19) at_18 rfl rfl ?_
  refine Go.iconst C X0 (pc' := 20) (v := (1 : Int32)) at_19 rfl rfl ?_
  refine Go.iand C X0 (pc' := 21) at_20 rfl ?_
  refine Go.iadd C X0 (pc' := 22) at_21 rfl ?_
  refine Go.istore C X0 (pc' := 24) (Ls' := #[.val (.long x0), .second, .val (.int x1), .val (.int x2), .val (.long (x0 &&& (9223372036854775807 : Int64))), .second, .val (.int ((x1 &&& (31 : Int32)) % (23 : Int32))), .val (.int ((22 : Int32) + (x2 &&& (1 : Int32)))), .unset, .unset, .unset]) at_22 rfl rfl ?_
  obtain ⟨v, l', ee, L, hq, hv, hl, hE, he1, he2, hLB, hL⟩ := own_start x0 x1 x2
  refine Go.bipush C X0 (pc' := 26) (v := (24 : Int32)) at_24 rfl rfl ?_
  refine Go.newP C X0 (pc' := 28) (nn := 24) (cap := 24) (hw _ (List.mem_of_getElem? (i := 1) rfl)) at_26 rfl (by decide) (by decide) (by decide) (by decide) rfl (fun T60 h60 b60 k60 X60 g60 E60 Ar60 N60 => ?_)
  have A60 : AI Z h60 b60 .byte 24 (fun _ => 0) := AI.new rfl rfl Ar60
  refine Go.dup C X60 (pc' := 29) at_28 rfl rfl ?_
  refine Go.iconst C X60 (pc' := 30) (v := (0 : Int32)) at_29 rfl rfl ?_
  refine Go.bipush C X60 (pc' := 32) (v := (120 : Int32)) at_30 rfl rfl ?_
  refine Go.bastore C X60 (pc' := 33) (i := 0) (x' := (120 : Int32)) A60 rfl (by decide) (by decide) N60 at_32 rfl (fun T61 h61 X61 W61 A61 => ?_)
  refine Go.dup C X61 (pc' := 34) at_33 rfl rfl ?_
  refine Go.iconst C X61 (pc' := 35) (v := (1 : Int32)) at_34 rfl rfl ?_
  refine Go.bipush C X61 (pc' := 37) (v := (120 : Int32)) at_35 rfl rfl ?_
  refine Go.bastore C X61 (pc' := 38) (i := 1) (x' := (120 : Int32)) A61 rfl (by decide) (by decide) N60 at_37 rfl (fun T62 h62 X62 W62 A62 => ?_)
  refine Go.dup C X62 (pc' := 39) at_38 rfl rfl ?_
  refine Go.iconst C X62 (pc' := 40) (v := (2 : Int32)) at_39 rfl rfl ?_
  refine Go.bipush C X62 (pc' := 42) (v := (120 : Int32)) at_40 rfl rfl ?_
  refine Go.bastore C X62 (pc' := 43) (i := 2) (x' := (120 : Int32)) A62 rfl (by decide) (by decide) N60 at_42 rfl (fun T63 h63 X63 W63 A63 => ?_)
  refine Go.dup C X63 (pc' := 44) at_43 rfl rfl ?_
  refine Go.iconst C X63 (pc' := 45) (v := (3 : Int32)) at_44 rfl rfl ?_
  refine Go.bipush C X63 (pc' := 47) (v := (120 : Int32)) at_45 rfl rfl ?_
  refine Go.bastore C X63 (pc' := 48) (i := 3) (x' := (120 : Int32)) A63 rfl (by decide) (by decide) N60 at_47 rfl (fun T64 h64 X64 W64 A64 => ?_)
  refine Go.dup C X64 (pc' := 49) at_48 rfl rfl ?_
  refine Go.iconst C X64 (pc' := 50) (v := (4 : Int32)) at_49 rfl rfl ?_
  refine Go.bipush C X64 (pc' := 52) (v := (120 : Int32)) at_50 rfl rfl ?_
  refine Go.bastore C X64 (pc' := 53) (i := 4) (x' := (120 : Int32)) A64 rfl (by decide) (by decide) N60 at_52 rfl (fun T65 h65 X65 W65 A65 => ?_)
  refine Go.dup C X65 (pc' := 54) at_53 rfl rfl ?_
  refine Go.iconst C X65 (pc' := 55) (v := (5 : Int32)) at_54 rfl rfl ?_
  refine Go.bipush C X65 (pc' := 57) (v := (120 : Int32)) at_55 rfl rfl ?_
  refine Go.bastore C X65 (pc' := 58) (i := 5) (x' := (120 : Int32)) A65 rfl (by decide) (by decide) N60 at_57 rfl (fun T66 h66 X66 W66 A66 => ?_)
  refine Go.dup C X66 (pc' := 59) at_58 rfl rfl ?_
  refine Go.bipush C X66 (pc' := 61) (v := (6 : Int32)) at_59 rfl rfl ?_
  refine Go.bipush C X66 (pc' := 63) (v := (120 : Int32)) at_61 rfl rfl ?_
  refine Go.bastore C X66 (pc' := 64) (i := 6) (x' := (120 : Int32)) A66 rfl (by decide) (by decide) N60 at_63 rfl (fun T67 h67 X67 W67 A67 => ?_)
  refine Go.dup C X67 (pc' := 65) at_64 rfl rfl ?_
  refine Go.bipush C X67 (pc' := 67) (v := (7 : Int32)) at_65 rfl rfl ?_
  refine Go.bipush C X67 (pc' := 69) (v := (120 : Int32)) at_67 rfl rfl ?_
  refine Go.bastore C X67 (pc' := 70) (i := 7) (x' := (120 : Int32)) A67 rfl (by decide) (by decide) N60 at_69 rfl (fun T68 h68 X68 W68 A68 => ?_)
  refine Go.dup C X68 (pc' := 71) at_70 rfl rfl ?_
  refine Go.bipush C X68 (pc' := 73) (v := (8 : Int32)) at_71 rfl rfl ?_
  refine Go.bipush C X68 (pc' := 75) (v := (120 : Int32)) at_73 rfl rfl ?_
  refine Go.bastore C X68 (pc' := 76) (i := 8) (x' := (120 : Int32)) A68 rfl (by decide) (by decide) N60 at_75 rfl (fun T69 h69 X69 W69 A69 => ?_)
  refine Go.dup C X69 (pc' := 77) at_76 rfl rfl ?_
  refine Go.bipush C X69 (pc' := 79) (v := (9 : Int32)) at_77 rfl rfl ?_
  refine Go.bipush C X69 (pc' := 81) (v := (120 : Int32)) at_79 rfl rfl ?_
  refine Go.bastore C X69 (pc' := 82) (i := 9) (x' := (120 : Int32)) A69 rfl (by decide) (by decide) N60 at_81 rfl (fun T70 h70 X70 W70 A70 => ?_)
  refine Go.dup C X70 (pc' := 83) at_82 rfl rfl ?_
  refine Go.bipush C X70 (pc' := 85) (v := (10 : Int32)) at_83 rfl rfl ?_
  refine Go.bipush C X70 (pc' := 87) (v := (120 : Int32)) at_85 rfl rfl ?_
  refine Go.bastore C X70 (pc' := 88) (i := 10) (x' := (120 : Int32)) A70 rfl (by decide) (by decide) N60 at_87 rfl (fun T71 h71 X71 W71 A71 => ?_)
  refine Go.dup C X71 (pc' := 89) at_88 rfl rfl ?_
  refine Go.bipush C X71 (pc' := 91) (v := (11 : Int32)) at_89 rfl rfl ?_
  refine Go.bipush C X71 (pc' := 93) (v := (120 : Int32)) at_91 rfl rfl ?_
  refine Go.bastore C X71 (pc' := 94) (i := 11) (x' := (120 : Int32)) A71 rfl (by decide) (by decide) N60 at_93 rfl (fun T72 h72 X72 W72 A72 => ?_)
  refine Go.dup C X72 (pc' := 95) at_94 rfl rfl ?_
  refine Go.bipush C X72 (pc' := 97) (v := (12 : Int32)) at_95 rfl rfl ?_
  refine Go.bipush C X72 (pc' := 99) (v := (120 : Int32)) at_97 rfl rfl ?_
  refine Go.bastore C X72 (pc' := 100) (i := 12) (x' := (120 : Int32)) A72 rfl (by decide) (by decide) N60 at_99 rfl (fun T73 h73 X73 W73 A73 => ?_)
  refine Go.dup C X73 (pc' := 101) at_100 rfl rfl ?_
  refine Go.bipush C X73 (pc' := 103) (v := (13 : Int32)) at_101 rfl rfl ?_
  refine Go.bipush C X73 (pc' := 105) (v := (120 : Int32)) at_103 rfl rfl ?_
  refine Go.bastore C X73 (pc' := 106) (i := 13) (x' := (120 : Int32)) A73 rfl (by decide) (by decide) N60 at_105 rfl (fun T74 h74 X74 W74 A74 => ?_)
  refine Go.dup C X74 (pc' := 107) at_106 rfl rfl ?_
  refine Go.bipush C X74 (pc' := 109) (v := (14 : Int32)) at_107 rfl rfl ?_
  refine Go.bipush C X74 (pc' := 111) (v := (120 : Int32)) at_109 rfl rfl ?_
  refine Go.bastore C X74 (pc' := 112) (i := 14) (x' := (120 : Int32)) A74 rfl (by decide) (by decide) N60 at_111 rfl (fun T75 h75 X75 W75 A75 => ?_)
  refine Go.dup C X75 (pc' := 113) at_112 rfl rfl ?_
  refine Go.bipush C X75 (pc' := 115) (v := (15 : Int32)) at_113 rfl rfl ?_
  refine Go.bipush C X75 (pc' := 117) (v := (120 : Int32)) at_115 rfl rfl ?_
  refine Go.bastore C X75 (pc' := 118) (i := 15) (x' := (120 : Int32)) A75 rfl (by decide) (by decide) N60 at_117 rfl (fun T76 h76 X76 W76 A76 => ?_)
  refine Go.dup C X76 (pc' := 119) at_118 rfl rfl ?_
  refine Go.bipush C X76 (pc' := 121) (v := (16 : Int32)) at_119 rfl rfl ?_
  refine Go.bipush C X76 (pc' := 123) (v := (120 : Int32)) at_121 rfl rfl ?_
  refine Go.bastore C X76 (pc' := 124) (i := 16) (x' := (120 : Int32)) A76 rfl (by decide) (by decide) N60 at_123 rfl (fun T77 h77 X77 W77 A77 => ?_)
  refine Go.dup C X77 (pc' := 125) at_124 rfl rfl ?_
  refine Go.bipush C X77 (pc' := 127) (v := (17 : Int32)) at_125 rfl rfl ?_
  refine Go.bipush C X77 (pc' := 129) (v := (120 : Int32)) at_127 rfl rfl ?_
  refine Go.bastore C X77 (pc' := 130) (i := 17) (x' := (120 : Int32)) A77 rfl (by decide) (by decide) N60 at_129 rfl (fun T78 h78 X78 W78 A78 => ?_)
  refine Go.dup C X78 (pc' := 131) at_130 rfl rfl ?_
  refine Go.bipush C X78 (pc' := 133) (v := (18 : Int32)) at_131 rfl rfl ?_
  refine Go.bipush C X78 (pc' := 135) (v := (120 : Int32)) at_133 rfl rfl ?_
  refine Go.bastore C X78 (pc' := 136) (i := 18) (x' := (120 : Int32)) A78 rfl (by decide) (by decide) N60 at_135 rfl (fun T79 h79 X79 W79 A79 => ?_)
  refine Go.dup C X79 (pc' := 137) at_136 rfl rfl ?_
  refine Go.bipush C X79 (pc' := 139) (v := (19 : Int32)) at_137 rfl rfl ?_
  refine Go.bipush C X79 (pc' := 141) (v := (120 : Int32)) at_139 rfl rfl ?_
  refine Go.bastore C X79 (pc' := 142) (i := 19) (x' := (120 : Int32)) A79 rfl (by decide) (by decide) N60 at_141 rfl (fun T80 h80 X80 W80 A80 => ?_)
  refine Go.dup C X80 (pc' := 143) at_142 rfl rfl ?_
  refine Go.bipush C X80 (pc' := 145) (v := (20 : Int32)) at_143 rfl rfl ?_
  refine Go.bipush C X80 (pc' := 147) (v := (120 : Int32)) at_145 rfl rfl ?_
  refine Go.bastore C X80 (pc' := 148) (i := 20) (x' := (120 : Int32)) A80 rfl (by decide) (by decide) N60 at_147 rfl (fun T81 h81 X81 W81 A81 => ?_)
  refine Go.dup C X81 (pc' := 149) at_148 rfl rfl ?_
  refine Go.bipush C X81 (pc' := 151) (v := (21 : Int32)) at_149 rfl rfl ?_
  refine Go.bipush C X81 (pc' := 153) (v := (120 : Int32)) at_151 rfl rfl ?_
  refine Go.bastore C X81 (pc' := 154) (i := 21) (x' := (120 : Int32)) A81 rfl (by decide) (by decide) N60 at_153 rfl (fun T82 h82 X82 W82 A82 => ?_)
  refine Go.dup C X82 (pc' := 155) at_154 rfl rfl ?_
  refine Go.bipush C X82 (pc' := 157) (v := (22 : Int32)) at_155 rfl rfl ?_
  refine Go.bipush C X82 (pc' := 159) (v := (120 : Int32)) at_157 rfl rfl ?_
  refine Go.bastore C X82 (pc' := 160) (i := 22) (x' := (120 : Int32)) A82 rfl (by decide) (by decide) N60 at_159 rfl (fun T83 h83 X83 W83 A83 => ?_)
  refine Go.dup C X83 (pc' := 161) at_160 rfl rfl ?_
  refine Go.bipush C X83 (pc' := 163) (v := (23 : Int32)) at_161 rfl rfl ?_
  refine Go.bipush C X83 (pc' := 165) (v := (120 : Int32)) at_163 rfl rfl ?_
  refine Go.bastore C X83 (pc' := 166) (i := 23) (x' := (120 : Int32)) A83 rfl (by decide) (by decide) N60 at_165 rfl (fun T84 h84 X84 W84 A84 => ?_)
  have A85 : AI Z h84 b60 .byte 24 (fun _ => (120 : Int32)) := AI.congr A84 own_120
  refine Go.astore C X84 (pc' := 168) (Ls' := #[.val (.long x0), .second, .val (.int x1), .val (.int x2), .val (.long (x0 &&& (9223372036854775807 : Int64))), .second, .val (.int ((x1 &&& (31 : Int32)) % (23 : Int32))), .val (.int ((22 : Int32) + (x2 &&& (1 : Int32)))), .val (.ref b60), .unset, .unset]) at_166 rfl rfl rfl ?_
  refine Go.lload C X84 (pc' := 170) at_168 rfl rfl ?_
  refine Go.iload C X84 (pc' := 172) at_170 rfl rfl ?_
  refine Go.aload C X84 (pc' := 174) at_172 rfl rfl rfl ?_
  refine Go.iload C X84 (pc' := 176) at_174 rfl rfl ?_
  refine Go.callS C X84 (pc' := 179) (W := 0) (argsL := [(.long (x0 &&& (9223372036854775807 : Int64))), (.int ((x1 &&& (31 : Int32)) % (23 : Int32))), (.ref b60), (.int ((22 : Int32) + (x2 &&& (1 : Int32))))]) (rest := []) (rm_put l Z a0 hw (x0 &&& (9223372036854775807 : Int64)) ((x1 &&& (31 : Int32)) % (23 : Int32)) b60 ((22 : Int32) + (x2 &&& (1 : Int32))) 24 (fun _ => (120 : Int32)) v l' L ee h84 n0 X84.sz A85 N60 hq hl hL hE (by omega) (by omega) (by omega)) (hw _ (List.mem_of_getElem? (i := 2) rfl)) (hw _ (List.mem_of_getElem? (i := 3) rfl)) (hw _ (List.mem_of_getElem? (i := 4) rfl)) (hw _ (List.mem_of_getElem? (i := 5) rfl)) (by decide) rfl rfl (lenOf own_pd2 rfl) rfl (Nat.le_of_eq rfl) (by decide) (by decide) (by decide) (by decide) at_176 rfl (fun _ _ q => by obtain ⟨_, _, K, _⟩ := q; exact K.1) (fun T86 h86 v86 X86 P86 => ?_)
  obtain ⟨r86, rfl, K86, O86_0, Y86_0⟩ := P86
  show Go p e below s n0 _ _ _ T86 (mkF m 179 #[.val (.long x0), .second, .val (.int x1), .val (.int x2), .val (.long (x0 &&& (9223372036854775807 : Int64))), .second, .val (.int ((x1 &&& (31 : Int32)) % (23 : Int32))), .val (.int ((22 : Int32) + (x2 &&& (1 : Int32)))), .val (.ref b60), .unset, .unset] [(.int r86)])
  refine Go.istore C X86 (pc' := 181) (Ls' := #[.val (.long x0), .second, .val (.int x1), .val (.int x2), .val (.long (x0 &&& (9223372036854775807 : Int64))), .second, .val (.int ((x1 &&& (31 : Int32)) % (23 : Int32))), .val (.int ((22 : Int32) + (x2 &&& (1 : Int32)))), .val (.ref b60), .val (.int r86), .unset]) at_179 rfl rfl ?_
  refine Go.iload C X86 (pc' := 183) at_181 rfl rfl ?_
  refine Go.ifNo C X86 (pc' := 186) at_183 ((if0 _ _).trans (flt (own_k4 Y86_0 (by omega))).1) rfl ?_
  refine Go.iload C X86 (pc' := 188) at_186 rfl rfl ?_
  refine Go.iload C X86 (pc' := 190) at_188 rfl rfl ?_
  refine Go.iconst C X86 (pc' := 191) (v := (1 : Int32)) at_190 rfl rfl ?_
  refine Go.isub C X86 (pc' := 192) at_191 rfl ?_
  refine Go.icmpNo C X86 (pc' := 195) at_192 (flt (own_k3 hE he2 Y86_0 hL.1 (by omega))).2.2.1 rfl ?_
  refine Go.lload C X86 (pc' := 197) at_195 rfl rfl ?_
  refine Go.iload C X86 (pc' := 199) at_197 rfl rfl ?_
  refine Go.iload C X86 (pc' := 201) at_199 rfl rfl ?_
  refine Go.iconst C X86 (pc' := 202) (v := (1 : Int32)) at_201 rfl rfl ?_
  refine Go.isub C X86 (pc' := 203) at_202 rfl ?_
  refine Go.iload C X86 (pc' := 205) at_203 rfl rfl ?_
  refine Go.isub C X86 (pc' := 206) at_205 rfl ?_
  refine Go.callS C X86 (pc' := 209) (W := 0) (argsL := [(.long (x0 &&& (9223372036854775807 : Int64))), (.int ((x1 &&& (31 : Int32)) % (23 : Int32))), (.int ((((22 : Int32) + (x2 &&& (1 : Int32))) - (1 : Int32)) - r86))]) (rest := []) (rm_wr l Z a0 hw (x0 &&& (9223372036854775807 : Int64)) ((x1 &&& (31 : Int32)) % (23 : Int32)) ((((22 : Int32) + (x2 &&& (1 : Int32))) - (1 : Int32)) - r86) v l' L (L - 1) h86 n0 X86.sz hq hv hl hL (own_k1 hE he2 Y86_0 hL.1 (by omega))) (hw _ (List.mem_of_getElem? (i := 8) rfl)) (hw _ (List.mem_of_getElem? (i := 9) rfl)) (hw _ (List.mem_of_getElem? (i := 10) rfl)) (hw _ (List.mem_of_getElem? (i := 11) rfl)) (by decide) rfl rfl (lenOf own_pd1 rfl) rfl (Nat.le_of_eq rfl) (by decide) (by decide) (by decide) (by decide) at_206 rfl (fun _ _ q => by obtain ⟨_, K⟩ := q; exact K.1) (fun T87 h87 v87 X87 P87 => ?_)
  obtain ⟨rfl, K87⟩ := P87
  have A88 := O86_0.keep K87 nin0
  show Go p e below s n0 _ _ _ T87 (mkF m 209 #[.val (.long x0), .second, .val (.int x1), .val (.int x2), .val (.long (x0 &&& (9223372036854775807 : Int64))), .second, .val (.int ((x1 &&& (31 : Int32)) % (23 : Int32))), .val (.int ((22 : Int32) + (x2 &&& (1 : Int32)))), .val (.ref b60), .val (.int r86), .unset] [(.int (if (L - 1) < L then (1 : Int32) else (0 : Int32)))])
  refine Go.ifNo C X87 (pc' := 212) at_209 ((if0 _ _).trans (feq (by rw [if_pos (by have := hL.1; omega)]; decide)).1) rfl ?_
  refine Go.lload C X87 (pc' := 214) at_212 rfl rfl ?_
  refine Go.iload C X87 (pc' := 216) at_214 rfl rfl ?_
  refine Go.iload C X87 (pc' := 218) at_216 rfl rfl ?_
  refine Go.iload C X87 (pc' := 220) at_218 rfl rfl ?_
  refine Go.isub C X87 (pc' := 221) at_220 rfl ?_
  refine Go.callS C X87 (pc' := 224) (W := 0) (argsL := [(.long (x0 &&& (9223372036854775807 : Int64))), (.int ((x1 &&& (31 : Int32)) % (23 : Int32))), (.int (((22 : Int32) + (x2 &&& (1 : Int32))) - r86))]) (rest := []) (rm_wr l Z a0 hw (x0 &&& (9223372036854775807 : Int64)) ((x1 &&& (31 : Int32)) % (23 : Int32)) (((22 : Int32) + (x2 &&& (1 : Int32))) - r86) v l' L L h87 n0 X87.sz hq hv hl hL (own_k2 hE he2 Y86_0 (by omega))) (hw _ (List.mem_of_getElem? (i := 8) rfl)) (hw _ (List.mem_of_getElem? (i := 9) rfl)) (hw _ (List.mem_of_getElem? (i := 10) rfl)) (hw _ (List.mem_of_getElem? (i := 11) rfl)) (by decide) rfl rfl (lenOf own_pd1 rfl) rfl (Nat.le_of_eq rfl) (by decide) (by decide) (by decide) (by decide) at_221 rfl (fun _ _ q => by obtain ⟨_, K⟩ := q; exact K.1) (fun T89 h89 v89 X89 P89 => ?_)
  obtain ⟨rfl, K89⟩ := P89
  have A90 := A88.keep K89 nin0
  show Go p e below s n0 _ _ _ T89 (mkF m 224 #[.val (.long x0), .second, .val (.int x1), .val (.int x2), .val (.long (x0 &&& (9223372036854775807 : Int64))), .second, .val (.int ((x1 &&& (31 : Int32)) % (23 : Int32))), .val (.int ((22 : Int32) + (x2 &&& (1 : Int32)))), .val (.ref b60), .val (.int r86), .unset] [(.int (if L < L then (1 : Int32) else (0 : Int32)))])
  refine Go.ifNo C X89 (pc' := 227) at_224 ((if0 _ _).trans (teq (if_neg (Nat.lt_irrefl _))).2) rfl ?_
  refine Go.iconst C X89 (pc' := 228) (v := (1 : Int32)) at_227 rfl rfl ?_
  refine Go.goto C X89 (pc' := 232) at_228 (by decide) (by decide) ?_
  refine Go.istore C X89 (pc' := 234) (Ls' := #[.val (.long x0), .second, .val (.int x1), .val (.int x2), .val (.long (x0 &&& (9223372036854775807 : Int64))), .second, .val (.int ((x1 &&& (31 : Int32)) % (23 : Int32))), .val (.int ((22 : Int32) + (x2 &&& (1 : Int32)))), .val (.ref b60), .val (.int r86), .val (.int (1 : Int32))]) at_232 rfl rfl ?_
  refine Go.iload C X89 (pc' := 236) at_234 rfl rfl ?_
  refine Go.ifNo C X89 (pc' := 239) at_236 ((if0 _ _).trans (feq (by decide)).1) rfl ?_
  refine Go.aload C X89 (pc' := 241) at_239 rfl rfl rfl ?_
  refine Go.iconst C X89 (pc' := 242) (v := (0 : Int32)) at_241 rfl rfl ?_
  refine Go.lload C X89 (pc' := 244) at_242 rfl rfl ?_
  refine Go.iload C X89 (pc' := 246) at_244 rfl rfl ?_
  refine Go.iload C X89 (pc' := 248) at_246 rfl rfl ?_
  refine Go.callS C X89 (pc' := 251) (W := 0) (argsL := [(.ref b60), (.int (0 : Int32)), (.long (x0 &&& (9223372036854775807 : Int64))), (.int ((x1 &&& (31 : Int32)) % (23 : Int32))), (.int ((22 : Int32) + (x2 &&& (1 : Int32))))]) (rest := []) (rm_at l Z a0 hw b60 (0 : Int32) (x0 &&& (9223372036854775807 : Int64)) ((x1 &&& (31 : Int32)) % (23 : Int32)) ((22 : Int32) + (x2 &&& (1 : Int32))) v l' L ee 0 h89 n0 X89.sz A90 hq hv hl hL hE (by omega) (by omega) rfl (by decide)) (hw _ (List.mem_of_getElem? (i := 34) rfl)) (hw _ (List.mem_of_getElem? (i := 35) rfl)) (hw _ (List.mem_of_getElem? (i := 10) rfl)) (hw _ (List.mem_of_getElem? (i := 36) rfl)) (by decide) rfl rfl (lenOf own_pd3 rfl) rfl (Nat.le_of_eq rfl) (by decide) (by decide) (by decide) (by decide) at_248 rfl (fun _ _ q => by obtain ⟨_, K⟩ := q; exact K.1) (fun T91 h91 v91 X91 P91 => ?_)
  obtain ⟨rfl, K91⟩ := P91
  have A92 := A90.keep K91 nin0
  show Go p e below s n0 _ _ _ T91 (mkF m 251 #[.val (.long x0), .second, .val (.int x1), .val (.int x2), .val (.long (x0 &&& (9223372036854775807 : Int64))), .second, .val (.int ((x1 &&& (31 : Int32)) % (23 : Int32))), .val (.int ((22 : Int32) + (x2 &&& (1 : Int32)))), .val (.ref b60), .val (.int r86), .val (.int (1 : Int32))] [(.int (1 : Int32))])
  refine Go.ifNo C X91 (pc' := 254) at_251 ((if0 _ _).trans (feq (by decide)).1) rfl ?_
  refine Go.aload C X91 (pc' := 256) at_254 rfl rfl rfl ?_
  refine Go.iconst C X91 (pc' := 257) (v := (1 : Int32)) at_256 rfl rfl ?_
  refine Go.lload C X91 (pc' := 259) at_257 rfl rfl ?_
  refine Go.iload C X91 (pc' := 261) at_259 rfl rfl ?_
  refine Go.iload C X91 (pc' := 263) at_261 rfl rfl ?_
  refine Go.callS C X91 (pc' := 266) (W := 0) (argsL := [(.ref b60), (.int (1 : Int32)), (.long (x0 &&& (9223372036854775807 : Int64))), (.int ((x1 &&& (31 : Int32)) % (23 : Int32))), (.int ((22 : Int32) + (x2 &&& (1 : Int32))))]) (rest := []) (rm_at l Z a0 hw b60 (1 : Int32) (x0 &&& (9223372036854775807 : Int64)) ((x1 &&& (31 : Int32)) % (23 : Int32)) ((22 : Int32) + (x2 &&& (1 : Int32))) v l' L ee 1 h91 n0 X91.sz A92 hq hv hl hL hE (by omega) (by omega) rfl (by decide)) (hw _ (List.mem_of_getElem? (i := 34) rfl)) (hw _ (List.mem_of_getElem? (i := 35) rfl)) (hw _ (List.mem_of_getElem? (i := 10) rfl)) (hw _ (List.mem_of_getElem? (i := 36) rfl)) (by decide) rfl rfl (lenOf own_pd3 rfl) rfl (Nat.le_of_eq rfl) (by decide) (by decide) (by decide) (by decide) at_263 rfl (fun _ _ q => by obtain ⟨_, K⟩ := q; exact K.1) (fun T93 h93 v93 X93 P93 => ?_)
  obtain ⟨rfl, K93⟩ := P93
  have A94 := A92.keep K93 nin0
  show Go p e below s n0 _ _ _ T93 (mkF m 266 #[.val (.long x0), .second, .val (.int x1), .val (.int x2), .val (.long (x0 &&& (9223372036854775807 : Int64))), .second, .val (.int ((x1 &&& (31 : Int32)) % (23 : Int32))), .val (.int ((22 : Int32) + (x2 &&& (1 : Int32)))), .val (.ref b60), .val (.int r86), .val (.int (1 : Int32))] [(.int (1 : Int32))])
  refine Go.ifNo C X93 (pc' := 269) at_266 ((if0 _ _).trans (feq (by decide)).1) rfl ?_
  refine Go.aload C X93 (pc' := 271) at_269 rfl rfl rfl ?_
  refine Go.iconst C X93 (pc' := 272) (v := (2 : Int32)) at_271 rfl rfl ?_
  refine Go.lload C X93 (pc' := 274) at_272 rfl rfl ?_
  refine Go.iload C X93 (pc' := 276) at_274 rfl rfl ?_
  refine Go.iload C X93 (pc' := 278) at_276 rfl rfl ?_
  refine Go.callS C X93 (pc' := 281) (W := 0) (argsL := [(.ref b60), (.int (2 : Int32)), (.long (x0 &&& (9223372036854775807 : Int64))), (.int ((x1 &&& (31 : Int32)) % (23 : Int32))), (.int ((22 : Int32) + (x2 &&& (1 : Int32))))]) (rest := []) (rm_at l Z a0 hw b60 (2 : Int32) (x0 &&& (9223372036854775807 : Int64)) ((x1 &&& (31 : Int32)) % (23 : Int32)) ((22 : Int32) + (x2 &&& (1 : Int32))) v l' L ee 2 h93 n0 X93.sz A94 hq hv hl hL hE (by omega) (by omega) rfl (by decide)) (hw _ (List.mem_of_getElem? (i := 34) rfl)) (hw _ (List.mem_of_getElem? (i := 35) rfl)) (hw _ (List.mem_of_getElem? (i := 10) rfl)) (hw _ (List.mem_of_getElem? (i := 36) rfl)) (by decide) rfl rfl (lenOf own_pd3 rfl) rfl (Nat.le_of_eq rfl) (by decide) (by decide) (by decide) (by decide) at_278 rfl (fun _ _ q => by obtain ⟨_, K⟩ := q; exact K.1) (fun T95 h95 v95 X95 P95 => ?_)
  obtain ⟨rfl, K95⟩ := P95
  have A96 := A94.keep K95 nin0
  show Go p e below s n0 _ _ _ T95 (mkF m 281 #[.val (.long x0), .second, .val (.int x1), .val (.int x2), .val (.long (x0 &&& (9223372036854775807 : Int64))), .second, .val (.int ((x1 &&& (31 : Int32)) % (23 : Int32))), .val (.int ((22 : Int32) + (x2 &&& (1 : Int32)))), .val (.ref b60), .val (.int r86), .val (.int (1 : Int32))] [(.int (1 : Int32))])
  refine Go.ifNo C X95 (pc' := 284) at_281 ((if0 _ _).trans (feq (by decide)).1) rfl ?_
  refine Go.aload C X95 (pc' := 286) at_284 rfl rfl rfl ?_
  refine Go.iconst C X95 (pc' := 287) (v := (3 : Int32)) at_286 rfl rfl ?_
  refine Go.lload C X95 (pc' := 289) at_287 rfl rfl ?_
  refine Go.iload C X95 (pc' := 291) at_289 rfl rfl ?_
  refine Go.iload C X95 (pc' := 293) at_291 rfl rfl ?_
  refine Go.callS C X95 (pc' := 296) (W := 0) (argsL := [(.ref b60), (.int (3 : Int32)), (.long (x0 &&& (9223372036854775807 : Int64))), (.int ((x1 &&& (31 : Int32)) % (23 : Int32))), (.int ((22 : Int32) + (x2 &&& (1 : Int32))))]) (rest := []) (rm_at l Z a0 hw b60 (3 : Int32) (x0 &&& (9223372036854775807 : Int64)) ((x1 &&& (31 : Int32)) % (23 : Int32)) ((22 : Int32) + (x2 &&& (1 : Int32))) v l' L ee 3 h95 n0 X95.sz A96 hq hv hl hL hE (by omega) (by omega) rfl (by decide)) (hw _ (List.mem_of_getElem? (i := 34) rfl)) (hw _ (List.mem_of_getElem? (i := 35) rfl)) (hw _ (List.mem_of_getElem? (i := 10) rfl)) (hw _ (List.mem_of_getElem? (i := 36) rfl)) (by decide) rfl rfl (lenOf own_pd3 rfl) rfl (Nat.le_of_eq rfl) (by decide) (by decide) (by decide) (by decide) at_293 rfl (fun _ _ q => by obtain ⟨_, K⟩ := q; exact K.1) (fun T97 h97 v97 X97 P97 => ?_)
  obtain ⟨rfl, K97⟩ := P97
  have A98 := A96.keep K97 nin0
  show Go p e below s n0 _ _ _ T97 (mkF m 296 #[.val (.long x0), .second, .val (.int x1), .val (.int x2), .val (.long (x0 &&& (9223372036854775807 : Int64))), .second, .val (.int ((x1 &&& (31 : Int32)) % (23 : Int32))), .val (.int ((22 : Int32) + (x2 &&& (1 : Int32)))), .val (.ref b60), .val (.int r86), .val (.int (1 : Int32))] [(.int (1 : Int32))])
  refine Go.ifNo C X97 (pc' := 299) at_296 ((if0 _ _).trans (feq (by decide)).1) rfl ?_
  refine Go.aload C X97 (pc' := 301) at_299 rfl rfl rfl ?_
  refine Go.iconst C X97 (pc' := 302) (v := (4 : Int32)) at_301 rfl rfl ?_
  refine Go.lload C X97 (pc' := 304) at_302 rfl rfl ?_
  refine Go.iload C X97 (pc' := 306) at_304 rfl rfl ?_
  refine Go.iload C X97 (pc' := 308) at_306 rfl rfl ?_
  refine Go.callS C X97 (pc' := 311) (W := 0) (argsL := [(.ref b60), (.int (4 : Int32)), (.long (x0 &&& (9223372036854775807 : Int64))), (.int ((x1 &&& (31 : Int32)) % (23 : Int32))), (.int ((22 : Int32) + (x2 &&& (1 : Int32))))]) (rest := []) (rm_at l Z a0 hw b60 (4 : Int32) (x0 &&& (9223372036854775807 : Int64)) ((x1 &&& (31 : Int32)) % (23 : Int32)) ((22 : Int32) + (x2 &&& (1 : Int32))) v l' L ee 4 h97 n0 X97.sz A98 hq hv hl hL hE (by omega) (by omega) rfl (by decide)) (hw _ (List.mem_of_getElem? (i := 34) rfl)) (hw _ (List.mem_of_getElem? (i := 35) rfl)) (hw _ (List.mem_of_getElem? (i := 10) rfl)) (hw _ (List.mem_of_getElem? (i := 36) rfl)) (by decide) rfl rfl (lenOf own_pd3 rfl) rfl (Nat.le_of_eq rfl) (by decide) (by decide) (by decide) (by decide) at_308 rfl (fun _ _ q => by obtain ⟨_, K⟩ := q; exact K.1) (fun T99 h99 v99 X99 P99 => ?_)
  obtain ⟨rfl, K99⟩ := P99
  have A100 := A98.keep K99 nin0
  show Go p e below s n0 _ _ _ T99 (mkF m 311 #[.val (.long x0), .second, .val (.int x1), .val (.int x2), .val (.long (x0 &&& (9223372036854775807 : Int64))), .second, .val (.int ((x1 &&& (31 : Int32)) % (23 : Int32))), .val (.int ((22 : Int32) + (x2 &&& (1 : Int32)))), .val (.ref b60), .val (.int r86), .val (.int (1 : Int32))] [(.int (1 : Int32))])
  refine Go.ifNo C X99 (pc' := 314) at_311 ((if0 _ _).trans (feq (by decide)).1) rfl ?_
  refine Go.aload C X99 (pc' := 316) at_314 rfl rfl rfl ?_
  refine Go.iconst C X99 (pc' := 317) (v := (5 : Int32)) at_316 rfl rfl ?_
  refine Go.lload C X99 (pc' := 319) at_317 rfl rfl ?_
  refine Go.iload C X99 (pc' := 321) at_319 rfl rfl ?_
  refine Go.iload C X99 (pc' := 323) at_321 rfl rfl ?_
  refine Go.callS C X99 (pc' := 326) (W := 0) (argsL := [(.ref b60), (.int (5 : Int32)), (.long (x0 &&& (9223372036854775807 : Int64))), (.int ((x1 &&& (31 : Int32)) % (23 : Int32))), (.int ((22 : Int32) + (x2 &&& (1 : Int32))))]) (rest := []) (rm_at l Z a0 hw b60 (5 : Int32) (x0 &&& (9223372036854775807 : Int64)) ((x1 &&& (31 : Int32)) % (23 : Int32)) ((22 : Int32) + (x2 &&& (1 : Int32))) v l' L ee 5 h99 n0 X99.sz A100 hq hv hl hL hE (by omega) (by omega) rfl (by decide)) (hw _ (List.mem_of_getElem? (i := 34) rfl)) (hw _ (List.mem_of_getElem? (i := 35) rfl)) (hw _ (List.mem_of_getElem? (i := 10) rfl)) (hw _ (List.mem_of_getElem? (i := 36) rfl)) (by decide) rfl rfl (lenOf own_pd3 rfl) rfl (Nat.le_of_eq rfl) (by decide) (by decide) (by decide) (by decide) at_323 rfl (fun _ _ q => by obtain ⟨_, K⟩ := q; exact K.1) (fun T101 h101 v101 X101 P101 => ?_)
  obtain ⟨rfl, K101⟩ := P101
  have A102 := A100.keep K101 nin0
  show Go p e below s n0 _ _ _ T101 (mkF m 326 #[.val (.long x0), .second, .val (.int x1), .val (.int x2), .val (.long (x0 &&& (9223372036854775807 : Int64))), .second, .val (.int ((x1 &&& (31 : Int32)) % (23 : Int32))), .val (.int ((22 : Int32) + (x2 &&& (1 : Int32)))), .val (.ref b60), .val (.int r86), .val (.int (1 : Int32))] [(.int (1 : Int32))])
  refine Go.ifNo C X101 (pc' := 329) at_326 ((if0 _ _).trans (feq (by decide)).1) rfl ?_
  refine Go.aload C X101 (pc' := 331) at_329 rfl rfl rfl ?_
  refine Go.bipush C X101 (pc' := 333) (v := (6 : Int32)) at_331 rfl rfl ?_
  refine Go.lload C X101 (pc' := 335) at_333 rfl rfl ?_
  refine Go.iload C X101 (pc' := 337) at_335 rfl rfl ?_
  refine Go.iload C X101 (pc' := 339) at_337 rfl rfl ?_
  refine Go.callS C X101 (pc' := 342) (W := 0) (argsL := [(.ref b60), (.int (6 : Int32)), (.long (x0 &&& (9223372036854775807 : Int64))), (.int ((x1 &&& (31 : Int32)) % (23 : Int32))), (.int ((22 : Int32) + (x2 &&& (1 : Int32))))]) (rest := []) (rm_at l Z a0 hw b60 (6 : Int32) (x0 &&& (9223372036854775807 : Int64)) ((x1 &&& (31 : Int32)) % (23 : Int32)) ((22 : Int32) + (x2 &&& (1 : Int32))) v l' L ee 6 h101 n0 X101.sz A102 hq hv hl hL hE (by omega) (by omega) rfl (by decide)) (hw _ (List.mem_of_getElem? (i := 34) rfl)) (hw _ (List.mem_of_getElem? (i := 35) rfl)) (hw _ (List.mem_of_getElem? (i := 10) rfl)) (hw _ (List.mem_of_getElem? (i := 36) rfl)) (by decide) rfl rfl (lenOf own_pd3 rfl) rfl (Nat.le_of_eq rfl) (by decide) (by decide) (by decide) (by decide) at_339 rfl (fun _ _ q => by obtain ⟨_, K⟩ := q; exact K.1) (fun T103 h103 v103 X103 P103 => ?_)
  obtain ⟨rfl, K103⟩ := P103
  have A104 := A102.keep K103 nin0
  show Go p e below s n0 _ _ _ T103 (mkF m 342 #[.val (.long x0), .second, .val (.int x1), .val (.int x2), .val (.long (x0 &&& (9223372036854775807 : Int64))), .second, .val (.int ((x1 &&& (31 : Int32)) % (23 : Int32))), .val (.int ((22 : Int32) + (x2 &&& (1 : Int32)))), .val (.ref b60), .val (.int r86), .val (.int (1 : Int32))] [(.int (1 : Int32))])
  refine Go.ifNo C X103 (pc' := 345) at_342 ((if0 _ _).trans (feq (by decide)).1) rfl ?_
  refine Go.aload C X103 (pc' := 347) at_345 rfl rfl rfl ?_
  refine Go.bipush C X103 (pc' := 349) (v := (7 : Int32)) at_347 rfl rfl ?_
  refine Go.lload C X103 (pc' := 351) at_349 rfl rfl ?_
  refine Go.iload C X103 (pc' := 353) at_351 rfl rfl ?_
  refine Go.iload C X103 (pc' := 355) at_353 rfl rfl ?_
  refine Go.callS C X103 (pc' := 358) (W := 0) (argsL := [(.ref b60), (.int (7 : Int32)), (.long (x0 &&& (9223372036854775807 : Int64))), (.int ((x1 &&& (31 : Int32)) % (23 : Int32))), (.int ((22 : Int32) + (x2 &&& (1 : Int32))))]) (rest := []) (rm_at l Z a0 hw b60 (7 : Int32) (x0 &&& (9223372036854775807 : Int64)) ((x1 &&& (31 : Int32)) % (23 : Int32)) ((22 : Int32) + (x2 &&& (1 : Int32))) v l' L ee 7 h103 n0 X103.sz A104 hq hv hl hL hE (by omega) (by omega) rfl (by decide)) (hw _ (List.mem_of_getElem? (i := 34) rfl)) (hw _ (List.mem_of_getElem? (i := 35) rfl)) (hw _ (List.mem_of_getElem? (i := 10) rfl)) (hw _ (List.mem_of_getElem? (i := 36) rfl)) (by decide) rfl rfl (lenOf own_pd3 rfl) rfl (Nat.le_of_eq rfl) (by decide) (by decide) (by decide) (by decide) at_355 rfl (fun _ _ q => by obtain ⟨_, K⟩ := q; exact K.1) (fun T105 h105 v105 X105 P105 => ?_)
  obtain ⟨rfl, K105⟩ := P105
  have A106 := A104.keep K105 nin0
  show Go p e below s n0 _ _ _ T105 (mkF m 358 #[.val (.long x0), .second, .val (.int x1), .val (.int x2), .val (.long (x0 &&& (9223372036854775807 : Int64))), .second, .val (.int ((x1 &&& (31 : Int32)) % (23 : Int32))), .val (.int ((22 : Int32) + (x2 &&& (1 : Int32)))), .val (.ref b60), .val (.int r86), .val (.int (1 : Int32))] [(.int (1 : Int32))])
  refine Go.ifNo C X105 (pc' := 361) at_358 ((if0 _ _).trans (feq (by decide)).1) rfl ?_
  refine Go.aload C X105 (pc' := 363) at_361 rfl rfl rfl ?_
  refine Go.bipush C X105 (pc' := 365) (v := (8 : Int32)) at_363 rfl rfl ?_
  refine Go.lload C X105 (pc' := 367) at_365 rfl rfl ?_
  refine Go.iload C X105 (pc' := 369) at_367 rfl rfl ?_
  refine Go.iload C X105 (pc' := 371) at_369 rfl rfl ?_
  refine Go.callS C X105 (pc' := 374) (W := 0) (argsL := [(.ref b60), (.int (8 : Int32)), (.long (x0 &&& (9223372036854775807 : Int64))), (.int ((x1 &&& (31 : Int32)) % (23 : Int32))), (.int ((22 : Int32) + (x2 &&& (1 : Int32))))]) (rest := []) (rm_at l Z a0 hw b60 (8 : Int32) (x0 &&& (9223372036854775807 : Int64)) ((x1 &&& (31 : Int32)) % (23 : Int32)) ((22 : Int32) + (x2 &&& (1 : Int32))) v l' L ee 8 h105 n0 X105.sz A106 hq hv hl hL hE (by omega) (by omega) rfl (by decide)) (hw _ (List.mem_of_getElem? (i := 34) rfl)) (hw _ (List.mem_of_getElem? (i := 35) rfl)) (hw _ (List.mem_of_getElem? (i := 10) rfl)) (hw _ (List.mem_of_getElem? (i := 36) rfl)) (by decide) rfl rfl (lenOf own_pd3 rfl) rfl (Nat.le_of_eq rfl) (by decide) (by decide) (by decide) (by decide) at_371 rfl (fun _ _ q => by obtain ⟨_, K⟩ := q; exact K.1) (fun T107 h107 v107 X107 P107 => ?_)
  obtain ⟨rfl, K107⟩ := P107
  have A108 := A106.keep K107 nin0
  show Go p e below s n0 _ _ _ T107 (mkF m 374 #[.val (.long x0), .second, .val (.int x1), .val (.int x2), .val (.long (x0 &&& (9223372036854775807 : Int64))), .second, .val (.int ((x1 &&& (31 : Int32)) % (23 : Int32))), .val (.int ((22 : Int32) + (x2 &&& (1 : Int32)))), .val (.ref b60), .val (.int r86), .val (.int (1 : Int32))] [(.int (1 : Int32))])
  refine Go.ifNo C X107 (pc' := 377) at_374 ((if0 _ _).trans (feq (by decide)).1) rfl ?_
  refine Go.aload C X107 (pc' := 379) at_377 rfl rfl rfl ?_
  refine Go.bipush C X107 (pc' := 381) (v := (9 : Int32)) at_379 rfl rfl ?_
  refine Go.lload C X107 (pc' := 383) at_381 rfl rfl ?_
  refine Go.iload C X107 (pc' := 385) at_383 rfl rfl ?_
  refine Go.iload C X107 (pc' := 387) at_385 rfl rfl ?_
  refine Go.callS C X107 (pc' := 390) (W := 0) (argsL := [(.ref b60), (.int (9 : Int32)), (.long (x0 &&& (9223372036854775807 : Int64))), (.int ((x1 &&& (31 : Int32)) % (23 : Int32))), (.int ((22 : Int32) + (x2 &&& (1 : Int32))))]) (rest := []) (rm_at l Z a0 hw b60 (9 : Int32) (x0 &&& (9223372036854775807 : Int64)) ((x1 &&& (31 : Int32)) % (23 : Int32)) ((22 : Int32) + (x2 &&& (1 : Int32))) v l' L ee 9 h107 n0 X107.sz A108 hq hv hl hL hE (by omega) (by omega) rfl (by decide)) (hw _ (List.mem_of_getElem? (i := 34) rfl)) (hw _ (List.mem_of_getElem? (i := 35) rfl)) (hw _ (List.mem_of_getElem? (i := 10) rfl)) (hw _ (List.mem_of_getElem? (i := 36) rfl)) (by decide) rfl rfl (lenOf own_pd3 rfl) rfl (Nat.le_of_eq rfl) (by decide) (by decide) (by decide) (by decide) at_387 rfl (fun _ _ q => by obtain ⟨_, K⟩ := q; exact K.1) (fun T109 h109 v109 X109 P109 => ?_)
  obtain ⟨rfl, K109⟩ := P109
  have A110 := A108.keep K109 nin0
  show Go p e below s n0 _ _ _ T109 (mkF m 390 #[.val (.long x0), .second, .val (.int x1), .val (.int x2), .val (.long (x0 &&& (9223372036854775807 : Int64))), .second, .val (.int ((x1 &&& (31 : Int32)) % (23 : Int32))), .val (.int ((22 : Int32) + (x2 &&& (1 : Int32)))), .val (.ref b60), .val (.int r86), .val (.int (1 : Int32))] [(.int (1 : Int32))])
  refine Go.ifNo C X109 (pc' := 393) at_390 ((if0 _ _).trans (feq (by decide)).1) rfl ?_
  refine Go.aload C X109 (pc' := 395) at_393 rfl rfl rfl ?_
  refine Go.bipush C X109 (pc' := 397) (v := (10 : Int32)) at_395 rfl rfl ?_
  refine Go.lload C X109 (pc' := 399) at_397 rfl rfl ?_
  refine Go.iload C X109 (pc' := 401) at_399 rfl rfl ?_
  refine Go.iload C X109 (pc' := 403) at_401 rfl rfl ?_
  refine Go.callS C X109 (pc' := 406) (W := 0) (argsL := [(.ref b60), (.int (10 : Int32)), (.long (x0 &&& (9223372036854775807 : Int64))), (.int ((x1 &&& (31 : Int32)) % (23 : Int32))), (.int ((22 : Int32) + (x2 &&& (1 : Int32))))]) (rest := []) (rm_at l Z a0 hw b60 (10 : Int32) (x0 &&& (9223372036854775807 : Int64)) ((x1 &&& (31 : Int32)) % (23 : Int32)) ((22 : Int32) + (x2 &&& (1 : Int32))) v l' L ee 10 h109 n0 X109.sz A110 hq hv hl hL hE (by omega) (by omega) rfl (by decide)) (hw _ (List.mem_of_getElem? (i := 34) rfl)) (hw _ (List.mem_of_getElem? (i := 35) rfl)) (hw _ (List.mem_of_getElem? (i := 10) rfl)) (hw _ (List.mem_of_getElem? (i := 36) rfl)) (by decide) rfl rfl (lenOf own_pd3 rfl) rfl (Nat.le_of_eq rfl) (by decide) (by decide) (by decide) (by decide) at_403 rfl (fun _ _ q => by obtain ⟨_, K⟩ := q; exact K.1) (fun T111 h111 v111 X111 P111 => ?_)
  obtain ⟨rfl, K111⟩ := P111
  have A112 := A110.keep K111 nin0
  show Go p e below s n0 _ _ _ T111 (mkF m 406 #[.val (.long x0), .second, .val (.int x1), .val (.int x2), .val (.long (x0 &&& (9223372036854775807 : Int64))), .second, .val (.int ((x1 &&& (31 : Int32)) % (23 : Int32))), .val (.int ((22 : Int32) + (x2 &&& (1 : Int32)))), .val (.ref b60), .val (.int r86), .val (.int (1 : Int32))] [(.int (1 : Int32))])
  refine Go.ifNo C X111 (pc' := 409) at_406 ((if0 _ _).trans (feq (by decide)).1) rfl ?_
  refine Go.aload C X111 (pc' := 411) at_409 rfl rfl rfl ?_
  refine Go.bipush C X111 (pc' := 413) (v := (11 : Int32)) at_411 rfl rfl ?_
  refine Go.lload C X111 (pc' := 415) at_413 rfl rfl ?_
  refine Go.iload C X111 (pc' := 417) at_415 rfl rfl ?_
  refine Go.iload C X111 (pc' := 419) at_417 rfl rfl ?_
  refine Go.callS C X111 (pc' := 422) (W := 0) (argsL := [(.ref b60), (.int (11 : Int32)), (.long (x0 &&& (9223372036854775807 : Int64))), (.int ((x1 &&& (31 : Int32)) % (23 : Int32))), (.int ((22 : Int32) + (x2 &&& (1 : Int32))))]) (rest := []) (rm_at l Z a0 hw b60 (11 : Int32) (x0 &&& (9223372036854775807 : Int64)) ((x1 &&& (31 : Int32)) % (23 : Int32)) ((22 : Int32) + (x2 &&& (1 : Int32))) v l' L ee 11 h111 n0 X111.sz A112 hq hv hl hL hE (by omega) (by omega) rfl (by decide)) (hw _ (List.mem_of_getElem? (i := 34) rfl)) (hw _ (List.mem_of_getElem? (i := 35) rfl)) (hw _ (List.mem_of_getElem? (i := 10) rfl)) (hw _ (List.mem_of_getElem? (i := 36) rfl)) (by decide) rfl rfl (lenOf own_pd3 rfl) rfl (Nat.le_of_eq rfl) (by decide) (by decide) (by decide) (by decide) at_419 rfl (fun _ _ q => by obtain ⟨_, K⟩ := q; exact K.1) (fun T113 h113 v113 X113 P113 => ?_)
  obtain ⟨rfl, K113⟩ := P113
  have A114 := A112.keep K113 nin0
  show Go p e below s n0 _ _ _ T113 (mkF m 422 #[.val (.long x0), .second, .val (.int x1), .val (.int x2), .val (.long (x0 &&& (9223372036854775807 : Int64))), .second, .val (.int ((x1 &&& (31 : Int32)) % (23 : Int32))), .val (.int ((22 : Int32) + (x2 &&& (1 : Int32)))), .val (.ref b60), .val (.int r86), .val (.int (1 : Int32))] [(.int (1 : Int32))])
  refine Go.ifNo C X113 (pc' := 425) at_422 ((if0 _ _).trans (feq (by decide)).1) rfl ?_
  refine Go.aload C X113 (pc' := 427) at_425 rfl rfl rfl ?_
  refine Go.bipush C X113 (pc' := 429) (v := (12 : Int32)) at_427 rfl rfl ?_
  refine Go.lload C X113 (pc' := 431) at_429 rfl rfl ?_
  refine Go.iload C X113 (pc' := 433) at_431 rfl rfl ?_
  refine Go.iload C X113 (pc' := 435) at_433 rfl rfl ?_
  refine Go.callS C X113 (pc' := 438) (W := 0) (argsL := [(.ref b60), (.int (12 : Int32)), (.long (x0 &&& (9223372036854775807 : Int64))), (.int ((x1 &&& (31 : Int32)) % (23 : Int32))), (.int ((22 : Int32) + (x2 &&& (1 : Int32))))]) (rest := []) (rm_at l Z a0 hw b60 (12 : Int32) (x0 &&& (9223372036854775807 : Int64)) ((x1 &&& (31 : Int32)) % (23 : Int32)) ((22 : Int32) + (x2 &&& (1 : Int32))) v l' L ee 12 h113 n0 X113.sz A114 hq hv hl hL hE (by omega) (by omega) rfl (by decide)) (hw _ (List.mem_of_getElem? (i := 34) rfl)) (hw _ (List.mem_of_getElem? (i := 35) rfl)) (hw _ (List.mem_of_getElem? (i := 10) rfl)) (hw _ (List.mem_of_getElem? (i := 36) rfl)) (by decide) rfl rfl (lenOf own_pd3 rfl) rfl (Nat.le_of_eq rfl) (by decide) (by decide) (by decide) (by decide) at_435 rfl (fun _ _ q => by obtain ⟨_, K⟩ := q; exact K.1) (fun T115 h115 v115 X115 P115 => ?_)
  obtain ⟨rfl, K115⟩ := P115
  have A116 := A114.keep K115 nin0
  show Go p e below s n0 _ _ _ T115 (mkF m 438 #[.val (.long x0), .second, .val (.int x1), .val (.int x2), .val (.long (x0 &&& (9223372036854775807 : Int64))), .second, .val (.int ((x1 &&& (31 : Int32)) % (23 : Int32))), .val (.int ((22 : Int32) + (x2 &&& (1 : Int32)))), .val (.ref b60), .val (.int r86), .val (.int (1 : Int32))] [(.int (1 : Int32))])
  refine Go.ifNo C X115 (pc' := 441) at_438 ((if0 _ _).trans (feq (by decide)).1) rfl ?_
  refine Go.aload C X115 (pc' := 443) at_441 rfl rfl rfl ?_
  refine Go.bipush C X115 (pc' := 445) (v := (13 : Int32)) at_443 rfl rfl ?_
  refine Go.lload C X115 (pc' := 447) at_445 rfl rfl ?_
  refine Go.iload C X115 (pc' := 449) at_447 rfl rfl ?_
  refine Go.iload C X115 (pc' := 451) at_449 rfl rfl ?_
  refine Go.callS C X115 (pc' := 454) (W := 0) (argsL := [(.ref b60), (.int (13 : Int32)), (.long (x0 &&& (9223372036854775807 : Int64))), (.int ((x1 &&& (31 : Int32)) % (23 : Int32))), (.int ((22 : Int32) + (x2 &&& (1 : Int32))))]) (rest := []) (rm_at l Z a0 hw b60 (13 : Int32) (x0 &&& (9223372036854775807 : Int64)) ((x1 &&& (31 : Int32)) % (23 : Int32)) ((22 : Int32) + (x2 &&& (1 : Int32))) v l' L ee 13 h115 n0 X115.sz A116 hq hv hl hL hE (by omega) (by omega) rfl (by decide)) (hw _ (List.mem_of_getElem? (i := 34) rfl)) (hw _ (List.mem_of_getElem? (i := 35) rfl)) (hw _ (List.mem_of_getElem? (i := 10) rfl)) (hw _ (List.mem_of_getElem? (i := 36) rfl)) (by decide) rfl rfl (lenOf own_pd3 rfl) rfl (Nat.le_of_eq rfl) (by decide) (by decide) (by decide) (by decide) at_451 rfl (fun _ _ q => by obtain ⟨_, K⟩ := q; exact K.1) (fun T117 h117 v117 X117 P117 => ?_)
  obtain ⟨rfl, K117⟩ := P117
  have A118 := A116.keep K117 nin0
  show Go p e below s n0 _ _ _ T117 (mkF m 454 #[.val (.long x0), .second, .val (.int x1), .val (.int x2), .val (.long (x0 &&& (9223372036854775807 : Int64))), .second, .val (.int ((x1 &&& (31 : Int32)) % (23 : Int32))), .val (.int ((22 : Int32) + (x2 &&& (1 : Int32)))), .val (.ref b60), .val (.int r86), .val (.int (1 : Int32))] [(.int (1 : Int32))])
  refine Go.ifNo C X117 (pc' := 457) at_454 ((if0 _ _).trans (feq (by decide)).1) rfl ?_
  refine Go.aload C X117 (pc' := 459) at_457 rfl rfl rfl ?_
  refine Go.bipush C X117 (pc' := 461) (v := (14 : Int32)) at_459 rfl rfl ?_
  refine Go.lload C X117 (pc' := 463) at_461 rfl rfl ?_
  refine Go.iload C X117 (pc' := 465) at_463 rfl rfl ?_
  refine Go.iload C X117 (pc' := 467) at_465 rfl rfl ?_
  refine Go.callS C X117 (pc' := 470) (W := 0) (argsL := [(.ref b60), (.int (14 : Int32)), (.long (x0 &&& (9223372036854775807 : Int64))), (.int ((x1 &&& (31 : Int32)) % (23 : Int32))), (.int ((22 : Int32) + (x2 &&& (1 : Int32))))]) (rest := []) (rm_at l Z a0 hw b60 (14 : Int32) (x0 &&& (9223372036854775807 : Int64)) ((x1 &&& (31 : Int32)) % (23 : Int32)) ((22 : Int32) + (x2 &&& (1 : Int32))) v l' L ee 14 h117 n0 X117.sz A118 hq hv hl hL hE (by omega) (by omega) rfl (by decide)) (hw _ (List.mem_of_getElem? (i := 34) rfl)) (hw _ (List.mem_of_getElem? (i := 35) rfl)) (hw _ (List.mem_of_getElem? (i := 10) rfl)) (hw _ (List.mem_of_getElem? (i := 36) rfl)) (by decide) rfl rfl (lenOf own_pd3 rfl) rfl (Nat.le_of_eq rfl) (by decide) (by decide) (by decide) (by decide) at_467 rfl (fun _ _ q => by obtain ⟨_, K⟩ := q; exact K.1) (fun T119 h119 v119 X119 P119 => ?_)
  obtain ⟨rfl, K119⟩ := P119
  have A120 := A118.keep K119 nin0
  show Go p e below s n0 _ _ _ T119 (mkF m 470 #[.val (.long x0), .second, .val (.int x1), .val (.int x2), .val (.long (x0 &&& (9223372036854775807 : Int64))), .second, .val (.int ((x1 &&& (31 : Int32)) % (23 : Int32))), .val (.int ((22 : Int32) + (x2 &&& (1 : Int32)))), .val (.ref b60), .val (.int r86), .val (.int (1 : Int32))] [(.int (1 : Int32))])
  refine Go.ifNo C X119 (pc' := 473) at_470 ((if0 _ _).trans (feq (by decide)).1) rfl ?_
  refine Go.aload C X119 (pc' := 475) at_473 rfl rfl rfl ?_
  refine Go.bipush C X119 (pc' := 477) (v := (15 : Int32)) at_475 rfl rfl ?_
  refine Go.lload C X119 (pc' := 479) at_477 rfl rfl ?_
  refine Go.iload C X119 (pc' := 481) at_479 rfl rfl ?_
  refine Go.iload C X119 (pc' := 483) at_481 rfl rfl ?_
  refine Go.callS C X119 (pc' := 486) (W := 0) (argsL := [(.ref b60), (.int (15 : Int32)), (.long (x0 &&& (9223372036854775807 : Int64))), (.int ((x1 &&& (31 : Int32)) % (23 : Int32))), (.int ((22 : Int32) + (x2 &&& (1 : Int32))))]) (rest := []) (rm_at l Z a0 hw b60 (15 : Int32) (x0 &&& (9223372036854775807 : Int64)) ((x1 &&& (31 : Int32)) % (23 : Int32)) ((22 : Int32) + (x2 &&& (1 : Int32))) v l' L ee 15 h119 n0 X119.sz A120 hq hv hl hL hE (by omega) (by omega) rfl (by decide)) (hw _ (List.mem_of_getElem? (i := 34) rfl)) (hw _ (List.mem_of_getElem? (i := 35) rfl)) (hw _ (List.mem_of_getElem? (i := 10) rfl)) (hw _ (List.mem_of_getElem? (i := 36) rfl)) (by decide) rfl rfl (lenOf own_pd3 rfl) rfl (Nat.le_of_eq rfl) (by decide) (by decide) (by decide) (by decide) at_483 rfl (fun _ _ q => by obtain ⟨_, K⟩ := q; exact K.1) (fun T121 h121 v121 X121 P121 => ?_)
  obtain ⟨rfl, K121⟩ := P121
  have A122 := A120.keep K121 nin0
  show Go p e below s n0 _ _ _ T121 (mkF m 486 #[.val (.long x0), .second, .val (.int x1), .val (.int x2), .val (.long (x0 &&& (9223372036854775807 : Int64))), .second, .val (.int ((x1 &&& (31 : Int32)) % (23 : Int32))), .val (.int ((22 : Int32) + (x2 &&& (1 : Int32)))), .val (.ref b60), .val (.int r86), .val (.int (1 : Int32))] [(.int (1 : Int32))])
  refine Go.ifNo C X121 (pc' := 489) at_486 ((if0 _ _).trans (feq (by decide)).1) rfl ?_
  refine Go.aload C X121 (pc' := 491) at_489 rfl rfl rfl ?_
  refine Go.bipush C X121 (pc' := 493) (v := (16 : Int32)) at_491 rfl rfl ?_
  refine Go.lload C X121 (pc' := 495) at_493 rfl rfl ?_
  refine Go.iload C X121 (pc' := 497) at_495 rfl rfl ?_
  refine Go.iload C X121 (pc' := 499) at_497 rfl rfl ?_
  refine Go.callS C X121 (pc' := 502) (W := 0) (argsL := [(.ref b60), (.int (16 : Int32)), (.long (x0 &&& (9223372036854775807 : Int64))), (.int ((x1 &&& (31 : Int32)) % (23 : Int32))), (.int ((22 : Int32) + (x2 &&& (1 : Int32))))]) (rest := []) (rm_at l Z a0 hw b60 (16 : Int32) (x0 &&& (9223372036854775807 : Int64)) ((x1 &&& (31 : Int32)) % (23 : Int32)) ((22 : Int32) + (x2 &&& (1 : Int32))) v l' L ee 16 h121 n0 X121.sz A122 hq hv hl hL hE (by omega) (by omega) rfl (by decide)) (hw _ (List.mem_of_getElem? (i := 34) rfl)) (hw _ (List.mem_of_getElem? (i := 35) rfl)) (hw _ (List.mem_of_getElem? (i := 10) rfl)) (hw _ (List.mem_of_getElem? (i := 36) rfl)) (by decide) rfl rfl (lenOf own_pd3 rfl) rfl (Nat.le_of_eq rfl) (by decide) (by decide) (by decide) (by decide) at_499 rfl (fun _ _ q => by obtain ⟨_, K⟩ := q; exact K.1) (fun T123 h123 v123 X123 P123 => ?_)
  obtain ⟨rfl, K123⟩ := P123
  have A124 := A122.keep K123 nin0
  show Go p e below s n0 _ _ _ T123 (mkF m 502 #[.val (.long x0), .second, .val (.int x1), .val (.int x2), .val (.long (x0 &&& (9223372036854775807 : Int64))), .second, .val (.int ((x1 &&& (31 : Int32)) % (23 : Int32))), .val (.int ((22 : Int32) + (x2 &&& (1 : Int32)))), .val (.ref b60), .val (.int r86), .val (.int (1 : Int32))] [(.int (1 : Int32))])
  refine Go.ifNo C X123 (pc' := 505) at_502 ((if0 _ _).trans (feq (by decide)).1) rfl ?_
  refine Go.aload C X123 (pc' := 507) at_505 rfl rfl rfl ?_
  refine Go.bipush C X123 (pc' := 509) (v := (17 : Int32)) at_507 rfl rfl ?_
  refine Go.lload C X123 (pc' := 511) at_509 rfl rfl ?_
  refine Go.iload C X123 (pc' := 513) at_511 rfl rfl ?_
  refine Go.iload C X123 (pc' := 515) at_513 rfl rfl ?_
  refine Go.callS C X123 (pc' := 518) (W := 0) (argsL := [(.ref b60), (.int (17 : Int32)), (.long (x0 &&& (9223372036854775807 : Int64))), (.int ((x1 &&& (31 : Int32)) % (23 : Int32))), (.int ((22 : Int32) + (x2 &&& (1 : Int32))))]) (rest := []) (rm_at l Z a0 hw b60 (17 : Int32) (x0 &&& (9223372036854775807 : Int64)) ((x1 &&& (31 : Int32)) % (23 : Int32)) ((22 : Int32) + (x2 &&& (1 : Int32))) v l' L ee 17 h123 n0 X123.sz A124 hq hv hl hL hE (by omega) (by omega) rfl (by decide)) (hw _ (List.mem_of_getElem? (i := 34) rfl)) (hw _ (List.mem_of_getElem? (i := 35) rfl)) (hw _ (List.mem_of_getElem? (i := 10) rfl)) (hw _ (List.mem_of_getElem? (i := 36) rfl)) (by decide) rfl rfl (lenOf own_pd3 rfl) rfl (Nat.le_of_eq rfl) (by decide) (by decide) (by decide) (by decide) at_515 rfl (fun _ _ q => by obtain ⟨_, K⟩ := q; exact K.1) (fun T125 h125 v125 X125 P125 => ?_)
  obtain ⟨rfl, K125⟩ := P125
  have A126 := A124.keep K125 nin0
  show Go p e below s n0 _ _ _ T125 (mkF m 518 #[.val (.long x0), .second, .val (.int x1), .val (.int x2), .val (.long (x0 &&& (9223372036854775807 : Int64))), .second, .val (.int ((x1 &&& (31 : Int32)) % (23 : Int32))), .val (.int ((22 : Int32) + (x2 &&& (1 : Int32)))), .val (.ref b60), .val (.int r86), .val (.int (1 : Int32))] [(.int (1 : Int32))])
  refine Go.ifNo C X125 (pc' := 521) at_518 ((if0 _ _).trans (feq (by decide)).1) rfl ?_
  refine Go.aload C X125 (pc' := 523) at_521 rfl rfl rfl ?_
  refine Go.bipush C X125 (pc' := 525) (v := (18 : Int32)) at_523 rfl rfl ?_
  refine Go.lload C X125 (pc' := 527) at_525 rfl rfl ?_
  refine Go.iload C X125 (pc' := 529) at_527 rfl rfl ?_
  refine Go.iload C X125 (pc' := 531) at_529 rfl rfl ?_
  refine Go.callS C X125 (pc' := 534) (W := 0) (argsL := [(.ref b60), (.int (18 : Int32)), (.long (x0 &&& (9223372036854775807 : Int64))), (.int ((x1 &&& (31 : Int32)) % (23 : Int32))), (.int ((22 : Int32) + (x2 &&& (1 : Int32))))]) (rest := []) (rm_at l Z a0 hw b60 (18 : Int32) (x0 &&& (9223372036854775807 : Int64)) ((x1 &&& (31 : Int32)) % (23 : Int32)) ((22 : Int32) + (x2 &&& (1 : Int32))) v l' L ee 18 h125 n0 X125.sz A126 hq hv hl hL hE (by omega) (by omega) rfl (by decide)) (hw _ (List.mem_of_getElem? (i := 34) rfl)) (hw _ (List.mem_of_getElem? (i := 35) rfl)) (hw _ (List.mem_of_getElem? (i := 10) rfl)) (hw _ (List.mem_of_getElem? (i := 36) rfl)) (by decide) rfl rfl (lenOf own_pd3 rfl) rfl (Nat.le_of_eq rfl) (by decide) (by decide) (by decide) (by decide) at_531 rfl (fun _ _ q => by obtain ⟨_, K⟩ := q; exact K.1) (fun T127 h127 v127 X127 P127 => ?_)
  obtain ⟨rfl, K127⟩ := P127
  have A128 := A126.keep K127 nin0
  show Go p e below s n0 _ _ _ T127 (mkF m 534 #[.val (.long x0), .second, .val (.int x1), .val (.int x2), .val (.long (x0 &&& (9223372036854775807 : Int64))), .second, .val (.int ((x1 &&& (31 : Int32)) % (23 : Int32))), .val (.int ((22 : Int32) + (x2 &&& (1 : Int32)))), .val (.ref b60), .val (.int r86), .val (.int (1 : Int32))] [(.int (1 : Int32))])
  refine Go.ifNo C X127 (pc' := 537) at_534 ((if0 _ _).trans (feq (by decide)).1) rfl ?_
  refine Go.aload C X127 (pc' := 539) at_537 rfl rfl rfl ?_
  refine Go.bipush C X127 (pc' := 541) (v := (19 : Int32)) at_539 rfl rfl ?_
  refine Go.lload C X127 (pc' := 543) at_541 rfl rfl ?_
  refine Go.iload C X127 (pc' := 545) at_543 rfl rfl ?_
  refine Go.iload C X127 (pc' := 547) at_545 rfl rfl ?_
  refine Go.callS C X127 (pc' := 550) (W := 0) (argsL := [(.ref b60), (.int (19 : Int32)), (.long (x0 &&& (9223372036854775807 : Int64))), (.int ((x1 &&& (31 : Int32)) % (23 : Int32))), (.int ((22 : Int32) + (x2 &&& (1 : Int32))))]) (rest := []) (rm_at l Z a0 hw b60 (19 : Int32) (x0 &&& (9223372036854775807 : Int64)) ((x1 &&& (31 : Int32)) % (23 : Int32)) ((22 : Int32) + (x2 &&& (1 : Int32))) v l' L ee 19 h127 n0 X127.sz A128 hq hv hl hL hE (by omega) (by omega) rfl (by decide)) (hw _ (List.mem_of_getElem? (i := 34) rfl)) (hw _ (List.mem_of_getElem? (i := 35) rfl)) (hw _ (List.mem_of_getElem? (i := 10) rfl)) (hw _ (List.mem_of_getElem? (i := 36) rfl)) (by decide) rfl rfl (lenOf own_pd3 rfl) rfl (Nat.le_of_eq rfl) (by decide) (by decide) (by decide) (by decide) at_547 rfl (fun _ _ q => by obtain ⟨_, K⟩ := q; exact K.1) (fun T129 h129 v129 X129 P129 => ?_)
  obtain ⟨rfl, K129⟩ := P129
  have A130 := A128.keep K129 nin0
  show Go p e below s n0 _ _ _ T129 (mkF m 550 #[.val (.long x0), .second, .val (.int x1), .val (.int x2), .val (.long (x0 &&& (9223372036854775807 : Int64))), .second, .val (.int ((x1 &&& (31 : Int32)) % (23 : Int32))), .val (.int ((22 : Int32) + (x2 &&& (1 : Int32)))), .val (.ref b60), .val (.int r86), .val (.int (1 : Int32))] [(.int (1 : Int32))])
  refine Go.ifNo C X129 (pc' := 553) at_550 ((if0 _ _).trans (feq (by decide)).1) rfl ?_
  refine Go.aload C X129 (pc' := 555) at_553 rfl rfl rfl ?_
  refine Go.bipush C X129 (pc' := 557) (v := (20 : Int32)) at_555 rfl rfl ?_
  refine Go.lload C X129 (pc' := 559) at_557 rfl rfl ?_
  refine Go.iload C X129 (pc' := 561) at_559 rfl rfl ?_
  refine Go.iload C X129 (pc' := 563) at_561 rfl rfl ?_
  refine Go.callS C X129 (pc' := 566) (W := 0) (argsL := [(.ref b60), (.int (20 : Int32)), (.long (x0 &&& (9223372036854775807 : Int64))), (.int ((x1 &&& (31 : Int32)) % (23 : Int32))), (.int ((22 : Int32) + (x2 &&& (1 : Int32))))]) (rest := []) (rm_at l Z a0 hw b60 (20 : Int32) (x0 &&& (9223372036854775807 : Int64)) ((x1 &&& (31 : Int32)) % (23 : Int32)) ((22 : Int32) + (x2 &&& (1 : Int32))) v l' L ee 20 h129 n0 X129.sz A130 hq hv hl hL hE (by omega) (by omega) rfl (by decide)) (hw _ (List.mem_of_getElem? (i := 34) rfl)) (hw _ (List.mem_of_getElem? (i := 35) rfl)) (hw _ (List.mem_of_getElem? (i := 10) rfl)) (hw _ (List.mem_of_getElem? (i := 36) rfl)) (by decide) rfl rfl (lenOf own_pd3 rfl) rfl (Nat.le_of_eq rfl) (by decide) (by decide) (by decide) (by decide) at_563 rfl (fun _ _ q => by obtain ⟨_, K⟩ := q; exact K.1) (fun T131 h131 v131 X131 P131 => ?_)
  obtain ⟨rfl, K131⟩ := P131
  have A132 := A130.keep K131 nin0
  show Go p e below s n0 _ _ _ T131 (mkF m 566 #[.val (.long x0), .second, .val (.int x1), .val (.int x2), .val (.long (x0 &&& (9223372036854775807 : Int64))), .second, .val (.int ((x1 &&& (31 : Int32)) % (23 : Int32))), .val (.int ((22 : Int32) + (x2 &&& (1 : Int32)))), .val (.ref b60), .val (.int r86), .val (.int (1 : Int32))] [(.int (1 : Int32))])
  refine Go.ifNo C X131 (pc' := 569) at_566 ((if0 _ _).trans (feq (by decide)).1) rfl ?_
  refine Go.aload C X131 (pc' := 571) at_569 rfl rfl rfl ?_
  refine Go.bipush C X131 (pc' := 573) (v := (21 : Int32)) at_571 rfl rfl ?_
  refine Go.lload C X131 (pc' := 575) at_573 rfl rfl ?_
  refine Go.iload C X131 (pc' := 577) at_575 rfl rfl ?_
  refine Go.iload C X131 (pc' := 579) at_577 rfl rfl ?_
  refine Go.callS C X131 (pc' := 582) (W := 0) (argsL := [(.ref b60), (.int (21 : Int32)), (.long (x0 &&& (9223372036854775807 : Int64))), (.int ((x1 &&& (31 : Int32)) % (23 : Int32))), (.int ((22 : Int32) + (x2 &&& (1 : Int32))))]) (rest := []) (rm_at l Z a0 hw b60 (21 : Int32) (x0 &&& (9223372036854775807 : Int64)) ((x1 &&& (31 : Int32)) % (23 : Int32)) ((22 : Int32) + (x2 &&& (1 : Int32))) v l' L ee 21 h131 n0 X131.sz A132 hq hv hl hL hE (by omega) (by omega) rfl (by decide)) (hw _ (List.mem_of_getElem? (i := 34) rfl)) (hw _ (List.mem_of_getElem? (i := 35) rfl)) (hw _ (List.mem_of_getElem? (i := 10) rfl)) (hw _ (List.mem_of_getElem? (i := 36) rfl)) (by decide) rfl rfl (lenOf own_pd3 rfl) rfl (Nat.le_of_eq rfl) (by decide) (by decide) (by decide) (by decide) at_579 rfl (fun _ _ q => by obtain ⟨_, K⟩ := q; exact K.1) (fun T133 h133 v133 X133 P133 => ?_)
  obtain ⟨rfl, K133⟩ := P133
  have A134 := A132.keep K133 nin0
  show Go p e below s n0 _ _ _ T133 (mkF m 582 #[.val (.long x0), .second, .val (.int x1), .val (.int x2), .val (.long (x0 &&& (9223372036854775807 : Int64))), .second, .val (.int ((x1 &&& (31 : Int32)) % (23 : Int32))), .val (.int ((22 : Int32) + (x2 &&& (1 : Int32)))), .val (.ref b60), .val (.int r86), .val (.int (1 : Int32))] [(.int (1 : Int32))])
  refine Go.ifNo C X133 (pc' := 585) at_582 ((if0 _ _).trans (feq (by decide)).1) rfl ?_
  refine Go.aload C X133 (pc' := 587) at_585 rfl rfl rfl ?_
  refine Go.bipush C X133 (pc' := 589) (v := (22 : Int32)) at_587 rfl rfl ?_
  refine Go.lload C X133 (pc' := 591) at_589 rfl rfl ?_
  refine Go.iload C X133 (pc' := 593) at_591 rfl rfl ?_
  refine Go.iload C X133 (pc' := 595) at_593 rfl rfl ?_
  refine Go.callS C X133 (pc' := 598) (W := 0) (argsL := [(.ref b60), (.int (22 : Int32)), (.long (x0 &&& (9223372036854775807 : Int64))), (.int ((x1 &&& (31 : Int32)) % (23 : Int32))), (.int ((22 : Int32) + (x2 &&& (1 : Int32))))]) (rest := []) (rm_at l Z a0 hw b60 (22 : Int32) (x0 &&& (9223372036854775807 : Int64)) ((x1 &&& (31 : Int32)) % (23 : Int32)) ((22 : Int32) + (x2 &&& (1 : Int32))) v l' L ee 22 h133 n0 X133.sz A134 hq hv hl hL hE (by omega) (by omega) rfl (by decide)) (hw _ (List.mem_of_getElem? (i := 34) rfl)) (hw _ (List.mem_of_getElem? (i := 35) rfl)) (hw _ (List.mem_of_getElem? (i := 10) rfl)) (hw _ (List.mem_of_getElem? (i := 36) rfl)) (by decide) rfl rfl (lenOf own_pd3 rfl) rfl (Nat.le_of_eq rfl) (by decide) (by decide) (by decide) (by decide) at_595 rfl (fun _ _ q => by obtain ⟨_, K⟩ := q; exact K.1) (fun T135 h135 v135 X135 P135 => ?_)
  obtain ⟨rfl, K135⟩ := P135
  have A136 := A134.keep K135 nin0
  show Go p e below s n0 _ _ _ T135 (mkF m 598 #[.val (.long x0), .second, .val (.int x1), .val (.int x2), .val (.long (x0 &&& (9223372036854775807 : Int64))), .second, .val (.int ((x1 &&& (31 : Int32)) % (23 : Int32))), .val (.int ((22 : Int32) + (x2 &&& (1 : Int32)))), .val (.ref b60), .val (.int r86), .val (.int (1 : Int32))] [(.int (1 : Int32))])
  refine Go.ifNo C X135 (pc' := 601) at_598 ((if0 _ _).trans (feq (by decide)).1) rfl ?_
  refine Go.aload C X135 (pc' := 603) at_601 rfl rfl rfl ?_
  refine Go.bipush C X135 (pc' := 605) (v := (23 : Int32)) at_603 rfl rfl ?_
  refine Go.lload C X135 (pc' := 607) at_605 rfl rfl ?_
  refine Go.iload C X135 (pc' := 609) at_607 rfl rfl ?_
  refine Go.iload C X135 (pc' := 611) at_609 rfl rfl ?_
  refine Go.callS C X135 (pc' := 614) (W := 0) (argsL := [(.ref b60), (.int (23 : Int32)), (.long (x0 &&& (9223372036854775807 : Int64))), (.int ((x1 &&& (31 : Int32)) % (23 : Int32))), (.int ((22 : Int32) + (x2 &&& (1 : Int32))))]) (rest := []) (rm_at l Z a0 hw b60 (23 : Int32) (x0 &&& (9223372036854775807 : Int64)) ((x1 &&& (31 : Int32)) % (23 : Int32)) ((22 : Int32) + (x2 &&& (1 : Int32))) v l' L ee 23 h135 n0 X135.sz A136 hq hv hl hL hE (by omega) (by omega) rfl (by decide)) (hw _ (List.mem_of_getElem? (i := 34) rfl)) (hw _ (List.mem_of_getElem? (i := 35) rfl)) (hw _ (List.mem_of_getElem? (i := 10) rfl)) (hw _ (List.mem_of_getElem? (i := 36) rfl)) (by decide) rfl rfl (lenOf own_pd3 rfl) rfl (Nat.le_of_eq rfl) (by decide) (by decide) (by decide) (by decide) at_611 rfl (fun _ _ q => by obtain ⟨_, K⟩ := q; exact K.1) (fun T137 h137 v137 X137 P137 => ?_)
  obtain ⟨rfl, K137⟩ := P137
  have A138 := A136.keep K137 nin0
  show Go p e below s n0 _ _ _ T137 (mkF m 614 #[.val (.long x0), .second, .val (.int x1), .val (.int x2), .val (.long (x0 &&& (9223372036854775807 : Int64))), .second, .val (.int ((x1 &&& (31 : Int32)) % (23 : Int32))), .val (.int ((22 : Int32) + (x2 &&& (1 : Int32)))), .val (.ref b60), .val (.int r86), .val (.int (1 : Int32))] [(.int (1 : Int32))])
  refine Go.ifNo C X137 (pc' := 617) at_614 ((if0 _ _).trans (feq (by decide)).1) rfl ?_
  refine Go.iconst C X137 (pc' := 618) (v := (1 : Int32)) at_617 rfl rfl ?_
  refine Go.goto C X137 (pc' := 622) at_618 (by decide) (by decide) ?_
  exact Go.retZ (t := .boolean) C X137 (z' := (1 : Int32)) (by decide) at_622 rfl (by decide) (by decide)
set_option maxRecDepth 65536 in
set_option maxHeartbeats 40000000 in
theorem comes_1 {Post : Tables → Env → Array Value → State → Outcome → State → Prop} (hpost : ∀ tb e args s v u, (limb_1_1.after args s (.returned v) u = true ∧ limb_1_2.after args s (.returned v) u = true ∧ True) → FrameEnd s (.returned v) u (Jvm.fieldLocs frame_1_writes args s ++ Jvm.arrayLocs frame_1_arrays args s ++ Jvm.staticLocs frame_1_statics s) 88 1600 → Post tb e args s (.returned v) u) :
    ArmFor flags0 classFile x code maxLocals ret World_1 tables_1 room_1 Calls_1 rest_1 Pre_1 Post := by
  intro l hfl _ _ p e ha hc hk s m args below hf hA hF happ hP
  obtain ⟨hcalls, hrest, hpre⟩ := hP
  obtain ⟨-, -, -, hnamed, -, -, -, hat⟩ := (Spec.applies_iff hf).mp happ
  obtain ⟨hg, hn⟩ := and_e (Cond.before_iff.mp (show (Jvm.Cond.and given_1 narrow_1).before args s = true from hpre))
  obtain ⟨hcount, hg0⟩ := and_e hg
  obtain ⟨w0, w1, w2, rfl⟩ : ∃ w0 w1 w2 : Value, args = #[w0, w1, w2] := by
    have hs : args.size = 3 := by simpa [Cond.value, given_1] using hcount
    obtain ⟨L⟩ := args
    match L, hs with
    | [w0, w1, w2], _ => exact ⟨w0, w1, w2, rfl⟩
  have hw := fun d (hd : d ∈ tables_1) => atoms_spec (ws := Jvm.Cond.code x code maxLocals ret :: tables_1) hat d (List.mem_cons_of_mem _ hd)
  have hfit : Fit s := fun {y c} hc i hi => by
    obtain ⟨ha, rfl⟩ := Array.getElem?_eq_some_iff.mp hc
    have q := List.all_eq_true.mp ((Array.all_eq_true_iff_forall_mem.mp hF) _ (Array.getElem_mem ha)) i (List.mem_range.mpr hi)
    simpa [Array.getElem?_eq_getElem hi] using q
  obtain ⟨ha0, hg1⟩ := and_e hg0
  obtain ⟨i0, e0⟩ := isL_v ha0
  obtain rfl : w0 = (.long i0) := Option.some.inj e0
  obtain ⟨ha1, hg2⟩ := and_e hg1
  obtain ⟨i1, e1⟩ := is_v ha1
  obtain rfl : w1 = (.int i1) := Option.some.inj e1
  obtain ⟨i2, e2⟩ := is_v hg2
  obtain rfl : w2 = (.int i2) := Option.some.inj e2
  obtain ⟨n, o, h1, h2, h3, _, L, rfl, ⟨rfl, N⟩, hq⟩ := rm0 l s _ hw i0 i1 i2 s.heap s.heap.size (Nat.le_refl _)  tables_1 p e ha hc hk s m _ below hf ((Spec.applies_iff_loose hf).mp happ).1 ⟨rfl, State.Warmed39.refl s, rfl⟩ trivial
  refine ⟨n, _, h1, h2, h3, hpost _ _ _ _ _ _ ⟨Cond.after_iff.mpr rfl, Cond.after_iff.mpr (eq_i res_at (Term.int_eval (1)) rfl), trivial⟩ ⟨hq.1, hq.2.1, (hq.2.2.sift fun y hy => Or.inr (N y hy)).mono (by decide) (by decide)⟩⟩
theorem main_1_1 : Claimed_1_1 := comes_1 fun _ _ _ _ _ _ h hF => ⟨h.1, hF⟩
theorem main_1_2 : Claimed_1_2 := comes_1 fun _ _ _ _ _ _ h hF => ⟨h.2.1, hF⟩
end Jvm.Pilot.@@N@@
namespace Jvm.Pilot.@@N@@
open Jvm Jvm.ClassFile Sem Op Lib Jvm.Free Jvm.Stand Jvm.Pilot.@@N@@.Jvm.D
/-! MADE BY PROGRAM (witnessworld.py) out of the Statement's table words and the real class files: 11 classes; the members and pool entries that the words name. The judged class is class 1, her method 4. -/
namespace start1
open Jvm.ClassFile
def u (s : String) : CpInfo := .utf8 (stringToUtf16 s)
/-- a pool by its gaps: so many unusable entries, then the entry; so many at the end -/
def gap : Nat → List CpInfo → List CpInfo
  | 0, r => r
  | n + 1, r => .unusable :: gap n r
def poolList (es : List (Nat × CpInfo)) (last : Nat) : List CpInfo := es.foldr (fun e r => gap e.1 (e.2 :: r)) (gap last [])
def pool (es : List (Nat × CpInfo)) (last : Nat) : Array CpInfo := ⟨poolList es last⟩
def fileOf (pool : Array CpInfo) (this : Nat) (attrs : Array Attribute := #[]) (ms : Array MethodInfo := #[]) (fl : Nat := 33) (sup : Nat := 0) (ifs : Array Nat := #[]) (fds : Array FieldInfo := #[]) : ClassFile where
  minorVersion := 0
  majorVersion := 65
  constantPool := pool
  accessFlags := fl
  thisClass := this
  superClass := sup
  interfaces := ifs
  fields := fds
  methods := ms
  attributes := attrs
def plain (name : String) (sup : Option ClassId) : Class where
  name := name
  kind := .ordinary
  loader := none
  accessFlags := 33
  super := sup
  interfaces := #[]
  cf := none
  fields := #[]
  methods := #[]
  instanceTypes := #[]
  staticTypes := #[]
  resolved := #[]
  callSites := []
  init := .initialized
  statics := none
  mirror := none

def pool0 : Array CpInfo := pool [(5, u "<init>"), (0, u "()V"), (1, .class_ 10), (1, u "java/lang/Object")] 113

def k0m0 : Method := { name := "<init>", desc := "()V", sig := { parameters := [], returnType := none }, accessFlags := 1, code := none }
/-- java/lang/Object -/
def k0 : Class := { plain "java/lang/Object" none with
  accessFlags := 33
  interfaces := #[]
  cf := some (fileOf pool0 8 #[] #[{ accessFlags := 1, nameIndex := 5, descriptorIndex := 6, attributes := #[] }] 33 0 #[] #[])
  fields := #[]
  methods := #[k0m0]
  instanceTypes := #[]
  staticTypes := #[]
  resolved := Array.replicate 124 none
  statics := none }

def pool1 : Array CpInfo := pool [(2, .class_ 4), (1, u "java/lang/Object"), (0, u "<init>"), (0, u "()V"), (0, .long 10), (1, .long 100), (1, .long 1000), (1, .long 10000), (1, .long 100000), (1, .long 1000000), (1, .long 10000000), (1, .long 100000000), (1, .long 1000000000), (1, .long 10000000000), (1, .long 100000000000), (1, .long 1000000000000), (1, .long 10000000000000), (1, .long 100000000000000), (1, .long 1000000000000000), (1, .long 10000000000000000), (1, .long 100000000000000000), (1, .long 1000000000000000000), (1, .methodref 44 45), (0, .class_ 46), (0, .nameAndType 47 48), (0, u "com/example/streamgauge/streamgauge/workloads/DecimalPutBeforePinLaw"), (0, u "pow10"), (0, u "(I)J"), (0, .methodref 44 50), (0, .nameAndType 51 52), (0, u "written"), (0, u "(JII)Z"), (0, .long 48), (3, .long 9223372036854775807), (1, .methodref 60 61), (0, .class_ 62), (0, .nameAndType 63 64), (0, u "com/example/streamgauge/streamgauge/workloads/Decimal"), (0, u "putBefore"), (0, u "(JI[BI)I"), (0, .methodref 44 66), (0, .nameAndType 67 68), (0, u "at"), (0, u "([BIJII)Z"), (3, u "law")] 4

def k1m0 : Method := { name := "<init>", desc := "()V", sig := { parameters := [], returnType := none }, accessFlags := 1, code := none }
def k1c1 : Code := { maxStack := 5, maxLocals := 2, code := method_2_code, exceptionTable := #[], attributes := #[] }
def k1m1 : Method := { name := "pow10", desc := "(I)J", sig := { parameters := [.int], returnType := some .long }, accessFlags := 10, code := some k1c1 }
def k1c2 : Code := { maxStack := 4, maxLocals := 4, code := method_3_code, exceptionTable := #[], attributes := #[] }
def k1m2 : Method := { name := "written", desc := "(JII)Z", sig := { parameters := [.long, .int, .int], returnType := some .boolean }, accessFlags := 10, code := some k1c2 }
def k1c3 : Code := { maxStack := 5, maxLocals := 9, code := method_4_code, exceptionTable := #[], attributes := #[] }
def k1m3 : Method := { name := "at", desc := "([BIJII)Z", sig := { parameters := [(.array .byte), .int, .long, .int, .int], returnType := some .boolean }, accessFlags := 10, code := some k1c3 }
def k1c4 : Code := { maxStack := 6, maxLocals := 11, code := code, exceptionTable := #[], attributes := #[] }
def k1m4 : Method := { name := "law", desc := "(JII)Z", sig := { parameters := [.long, .int, .int], returnType := some .boolean }, accessFlags := 9, code := some k1c4 }
/-- com/example/streamgauge/streamgauge/workloads/DecimalPutBeforePinLaw -/
def k1 : Class := { plain "com/example/streamgauge/streamgauge/workloads/DecimalPutBeforePinLaw" (some 0) with
  accessFlags := 49
  interfaces := #[]
  cf := some (fileOf pool1 44 #[] #[{ accessFlags := 1, nameIndex := 5, descriptorIndex := 6, attributes := #[] }, { accessFlags := 10, nameIndex := 47, descriptorIndex := 48, attributes := #[] }, { accessFlags := 10, nameIndex := 51, descriptorIndex := 52, attributes := #[] }, { accessFlags := 10, nameIndex := 67, descriptorIndex := 68, attributes := #[] }, { accessFlags := 9, nameIndex := 72, descriptorIndex := 52, attributes := #[] }] 49 2 #[] #[])
  fields := #[]
  methods := #[k1m0, k1m1, k1m2, k1m3, k1m4]
  instanceTypes := #[]
  staticTypes := #[]
  resolved := Array.replicate 77 none
  statics := none }

def pool2 : Array CpInfo := pool [(2, .class_ 4), (1, u "java/lang/Object"), (0, u "<init>"), (0, u "()V"), (1, .class_ 10), (1, u "com/example/streamgauge/streamgauge/workloads/Decimal"), (2, .long 48), (1, .long 10), (22, u "MAX_DIGITS"), (0, u "I"), (6, u "putBefore"), (0, u "(JI[BI)I")] 6

def k2m0 : Method := { name := "<init>", desc := "()V", sig := { parameters := [], returnType := none }, accessFlags := 2, code := none }
def k2c1 : Code := { maxStack := 8, maxLocals := 8, code := prog_126_method_4_code, exceptionTable := #[], attributes := #[] }
def k2m1 : Method := { name := "putBefore", desc := "(JI[BI)I", sig := { parameters := [.long, .int, (.array .byte), .int], returnType := some .int }, accessFlags := 8, code := some k2c1 }
/-- com/example/streamgauge/streamgauge/workloads/Decimal -/
def k2 : Class := { plain "com/example/streamgauge/streamgauge/workloads/Decimal" (some 0) with
  accessFlags := 48
  interfaces := #[]
  cf := some (fileOf pool2 8 #[] #[{ accessFlags := 2, nameIndex := 5, descriptorIndex := 6, attributes := #[] }, { accessFlags := 8, nameIndex := 46, descriptorIndex := 47, attributes := #[] }] 48 2 #[] #[{ accessFlags := 24, nameIndex := 38, descriptorIndex := 39, attributes := #[] }])
  fields := #[{ name := "MAX_DIGITS", type := .int, accessFlags := 24, slot := 0, constantValue := 0 }]
  methods := #[k2m0, k2m1]
  instanceTypes := #[]
  staticTypes := #[.int]
  resolved := Array.replicate 54 none
  statics := none }

def pool3 : Array CpInfo := pool [(1, u "java/lang/Cloneable"), (0, .class_ 1), (0, u "java/lang/Object"), (0, .class_ 3)] 3

/-- java/lang/Cloneable -/
def k3 : Class := { plain "java/lang/Cloneable" (some 0) with
  accessFlags := 1537
  interfaces := #[]
  cf := some (fileOf pool3 2 #[] #[] 1537 4 #[] #[])
  fields := #[]
  methods := #[]
  instanceTypes := #[]
  staticTypes := #[]
  resolved := Array.replicate 8 none
  statics := none }

def pool4 : Array CpInfo := pool [(1, u "java/io/Serializable"), (0, .class_ 1), (0, u "java/lang/Object"), (0, .class_ 3)] 3

/-- java/io/Serializable -/
def k4 : Class := { plain "java/io/Serializable" (some 0) with
  accessFlags := 1537
  interfaces := #[]
  cf := some (fileOf pool4 2 #[] #[] 1537 4 #[] #[])
  fields := #[]
  methods := #[]
  instanceTypes := #[]
  staticTypes := #[]
  resolved := Array.replicate 8 none
  statics := none }

/-- the primitive byte -/
def k5 : Class := { plain "byte" none with kind := .primitive 'B', accessFlags := 0x411 }
/-- [B -/
def k6 : Class := { plain "[B" (some 0) with kind := .array 5 .byte, interfaces := #[3, 4], accessFlags := 1041 }

/-- the primitive int -/
def k7 : Class := { plain "int" none with kind := .primitive 'I', accessFlags := 0x411 }
/-- [I -/
def k8 : Class := { plain "[I" (some 0) with kind := .array 7 .int, interfaces := #[3, 4], accessFlags := 1041 }

/-- the primitive long -/
def k9 : Class := { plain "long" none with kind := .primitive 'J', accessFlags := 0x411 }
/-- [J -/
def k10 : Class := { plain "[J" (some 0) with kind := .array 9 .long, interfaces := #[3, 4], accessFlags := 1041 }

def heap : Heap := #[]
def classes : Array Class := #[k0, k1, k2, k3, k4, k5, k6, k7, k8, k9, k10]
def interned : List (Array UInt16 × Addr) := []
def slotsUsed : Nat := 0
def theMethod : MethodId := ⟨1, 4⟩
def args0 : Array Value := #[.long 12345, .int 7, .int 1]
def aboutOver (below : List Frame) : State where
  vm := { classes := classes, interned := interned.toArray }
  heap := heap
  slotsUsed := slotsUsed
  threads := #[{ frames := .invoking theMethod args0 :: below }]
def below0 : List Frame := [.native { method := ⟨0, 0⟩, args := #[] }]
def about1 : State := aboutOver below0
def p0 : Program := .bare "" "" ""
def e0 : Env := launch0.env 0 0 0
theorem w_frames : about1.frames = Frame.invoking theMethod args0 :: below0 := rfl
set_option maxRecDepth 65536 in
theorem w_args : argsFit about1.vm theMethod args0 = true := by decide +kernel
set_option maxRecDepth 65536 in
theorem w_heap : heapFits about1 = true := by decide +kernel
set_option maxRecDepth 65536 in
theorem w_runnable : about1.curStatus? = some .runnable := by decide +kernel
set_option maxRecDepth 65536 in
theorem w_alone : about1.alone = true := by decide +kernel
set_option maxRecDepth 65536 in
theorem w_named : about1.methodNamed? x = some theMethod := by decide +kernel
set_option maxRecDepth 65536 in
theorem w_hears : about1.hears theMethod below0 = true := by decide +kernel
set_option maxRecDepth 65536 in
theorem w_ripe : about1.ripe theMethod args0 below0 = true := by decide +kernel
theorem w_running : about1.status = .running := rfl
set_option maxRecDepth 65536 in
theorem w_room : about1.hasRoom e0.platform room_1 = true :=
  launch0.hasRoom_least _ room_1 (by decide +kernel) (by decide +kernel) (by decide +kernel) (by decide +kernel) (by decide +kernel) (by decide +kernel)
theorem allAtoms_all (ts : List Jvm.Cond) (a : Array Jvm.Value) (st : Jvm.State) : (allAtoms ts).before a st = ts.all (fun c => c.before a st) := by
  induction ts with
  | nil => rfl
  | cons c t ih =>
    show (Jvm.Cond.and c (allAtoms t)).before a st = _
    rw [Jvm.Cond.before_and, ih, List.all_cons]
def words1 : List Jvm.Cond := Jvm.Cond.code x code maxLocals ret :: tables_1
/-- a 'code' word, met by the world's own term for the bytes: nothing is compared byte by byte -/
theorem code_word {y : MethodName} {bytes : ByteArray} {mx : Nat} {rt : Option FieldType} {a : Array Value} {s : State} {m : MethodId} {meth : Method} {c : Code} (h1 : s.methodNamed? y = some m) (h2 : s.vm.method? m = some meth) (h3 : meth.code = some c) (h4 : c.code = bytes)
    (h5 : (c.maxLocals == mx && c.exceptionTable.isEmpty && decide (c.maxStack ≤ mostOperands) && decide (meth.sig.returnType = rt) && !meth.locks && decide (parseMethodDescriptor y.desc = some meth.sig)) = true) : (Jvm.Cond.code y bytes mx rt).before a s = true := by
  simp only [Bool.and_eq_true, beq_iff_eq, Bool.not_eq_true', decide_eq_true_eq] at h5
  obtain ⟨⟨⟨⟨⟨g1, g2⟩, g3⟩, g4⟩, g5⟩, g6⟩ := h5
  simp [Cond.before, Cond.holds, Cond.value, h1, h2, h3, h4, g1, g2, g3, g4, g5, g6]
def isCode : Jvm.Cond → Bool
  | .code _ _ _ _ => true
  | _ => false
theorem all_split {L : List Jvm.Cond} {P : Jvm.Cond → Bool} (h1 : L.all (fun c => isCode c || P c) = true) (h2 : ∀ c ∈ L.filter isCode, P c = true) : L.all P = true := by
  refine List.all_eq_true.mpr fun c hc => ?_
  have h := List.all_eq_true.mp h1 c hc
  rcases Bool.eq_false_or_eq_true (isCode c) with hi | hi
  · exact h2 c (List.mem_filter.mpr ⟨hc, hi⟩)
  · simpa [hi] using h
set_option maxRecDepth 65536 in
theorem w_c0 : (Jvm.Cond.code x code maxLocals ret).before args0 about1 = true := code_word (m := ⟨1, 4⟩) (meth := k1m4) (c := k1c4) (by decide +kernel) rfl rfl rfl (by decide +kernel)
set_option maxRecDepth 65536 in
theorem w_c1 : (Jvm.Cond.code ({ cls := "com/example/streamgauge/streamgauge/workloads/Decimal", name := "putBefore", desc := "(JI[BI)I" } : Jvm.MethodName) prog_126_method_4_code (8 : Nat) (Option.some Jvm.ClassFile.FieldType.int)).before args0 about1 = true := code_word (m := ⟨2, 1⟩) (meth := k2m1) (c := k2c1) (by decide +kernel) rfl rfl rfl (by decide +kernel)
set_option maxRecDepth 65536 in
theorem w_c2 : (Jvm.Cond.code ({ cls := "com/example/streamgauge/streamgauge/workloads/DecimalPutBeforePinLaw", name := "written", desc := "(JII)Z" } : Jvm.MethodName) method_3_code (4 : Nat) (Option.some Jvm.ClassFile.FieldType.boolean)).before args0 about1 = true := code_word (m := ⟨1, 2⟩) (meth := k1m2) (c := k1c2) (by decide +kernel) rfl rfl rfl (by decide +kernel)
set_option maxRecDepth 65536 in
theorem w_c3 : (Jvm.Cond.code ({ cls := "com/example/streamgauge/streamgauge/workloads/DecimalPutBeforePinLaw", name := "pow10", desc := "(I)J" } : Jvm.MethodName) method_2_code (2 : Nat) (Option.some Jvm.ClassFile.FieldType.long)).before args0 about1 = true := code_word (m := ⟨1, 1⟩) (meth := k1m1) (c := k1c1) (by decide +kernel) rfl rfl rfl (by decide +kernel)
set_option maxRecDepth 65536 in
theorem w_c4 : (Jvm.Cond.code ({ cls := "com/example/streamgauge/streamgauge/workloads/DecimalPutBeforePinLaw", name := "at", desc := "([BIJII)Z" } : Jvm.MethodName) method_4_code (9 : Nat) (Option.some Jvm.ClassFile.FieldType.boolean)).before args0 about1 = true := code_word (m := ⟨1, 3⟩) (meth := k1m3) (c := k1c3) (by decide +kernel) rfl rfl rfl (by decide +kernel)
def codes1 : List Jvm.Cond := [Jvm.Cond.code x code maxLocals ret, Jvm.Cond.code ({ cls := "com/example/streamgauge/streamgauge/workloads/Decimal", name := "putBefore", desc := "(JI[BI)I" } : Jvm.MethodName) prog_126_method_4_code (8 : Nat) (Option.some Jvm.ClassFile.FieldType.int), Jvm.Cond.code ({ cls := "com/example/streamgauge/streamgauge/workloads/DecimalPutBeforePinLaw", name := "written", desc := "(JII)Z" } : Jvm.MethodName) method_3_code (4 : Nat) (Option.some Jvm.ClassFile.FieldType.boolean), Jvm.Cond.code ({ cls := "com/example/streamgauge/streamgauge/workloads/DecimalPutBeforePinLaw", name := "pow10", desc := "(I)J" } : Jvm.MethodName) method_2_code (2 : Nat) (Option.some Jvm.ClassFile.FieldType.long), Jvm.Cond.code ({ cls := "com/example/streamgauge/streamgauge/workloads/DecimalPutBeforePinLaw", name := "at", desc := "([BIJII)Z" } : Jvm.MethodName) method_4_code (9 : Nat) (Option.some Jvm.ClassFile.FieldType.boolean)]
set_option maxRecDepth 65536 in
theorem codes_eq : words1.filter isCode = codes1 := rfl
theorem w_codes : ∀ c ∈ words1.filter isCode, c.before args0 about1 = true := by
  rw [codes_eq]
  intro c hc
  simp only [codes1, List.mem_cons, List.not_mem_nil, or_false] at hc
  rcases hc with rfl | rfl | rfl | rfl | rfl
  · exact w_c0
  · exact w_c1
  · exact w_c2
  · exact w_c3
  · exact w_c4
set_option maxRecDepth 65536 in
theorem w_t1 : (words1.take 24).all (fun c => isCode c || c.before args0 about1) = true := by decide +kernel
set_option maxRecDepth 65536 in
theorem w_t2 : (words1.drop 24).all (fun c => isCode c || c.before args0 about1) = true := by decide +kernel
theorem w_tables : (allAtoms (Jvm.Cond.code x code maxLocals ret :: tables_1)).before args0 about1 = true := by
  rw [allAtoms_all]
  show words1.all (fun c => c.before args0 about1) = true
  refine all_split ?_ w_codes
  rw [← List.take_append_drop 24 words1, List.all_append, w_t1, w_t2]
  rfl
set_option maxRecDepth 65536 in
theorem w_case : (Jvm.Cond.and given_1 narrow_1).before args0 about1 = true := by decide +kernel
theorem w_applies : (headSpec (Jvm.Cond.code x code maxLocals ret :: tables_1) room_1).applies x e0.platform about1 = true :=
  (Spec.applies_iff w_frames).mpr ⟨w_running, w_runnable, w_alone, w_named, w_hears, w_ripe, w_room, w_tables⟩
theorem atStart : AtStart classFile x code maxLocals ret World_1 tables_1 room_1 Calls_1 rest_1 Pre_1 launch0 p0 e0 about1 theMethod args0 below0 :=
  ⟨lists_1, trivial, launch0.admits_env _ _ _, launch0.least_env, fairChoices_fair.cas, fairChoices_fair.clock, w_frames, w_args, w_heap, w_applies, trivial, trivial, w_case⟩
end start1
theorem witness_1 : WitnessClaimed_1 := ⟨start1.p0, start1.e0, start1.about1, start1.theMethod, start1.args0, start1.below0, start1.atStart⟩
end Jvm.Pilot.@@N@@
