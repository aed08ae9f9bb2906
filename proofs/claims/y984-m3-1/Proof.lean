import JvmDerived
import JvmDerived.Pilot.@@N@@Statement
import JvmDerived.Pilot.@@N@@Code
set_option linter.unusedVariables false
set_option linter.unusedSimpArgs false
namespace Jvm.RoadKit
open Sem ClassFile Op Lib Jvm.Stand Jvm.Free Jvm.LawKit
section Own
variable {p : Program} {l : Launch} {e : Env} {R : Room} {s : State} {m : MethodId} {args : Array Value} {below : List Frame} {meth : Method} {c : Code} {T : State} {Z : State} {a0 : Array Value} {h : Heap} {cells slots n0 rc rs : Nat} {bytes : ByteArray} {own : String} {ret : Option FieldType} {maxL : Nat} {P : Option Value → Heap → Prop} {Ls : Array Slot} {pc pc' : Nat} {st : List Value}
def Cx (p : Program) (s : State) (m : MethodId) (meth : Method) (c : Code) (Z : State) (bytes : ByteArray) (own : String) (ret : Option FieldType) (maxL : Nat) : Prop :=
  p.tables.exec = Jvm.exec ∧ Z.Warmed39 s.vm ∧ c.code = bytes ∧ s.vm.findClass own = some m.cls ∧ c.maxLocals = maxL ∧ meth.locks = false ∧ meth.sig.returnType = ret
def On (p : Program) (l : Launch) (e : Env) (R : Room) (s : State) (m : MethodId) (args : Array Value) (below : List Frame) (meth : Method) (c : Code) (n0 : Nat) (T : State) (h : Heap) (cells slots : Nat) : Prop :=
  ∃ locs, Stand p l e R s m args below meth c T locs cells slots ∧ T.heap = h ∧ Fr n0 locs ∧ n0 ≤ h.size
def Go (p : Program) (e : Env) (below : List Frame) (s : State) (n0 rc rs : Nat) (P : Option Value → Heap → Prop) (T : State) (g : JFrame) : Prop :=
  ∃ s₂ o, Steps p.tables e below (T.setTop g) s₂ ∧ s₂.status = .running ∧ Ended s₂ below o ∧ ∃ v L, o = .returned v ∧ (P v s₂.heap ∧ Fr n0 L) ∧ FrameEnd s o s₂ L rc rs
def Con (l : Launch) (Z : State) (y : MethodName) (bytes : ByteArray) (maxL : Nat) (ret : Option FieldType) (rm : Room) (as' : Array Value) (h0 : Heap) (n0 : Nat) (P : Option Value → Heap → Prop) : Prop :=
  ∀ ws, MetFree l y (head1 (Cond.code y bytes maxL ret :: ws) rm) (fun a U => a = as' ∧ Z.Warmed39 U.vm ∧ U.heap = h0) (fun _ _ _ _ _ => True) (fun _ U o U' => ∃ v L, o = .returned v ∧ (P v U'.heap ∧ Fr n0 L) ∧ FrameEnd U o U' L rm.cells rm.slots)
theorem Go.of {T' : State} {g g' : JFrame} (st : ∀ t, Steps p.tables e below (T'.setTop g') t → Steps p.tables e below (T.setTop g) t) (k : Go p e below s n0 rc rs P T' g') : Go p e below s n0 rc rs P T g := by
  obtain ⟨s₂, o, h1, h2⟩ := k
  exact ⟨s₂, o, st _ h1, h2⟩
theorem Go.tr {T' : State} {g g' : JFrame} (st : Steps p.tables e below (T.setTop g) (T'.setTop g')) (k : Go p e below s n0 rc rs P T' g') : Go p e below s n0 rc rs P T g :=
  Go.of (fun _ q => st.trans q) k
theorem Go.imp {P' : Option Value → Heap → Prop} {g : JFrame} (k : Go p e below s n0 rc rs P' T g) (hi : ∀ v h, P' v h → P v h) : Go p e below s n0 rc rs P T g := by
  obtain ⟨s₂, o, h1, h2, h3, v, L, h4, ⟨h5, h6⟩, h7⟩ := k
  exact ⟨s₂, o, h1, h2, h3, v, L, h4, ⟨hi _ _ h5, h6⟩, h7⟩
theorem Con.enter {y : MethodName} {rm : Room} {as' : Array Value} {h0 : Heap} (hpl : plainFor y = true) (hz : n0 ≤ h0.size)
    (body : ∀ p e s m below meth c T, Cx p s m meth c Z bytes y.cls ret maxL → meth.name = y.name → On p l e rm s m as' below meth c n0 T h0 0 0 → Go p e below s n0 rm.cells rm.slots P T (entryFrame m as' maxL)) :
    Con l Z y bytes maxL ret rm as' h0 n0 P := by
  intro ws
  refine MetFree.of_bodySF hpl hisR ?_
  intro p e s m args below meth c s₁ Bd hml0 hP hK
  obtain ⟨rfl, hZ, hh⟩ := hP
  have X0 := Stand.of_body Bd
  have e0 : s₁.heap = h0 := by rw [← hh, Bd.state]; rfl
  exact body p e s m below meth c s₁ ⟨Bd.exec, hZ, Bd.bytes, findClass_of_methodNamed Bd.named, hml0, BodyLoose.notSynchronized Bd, Bd.returns⟩ (name_of_methodNamed Bd.named Bd.method).1 ⟨[], X0, e0, Fr.nil n0, hz⟩
theorem On.sz (X : On p l e R s m args below meth c n0 T h cells slots) : n0 ≤ h.size := X.elim fun _ q => q.2.2.2
theorem Go.cast {g g' : JFrame} (q : g = g') (k : Go p e below s n0 rc rs P T g') : Go p e below s n0 rc rs P T g := q ▸ k
theorem Con.back {y : MethodName} {rm : Room} {as' : Array Value} {W : Nat} {P' : Option Value → Heap → Prop} {cb : ByteArray} {cm : Nat} {cr : Option FieldType} (K : Con l Z y cb cm cr rm as' h n0 P') (hZ : Z.Warmed39 s.vm) (wc : (Cond.code y cb cm cr).before a0 Z = true) (wz : (Cond.initialized y.cls).before a0 Z = true) (hf : rm.frames + 1 ≤ R.frames) (hl : W + (cm + 11) + rm.locals ≤ R.locals) :
    Back l R p e below s args y 3 W (fun A a => a = as' ∧ A.U.heap = h ∧ A.cells + rm.cells ≤ R.cells ∧ A.slots + rm.slots ≤ R.slots)
      (fun A _ v B => ∃ L, (P' v B.U.heap ∧ Fr n0 L) ∧ B.locs = A.locs ++ L ∧ B.cells = A.cells + rm.cells ∧ B.slots = A.slots + rm.slots) :=
  backOf (Q := fun v h L => P' v h ∧ Fr n0 L) (K []) hZ wc wz hf hl
theorem Go.iadd (C : Cx p s m meth c Z bytes own ret maxL) (X : On p l e R s m args below meth c n0 T h cells slots) {x y : Int32} (hd : decode bytes pc = .ok (.iadd, 1))  (hp : pc + 1 = pc') (k : Go p e below s n0 rc rs P T (mkF m pc' Ls (.int (x + y) :: st))) : Go p e below s n0 rc rs P T (mkF m pc Ls (.int y :: .int x :: st)) := by
  obtain ⟨locs, X, eT, N, hn⟩ := X; obtain ⟨hx, hZ, hby, hown, hml, hlk, hrt⟩ := C
  subst hp; exact Go.of (fun t q => XS.iadd X.here hx rfl (hb hby hd) rfl q) k
theorem Go.isub (C : Cx p s m meth c Z bytes own ret maxL) (X : On p l e R s m args below meth c n0 T h cells slots) {x y : Int32} (hd : decode bytes pc = .ok (.isub, 1))  (hp : pc + 1 = pc') (k : Go p e below s n0 rc rs P T (mkF m pc' Ls (.int (x - y) :: st))) : Go p e below s n0 rc rs P T (mkF m pc Ls (.int y :: .int x :: st)) := by
  obtain ⟨locs, X, eT, N, hn⟩ := X; obtain ⟨hx, hZ, hby, hown, hml, hlk, hrt⟩ := C
  subst hp; exact Go.of (fun t q => XS.isub X.here hx rfl (hb hby hd) rfl q) k
theorem Go.imul (C : Cx p s m meth c Z bytes own ret maxL) (X : On p l e R s m args below meth c n0 T h cells slots) {x y : Int32} (hd : decode bytes pc = .ok (.imul, 1))  (hp : pc + 1 = pc') (k : Go p e below s n0 rc rs P T (mkF m pc' Ls (.int (x * y) :: st))) : Go p e below s n0 rc rs P T (mkF m pc Ls (.int y :: .int x :: st)) := by
  obtain ⟨locs, X, eT, N, hn⟩ := X; obtain ⟨hx, hZ, hby, hown, hml, hlk, hrt⟩ := C
  subst hp; exact Go.of (fun t q => XS.imul X.here hx rfl (hb hby hd) rfl q) k
theorem Go.iand (C : Cx p s m meth c Z bytes own ret maxL) (X : On p l e R s m args below meth c n0 T h cells slots) {x y : Int32} (hd : decode bytes pc = .ok (.iand, 1))  (hp : pc + 1 = pc') (k : Go p e below s n0 rc rs P T (mkF m pc' Ls (.int (x &&& y) :: st))) : Go p e below s n0 rc rs P T (mkF m pc Ls (.int y :: .int x :: st)) := by
  obtain ⟨locs, X, eT, N, hn⟩ := X; obtain ⟨hx, hZ, hby, hown, hml, hlk, hrt⟩ := C
  subst hp; exact Go.of (fun t q => XS.iand X.here hx rfl (hb hby hd) rfl q) k
theorem Go.ior (C : Cx p s m meth c Z bytes own ret maxL) (X : On p l e R s m args below meth c n0 T h cells slots) {x y : Int32} (hd : decode bytes pc = .ok (.ior, 1))  (hp : pc + 1 = pc') (k : Go p e below s n0 rc rs P T (mkF m pc' Ls (.int (x ||| y) :: st))) : Go p e below s n0 rc rs P T (mkF m pc Ls (.int y :: .int x :: st)) := by
  obtain ⟨locs, X, eT, N, hn⟩ := X; obtain ⟨hx, hZ, hby, hown, hml, hlk, hrt⟩ := C
  subst hp; exact Go.of (fun t q => XS.ior X.here hx rfl (hb hby hd) rfl q) k
theorem Go.ixor (C : Cx p s m meth c Z bytes own ret maxL) (X : On p l e R s m args below meth c n0 T h cells slots) {x y : Int32} (hd : decode bytes pc = .ok (.ixor, 1))  (hp : pc + 1 = pc') (k : Go p e below s n0 rc rs P T (mkF m pc' Ls (.int (x ^^^ y) :: st))) : Go p e below s n0 rc rs P T (mkF m pc Ls (.int y :: .int x :: st)) := by
  obtain ⟨locs, X, eT, N, hn⟩ := X; obtain ⟨hx, hZ, hby, hown, hml, hlk, hrt⟩ := C
  subst hp; exact Go.of (fun t q => XS.ixor X.here hx rfl (hb hby hd) rfl q) k
theorem Go.ishl (C : Cx p s m meth c Z bytes own ret maxL) (X : On p l e R s m args below meth c n0 T h cells slots) {x y : Int32} (hd : decode bytes pc = .ok (.ishl, 1))  (hp : pc + 1 = pc') (k : Go p e below s n0 rc rs P T (mkF m pc' Ls (.int (x <<< (y &&& 31)) :: st))) : Go p e below s n0 rc rs P T (mkF m pc Ls (.int y :: .int x :: st)) := by
  obtain ⟨locs, X, eT, N, hn⟩ := X; obtain ⟨hx, hZ, hby, hown, hml, hlk, hrt⟩ := C
  subst hp; exact Go.of (fun t q => XS.ishl X.here hx rfl (hb hby hd) rfl q) k
theorem Go.ishr (C : Cx p s m meth c Z bytes own ret maxL) (X : On p l e R s m args below meth c n0 T h cells slots) {x y : Int32} (hd : decode bytes pc = .ok (.ishr, 1))  (hp : pc + 1 = pc') (k : Go p e below s n0 rc rs P T (mkF m pc' Ls (.int (x >>> (y &&& 31)) :: st))) : Go p e below s n0 rc rs P T (mkF m pc Ls (.int y :: .int x :: st)) := by
  obtain ⟨locs, X, eT, N, hn⟩ := X; obtain ⟨hx, hZ, hby, hown, hml, hlk, hrt⟩ := C
  subst hp; exact Go.of (fun t q => XS.ishr X.here hx rfl (hb hby hd) rfl q) k
theorem Go.iushr (C : Cx p s m meth c Z bytes own ret maxL) (X : On p l e R s m args below meth c n0 T h cells slots) {x y : Int32} (hd : decode bytes pc = .ok (.iushr, 1))  (hp : pc + 1 = pc') (k : Go p e below s n0 rc rs P T (mkF m pc' Ls (.int ((x.toUInt32 >>> (y &&& 31).toUInt32).toInt32) :: st))) : Go p e below s n0 rc rs P T (mkF m pc Ls (.int y :: .int x :: st)) := by
  obtain ⟨locs, X, eT, N, hn⟩ := X; obtain ⟨hx, hZ, hby, hown, hml, hlk, hrt⟩ := C
  subst hp; exact Go.of (fun t q => XS.iushr X.here hx rfl (hb hby hd) rfl q) k
theorem Go.ladd (C : Cx p s m meth c Z bytes own ret maxL) (X : On p l e R s m args below meth c n0 T h cells slots) {x y : Int64} (hd : decode bytes pc = .ok (.ladd, 1))  (hp : pc + 1 = pc') (k : Go p e below s n0 rc rs P T (mkF m pc' Ls (.long (x + y) :: st))) : Go p e below s n0 rc rs P T (mkF m pc Ls (.long y :: .long x :: st)) := by
  obtain ⟨locs, X, eT, N, hn⟩ := X; obtain ⟨hx, hZ, hby, hown, hml, hlk, hrt⟩ := C
  subst hp; exact Go.of (fun t q => XS.ladd X.here hx rfl (hb hby hd) rfl q) k
theorem Go.lsub (C : Cx p s m meth c Z bytes own ret maxL) (X : On p l e R s m args below meth c n0 T h cells slots) {x y : Int64} (hd : decode bytes pc = .ok (.lsub, 1))  (hp : pc + 1 = pc') (k : Go p e below s n0 rc rs P T (mkF m pc' Ls (.long (x - y) :: st))) : Go p e below s n0 rc rs P T (mkF m pc Ls (.long y :: .long x :: st)) := by
  obtain ⟨locs, X, eT, N, hn⟩ := X; obtain ⟨hx, hZ, hby, hown, hml, hlk, hrt⟩ := C
  subst hp; exact Go.of (fun t q => XS.lsub X.here hx rfl (hb hby hd) rfl q) k
theorem Go.lmul (C : Cx p s m meth c Z bytes own ret maxL) (X : On p l e R s m args below meth c n0 T h cells slots) {x y : Int64} (hd : decode bytes pc = .ok (.lmul, 1))  (hp : pc + 1 = pc') (k : Go p e below s n0 rc rs P T (mkF m pc' Ls (.long (x * y) :: st))) : Go p e below s n0 rc rs P T (mkF m pc Ls (.long y :: .long x :: st)) := by
  obtain ⟨locs, X, eT, N, hn⟩ := X; obtain ⟨hx, hZ, hby, hown, hml, hlk, hrt⟩ := C
  subst hp; exact Go.of (fun t q => XS.lmul X.here hx rfl (hb hby hd) rfl q) k
theorem Go.land (C : Cx p s m meth c Z bytes own ret maxL) (X : On p l e R s m args below meth c n0 T h cells slots) {x y : Int64} (hd : decode bytes pc = .ok (.land, 1))  (hp : pc + 1 = pc') (k : Go p e below s n0 rc rs P T (mkF m pc' Ls (.long (x &&& y) :: st))) : Go p e below s n0 rc rs P T (mkF m pc Ls (.long y :: .long x :: st)) := by
  obtain ⟨locs, X, eT, N, hn⟩ := X; obtain ⟨hx, hZ, hby, hown, hml, hlk, hrt⟩ := C
  subst hp; exact Go.of (fun t q => XS.land X.here hx rfl (hb hby hd) rfl q) k
theorem Go.lor (C : Cx p s m meth c Z bytes own ret maxL) (X : On p l e R s m args below meth c n0 T h cells slots) {x y : Int64} (hd : decode bytes pc = .ok (.lor, 1))  (hp : pc + 1 = pc') (k : Go p e below s n0 rc rs P T (mkF m pc' Ls (.long (x ||| y) :: st))) : Go p e below s n0 rc rs P T (mkF m pc Ls (.long y :: .long x :: st)) := by
  obtain ⟨locs, X, eT, N, hn⟩ := X; obtain ⟨hx, hZ, hby, hown, hml, hlk, hrt⟩ := C
  subst hp; exact Go.of (fun t q => XS.lor X.here hx rfl (hb hby hd) rfl q) k
theorem Go.lxor (C : Cx p s m meth c Z bytes own ret maxL) (X : On p l e R s m args below meth c n0 T h cells slots) {x y : Int64} (hd : decode bytes pc = .ok (.lxor, 1))  (hp : pc + 1 = pc') (k : Go p e below s n0 rc rs P T (mkF m pc' Ls (.long (x ^^^ y) :: st))) : Go p e below s n0 rc rs P T (mkF m pc Ls (.long y :: .long x :: st)) := by
  obtain ⟨locs, X, eT, N, hn⟩ := X; obtain ⟨hx, hZ, hby, hown, hml, hlk, hrt⟩ := C
  subst hp; exact Go.of (fun t q => XS.lxor X.here hx rfl (hb hby hd) rfl q) k
theorem Go.lshl (C : Cx p s m meth c Z bytes own ret maxL) (X : On p l e R s m args below meth c n0 T h cells slots) {x : Int64} {y : Int32} (hd : decode bytes pc = .ok (.lshl, 1))  (hp : pc + 1 = pc') (k : Go p e below s n0 rc rs P T (mkF m pc' Ls (.long (x <<< (y &&& 0x3f).toInt64) :: st))) : Go p e below s n0 rc rs P T (mkF m pc Ls (.int y :: .long x :: st)) := by
  obtain ⟨locs, X, eT, N, hn⟩ := X; obtain ⟨hx, hZ, hby, hown, hml, hlk, hrt⟩ := C
  subst hp; exact Go.of (fun t q => XS.lshl X.here hx rfl (hb hby hd) rfl q) k
theorem Go.lshr (C : Cx p s m meth c Z bytes own ret maxL) (X : On p l e R s m args below meth c n0 T h cells slots) {x : Int64} {y : Int32} (hd : decode bytes pc = .ok (.lshr, 1))  (hp : pc + 1 = pc') (k : Go p e below s n0 rc rs P T (mkF m pc' Ls (.long (x >>> (y &&& 0x3f).toInt64) :: st))) : Go p e below s n0 rc rs P T (mkF m pc Ls (.int y :: .long x :: st)) := by
  obtain ⟨locs, X, eT, N, hn⟩ := X; obtain ⟨hx, hZ, hby, hown, hml, hlk, hrt⟩ := C
  subst hp; exact Go.of (fun t q => XS.lshr X.here hx rfl (hb hby hd) rfl q) k
theorem Go.lushr (C : Cx p s m meth c Z bytes own ret maxL) (X : On p l e R s m args below meth c n0 T h cells slots) {x : Int64} {y : Int32} (hd : decode bytes pc = .ok (.lushr, 1))  (hp : pc + 1 = pc') (k : Go p e below s n0 rc rs P T (mkF m pc' Ls (.long ((x.toUInt64 >>> (y &&& 0x3f).toInt64.toUInt64).toInt64) :: st))) : Go p e below s n0 rc rs P T (mkF m pc Ls (.int y :: .long x :: st)) := by
  obtain ⟨locs, X, eT, N, hn⟩ := X; obtain ⟨hx, hZ, hby, hown, hml, hlk, hrt⟩ := C
  subst hp; exact Go.of (fun t q => XS.lushr X.here hx rfl (hb hby hd) rfl q) k
theorem Go.i2l (C : Cx p s m meth c Z bytes own ret maxL) (X : On p l e R s m args below meth c n0 T h cells slots) {x : Int32} (hd : decode bytes pc = .ok (.i2l, 1))  (hp : pc + 1 = pc') (k : Go p e below s n0 rc rs P T (mkF m pc' Ls (.long (x.toInt64) :: st))) : Go p e below s n0 rc rs P T (mkF m pc Ls (.int x :: st)) := by
  obtain ⟨locs, X, eT, N, hn⟩ := X; obtain ⟨hx, hZ, hby, hown, hml, hlk, hrt⟩ := C
  subst hp; exact Go.of (fun t q => XS.i2l X.here hx rfl (hb hby hd) rfl q) k
theorem Go.l2i (C : Cx p s m meth c Z bytes own ret maxL) (X : On p l e R s m args below meth c n0 T h cells slots) {x : Int64} (hd : decode bytes pc = .ok (.l2i, 1))  (hp : pc + 1 = pc') (k : Go p e below s n0 rc rs P T (mkF m pc' Ls (.int (x.toInt32) :: st))) : Go p e below s n0 rc rs P T (mkF m pc Ls (.long x :: st)) := by
  obtain ⟨locs, X, eT, N, hn⟩ := X; obtain ⟨hx, hZ, hby, hown, hml, hlk, hrt⟩ := C
  subst hp; exact Go.of (fun t q => XS.l2i X.here hx rfl (hb hby hd) rfl q) k
theorem Go.i2b (C : Cx p s m meth c Z bytes own ret maxL) (X : On p l e R s m args below meth c n0 T h cells slots) {x : Int32} (hd : decode bytes pc = .ok (.i2b, 1))  (hp : pc + 1 = pc') (k : Go p e below s n0 rc rs P T (mkF m pc' Ls (.int (x.toInt8.toInt32) :: st))) : Go p e below s n0 rc rs P T (mkF m pc Ls (.int x :: st)) := by
  obtain ⟨locs, X, eT, N, hn⟩ := X; obtain ⟨hx, hZ, hby, hown, hml, hlk, hrt⟩ := C
  subst hp; exact Go.of (fun t q => XS.i2b X.here hx rfl (hb hby hd) rfl q) k
theorem Go.i2s (C : Cx p s m meth c Z bytes own ret maxL) (X : On p l e R s m args below meth c n0 T h cells slots) {x : Int32} (hd : decode bytes pc = .ok (.i2s, 1))  (hp : pc + 1 = pc') (k : Go p e below s n0 rc rs P T (mkF m pc' Ls (.int (x.toInt16.toInt32) :: st))) : Go p e below s n0 rc rs P T (mkF m pc Ls (.int x :: st)) := by
  obtain ⟨locs, X, eT, N, hn⟩ := X; obtain ⟨hx, hZ, hby, hown, hml, hlk, hrt⟩ := C
  subst hp; exact Go.of (fun t q => XS.i2s X.here hx rfl (hb hby hd) rfl q) k
theorem Go.i2c (C : Cx p s m meth c Z bytes own ret maxL) (X : On p l e R s m args below meth c n0 T h cells slots) {x : Int32} (hd : decode bytes pc = .ok (.i2c, 1))  (hp : pc + 1 = pc') (k : Go p e below s n0 rc rs P T (mkF m pc' Ls (.int (x.toUInt32.toUInt16.toUInt32.toInt32) :: st))) : Go p e below s n0 rc rs P T (mkF m pc Ls (.int x :: st)) := by
  obtain ⟨locs, X, eT, N, hn⟩ := X; obtain ⟨hx, hZ, hby, hown, hml, hlk, hrt⟩ := C
  subst hp; exact Go.of (fun t q => XS.i2c X.here hx rfl (hb hby hd) rfl q) k
theorem Go.lneg (C : Cx p s m meth c Z bytes own ret maxL) (X : On p l e R s m args below meth c n0 T h cells slots) {x : Int64} (hd : decode bytes pc = .ok (.lneg, 1))  (hp : pc + 1 = pc') (k : Go p e below s n0 rc rs P T (mkF m pc' Ls (.long (-x) :: st))) : Go p e below s n0 rc rs P T (mkF m pc Ls (.long x :: st)) := by
  obtain ⟨locs, X, eT, N, hn⟩ := X; obtain ⟨hx, hZ, hby, hown, hml, hlk, hrt⟩ := C
  subst hp; exact Go.of (fun t q => XS.lneg X.here hx rfl (hb hby hd) rfl q) k
theorem Go.ineg (C : Cx p s m meth c Z bytes own ret maxL) (X : On p l e R s m args below meth c n0 T h cells slots) {x : Int32} (hd : decode bytes pc = .ok (.ineg, 1))  (hp : pc + 1 = pc') (k : Go p e below s n0 rc rs P T (mkF m pc' Ls (.int (-x) :: st))) : Go p e below s n0 rc rs P T (mkF m pc Ls (.int x :: st)) := by
  obtain ⟨locs, X, eT, N, hn⟩ := X; obtain ⟨hx, hZ, hby, hown, hml, hlk, hrt⟩ := C
  subst hp; exact Go.of (fun t q => XS.ineg X.here hx rfl (hb hby hd) rfl q) k
theorem Go.idiv (C : Cx p s m meth c Z bytes own ret maxL) (X : On p l e R s m args below meth c n0 T h cells slots) {x y : Int32} (hd : decode bytes pc = .ok (.idiv, 1)) (hy : y ≠ 0) (hp : pc + 1 = pc') (k : Go p e below s n0 rc rs P T (mkF m pc' Ls (.int (x / y) :: st))) : Go p e below s n0 rc rs P T (mkF m pc Ls (.int y :: .int x :: st)) := by
  obtain ⟨locs, X, eT, N, hn⟩ := X; obtain ⟨hx, hZ, hby, hown, hml, hlk, hrt⟩ := C
  subst hp; exact Go.of (fun t q => XS.idiv X.here hx rfl (hb hby hd) rfl hy q) k
theorem Go.ldiv (C : Cx p s m meth c Z bytes own ret maxL) (X : On p l e R s m args below meth c n0 T h cells slots) {x y : Int64} (hd : decode bytes pc = .ok (.ldiv, 1)) (hy : y ≠ 0) (hp : pc + 1 = pc') (k : Go p e below s n0 rc rs P T (mkF m pc' Ls (.long (x / y) :: st))) : Go p e below s n0 rc rs P T (mkF m pc Ls (.long y :: .long x :: st)) := by
  obtain ⟨locs, X, eT, N, hn⟩ := X; obtain ⟨hx, hZ, hby, hown, hml, hlk, hrt⟩ := C
  subst hp; exact Go.of (fun t q => XS.ldiv X.here hx rfl (hb hby hd) rfl hy q) k
theorem Go.irem (C : Cx p s m meth c Z bytes own ret maxL) (X : On p l e R s m args below meth c n0 T h cells slots) {x y : Int32} (hd : decode bytes pc = .ok (.irem, 1)) (hy : y ≠ 0) (hp : pc + 1 = pc') (k : Go p e below s n0 rc rs P T (mkF m pc' Ls (.int (x % y) :: st))) : Go p e below s n0 rc rs P T (mkF m pc Ls (.int y :: .int x :: st)) := by
  obtain ⟨locs, X, eT, N, hn⟩ := X; obtain ⟨hx, hZ, hby, hown, hml, hlk, hrt⟩ := C
  subst hp; exact Go.of (fun t q => iremM X hx rfl (hb hby hd) rfl hy q) k
theorem Go.lrem (C : Cx p s m meth c Z bytes own ret maxL) (X : On p l e R s m args below meth c n0 T h cells slots) {x y : Int64} (hd : decode bytes pc = .ok (.lrem, 1)) (hy : y ≠ 0) (hp : pc + 1 = pc') (k : Go p e below s n0 rc rs P T (mkF m pc' Ls (.long (x % y) :: st))) : Go p e below s n0 rc rs P T (mkF m pc Ls (.long y :: .long x :: st)) := by
  obtain ⟨locs, X, eT, N, hn⟩ := X; obtain ⟨hx, hZ, hby, hown, hml, hlk, hrt⟩ := C
  subst hp; rw [← lrem_mod] at k; exact Go.of (fun t q => XS.lrem X.here hx rfl (hb hby hd) rfl hy q) k
theorem Go.lcmp (C : Cx p s m meth c Z bytes own ret maxL) (X : On p l e R s m args below meth c n0 T h cells slots) {x y : Int64} (hd : decode bytes pc = .ok (.lcmp, 1))  (hp : pc + 1 = pc') (k : Go p e below s n0 rc rs P T (mkF m pc' Ls (.int (lcmpW x y) :: st))) : Go p e below s n0 rc rs P T (mkF m pc Ls (.long y :: .long x :: st)) := by
  obtain ⟨locs, X, eT, N, hn⟩ := X; obtain ⟨hx, hZ, hby, hown, hml, hlk, hrt⟩ := C
  subst hp; exact Go.of (fun t q => XS.lcmp X.here hx rfl (hb hby hd) rfl q) k
theorem Go.dup (C : Cx p s m meth c Z bytes own ret maxL) (X : On p l e R s m args below meth c n0 T h cells slots) {v : Value} (hd : decode bytes pc = .ok (.dup, 1)) (hc : v.category = 1) (hp : pc + 1 = pc') (k : Go p e below s n0 rc rs P T (mkF m pc' Ls (v :: v :: st))) : Go p e below s n0 rc rs P T (mkF m pc Ls (v :: st)) := by
  obtain ⟨locs, X, eT, N, hn⟩ := X; obtain ⟨hx, hZ, hby, hown, hml, hlk, hrt⟩ := C
  subst hp; exact Go.of (fun t q => XS.dup X.here hx rfl (hb hby hd) rfl hc q) k
theorem Go.pop (C : Cx p s m meth c Z bytes own ret maxL) (X : On p l e R s m args below meth c n0 T h cells slots) {v : Value} (hd : decode bytes pc = .ok (.pop, 1)) (hc : v.category = 1) (hp : pc + 1 = pc') (k : Go p e below s n0 rc rs P T (mkF m pc' Ls st)) : Go p e below s n0 rc rs P T (mkF m pc Ls (v :: st)) := by
  obtain ⟨locs, X, eT, N, hn⟩ := X; obtain ⟨hx, hZ, hby, hown, hml, hlk, hrt⟩ := C
  subst hp; exact Go.of (fun t q => XS.pop X.here hx rfl (hb hby hd) rfl hc q) k
theorem Go.dup_x1 (C : Cx p s m meth c Z bytes own ret maxL) (X : On p l e R s m args below meth c n0 T h cells slots) {v u : Value} (hd : decode bytes pc = .ok (.dup_x1, 1)) (hc : v.category = 1) (hc2 : u.category = 1) (hp : pc + 1 = pc') (k : Go p e below s n0 rc rs P T (mkF m pc' Ls (v :: u :: v :: st))) : Go p e below s n0 rc rs P T (mkF m pc Ls (v :: u :: st)) := by
  obtain ⟨locs, X, eT, N, hn⟩ := X; obtain ⟨hx, hZ, hby, hown, hml, hlk, hrt⟩ := C
  subst hp; exact Go.of (fun t q => XS.dupX1 X.here hx rfl (hb hby hd) rfl hc hc2 q) k
theorem Go.dup2 (C : Cx p s m meth c Z bytes own ret maxL) (X : On p l e R s m args below meth c n0 T h cells slots) {v u : Value} (hd : decode bytes pc = .ok (.dup2, 1)) (hc : v.category = 1) (hc2 : u.category = 1) (hp : pc + 1 = pc') (k : Go p e below s n0 rc rs P T (mkF m pc' Ls (v :: u :: v :: u :: st))) : Go p e below s n0 rc rs P T (mkF m pc Ls (v :: u :: st)) := by
  obtain ⟨locs, X, eT, N, hn⟩ := X; obtain ⟨hx, hZ, hby, hown, hml, hlk, hrt⟩ := C
  subst hp; exact Go.of (fun t q => Jvm.Free.XT.dup2 X.here hx rfl (hb hby hd) rfl hc hc2 q) k
theorem Go.dup2L (C : Cx p s m meth c Z bytes own ret maxL) (X : On p l e R s m args below meth c n0 T h cells slots) {x : Int64} (hd : decode bytes pc = .ok (.dup2, 1))  (hp : pc + 1 = pc') (k : Go p e below s n0 rc rs P T (mkF m pc' Ls (.long x :: .long x :: st))) : Go p e below s n0 rc rs P T (mkF m pc Ls (.long x :: st)) := by
  obtain ⟨locs, X, eT, N, hn⟩ := X; obtain ⟨hx, hZ, hby, hown, hml, hlk, hrt⟩ := C
  subst hp; exact Go.of (fun t q => Jvm.Free.XT.dup2L X.here hx rfl (hb hby hd) rfl q) k
theorem Go.iconst (C : Cx p s m meth c Z bytes own ret maxL) (X : On p l e R s m args below meth c n0 T h cells slots) {i : Int} {v : Int32} (hd : decode bytes pc = .ok (.iconst i, 1)) (hv : Int32.ofInt i = v) (hp : pc + 1 = pc') (k : Go p e below s n0 rc rs P T (mkF m pc' Ls (.int v :: st))) : Go p e below s n0 rc rs P T (mkF m pc Ls st) := by
  obtain ⟨locs, X, eT, N, hn⟩ := X; obtain ⟨hx, hZ, hby, hown, hml, hlk, hrt⟩ := C
  subst hp hv; exact Go.of (fun t q => XS.iconst X.here hx rfl (hb hby hd) q) k
theorem Go.bipush (C : Cx p s m meth c Z bytes own ret maxL) (X : On p l e R s m args below meth c n0 T h cells slots) {i : Int} {v : Int32} (hd : decode bytes pc = .ok (.bipush i, 2)) (hv : (Int8.ofInt i).toInt32 = v) (hp : pc + 2 = pc') (k : Go p e below s n0 rc rs P T (mkF m pc' Ls (.int v :: st))) : Go p e below s n0 rc rs P T (mkF m pc Ls st) := by
  obtain ⟨locs, X, eT, N, hn⟩ := X; obtain ⟨hx, hZ, hby, hown, hml, hlk, hrt⟩ := C
  subst hp hv; exact Go.of (fun t q => XS.bipush X.here hx rfl (hb hby hd) q) k
theorem Go.sipush (C : Cx p s m meth c Z bytes own ret maxL) (X : On p l e R s m args below meth c n0 T h cells slots) {i : Int} {v : Int32} (hd : decode bytes pc = .ok (.sipush i, 3)) (hv : (Int16.ofInt i).toInt32 = v) (hp : pc + 3 = pc') (k : Go p e below s n0 rc rs P T (mkF m pc' Ls (.int v :: st))) : Go p e below s n0 rc rs P T (mkF m pc Ls st) := by
  obtain ⟨locs, X, eT, N, hn⟩ := X; obtain ⟨hx, hZ, hby, hown, hml, hlk, hrt⟩ := C
  subst hp hv; exact Go.of (fun t q => XS.sipush X.here hx rfl (hb hby hd) q) k
theorem Go.lconst (C : Cx p s m meth c Z bytes own ret maxL) (X : On p l e R s m args below meth c n0 T h cells slots) {i : Fin 2} {v : Int64} (hd : decode bytes pc = .ok (.lconst i, 1)) (hv : Int64.ofNat i = v) (hp : pc + 1 = pc') (k : Go p e below s n0 rc rs P T (mkF m pc' Ls (.long v :: st))) : Go p e below s n0 rc rs P T (mkF m pc Ls st) := by
  obtain ⟨locs, X, eT, N, hn⟩ := X; obtain ⟨hx, hZ, hby, hown, hml, hlk, hrt⟩ := C
  subst hp hv; exact Go.of (fun t q => XS.lconst X.here hx rfl (hb hby hd) q) k
theorem Go.aconst_null (C : Cx p s m meth c Z bytes own ret maxL) (X : On p l e R s m args below meth c n0 T h cells slots)  (hd : decode bytes pc = .ok (.aconst_null, 1))  (hp : pc + 1 = pc') (k : Go p e below s n0 rc rs P T (mkF m pc' Ls (.null :: st))) : Go p e below s n0 rc rs P T (mkF m pc Ls st) := by
  obtain ⟨locs, X, eT, N, hn⟩ := X; obtain ⟨hx, hZ, hby, hown, hml, hlk, hrt⟩ := C
  subst hp; exact Go.of (fun t q => XS.aconstNull X.here hx rfl (hb hby hd)  q) k
theorem Go.ldc (C : Cx p s m meth c Z bytes own ret maxL) (X : On p l e R s m args below meth c n0 T h cells slots) {i : Nat} {v : Int32} (hc : (Cond.constant own i v).before a0 Z = true) (hd : decode bytes pc = .ok (.ldc i, 2)) (hp : pc + 2 = pc') (k : Go p e below s n0 rc rs P T (mkF m pc' Ls (.int v :: st))) : Go p e below s n0 rc rs P T (mkF m pc Ls st) := by
  obtain ⟨locs, X, eT, N, hn⟩ := X; obtain ⟨hx, hZ, hby, hown, hml, hlk, hrt⟩ := C
  subst hp; exact Go.of (X.ldcInt hx hown (mvT hZ hc) (g := mkF m pc Ls st) rfl (hb hby hd)) k
theorem Go.ldc2 (C : Cx p s m meth c Z bytes own ret maxL) (X : On p l e R s m args below meth c n0 T h cells slots) {i : Nat} {v : Int64} (hc : (Cond.constantLong own i v).before a0 Z = true) (hd : decode bytes pc = .ok (.ldc2_w i, 3)) (hp : pc + 3 = pc') (k : Go p e below s n0 rc rs P T (mkF m pc' Ls (.long v :: st))) : Go p e below s n0 rc rs P T (mkF m pc Ls st) := by
  obtain ⟨locs, X, eT, N, hn⟩ := X; obtain ⟨hx, hZ, hby, hown, hml, hlk, hrt⟩ := C
  subst hp; exact Go.of (X.ldc2Long hx hown (mvT hZ hc) (g := mkF m pc Ls st) rfl (hb hby hd)) k
theorem Go.iload (C : Cx p s m meth c Z bytes own ret maxL) (X : On p l e R s m args below meth c n0 T h cells slots) {i : Nat} {v : Int32} (hd : decode bytes pc = .ok (.iload i, 2)) (hl : Ls[i]? = some (.val (.int v))) (hp : pc + 2 = pc') (k : Go p e below s n0 rc rs P T (mkF m pc' Ls (.int v :: st))) : Go p e below s n0 rc rs P T (mkF m pc Ls st) := by
  obtain ⟨locs, X, eT, N, hn⟩ := X; obtain ⟨hx, hZ, hby, hown, hml, hlk, hrt⟩ := C
  subst hp; exact Go.of (fun t q => XS.iload X.here hx rfl (hb hby hd) hl q) k
theorem Go.iloadN (C : Cx p s m meth c Z bytes own ret maxL) (X : On p l e R s m args below meth c n0 T h cells slots) {i : Fin 4} {v : Int32} (hd : decode bytes pc = .ok (.iload_n i, 1)) (hl : Ls[i.val]? = some (.val (.int v))) (hp : pc + 1 = pc') (k : Go p e below s n0 rc rs P T (mkF m pc' Ls (.int v :: st))) : Go p e below s n0 rc rs P T (mkF m pc Ls st) := by
  obtain ⟨locs, X, eT, N, hn⟩ := X; obtain ⟨hx, hZ, hby, hown, hml, hlk, hrt⟩ := C
  subst hp; exact Go.of (fun t q => XS.iloadN X.here hx rfl (hb hby hd) hl q) k
theorem Go.istore (C : Cx p s m meth c Z bytes own ret maxL) (X : On p l e R s m args below meth c n0 T h cells slots) {i : Nat} {v : Int32} {Ls' : Array Slot} (hd : decode bytes pc = .ok (.istore i, 2)) (hl : storeLocals Ls i (.int v) = some Ls') (hp : pc + 2 = pc') (k : Go p e below s n0 rc rs P T (mkF m pc' Ls' st)) : Go p e below s n0 rc rs P T (mkF m pc Ls (.int v :: st)) := by
  obtain ⟨locs, X, eT, N, hn⟩ := X; obtain ⟨hx, hZ, hby, hown, hml, hlk, hrt⟩ := C
  subst hp; exact Go.of (fun t q => XS.istore X.here hx rfl (hb hby hd) rfl hl q) k
theorem Go.istoreN (C : Cx p s m meth c Z bytes own ret maxL) (X : On p l e R s m args below meth c n0 T h cells slots) {i : Fin 4} {v : Int32} {Ls' : Array Slot} (hd : decode bytes pc = .ok (.istore_n i, 1)) (hl : storeLocals Ls i.val (.int v) = some Ls') (hp : pc + 1 = pc') (k : Go p e below s n0 rc rs P T (mkF m pc' Ls' st)) : Go p e below s n0 rc rs P T (mkF m pc Ls (.int v :: st)) := by
  obtain ⟨locs, X, eT, N, hn⟩ := X; obtain ⟨hx, hZ, hby, hown, hml, hlk, hrt⟩ := C
  subst hp; exact Go.of (fun t q => XS.istoreN X.here hx rfl (hb hby hd) rfl hl q) k
theorem Go.lload (C : Cx p s m meth c Z bytes own ret maxL) (X : On p l e R s m args below meth c n0 T h cells slots) {i : Nat} {v : Int64} (hd : decode bytes pc = .ok (.lload i, 2)) (hl : Ls[i]? = some (.val (.long v))) (hp : pc + 2 = pc') (k : Go p e below s n0 rc rs P T (mkF m pc' Ls (.long v :: st))) : Go p e below s n0 rc rs P T (mkF m pc Ls st) := by
  obtain ⟨locs, X, eT, N, hn⟩ := X; obtain ⟨hx, hZ, hby, hown, hml, hlk, hrt⟩ := C
  subst hp; exact Go.of (fun t q => XS.lload X.here hx rfl (hb hby hd) hl q) k
theorem Go.lloadN (C : Cx p s m meth c Z bytes own ret maxL) (X : On p l e R s m args below meth c n0 T h cells slots) {i : Fin 4} {v : Int64} (hd : decode bytes pc = .ok (.lload_n i, 1)) (hl : Ls[i.val]? = some (.val (.long v))) (hp : pc + 1 = pc') (k : Go p e below s n0 rc rs P T (mkF m pc' Ls (.long v :: st))) : Go p e below s n0 rc rs P T (mkF m pc Ls st) := by
  obtain ⟨locs, X, eT, N, hn⟩ := X; obtain ⟨hx, hZ, hby, hown, hml, hlk, hrt⟩ := C
  subst hp; exact Go.of (fun t q => XS.lloadN X.here hx rfl (hb hby hd) hl q) k
theorem Go.lstore (C : Cx p s m meth c Z bytes own ret maxL) (X : On p l e R s m args below meth c n0 T h cells slots) {i : Nat} {v : Int64} {Ls' : Array Slot} (hd : decode bytes pc = .ok (.lstore i, 2)) (hl : storeLocals Ls i (.long v) = some Ls') (hp : pc + 2 = pc') (k : Go p e below s n0 rc rs P T (mkF m pc' Ls' st)) : Go p e below s n0 rc rs P T (mkF m pc Ls (.long v :: st)) := by
  obtain ⟨locs, X, eT, N, hn⟩ := X; obtain ⟨hx, hZ, hby, hown, hml, hlk, hrt⟩ := C
  subst hp; exact Go.of (fun t q => XS.lstore X.here hx rfl (hb hby hd) rfl hl q) k
theorem Go.lstoreN (C : Cx p s m meth c Z bytes own ret maxL) (X : On p l e R s m args below meth c n0 T h cells slots) {i : Fin 4} {v : Int64} {Ls' : Array Slot} (hd : decode bytes pc = .ok (.lstore_n i, 1)) (hl : storeLocals Ls i.val (.long v) = some Ls') (hp : pc + 1 = pc') (k : Go p e below s n0 rc rs P T (mkF m pc' Ls' st)) : Go p e below s n0 rc rs P T (mkF m pc Ls (.long v :: st)) := by
  obtain ⟨locs, X, eT, N, hn⟩ := X; obtain ⟨hx, hZ, hby, hown, hml, hlk, hrt⟩ := C
  subst hp; exact Go.of (fun t q => XS.lstoreN X.here hx rfl (hb hby hd) rfl hl q) k
theorem Go.aload (C : Cx p s m meth c Z bytes own ret maxL) (X : On p l e R s m args below meth c n0 T h cells slots) {i : Nat} {v : Value} (hd : decode bytes pc = .ok (.aload i, 2)) (hl : Ls[i]? = some (.val v)) (hv : v.isRef = true) (hp : pc + 2 = pc') (k : Go p e below s n0 rc rs P T (mkF m pc' Ls (v :: st))) : Go p e below s n0 rc rs P T (mkF m pc Ls st) := by
  obtain ⟨locs, X, eT, N, hn⟩ := X; obtain ⟨hx, hZ, hby, hown, hml, hlk, hrt⟩ := C
  subst hp; exact Go.of (fun t q => XS.aload X.here hx rfl (hb hby hd) hl hv q) k
theorem Go.aloadN (C : Cx p s m meth c Z bytes own ret maxL) (X : On p l e R s m args below meth c n0 T h cells slots) {i : Fin 4} {v : Value} (hd : decode bytes pc = .ok (.aload_n i, 1)) (hl : Ls[i.val]? = some (.val v)) (hv : v.isRef = true) (hp : pc + 1 = pc') (k : Go p e below s n0 rc rs P T (mkF m pc' Ls (v :: st))) : Go p e below s n0 rc rs P T (mkF m pc Ls st) := by
  obtain ⟨locs, X, eT, N, hn⟩ := X; obtain ⟨hx, hZ, hby, hown, hml, hlk, hrt⟩ := C
  subst hp; exact Go.of (fun t q => XS.aloadN X.here hx rfl (hb hby hd) hl hv q) k
theorem Go.astore (C : Cx p s m meth c Z bytes own ret maxL) (X : On p l e R s m args below meth c n0 T h cells slots) {i : Nat} {v : Value} {Ls' : Array Slot} (hd : decode bytes pc = .ok (.astore i, 2)) (hv : v.isRef = true) (hl : storeLocals Ls i v = some Ls') (hp : pc + 2 = pc') (k : Go p e below s n0 rc rs P T (mkF m pc' Ls' st)) : Go p e below s n0 rc rs P T (mkF m pc Ls (v :: st)) := by
  obtain ⟨locs, X, eT, N, hn⟩ := X; obtain ⟨hx, hZ, hby, hown, hml, hlk, hrt⟩ := C
  subst hp; exact Go.of (fun t q => XS.astore X.here hx rfl (hb hby hd) rfl hv hl q) k
theorem Go.astoreN (C : Cx p s m meth c Z bytes own ret maxL) (X : On p l e R s m args below meth c n0 T h cells slots) {i : Fin 4} {v : Value} {Ls' : Array Slot} (hd : decode bytes pc = .ok (.astore_n i, 1)) (hv : v.isRef = true) (hl : storeLocals Ls i.val v = some Ls') (hp : pc + 1 = pc') (k : Go p e below s n0 rc rs P T (mkF m pc' Ls' st)) : Go p e below s n0 rc rs P T (mkF m pc Ls (v :: st)) := by
  obtain ⟨locs, X, eT, N, hn⟩ := X; obtain ⟨hx, hZ, hby, hown, hml, hlk, hrt⟩ := C
  subst hp; exact Go.of (fun t q => XS.astoreN X.here hx rfl (hb hby hd) rfl hv hl q) k
theorem Go.iinc (C : Cx p s m meth c Z bytes own ret maxL) (X : On p l e R s m args below meth c n0 T h cells slots) {i : Nat} {d : Int} {v v' : Int32} {Ls' : Array Slot} (hd : decode bytes pc = .ok (.iinc i d, 3)) (hl : Ls[i]? = some (.val (.int v))) (hv : v + Int32.ofInt d = v') (hl' : storeLocals Ls i (.int v') = some Ls') (hp : pc + 3 = pc') (k : Go p e below s n0 rc rs P T (mkF m pc' Ls' st)) : Go p e below s n0 rc rs P T (mkF m pc Ls st) := by
  obtain ⟨locs, X, eT, N, hn⟩ := X; obtain ⟨hx, hZ, hby, hown, hml, hlk, hrt⟩ := C
  subst hp hv; exact Go.of (fun t q => XS.iinc X.here hx rfl (hb hby hd) hl hl' q) k
theorem Go.goto (C : Cx p s m meth c Z bytes own ret maxL) (X : On p l e R s m args below meth c n0 T h cells slots) {o : Int} (hd : decode bytes pc = .ok (.goto o, 3)) (ho : 0 ≤ (pc : Int) + o) (hp : ((pc : Int) + o).toNat = pc') (k : Go p e below s n0 rc rs P T (mkF m pc' Ls st)) : Go p e below s n0 rc rs P T (mkF m pc Ls st) := by
  obtain ⟨locs, X, eT, N, hn⟩ := X; obtain ⟨hx, hZ, hby, hown, hml, hlk, hrt⟩ := C
  exact Go.of (fun t q => XS.goto X.here hx rfl (pc0 := pc) rfl (hb hby hd) ho hp q) k
theorem Go.ifYes (C : Cx p s m meth c Z bytes own ret maxL) (X : On p l e R s m args below meth c n0 T h cells slots) {o : Int} {cd : ClassFile.Cond} {x : Int32} (hd : decode bytes pc = .ok (.ifCond cd o, 3)) (hc : ifCond.holds cd x = true) (ho : 0 ≤ (pc : Int) + o) (hp : ((pc : Int) + o).toNat = pc') (k : Go p e below s n0 rc rs P T (mkF m pc' Ls st)) : Go p e below s n0 rc rs P T (mkF m pc Ls (.int x :: st)) := by
  obtain ⟨locs, X, eT, N, hn⟩ := X; obtain ⟨hx, hZ, hby, hown, hml, hlk, hrt⟩ := C
  exact Go.of (fun t q => XS.ifYes X.here hx rfl (pc0 := pc) rfl (hb hby hd) rfl hc ho hp q) k
theorem Go.ifNo (C : Cx p s m meth c Z bytes own ret maxL) (X : On p l e R s m args below meth c n0 T h cells slots) {o : Int} {cd : ClassFile.Cond} {x : Int32} (hd : decode bytes pc = .ok (.ifCond cd o, 3)) (hc : ifCond.holds cd x = false) (hp : pc + 3 = pc') (k : Go p e below s n0 rc rs P T (mkF m pc' Ls st)) : Go p e below s n0 rc rs P T (mkF m pc Ls (.int x :: st)) := by
  obtain ⟨locs, X, eT, N, hn⟩ := X; obtain ⟨hx, hZ, hby, hown, hml, hlk, hrt⟩ := C
  subst hp; exact Go.of (fun t q => XS.ifNo X.here hx rfl (hb hby hd) rfl hc q) k
theorem Go.icmpYes (C : Cx p s m meth c Z bytes own ret maxL) (X : On p l e R s m args below meth c n0 T h cells slots) {o : Int} {cd : ClassFile.Cond} {x y : Int32} (hd : decode bytes pc = .ok (.if_icmp cd o, 3)) (hc : if_icmp.holds cd x y = true) (ho : 0 ≤ (pc : Int) + o) (hp : ((pc : Int) + o).toNat = pc') (k : Go p e below s n0 rc rs P T (mkF m pc' Ls st)) : Go p e below s n0 rc rs P T (mkF m pc Ls (.int y :: .int x :: st)) := by
  obtain ⟨locs, X, eT, N, hn⟩ := X; obtain ⟨hx, hZ, hby, hown, hml, hlk, hrt⟩ := C
  exact Go.of (fun t q => XS.icmpYes X.here hx rfl (pc0 := pc) rfl (hb hby hd) rfl hc ho hp q) k
theorem Go.icmpNo (C : Cx p s m meth c Z bytes own ret maxL) (X : On p l e R s m args below meth c n0 T h cells slots) {o : Int} {cd : ClassFile.Cond} {x y : Int32} (hd : decode bytes pc = .ok (.if_icmp cd o, 3)) (hc : if_icmp.holds cd x y = false) (hp : pc + 3 = pc') (k : Go p e below s n0 rc rs P T (mkF m pc' Ls st)) : Go p e below s n0 rc rs P T (mkF m pc Ls (.int y :: .int x :: st)) := by
  obtain ⟨locs, X, eT, N, hn⟩ := X; obtain ⟨hx, hZ, hby, hown, hml, hlk, hrt⟩ := C
  subst hp; exact Go.of (fun t q => XS.icmpNo X.here hx rfl (hb hby hd) rfl hc q) k
theorem Go.acmpYes (C : Cx p s m meth c Z bytes own ret maxL) (X : On p l e R s m args below meth c n0 T h cells slots) {o : Int} {cd : ClassFile.ACond} {a b : Addr} (hd : decode bytes pc = .ok (.if_acmp cd o, 3)) (hc : if_acmp.holds cd (some a) (some b) = true) (ho : 0 ≤ (pc : Int) + o) (hp : ((pc : Int) + o).toNat = pc') (k : Go p e below s n0 rc rs P T (mkF m pc' Ls st)) : Go p e below s n0 rc rs P T (mkF m pc Ls (.ref b :: .ref a :: st)) := by
  obtain ⟨locs, X, eT, N, hn⟩ := X; obtain ⟨hx, hZ, hby, hown, hml, hlk, hrt⟩ := C
  exact Go.of (fun t q => XS.acmpYes X.here hx rfl (pc0 := pc) rfl (hb hby hd) rfl hc ho hp q) k
theorem Go.acmpNo (C : Cx p s m meth c Z bytes own ret maxL) (X : On p l e R s m args below meth c n0 T h cells slots) {o : Int} {cd : ClassFile.ACond} {a b : Addr} (hd : decode bytes pc = .ok (.if_acmp cd o, 3)) (hc : if_acmp.holds cd (some a) (some b) = false) (hp : pc + 3 = pc') (k : Go p e below s n0 rc rs P T (mkF m pc' Ls st)) : Go p e below s n0 rc rs P T (mkF m pc Ls (.ref b :: .ref a :: st)) := by
  obtain ⟨locs, X, eT, N, hn⟩ := X; obtain ⟨hx, hZ, hby, hown, hml, hlk, hrt⟩ := C
  subst hp; exact Go.of (fun t q => XS.acmpNo X.here hx rfl (hb hby hd) rfl hc q) k
theorem Go.acmpV (C : Cx p s m meth c Z bytes own ret maxL) (X : On p l e R s m args below meth c n0 T h cells slots) {o : Int} {cd : ClassFile.ACond} {u v : Value} {same : Bool} (hd : decode bytes pc = .ok (.if_acmp cd o, 3)) (h1 : u.isRef = true) (h2 : v.isRef = true) (hq : decide (u = v) = same) (ho : 0 ≤ (pc : Int) + o) (hp : pc' = if acV cd same = true then ((pc : Int) + o).toNat else pc + 3) (k : Go p e below s n0 rc rs P T (mkF m pc' Ls st)) : Go p e below s n0 rc rs P T (mkF m pc Ls (v :: u :: st)) := by
  obtain ⟨locs, X, eT, N, hn⟩ := X; obtain ⟨hx, hZ, hby, hown, hml, hlk, hrt⟩ := C
  exact Go.of (fun t q => acmp X hx rfl h1 h2 (pc0 := pc) rfl (hb hby hd) rfl hq ho hp q) k
theorem Go.ifnullYes (C : Cx p s m meth c Z bytes own ret maxL) (X : On p l e R s m args below meth c n0 T h cells slots) {o : Int} (hd : decode bytes pc = .ok (.ifnull o, 3)) (ho : 0 ≤ (pc : Int) + o) (hp : ((pc : Int) + o).toNat = pc') (k : Go p e below s n0 rc rs P T (mkF m pc' Ls st)) : Go p e below s n0 rc rs P T (mkF m pc Ls (.null :: st)) := by
  obtain ⟨locs, X, eT, N, hn⟩ := X; obtain ⟨hx, hZ, hby, hown, hml, hlk, hrt⟩ := C
  exact Go.of (fun t q => XS.ifnullYes X.here hx rfl (pc0 := pc) rfl (hb hby hd) rfl ho hp q) k
theorem Go.ifnullNo (C : Cx p s m meth c Z bytes own ret maxL) (X : On p l e R s m args below meth c n0 T h cells slots) {o : Int} {a : Addr} (hd : decode bytes pc = .ok (.ifnull o, 3)) (hp : pc + 3 = pc') (k : Go p e below s n0 rc rs P T (mkF m pc' Ls st)) : Go p e below s n0 rc rs P T (mkF m pc Ls (.ref a :: st)) := by
  obtain ⟨locs, X, eT, N, hn⟩ := X; obtain ⟨hx, hZ, hby, hown, hml, hlk, hrt⟩ := C
  subst hp; exact Go.of (fun t q => XS.ifnullNo X.here hx rfl (hb hby hd) rfl q) k
theorem Go.ifnonnullYes (C : Cx p s m meth c Z bytes own ret maxL) (X : On p l e R s m args below meth c n0 T h cells slots) {o : Int} {a : Addr} (hd : decode bytes pc = .ok (.ifnonnull o, 3)) (ho : 0 ≤ (pc : Int) + o) (hp : ((pc : Int) + o).toNat = pc') (k : Go p e below s n0 rc rs P T (mkF m pc' Ls st)) : Go p e below s n0 rc rs P T (mkF m pc Ls (.ref a :: st)) := by
  obtain ⟨locs, X, eT, N, hn⟩ := X; obtain ⟨hx, hZ, hby, hown, hml, hlk, hrt⟩ := C
  exact Go.of (fun t q => XS.ifnonnullYes X.here hx rfl (pc0 := pc) rfl (hb hby hd) rfl ho hp q) k
theorem Go.ifnonnullNo (C : Cx p s m meth c Z bytes own ret maxL) (X : On p l e R s m args below meth c n0 T h cells slots) {o : Int} (hd : decode bytes pc = .ok (.ifnonnull o, 3)) (hp : pc + 3 = pc') (k : Go p e below s n0 rc rs P T (mkF m pc' Ls st)) : Go p e below s n0 rc rs P T (mkF m pc Ls (.null :: st)) := by
  obtain ⟨locs, X, eT, N, hn⟩ := X; obtain ⟨hx, hZ, hby, hown, hml, hlk, hrt⟩ := C
  subst hp; exact Go.of (fun t q => XS.ifnonnullNo X.here hx rfl (hb hby hd) rfl q) k
theorem Go.lswHit (C : Cx p s m meth c Z bytes own ret maxL) (X : On p l e R s m args below meth c n0 T h cells slots) {dflt : Int} {pairs : Array (Int × Int)} {len : Nat} {x : Int32} {a off : Int} (hd : decode bytes pc = .ok (.lookupswitch dflt pairs, len)) (hs : (pairs.toList.zip (pairs.toList.drop 1)).all (fun (a, next) => a.1 < next.1) = true) (hf : pairs.find? (·.1 == x.toInt) = some (a, off)) (ho : 0 ≤ (pc : Int) + off) (hp : ((pc : Int) + off).toNat = pc') (k : Go p e below s n0 rc rs P T (mkF m pc' Ls st)) : Go p e below s n0 rc rs P T (mkF m pc Ls (.int x :: st)) := by
  obtain ⟨locs, X, eT, N, hn⟩ := X; obtain ⟨hx, hZ, hby, hown, hml, hlk, hrt⟩ := C
  subst hp; exact Go.of (fun t q => X.lookupswitchHit hx (g := mkF m pc Ls (.int x :: st)) rfl rfl (hb hby hd) hs hf ho t q) k
theorem Go.lswMiss (C : Cx p s m meth c Z bytes own ret maxL) (X : On p l e R s m args below meth c n0 T h cells slots) {dflt : Int} {pairs : Array (Int × Int)} {len : Nat} {x : Int32} (hd : decode bytes pc = .ok (.lookupswitch dflt pairs, len)) (hs : (pairs.toList.zip (pairs.toList.drop 1)).all (fun (a, next) => a.1 < next.1) = true) (hf : pairs.find? (·.1 == x.toInt) = none) (ho : 0 ≤ (pc : Int) + dflt) (hp : ((pc : Int) + dflt).toNat = pc') (k : Go p e below s n0 rc rs P T (mkF m pc' Ls st)) : Go p e below s n0 rc rs P T (mkF m pc Ls (.int x :: st)) := by
  obtain ⟨locs, X, eT, N, hn⟩ := X; obtain ⟨hx, hZ, hby, hown, hml, hlk, hrt⟩ := C
  subst hp; exact Go.of (fun t q => X.lookupswitchMiss hx (g := mkF m pc Ls (.int x :: st)) rfl rfl (hb hby hd) hs hf ho t q) k
theorem Go.retV  (C : Cx p s m meth c Z bytes own none maxL) (X : On p l e R s m args below meth c n0 T h cells slots) (hd : decode bytes pc = .ok (.return_, 1)) (hq : P none h) (hc : cells ≤ rc) (hs : slots ≤ rs) : Go p e below s n0 rc rs P T (mkF m pc Ls []) := by
  obtain ⟨locs, X, eT, N, hn⟩ := X; obtain ⟨hx, hZ, hby, hown, hml, hlk, hrt⟩ := C
  obtain ⟨fs, hr, hrun, hended, hW, hsame⟩ := X.leave (v := none) (fun _ => rfl) hlk
  refine ⟨_, _, ?_, hrun, hended, _, _, rfl, ⟨?_, N⟩, ⟨_, rfl⟩, hW, hsame.mono hc hs⟩
  · exact X.returnOut hx hrt (hb hby hd) hr
  · show P _ T.heap; rw [eT]; exact hq
theorem own_retS {locs : List Loc} (X : Stand p l e R s m args below meth c T locs cells slots) (hx : p.tables.exec = Jvm.exec) {z z' : Int32} {t : FieldType} {rest : List Value} (hret : meth.sig.returnType = some t) (hn : narrow t (.int z) = .int z') (hd : decode c.code pc = .ok (.ireturn, 1)) {fs : List Frame}
    (hl : ∀ (f : JFrame) (acts : List Action), f.method = m → f.locked = none → f.entered = [] → (doReturn e (T.setTop f) acts (some (.int z'))).1 = T.setFrames fs) : Steps p.tables e below (T.setTop (mkF m pc Ls (.int z :: rest))) (T.setFrames fs) := by
  have hm' : T.vm.method? m = some meth := X.method'
  show Steps p.tables e below (T.setTop { method := m, pc := pc, locals := Ls, stack := _ :: rest, locked := none }) _
  jvm_step X.here [X.here.top, hx, hd, hm', hret, hn]
  first | (intro acts; rw [hl _ acts rfl rfl rfl]) | rw [hl _ _ rfl rfl rfl]
  exact Steps.refl _
theorem Go.retZ {t : FieldType} (C : Cx p s m meth c Z bytes own (some t) maxL) (X : On p l e R s m args below meth c n0 T h cells slots) {z z' : Int32} (hz : narrow t (.int z) = .int z') (hd : decode bytes pc = .ok (.ireturn, 1)) (hq : P (some (.int z')) h) (hc : cells ≤ rc) (hs : slots ≤ rs) : Go p e below s n0 rc rs P T (mkF m pc Ls (.int z :: st)) := by
  obtain ⟨locs, X, eT, N, hn⟩ := X; obtain ⟨hx, hZ, hby, hown, hml, hlk, hrt⟩ := C
  obtain ⟨fs, hr, hrun, hended, hW, hsame⟩ := X.leave (v := (some (.int z'))) (fun h => by rw [hrt] at h; cases h) hlk
  refine ⟨_, _, ?_, hrun, hended, _, _, rfl, ⟨?_, N⟩, ⟨_, rfl⟩, hW, hsame.mono hc hs⟩
  · exact own_retS X hx hrt hz (hb hby hd) hr
  · show P _ T.heap; rw [eT]; exact hq
theorem Go.retI  (C : Cx p s m meth c Z bytes own (some .int) maxL) (X : On p l e R s m args below meth c n0 T h cells slots) {z : Int32} (hd : decode bytes pc = .ok (.ireturn, 1)) (hq : P (some (.int z)) h) (hc : cells ≤ rc) (hs : slots ≤ rs) : Go p e below s n0 rc rs P T (mkF m pc Ls (.int z :: st)) := by
  obtain ⟨locs, X, eT, N, hn⟩ := X; obtain ⟨hx, hZ, hby, hown, hml, hlk, hrt⟩ := C
  obtain ⟨fs, hr, hrun, hended, hW, hsame⟩ := X.leave (v := (some (.int z))) (fun h => by rw [hrt] at h; cases h) hlk
  refine ⟨_, _, ?_, hrun, hended, _, _, rfl, ⟨?_, N⟩, ⟨_, rfl⟩, hW, hsame.mono hc hs⟩
  · exact own_retS X hx hrt rfl (hb hby hd) hr
  · show P _ T.heap; rw [eT]; exact hq
theorem Go.retL  (C : Cx p s m meth c Z bytes own (some .long) maxL) (X : On p l e R s m args below meth c n0 T h cells slots) {z : Int64} (hd : decode bytes pc = .ok (.lreturn, 1)) (hq : P (some (.long z)) h) (hc : cells ≤ rc) (hs : slots ≤ rs) : Go p e below s n0 rc rs P T (mkF m pc Ls (.long z :: st)) := by
  obtain ⟨locs, X, eT, N, hn⟩ := X; obtain ⟨hx, hZ, hby, hown, hml, hlk, hrt⟩ := C
  obtain ⟨fs, hr, hrun, hended, hW, hsame⟩ := X.leave (v := (some (.long z))) (fun h => by rw [hrt] at h; cases h) hlk
  refine ⟨_, _, ?_, hrun, hended, _, _, rfl, ⟨?_, N⟩, ⟨_, rfl⟩, hW, hsame.mono hc hs⟩
  · jvm_step X.here [X.here.top, hx, (hb hby hd), X.method', hrt, narrow]
    first | (intro acts; rw [hr _ acts rfl rfl rfl]) | rw [hr _ _ rfl rfl rfl]
    exact Steps.refl _
  · show P _ T.heap; rw [eT]; exact hq
theorem Go.retA {cn : String} (C : Cx p s m meth c Z bytes own (some (.object cn)) maxL) (X : On p l e R s m args below meth c n0 T h cells slots) {z : Value} (hz : z.isRef = true) (hd : decode bytes pc = .ok (.areturn, 1)) (hq : P (some z) h) (hc : cells ≤ rc) (hs : slots ≤ rs) : Go p e below s n0 rc rs P T (mkF m pc Ls (z :: st)) := by
  obtain ⟨locs, X, eT, N, hn⟩ := X; obtain ⟨hx, hZ, hby, hown, hml, hlk, hrt⟩ := C
  obtain ⟨fs, hr, hrun, hended, hW, hsame⟩ := X.leave (v := (some z)) (fun h => by rw [hrt] at h; cases h) hlk
  refine ⟨_, _, ?_, hrun, hended, _, _, rfl, ⟨?_, N⟩, ⟨_, rfl⟩, hW, hsame.mono hc hs⟩
  · rcases ref_cases hz with rfl | ⟨a, rfl⟩ <;>
    · jvm_step X.here [X.here.top, hx, (hb hby hd), X.method', hrt, Value.isRef, FieldType.isReference]
      first | (intro acts; rw [hr _ acts rfl rfl rfl]) | rw [hr _ _ rfl rfl rfl]
      exact Steps.refl _
  · show P _ T.heap; rw [eT]; exact hq
theorem Go.retAA {ct : FieldType} (C : Cx p s m meth c Z bytes own (some (.array ct)) maxL) (X : On p l e R s m args below meth c n0 T h cells slots) {z : Value} (hz : z.isRef = true) (hd : decode bytes pc = .ok (.areturn, 1)) (hq : P (some z) h) (hc : cells ≤ rc) (hs : slots ≤ rs) : Go p e below s n0 rc rs P T (mkF m pc Ls (z :: st)) := by
  obtain ⟨locs, X, eT, N, hn⟩ := X; obtain ⟨hx, hZ, hby, hown, hml, hlk, hrt⟩ := C
  obtain ⟨fs, hr, hrun, hended, hW, hsame⟩ := X.leave (v := (some z)) (fun h => by rw [hrt] at h; cases h) hlk
  refine ⟨_, _, ?_, hrun, hended, _, _, rfl, ⟨?_, N⟩, ⟨_, rfl⟩, hW, hsame.mono hc hs⟩
  · rcases ref_cases hz with rfl | ⟨a, rfl⟩ <;>
    · jvm_step X.here [X.here.top, hx, (hb hby hd), X.method', hrt, Value.isRef, FieldType.isReference]
      first | (intro acts; rw [hr _ acts rfl rfl rfl]) | rw [hr _ _ rfl rfl rfl]
      exact Steps.refl _
  · show P _ T.heap; rw [eT]; exact hq
theorem Go.getF (C : Cx p s m meth c Z bytes own ret maxL) (X : On p l e R s m args below meth c n0 T h cells slots) {R0 O n d host : String} {i : Nat} {a : Addr} {v : Value} (w : (Cond.fieldLink own i R0 n d).before a0 Z = true ∨ (Cond.fieldLinkNest own i R0 n d host).before a0 Z = true) (via : Via Z R0 O n d) (F : Fld Z h a O n d v) (hd : decode bytes pc = .ok (.getfield i, 3)) (hp : pc + 3 = pc')
    (k : ∀ T', On p l e R s m args below meth c n0 T' h cells slots → Go p e below s n0 rc rs P T' (mkF m pc' Ls (v :: st))) : Go p e below s n0 rc rs P T (mkF m pc Ls (.ref a :: st)) := by
  obtain ⟨locs, X, eT, N, hn⟩ := X; obtain ⟨hx, hZ, hby, hown, hml, hlk, hrt⟩ := C; subst hp
  obtain ⟨T', X', e', st'⟩ := RoadKit.getF X hx hZ hown w via eT F (g := mkF m pc Ls (.ref a :: st)) rfl rfl (hb hby hd)
  exact Go.of st' (k T' ⟨locs, X', e', N, hn⟩)
theorem Go.getS (C : Cx p s m meth c Z bytes own ret maxL) (X : On p l e R s m args below meth c n0 T h cells slots) {R0 O n d : String} {i : Nat} {v : Value} (w : (Cond.fieldLink own i R0 n d).before a0 Z = true) (via : Via Z R0 O n d) (F : Sta Z h O n d v) (hd : decode bytes pc = .ok (.getstatic i, 3)) (hp : pc + 3 = pc')
    (k : ∀ T', On p l e R s m args below meth c n0 T' h cells slots → Go p e below s n0 rc rs P T' (mkF m pc' Ls (v :: st))) : Go p e below s n0 rc rs P T (mkF m pc Ls st) := by
  obtain ⟨locs, X, eT, N, hn⟩ := X; obtain ⟨hx, hZ, hby, hown, hml, hlk, hrt⟩ := C; subst hp
  obtain ⟨T', X', e', st'⟩ := RoadKit.getS X hx hZ (host := "") hown w via eT F (g := mkF m pc Ls st) rfl (hb hby hd)
  exact Go.of st' (k T' ⟨locs, X', e', N, hn⟩)
theorem Go.putF (C : Cx p s m meth c Z bytes own ret maxL) (X : On p l e R s m args below meth c n0 T h cells slots) {R0 O n d host K : String} {i kk : Nat} {ty : FieldType} {a : Addr} {v old : Value} (w : (Cond.fieldLink own i R0 n d).before a0 Z = true ∨ (Cond.fieldLinkNest own i R0 n d host).before a0 Z = true) (via : Via Z R0 O n d) (F : Fld Z h a O n d old) (E : Exa Z h a K) (L : (Cond.lays K O n d).before a0 Z = true ∨ ((Cond.laysFinal K O n d).before a0 Z = true ∧ own = O ∧ meth.name = "<init>")) (wi : (Cond.instantiable K kk).before a0 Z = true) (ha : n0 ≤ a) (hty : parseFieldDescriptor d = some ty) (hn : narrow ty v = v) (hf : fits ty v = true) (hd : decode bytes pc = .ok (.putfield i, 3)) (hp : pc + 3 = pc')
    (k : ∀ T' h', On p l e R s m args below meth c n0 T' h' cells slots → Wr h h' a (slotOf Z O n d) v → Go p e below s n0 rc rs P T' (mkF m pc' Ls st)) : Go p e below s n0 rc rs P T (mkF m pc Ls (v :: .ref a :: st)) := by
  obtain ⟨locs, X, eT, N, hz⟩ := X; obtain ⟨hx, hZ, hby, hown, hml, hlk, hrt⟩ := C; subst hp
  obtain ⟨T', h', X', e', W, st'⟩ := RoadKit.putF X hx hZ hown w via eT F E L wi hty hn hf (g := mkF m pc Ls (v :: .ref a :: st)) rfl rfl (hb hby hd)
  exact Go.of st' (k T' h' ⟨_, X', e', Fr.snoc X' N ha, by rw [W.size]; exact hz⟩ W)
theorem Go.putFN (C : Cx p s m meth c Z bytes own ret maxL) (X : On p l e R s m args below meth c n0 T h cells slots) {R0 O n d K : String} {i kk : Nat} {ty : FieldType} {a : Addr} {v v' old : Value} (w : (Cond.fieldLink own i R0 n d).before a0 Z = true) (via : Via Z R0 O n d) (F : Fld Z h a O n d old) (E : Exa Z h a K) (L : (Cond.lays K O n d).before a0 Z = true ∨ ((Cond.laysFinal K O n d).before a0 Z = true ∧ own = O ∧ meth.name = "<init>")) (wi : (Cond.instantiable K kk).before a0 Z = true) (ha : n0 ≤ a) (hty : parseFieldDescriptor d = some ty) (hn : narrow ty v = v') (hf : fits ty v' = true) (hd : decode bytes pc = .ok (.putfield i, 3)) (hp : pc + 3 = pc')
    (k : ∀ T' h', On p l e R s m args below meth c n0 T' h' cells slots → Wr h h' a (slotOf Z O n d) v' → Go p e below s n0 rc rs P T' (mkF m pc' Ls st)) : Go p e below s n0 rc rs P T (mkF m pc Ls (v :: .ref a :: st)) := by
  obtain ⟨locs, X, eT, N, hz⟩ := X; obtain ⟨hx, hZ, hby, hown, hml, hlk, hrt⟩ := C; subst hp
  obtain ⟨T', h', X', e', W, st'⟩ := RoadKit.putFN X hx hZ hown w via eT F E L wi hty hn hf (g := mkF m pc Ls (v :: .ref a :: st)) rfl rfl (hb hby hd)
  exact Go.of st' (k T' h' ⟨_, X', e', Fr.snoc X' N ha, by rw [W.size]; exact hz⟩ W)
theorem Go.newO (C : Cx p s m meth c Z bytes own ret maxL) (X : On p l e R s m args below meth c n0 T h cells slots) {K : String} {i kk : Nat} (w : (Cond.classLink own i K).before a0 Z = true) (wi : (Cond.instantiable K kk).before a0 Z = true) (wz : (Cond.initialized K).before a0 Z = true) (hd : decode bytes pc = .ok (.new i, 3)) (hc : cells + 1 ≤ R.cells) (hl : slots + kk ≤ R.slots) (hp : pc + 3 = pc')
    (k : ∀ T' h' a, On p l e R s m args below meth c n0 T' h' (cells + 1) (slots + kk) → a = h.size → Ext h h' → Exa Z h' a K → (∀ {O nm d : String} {ty : FieldType}, Laid Z a0 K O nm d → parseFieldDescriptor d = some ty → Fld Z h' a O nm d (defaultValue ty)) → n0 ≤ a → Go p e below s n0 rc rs P T' (mkF m pc' Ls (.ref a :: st))) : Go p e below s n0 rc rs P T (mkF m pc Ls st) := by
  obtain ⟨locs, X, eT, N, hz⟩ := X; obtain ⟨hx, hZ, hby, hown, hml, hlk, hrt⟩ := C; subst hp
  obtain ⟨T', h', X', e', E, A, D, -, st'⟩ := RoadKit.newO X hx hZ hown w wi wz eT (g := mkF m pc Ls st) rfl (hb hby hd) hc hl
  exact Go.of st' (k T' h' h.size ⟨_, X', e', N, Nat.le_trans hz E.1⟩ rfl E A D hz)
theorem Go.initO (C : Cx p s m meth c Z bytes own ret maxL) (X : On p l e R s m args below meth c n0 T h cells slots) {a : Addr} (hI : ∀ locs, Stand p l e R s m args below meth c T locs cells slots → T.heap = h → ∃ T', Stand p l e R s m args below meth c T' locs cells slots ∧ T'.heap = h ∧ ∀ target, Steps p.tables e below (T'.setTop (mkF m (pc + 3) Ls st)) target → Steps p.tables e below (T.setTop (mkF m pc Ls (.ref a :: st))) target) (hp : pc + 3 = pc')
    (k : ∀ T', On p l e R s m args below meth c n0 T' h cells slots → Go p e below s n0 rc rs P T' (mkF m pc' Ls st)) : Go p e below s n0 rc rs P T (mkF m pc Ls (.ref a :: st)) := by
  obtain ⟨locs, X, eT, N, hz⟩ := X; subst hp
  obtain ⟨T', X', e', st'⟩ := hI locs X eT
  exact Go.of st' (k T' ⟨_, X', e', N, hz⟩)
theorem Go.castY (C : Cx p s m meth c Z bytes own ret maxL) (X : On p l e R s m args below meth c n0 T h cells slots) {K : String} {i : Nat} {a : Addr} (w : (Cond.classLink own i K).before a0 Z = true) (F : Ins Z h a K true) (hd : decode bytes pc = .ok (.checkcast i, 3)) (hp : pc + 3 = pc')
    (k : ∀ T', On p l e R s m args below meth c n0 T' h cells slots → Go p e below s n0 rc rs P T' (mkF m pc' Ls (.ref a :: st))) : Go p e below s n0 rc rs P T (mkF m pc Ls (.ref a :: st)) := by
  obtain ⟨locs, X, eT, N, hn⟩ := X; obtain ⟨hx, hZ, hby, hown, hml, hlk, hrt⟩ := C; subst hp
  obtain ⟨T', X', e', st'⟩ := RoadKit.castY X hx hZ hown w eT F (g := mkF m pc Ls (.ref a :: st)) rfl rfl (hb hby hd)
  exact Go.of st' (k T' ⟨locs, X', e', N, hn⟩)
theorem Go.instY (C : Cx p s m meth c Z bytes own ret maxL) (X : On p l e R s m args below meth c n0 T h cells slots) {K : String} {i : Nat} {a : Addr} (w : (Cond.classLink own i K).before a0 Z = true) (F : Ins Z h a K true) (hd : decode bytes pc = .ok (.instanceof i, 3)) (hp : pc + 3 = pc')
    (k : ∀ T', On p l e R s m args below meth c n0 T' h cells slots → Go p e below s n0 rc rs P T' (mkF m pc' Ls (.int 1 :: st))) : Go p e below s n0 rc rs P T (mkF m pc Ls (.ref a :: st)) := by
  obtain ⟨locs, X, eT, N, hn⟩ := X; obtain ⟨hx, hZ, hby, hown, hml, hlk, hrt⟩ := C; subst hp
  obtain ⟨T', X', e', st'⟩ := RoadKit.instY X hx hZ hown w eT F (g := mkF m pc Ls (.ref a :: st)) rfl rfl (hb hby hd)
  exact Go.of st' (k T' ⟨locs, X', e', N, hn⟩)
def AI (Z : State) (h : Heap) (a : Addr) (ty : FieldType) (n : Nat) (f : Nat → Int32) : Prop := ∃ cl : Cell, Arr Z h a cl ty ∧ cl.slots.size = n ∧ n < 2 ^ 31 ∧ ∀ i, i < n → cl.slots[i]? = some (.int (f i))
def AJ (Z : State) (h : Heap) (a : Addr) (n : Nat) (f : Nat → Int64) : Prop := ∃ cl : Cell, Arr Z h a cl .long ∧ cl.slots.size = n ∧ n < 2 ^ 31 ∧ ∀ i, i < n → cl.slots[i]? = some (.long (f i))
theorem clamp_of {j : Int32} {i : Nat} (hj : j.toInt = (i : Int)) : j.toNatClampNeg = i := by
  show j.toInt.toNat = i
  omega
theorem in_of {j : Int32} {i n : Nat} (hj : j.toInt = (i : Int)) (hi : i < n) {sz : Nat} (hs : sz = n) : ¬ (j < 0 ∨ sz ≤ j.toNatClampNeg) := by
  rw [clamp_of hj]
  intro q
  rcases q with q | q
  · rw [Int32.lt_iff_toInt_lt] at q
    have : (0 : Int32).toInt = 0 := rfl
    omega
  · omega
theorem len32 {z : Int32} {n : Nat} (hz : z.toInt = (n : Int)) : n.toInt32 = z := by
  apply Int32.toInt_inj.mp
  rw [hz]
  have h2 : z.toInt < 2147483648 := z.toInt_lt
  rw [hz] at h2
  exact Int32.toInt_ofNat_of_lt (by omega)
section AFacts
variable {h' : Heap} {a b : Addr} {ty : FieldType} {n sl : Nat} {f : Nat → Int32} {g : Nat → Int64} {v : Value} {ws : List Addr}
theorem AI.lt (F : AI Z h a ty n f) : a < h.size := by obtain ⟨c, A, -⟩ := F; exact A.lt
theorem AI.ext (F : AI Z h a ty n f) (E : Ext h h') : AI Z h' a ty n f := by obtain ⟨c, A, r⟩ := F; exact ⟨c, A.ext E, r⟩
theorem AI.other (F : AI Z h b ty n f) (W : Wr h h' a sl v) (q : b ≠ a) : AI Z h' b ty n f := by obtain ⟨c, A, r⟩ := F; exact ⟨c, A.other W q, r⟩
theorem AI.keep (F : AI Z h a ty n f) (K : Keep h h' ws) (q : a ∉ ws) : AI Z h' a ty n f := by obtain ⟨c, A, r⟩ := F; exact ⟨c, ⟨K.2.1 a c A.1 q, A.2⟩, r⟩
theorem AI.congr {f' : Nat → Int32} (F : AI Z h a ty n f) (q : ∀ i, i < n → f i = f' i) : AI Z h a ty n f' := by
  obtain ⟨c, A, r1, r2, r3⟩ := F; exact ⟨c, A, r1, r2, fun i hi => by rw [r3 i hi, q i hi]⟩
theorem AI.bound (F : AI Z h a ty n f) : n < 2 ^ 31 := by obtain ⟨c, A, r1, r2, r3⟩ := F; exact r2
theorem AI.set {i : Nat} {x : Int32} (F : AI Z h a ty n f) (W : Wr h h' a i (.int x)) : AI Z h' a ty n (fun k => if k = i then x else f k) := by
  obtain ⟨c, A, r1, r2, r3⟩ := F
  refine ⟨_, A.same W, by rw [sz_set]; exact r1, r2, fun k hk => ?_⟩
  by_cases q : k = i
  · subst q; simp [Cell.setSlot, r1, hk]
  · simp only [Cell.setSlot, if_neg q]
    rw [Array.getElem?_setIfInBounds_ne (fun e => q e.symm)]
    exact r3 k hk
theorem AI.new {k : ClassId} {z : Int32} {n : Nat} (hz : z.toInt = (n : Int)) (ht : defaultValue ty = .int 0) (A : Arr Z h a (newA k ty z) ty) : AI Z h a ty n (fun _ => 0) := by
  have h2 : z.toInt < 2147483648 := z.toInt_lt
  refine ⟨_, A, by rw [sz_new, clamp_of hz], by omega, fun i hi => ?_⟩
  simp [newA, clamp_of hz, hi, ht]
theorem AJ.lt (F : AJ Z h a n g) : a < h.size := by obtain ⟨c, A, -⟩ := F; exact A.lt
theorem AJ.ext (F : AJ Z h a n g) (E : Ext h h') : AJ Z h' a n g := by obtain ⟨c, A, r⟩ := F; exact ⟨c, A.ext E, r⟩
theorem AJ.other (F : AJ Z h b n g) (W : Wr h h' a sl v) (q : b ≠ a) : AJ Z h' b n g := by obtain ⟨c, A, r⟩ := F; exact ⟨c, A.other W q, r⟩
theorem AJ.keep (F : AJ Z h a n g) (K : Keep h h' ws) (q : a ∉ ws) : AJ Z h' a n g := by obtain ⟨c, A, r⟩ := F; exact ⟨c, ⟨K.2.1 a c A.1 q, A.2⟩, r⟩
theorem AJ.congr {g' : Nat → Int64} (F : AJ Z h a n g) (q : ∀ i, i < n → g i = g' i) : AJ Z h a n g' := by
  obtain ⟨c, A, r1, r2, r3⟩ := F; exact ⟨c, A, r1, r2, fun i hi => by rw [r3 i hi, q i hi]⟩
theorem AJ.set {i : Nat} {x : Int64} (F : AJ Z h a n g) (W : Wr h h' a i (.long x)) : AJ Z h' a n (fun k => if k = i then x else g k) := by
  obtain ⟨c, A, r1, r2, r3⟩ := F
  refine ⟨_, A.same W, by rw [sz_set]; exact r1, r2, fun k hk => ?_⟩
  by_cases q : k = i
  · subst q; simp [Cell.setSlot, r1, hk]
  · simp only [Cell.setSlot, if_neg q]
    rw [Array.getElem?_setIfInBounds_ne (fun e => q e.symm)]
    exact r3 k hk
theorem AJ.new {k : ClassId} {z : Int32} {n : Nat} (hz : z.toInt = (n : Int)) (A : Arr Z h a (newA k .long z) .long) : AJ Z h a n (fun _ => 0) := by
  have h2 : z.toInt < 2147483648 := z.toInt_lt
  refine ⟨_, A, by rw [sz_new, clamp_of hz], by omega, fun i hi => ?_⟩
  simp [newA, clamp_of hz, hi, defaultValue]
end AFacts
theorem Go.newP (C : Cx p s m meth c Z bytes own ret maxL) (X : On p l e R s m args below meth c n0 T h cells slots) {aty : ArrayType} {z : Int32} {nn cap : Nat} (w : (Cond.arrayClass (newarray.typeOf aty)).before a0 Z = true) (hd : decode bytes pc = .ok (.newarray aty, 2)) (hz : z.toInt = (nn : Int)) (hcap : nn ≤ cap) (hbig : cap * 8 ≤ 536870912) (hc : cells + 1 ≤ R.cells) (hl : slots + cap ≤ R.slots) (hp : pc + 2 = pc')
    (k : ∀ T' h' a cA, On p l e R s m args below meth c n0 T' h' (cells + 1) (slots + cap) → a = h.size → Ext h h' → Arr Z h' a (newA cA (newarray.typeOf aty) z) (newarray.typeOf aty) → n0 ≤ a → Go p e below s n0 rc rs P T' (mkF m pc' Ls (.ref a :: st))) : Go p e below s n0 rc rs P T (mkF m pc Ls (.int z :: st)) := by
  obtain ⟨locs, X, eT, N, hn⟩ := X; obtain ⟨hx, hZ, hby, hown, hml, hlk, hrt⟩ := C; subst hp
  obtain ⟨T', h', cA, X', e', E, A, st'⟩ := RoadKit.newP X hx hZ w eT (g := mkF m pc Ls (.int z :: st)) rfl (hb hby hd) rfl (by rw [Int32.lt_iff_toInt_lt]; have : (0 : Int32).toInt = 0 := rfl; omega) (cap := cap) (by rw [clamp_of hz]; exact hcap) hbig hc hl
  exact Go.of st' (k T' h' h.size cA ⟨_, X', e', N, Nat.le_trans hn E.1⟩ rfl E A hn)
theorem Go.alenI (C : Cx p s m meth c Z bytes own ret maxL) (X : On p l e R s m args below meth c n0 T h cells slots) {a : Addr} {ty : FieldType} {n : Nat} {f : Nat → Int32} {z : Int32} (A : AI Z h a ty n f) (hz : z.toInt = (n : Int)) (hd : decode bytes pc = .ok (.arraylength, 1)) (hp : pc + 1 = pc') (k : Go p e below s n0 rc rs P T (mkF m pc' Ls (.int z :: st))) : Go p e below s n0 rc rs P T (mkF m pc Ls (.ref a :: st)) := by
  obtain ⟨locs, X, eT, N, hn⟩ := X; obtain ⟨hx, hZ, hby, hown, hml, hlk, hrt⟩ := C; subst hp
  obtain ⟨cl, A, r1, r2, r3⟩ := A
  refine Go.of (fun t q => X.arraylength hx (by rw [eT]; exact A.1) (State.isArrayOf_alike hZ.alike A.2.1) (g := mkF m pc Ls (.ref a :: st)) rfl rfl (hb hby hd) t ?_) k
  rw [r1, len32 hz]; exact q
theorem Go.alenJ (C : Cx p s m meth c Z bytes own ret maxL) (X : On p l e R s m args below meth c n0 T h cells slots) {a : Addr} {n : Nat} {f : Nat → Int64} {z : Int32} (A : AJ Z h a n f) (hz : z.toInt = (n : Int)) (hd : decode bytes pc = .ok (.arraylength, 1)) (hp : pc + 1 = pc') (k : Go p e below s n0 rc rs P T (mkF m pc' Ls (.int z :: st))) : Go p e below s n0 rc rs P T (mkF m pc Ls (.ref a :: st)) := by
  obtain ⟨locs, X, eT, N, hn⟩ := X; obtain ⟨hx, hZ, hby, hown, hml, hlk, hrt⟩ := C; subst hp
  obtain ⟨cl, A, r1, r2, r3⟩ := A
  refine Go.of (fun t q => X.arraylength hx (by rw [eT]; exact A.1) (State.isArrayOf_alike hZ.alike A.2.1) (g := mkF m pc Ls (.ref a :: st)) rfl rfl (hb hby hd) t ?_) k
  rw [r1, len32 hz]; exact q
theorem Go.iaload (C : Cx p s m meth c Z bytes own ret maxL) (X : On p l e R s m args below meth c n0 T h cells slots) {a : Addr} {n : Nat} {f : Nat → Int32} {j : Int32} {i : Nat} {w : Int32} (A : AI Z h a .int n f) (hj : j.toInt = (i : Int)) (hi : i < n) (hw : f i = w) (hd : decode bytes pc = .ok (.iaload, 1)) (hp : pc + 1 = pc') (k : Go p e below s n0 rc rs P T (mkF m pc' Ls (.int w :: st))) : Go p e below s n0 rc rs P T (mkF m pc Ls (.int j :: .ref a :: st)) := by
  obtain ⟨locs, X, eT, N, hn⟩ := X; obtain ⟨hx, hZ, hby, hown, hml, hlk, hrt⟩ := C; subst hp hw
  obtain ⟨cl, A, r1, r2, r3⟩ := A
  exact Go.of (fun t q => X.iaload hx (j := j) (v := .int (f i)) (by rw [eT]; exact A.1) (State.isArrayOf_alike hZ.alike A.2.1) A.2.2 (in_of hj hi r1) (by rw [clamp_of hj]; exact r3 i hi) (g := mkF m pc Ls (.int j :: .ref a :: st)) rfl rfl (hb hby hd) t q) k
theorem Go.baload (C : Cx p s m meth c Z bytes own ret maxL) (X : On p l e R s m args below meth c n0 T h cells slots) {a : Addr} {n : Nat} {f : Nat → Int32} {j : Int32} {i : Nat} {w : Int32} (A : AI Z h a .byte n f) (hj : j.toInt = (i : Int)) (hi : i < n) (hw : f i = w) (hd : decode bytes pc = .ok (.baload, 1)) (hp : pc + 1 = pc') (k : Go p e below s n0 rc rs P T (mkF m pc' Ls (.int w :: st))) : Go p e below s n0 rc rs P T (mkF m pc Ls (.int j :: .ref a :: st)) := by
  obtain ⟨locs, X, eT, N, hn⟩ := X; obtain ⟨hx, hZ, hby, hown, hml, hlk, hrt⟩ := C; subst hp hw
  obtain ⟨cl, A, r1, r2, r3⟩ := A
  exact Go.of (fun t q => X.baloadBytes hx (j := j) (v := .int (f i)) (by rw [eT]; exact A.1) (State.isArrayOf_alike hZ.alike A.2.1) A.2.2 (in_of hj hi r1) (by rw [clamp_of hj]; exact r3 i hi) (g := mkF m pc Ls (.int j :: .ref a :: st)) rfl rfl (hb hby hd) t q) k
theorem Go.zaload (C : Cx p s m meth c Z bytes own ret maxL) (X : On p l e R s m args below meth c n0 T h cells slots) {a : Addr} {n : Nat} {f : Nat → Int32} {j : Int32} {i : Nat} {w : Int32} (A : AI Z h a .boolean n f) (hj : j.toInt = (i : Int)) (hi : i < n) (hw : f i = w) (hd : decode bytes pc = .ok (.baload, 1)) (hp : pc + 1 = pc') (k : Go p e below s n0 rc rs P T (mkF m pc' Ls (.int w :: st))) : Go p e below s n0 rc rs P T (mkF m pc Ls (.int j :: .ref a :: st)) := by
  obtain ⟨locs, X, eT, N, hn⟩ := X; obtain ⟨hx, hZ, hby, hown, hml, hlk, hrt⟩ := C; subst hp hw
  obtain ⟨cl, A, r1, r2, r3⟩ := A
  exact Go.of (fun t q => X.baloadBooleans hx (j := j) (v := .int (f i)) (by rw [eT]; exact A.1) (State.isArrayOf_alike hZ.alike A.2.1) A.2.2 (in_of hj hi r1) (by rw [clamp_of hj]; exact r3 i hi) (g := mkF m pc Ls (.int j :: .ref a :: st)) rfl rfl (hb hby hd) t q) k
theorem Go.caload (C : Cx p s m meth c Z bytes own ret maxL) (X : On p l e R s m args below meth c n0 T h cells slots) {a : Addr} {n : Nat} {f : Nat → Int32} {j : Int32} {i : Nat} {w : Int32} (A : AI Z h a .char n f) (hj : j.toInt = (i : Int)) (hi : i < n) (hw : f i = w) (hd : decode bytes pc = .ok (.caload, 1)) (hp : pc + 1 = pc') (k : Go p e below s n0 rc rs P T (mkF m pc' Ls (.int w :: st))) : Go p e below s n0 rc rs P T (mkF m pc Ls (.int j :: .ref a :: st)) := by
  obtain ⟨locs, X, eT, N, hn⟩ := X; obtain ⟨hx, hZ, hby, hown, hml, hlk, hrt⟩ := C; subst hp hw
  obtain ⟨cl, A, r1, r2, r3⟩ := A
  exact Go.of (fun t q => X.caload hx (j := j) (v := .int (f i)) (by rw [eT]; exact A.1) (State.isArrayOf_alike hZ.alike A.2.1) A.2.2 (in_of hj hi r1) (by rw [clamp_of hj]; exact r3 i hi) (g := mkF m pc Ls (.int j :: .ref a :: st)) rfl rfl (hb hby hd) t q) k
theorem Go.laload (C : Cx p s m meth c Z bytes own ret maxL) (X : On p l e R s m args below meth c n0 T h cells slots) {a : Addr} {n : Nat} {f : Nat → Int64} {j : Int32} {i : Nat} {w : Int64} (A : AJ Z h a n f) (hj : j.toInt = (i : Int)) (hi : i < n) (hw : f i = w) (hd : decode bytes pc = .ok (.laload, 1)) (hp : pc + 1 = pc') (k : Go p e below s n0 rc rs P T (mkF m pc' Ls (.long w :: st))) : Go p e below s n0 rc rs P T (mkF m pc Ls (.int j :: .ref a :: st)) := by
  obtain ⟨locs, X, eT, N, hn⟩ := X; obtain ⟨hx, hZ, hby, hown, hml, hlk, hrt⟩ := C; subst hp hw
  obtain ⟨cl, A, r1, r2, r3⟩ := A
  exact Go.of (fun t q => X.laload hx (j := j) (v := .long (f i)) (by rw [eT]; exact A.1) (State.isArrayOf_alike hZ.alike A.2.1) A.2.2 (in_of hj hi r1) (by rw [clamp_of hj]; exact r3 i hi) (g := mkF m pc Ls (.int j :: .ref a :: st)) rfl rfl (hb hby hd) t q) k
theorem Go.iastore (C : Cx p s m meth c Z bytes own ret maxL) (X : On p l e R s m args below meth c n0 T h cells slots) {a : Addr} {n : Nat} {f : Nat → Int32} {j x x' : Int32} {i : Nat} (A : AI Z h a .int n f) (hj : j.toInt = (i : Int)) (hi : i < n) (hv : x = x') (ha : n0 ≤ a) (hd : decode bytes pc = .ok (.iastore, 1)) (hp : pc + 1 = pc')
    (k : ∀ T' h', On p l e R s m args below meth c n0 T' h' cells slots → Wr h h' a i (.int x') → AI Z h' a .int n (fun q => if q = i then x' else f q) → Go p e below s n0 rc rs P T' (mkF m pc' Ls st)) : Go p e below s n0 rc rs P T (mkF m pc Ls (.int x :: .int j :: .ref a :: st)) := by
  obtain ⟨locs, X, eT, N, hn⟩ := X; obtain ⟨hx, hZ, hby, hown, hml, hlk, hrt⟩ := C; subst hp hv
  obtain ⟨cl, A', r1, r2, r3⟩ := id A
  obtain ⟨T', h', X', e', W, st'⟩ := RoadKit.stI X hx hZ eT A' (in_of hj hi r1) (g := mkF m pc Ls (.int x :: .int j :: .ref a :: st)) rfl rfl (hb hby hd)
  have N' := Fr.snoc X' N ha
  rw [clamp_of hj] at W
  exact Go.of st' (k T' h' ⟨_, X', e', N', by rw [W.size]; exact hn⟩ W (A.set W))
theorem Go.bastore (C : Cx p s m meth c Z bytes own ret maxL) (X : On p l e R s m args below meth c n0 T h cells slots) {a : Addr} {n : Nat} {f : Nat → Int32} {j x x' : Int32} {i : Nat} (A : AI Z h a .byte n f) (hj : j.toInt = (i : Int)) (hi : i < n) (hv : nar .byte x = x') (ha : n0 ≤ a) (hd : decode bytes pc = .ok (.bastore, 1)) (hp : pc + 1 = pc')
    (k : ∀ T' h', On p l e R s m args below meth c n0 T' h' cells slots → Wr h h' a i (.int x') → AI Z h' a .byte n (fun q => if q = i then x' else f q) → Go p e below s n0 rc rs P T' (mkF m pc' Ls st)) : Go p e below s n0 rc rs P T (mkF m pc Ls (.int x :: .int j :: .ref a :: st)) := by
  obtain ⟨locs, X, eT, N, hn⟩ := X; obtain ⟨hx, hZ, hby, hown, hml, hlk, hrt⟩ := C; subst hp hv
  obtain ⟨cl, A', r1, r2, r3⟩ := id A
  obtain ⟨T', h', X', e', W, st'⟩ := RoadKit.stB X hx hZ eT A' (in_of hj hi r1) (g := mkF m pc Ls (.int x :: .int j :: .ref a :: st)) rfl rfl (hb hby hd)
  have N' := Fr.snoc X' N ha
  rw [clamp_of hj] at W
  exact Go.of st' (k T' h' ⟨_, X', e', N', by rw [W.size]; exact hn⟩ W (A.set W))
theorem Go.castore (C : Cx p s m meth c Z bytes own ret maxL) (X : On p l e R s m args below meth c n0 T h cells slots) {a : Addr} {n : Nat} {f : Nat → Int32} {j x x' : Int32} {i : Nat} (A : AI Z h a .char n f) (hj : j.toInt = (i : Int)) (hi : i < n) (hv : nar .char x = x') (ha : n0 ≤ a) (hd : decode bytes pc = .ok (.castore, 1)) (hp : pc + 1 = pc')
    (k : ∀ T' h', On p l e R s m args below meth c n0 T' h' cells slots → Wr h h' a i (.int x') → AI Z h' a .char n (fun q => if q = i then x' else f q) → Go p e below s n0 rc rs P T' (mkF m pc' Ls st)) : Go p e below s n0 rc rs P T (mkF m pc Ls (.int x :: .int j :: .ref a :: st)) := by
  obtain ⟨locs, X, eT, N, hn⟩ := X; obtain ⟨hx, hZ, hby, hown, hml, hlk, hrt⟩ := C; subst hp hv
  obtain ⟨cl, A', r1, r2, r3⟩ := id A
  obtain ⟨T', h', X', e', W, st'⟩ := RoadKit.stC X hx hZ eT A' (in_of hj hi r1) (g := mkF m pc Ls (.int x :: .int j :: .ref a :: st)) rfl rfl (hb hby hd)
  have N' := Fr.snoc X' N ha
  rw [clamp_of hj] at W
  exact Go.of st' (k T' h' ⟨_, X', e', N', by rw [W.size]; exact hn⟩ W (A.set W))
theorem Go.zastore (C : Cx p s m meth c Z bytes own ret maxL) (X : On p l e R s m args below meth c n0 T h cells slots) {a : Addr} {n : Nat} {f : Nat → Int32} {j x x' : Int32} {i : Nat} (A : AI Z h a .boolean n f) (hj : j.toInt = (i : Int)) (hi : i < n) (hv : nar .boolean x = x') (ha : n0 ≤ a) (hd : decode bytes pc = .ok (.bastore, 1)) (hp : pc + 1 = pc')
    (k : ∀ T' h', On p l e R s m args below meth c n0 T' h' cells slots → Wr h h' a i (.int x') → AI Z h' a .boolean n (fun q => if q = i then x' else f q) → Go p e below s n0 rc rs P T' (mkF m pc' Ls st)) : Go p e below s n0 rc rs P T (mkF m pc Ls (.int x :: .int j :: .ref a :: st)) := by
  obtain ⟨locs, X, eT, N, hn⟩ := X; obtain ⟨hx, hZ, hby, hown, hml, hlk, hrt⟩ := C; subst hp hv
  obtain ⟨cl, A', r1, r2, r3⟩ := id A
  obtain ⟨T', h', X', e', W, st'⟩ := RoadKit.stZ X hx hZ eT A' (in_of hj hi r1) (g := mkF m pc Ls (.int x :: .int j :: .ref a :: st)) rfl rfl (hb hby hd)
  have N' := Fr.snoc X' N ha
  rw [clamp_of hj] at W
  exact Go.of st' (k T' h' ⟨_, X', e', N', by rw [W.size]; exact hn⟩ W (A.set W))
theorem Go.lastore (C : Cx p s m meth c Z bytes own ret maxL) (X : On p l e R s m args below meth c n0 T h cells slots) {a : Addr} {n : Nat} {f : Nat → Int64} {j : Int32} {x : Int64} {i : Nat} (A : AJ Z h a n f) (hj : j.toInt = (i : Int)) (hi : i < n) (ha : n0 ≤ a) (hd : decode bytes pc = .ok (.lastore, 1)) (hp : pc + 1 = pc')
    (k : ∀ T' h', On p l e R s m args below meth c n0 T' h' cells slots → Wr h h' a i (.long x) → AJ Z h' a n (fun q => if q = i then x else f q) → Go p e below s n0 rc rs P T' (mkF m pc' Ls st)) : Go p e below s n0 rc rs P T (mkF m pc Ls (.long x :: .int j :: .ref a :: st)) := by
  obtain ⟨locs, X, eT, N, hn⟩ := X; obtain ⟨hx, hZ, hby, hown, hml, hlk, hrt⟩ := C; subst hp
  obtain ⟨cl, A', r1, r2, r3⟩ := id A
  obtain ⟨T', h', X', e', W, st'⟩ := RoadKit.stJ X hx hZ eT A' (in_of hj hi r1) (g := mkF m pc Ls (.long x :: .int j :: .ref a :: st)) rfl rfl (hb hby hd)
  have N' := Fr.snoc X' N ha
  rw [clamp_of hj] at W
  exact Go.of st' (k T' h' ⟨_, X', e', N', by rw [W.size]; exact hn⟩ W (A.set W))
def AR (Z : State) (h : Heap) (a : Addr) (ty : FieldType) (n : Nat) (f : Nat → Value) : Prop := ∃ cl : Cell, Arr Z h a cl ty ∧ cl.slots.size = n ∧ n < 2 ^ 31 ∧ (∀ i, i < n → cl.slots[i]? = some (f i)) ∧ FitC Z cl
theorem AR.lt {a : Addr} {ty : FieldType} {n : Nat} {f : Nat → Value} (F : AR Z h a ty n f) : a < h.size := by obtain ⟨c, A, -⟩ := F; exact A.lt
theorem AR.ext {h' : Heap} {a : Addr} {ty : FieldType} {n : Nat} {f : Nat → Value} (F : AR Z h a ty n f) (E : Ext h h') : AR Z h' a ty n f := by obtain ⟨c, A, r⟩ := F; exact ⟨c, A.ext E, r⟩
theorem AR.other {h' : Heap} {a b : Addr} {sl : Nat} {v : Value} {ty : FieldType} {n : Nat} {f : Nat → Value} (F : AR Z h b ty n f) (W : Wr h h' a sl v) (q : b ≠ a) : AR Z h' b ty n f := by obtain ⟨c, A, r⟩ := F; exact ⟨c, A.other W q, r⟩
theorem AR.keep {h' : Heap} {a : Addr} {ws : List Addr} {ty : FieldType} {n : Nat} {f : Nat → Value} (F : AR Z h a ty n f) (K : Keep h h' ws) (q : a ∉ ws) : AR Z h' a ty n f := by obtain ⟨c, A, r⟩ := F; exact ⟨c, ⟨K.2.1 a c A.1 q, A.2⟩, r⟩
theorem Go.alenR (C : Cx p s m meth c Z bytes own ret maxL) (X : On p l e R s m args below meth c n0 T h cells slots) {a : Addr} {ty : FieldType} {n : Nat} {f : Nat → Value} {z : Int32} (A : AR Z h a ty n f) (hz : z.toInt = (n : Int)) (hd : decode bytes pc = .ok (.arraylength, 1)) (hp : pc + 1 = pc') (k : Go p e below s n0 rc rs P T (mkF m pc' Ls (.int z :: st))) : Go p e below s n0 rc rs P T (mkF m pc Ls (.ref a :: st)) := by
  obtain ⟨locs, X, eT, N, hn⟩ := X; obtain ⟨hx, hZ, hby, hown, hml, hlk, hrt⟩ := C; subst hp
  obtain ⟨cl, A, r1, r2, r3⟩ := A
  refine Go.of (fun t q => X.arraylength hx (by rw [eT]; exact A.1) (State.isArrayOf_alike hZ.alike A.2.1) (g := mkF m pc Ls (.ref a :: st)) rfl rfl (hb hby hd) t ?_) k
  rw [r1, len32 hz]; exact q
theorem Go.aaload (C : Cx p s m meth c Z bytes own ret maxL) (X : On p l e R s m args below meth c n0 T h cells slots) {a : Addr} {ty : FieldType} {n : Nat} {f : Nat → Value} {j : Int32} {i : Nat} {w : Value} (A : AR Z h a ty n f) (hty : ty.isReference = true) (hj : j.toInt = (i : Int)) (hi : i < n) (hw : f i = w) (hd : decode bytes pc = .ok (.aaload, 1)) (hp : pc + 1 = pc') (k : Go p e below s n0 rc rs P T (mkF m pc' Ls (w :: st))) : Go p e below s n0 rc rs P T (mkF m pc Ls (.int j :: .ref a :: st)) := by
  obtain ⟨locs, X, eT, N, hn⟩ := X; obtain ⟨hx, hZ, hby, hown, hml, hlk, hrt⟩ := C; subst hp hw
  obtain ⟨cl, A, r1, r2, r3, r4⟩ := A
  exact Go.of (fun t q => X.aaload hx (j := j) (v := f i) (by rw [eT]; exact A.1) (State.isArrayOf_alike hZ.alike A.2.1) hty A.2.2 (in_of hj hi r1) (by rw [clamp_of hj]; exact r3 i hi) (g := mkF m pc Ls (.int j :: .ref a :: st)) rfl rfl (hb hby hd) t q) k
theorem Go.cloneA (C : Cx p s m meth c Z bytes own ret maxL) (X : On p l e R s m args below meth c n0 T h cells slots) {ad : String} {i : Nat} {a : Addr} {ty : FieldType} {n W cap : Nat} {f : Nat → Value}
    (w1 : (Cond.methodLink own i ⟨ad, "clone", "()Ljava/lang/Object;"⟩).before a0 Z = true) (w2 : (Cond.sameMethod ad "java/lang/Object" "clone" "()Ljava/lang/Object;").before a0 Z = true) (w3 : (Cond.native ⟨"java/lang/Object", "clone", "()Ljava/lang/Object;"⟩).before a0 Z = true)
    (w4 : (Cond.instanceMethod ⟨"java/lang/Object", "clone", "()Ljava/lang/Object;"⟩).before a0 Z = true) (w5 : (Cond.selects ad ⟨ad, "clone", "()Ljava/lang/Object;"⟩ ⟨"java/lang/Object", "clone", "()Ljava/lang/Object;"⟩).before a0 Z = true) (w6 : (Cond.castable ad "java/lang/Cloneable").before a0 Z = true)
    (A : AR Z h a ty n f) (E : Exa Z h a ad) (hsz : Ls.size = maxL) (hd : decode bytes pc = .ok (.invokevirtual i, 3)) (hf : 1 ≤ R.frames) (hW : (st.map fun v => v.category).sum ≤ W) (hl : W + 14 ≤ R.locals) (hcap : n ≤ cap) (hc : cells + 1 ≤ R.cells) (hsl : slots + cap ≤ R.slots) (hp : pc + 3 = pc')
    (k : ∀ T' h' b, On p l e R s m args below meth c n0 T' h' (cells + 1) (slots + cap) → b = h.size → Ext h h' → AR Z h' b ty n f → Exa Z h' b ad → n0 ≤ b → Go p e below s n0 rc rs P T' (mkF m pc' Ls (.ref b :: st))) : Go p e below s n0 rc rs P T (mkF m pc Ls (.ref a :: st)) := by
  obtain ⟨locs, X, eT, N, hn⟩ := X; obtain ⟨hx, hZ, hby, hown, hml, hlk, hrt⟩ := C; subst hp
  obtain ⟨cl, A, r1, r2, r3, r4⟩ := A
  obtain ⟨T', h', X', e', ex, A', E', st'⟩ := RoadKit.cloneA X hx hZ hown w1 w2 w3 w4 w5 w6 eT A E r4 (g := mkF m pc Ls (.ref a :: st)) rfl (by rw [hml]; exact hsz) rfl (hb hby hd) hf (W := W) (cap := cap) (by simpa using hW) hl (by rw [r1]; exact hcap) hc hsl
  exact Go.of st' (k T' h' h.size ⟨_, X', e', N, Nat.le_trans hn ex.1⟩ rfl ex ⟨cloneOf cl, A', r1, r2, r3, r4⟩ E' hn)
theorem Go.callS (C : Cx p s m meth c Z bytes own ret maxL) (X : On p l e R s m args below meth c n0 T h cells slots) {y : MethodName} {cb : ByteArray} {cm : Nat} {cr : Option FieldType} {rm : Room} {as' : Array Value} {P' : Option Value → Heap → Prop} {i W : Nat} {argsL rest : List Value} (K : Con l Z y cb cm cr rm as' h n0 P') (w1 : (Cond.methodLink own i y).before a0 Z = true) (w2 : (Cond.static y).before a0 Z = true) (w3 : (Cond.initialized y.cls).before a0 Z = true) (w4 : (Cond.code y cb cm cr).before a0 Z = true) (hy : y.cls ≠ "java/lang/invoke/MethodHandle" ∧ y.cls ≠ "java/lang/invoke/VarHandle")
    (has : argsL.toArray = as') (hst : st = argsL.reverse ++ rest) (hlen : ∀ sig, parseMethodDescriptor y.desc = some sig → argsL.length = sig.parameters.length) (hsz : Ls.size = maxL) (hW : (rest.map fun v => v.category).sum ≤ W) (hf : rm.frames + 1 ≤ R.frames) (hlo : W + (cm + 11) + rm.locals ≤ R.locals) (hce : cells + rm.cells ≤ R.cells) (hsl : slots + rm.slots ≤ R.slots) (hd : decode bytes pc = .ok (.invokestatic i, 3)) (hp : pc + 3 = pc')
    (hgrow : ∀ v h', P' v h' → h.size ≤ h'.size)
    (k : ∀ T' h' v, On p l e R s m args below meth c n0 T' h' (cells + rm.cells) (slots + rm.slots) → P' v h' → Go p e below s n0 rc rs P T' (mkF m pc' Ls (v.toList ++ rest))) : Go p e below s n0 rc rs P T (mkF m pc Ls st) := by
  obtain ⟨locs, X, eT, N, hn⟩ := X; obtain ⟨hx, hZ, hby, hown, hml, hlk, hrt⟩ := C; subst hp has hst
  obtain ⟨v, _, ⟨T', L', k', n'⟩, -, X', ⟨Lc, hQ, l', y', z'⟩, st'⟩ := Jvm.LawKit.callS X hx (y := y) hown (mvT hZ w1) (mvT hZ w2) (mvT hZ w3) (mvT hZ w4) hy (K.back (W := W) hZ w4 w3 hf hlo) (g := mkF m pc Ls (argsL.reverse ++ rest)) rfl (by rw [hml]; exact hsz) (argsL := argsL) (rest := rest) hlen rfl (by simpa using hW) (hb hby hd) (fun _ _ => ⟨rfl, eT, hce, hsl⟩)
  dsimp only [Pt.U, Pt.locs, Pt.cells, Pt.slots] at X' l' y' z' st' hQ
  subst l' y' z'
  exact Go.of st' (k T' _ v ⟨_, X', rfl, Fr.app N hQ.2, Nat.le_trans hn (hgrow _ _ hQ.1)⟩ hQ.1)
theorem Go.callI (C : Cx p s m meth c Z bytes own ret maxL) (X : On p l e R s m args below meth c n0 T h cells slots) {y : MethodName} {cb : ByteArray} {cm : Nat} {cr : Option FieldType} {rm : Room} {as' : Array Value} {P' : Option Value → Heap → Prop} {i W : Nat} {argsL rest : List Value} (K : Con l Z y cb cm cr rm as' h n0 P') {a : Addr} (hy1 : y.name = "<init>") (hcr : cr = none) (w1 : (Cond.methodLink own i y).before a0 Z = true) (w2 : (Cond.instanceMethod y).before a0 Z = true) (w3 : (Cond.initialized y.cls).before a0 Z = true) (w4 : (Cond.code y cb cm cr).before a0 Z = true) (hy : y.cls ≠ "java/lang/invoke/MethodHandle" ∧ y.cls ≠ "java/lang/invoke/VarHandle")
    (has : (.ref a :: argsL).toArray = as') (hst : st = argsL.reverse ++ .ref a :: rest) (hlen : ∀ sig, parseMethodDescriptor y.desc = some sig → argsL.length = sig.parameters.length) (hsz : Ls.size = maxL) (hW : (rest.map fun v => v.category).sum ≤ W) (hf : rm.frames + 1 ≤ R.frames) (hlo : W + (cm + 11) + rm.locals ≤ R.locals) (hce : cells + rm.cells ≤ R.cells) (hsl : slots + rm.slots ≤ R.slots) (hd : decode bytes pc = .ok (.invokespecial i, 3)) (hp : pc + 3 = pc')
    (hgrow : ∀ v h', P' v h' → h.size ≤ h'.size)
    (k : ∀ T' h' v, On p l e R s m args below meth c n0 T' h' (cells + rm.cells) (slots + rm.slots) → P' v h' → Go p e below s n0 rc rs P T' (mkF m pc' Ls (v.toList ++ rest))) : Go p e below s n0 rc rs P T (mkF m pc Ls st) := by
  obtain ⟨locs, X, eT, N, hn⟩ := X; obtain ⟨hx, hZ, hby, hown, hml, hlk, hrt⟩ := C; subst hp has hst hcr
  obtain ⟨v, _, ⟨T', L', k', n'⟩, -, X', ⟨Lc, hQ, l', y', z'⟩, st'⟩ := X.specialBack hx (y := y) hy1 hown (mvT hZ w1) (mvT hZ w2) (mvT hZ w4) hy (K.back (W := W) hZ w4 w3 hf hlo) (g := mkF m pc Ls (argsL.reverse ++ .ref a :: rest)) rfl (by rw [hml]; exact hsz) (Steps.refl _) (a := a) (argsL := argsL) (rest := rest) hlen rfl (by simpa using hW) (hb hby hd) (fun _ _ => ⟨rfl, eT, hce, hsl⟩)
  dsimp only [Pt.U, Pt.locs, Pt.cells, Pt.slots] at X' l' y' z' st' hQ
  subst l' y' z'
  exact Go.tr st' (k T' _ v ⟨_, X', rfl, Fr.app N hQ.2, Nat.le_trans hn (hgrow _ _ hQ.1)⟩ hQ.1)
theorem Go.callV (C : Cx p s m meth c Z bytes own ret maxL) (X : On p l e R s m args below meth c n0 T h cells slots) {y : MethodName} {cb : ByteArray} {cm : Nat} {cr : Option FieldType} {rm : Room} {as' : Array Value} {P' : Option Value → Heap → Prop} {i W : Nat} {argsL rest : List Value} (K : Con l Z y cb cm cr rm as' h n0 P') {y0 : MethodName} {a : Addr} {Ck : String} (E : Exa Z h a Ck) (nf : NotFace s y0) (w1 : (Cond.methodLink own i y0).before a0 Z = true) (w2 : (Cond.declares y0).before a0 Z = true) (w5 : (Cond.selects Ck y0 y).before a0 Z = true) (w6 : (Cond.instanceMethod y).before a0 Z = true) (w3 : (Cond.initialized y.cls).before a0 Z = true) (w4 : (Cond.code y cb cm cr).before a0 Z = true) (hy : y0.cls ≠ "java/lang/invoke/MethodHandle" ∧ y0.cls ≠ "java/lang/invoke/VarHandle")
    (has : (.ref a :: argsL).toArray = as') (hst : st = argsL.reverse ++ .ref a :: rest) (hlen : ∀ sig, parseMethodDescriptor y0.desc = some sig → argsL.length = sig.parameters.length) (hsz : Ls.size = maxL) (hW : (rest.map fun v => v.category).sum ≤ W) (hf : rm.frames + 1 ≤ R.frames) (hlo : W + (cm + 11) + rm.locals ≤ R.locals) (hce : cells + rm.cells ≤ R.cells) (hsl : slots + rm.slots ≤ R.slots) (hd : decode bytes pc = .ok (.invokevirtual i, 3)) (hp : pc + 3 = pc')
    (hgrow : ∀ v h', P' v h' → h.size ≤ h'.size)
    (k : ∀ T' h' v, On p l e R s m args below meth c n0 T' h' (cells + rm.cells) (slots + rm.slots) → P' v h' → Go p e below s n0 rc rs P T' (mkF m pc' Ls (v.toList ++ rest))) : Go p e below s n0 rc rs P T (mkF m pc Ls st) := by
  obtain ⟨locs, X, eT, N, hn⟩ := X; obtain ⟨hx, hZ, hby, hown, hml, hlk, hrt⟩ := C; subst hp has hst
  obtain ⟨cq, kq, qa, qb, qc⟩ := isOf hZ eT E
  obtain ⟨v, _, ⟨T', L', k', n'⟩, -, X', ⟨Lc, hQ, l', y', z'⟩, st'⟩ := X.virtualBack hx (y := y0) (z := y) hown (mvT hZ w1) (mvT hZ w2) nf (mvT hZ w5) (mvT hZ w6) hy (K.back (W := W) hZ w4 w3 hf hlo) qa qc (g := mkF m pc Ls (argsL.reverse ++ .ref a :: rest)) rfl (by rw [hml]; exact hsz) (Steps.refl _) (argsL := argsL) (rest := rest) hlen rfl (by simpa using hW) (hb hby hd) (fun _ _ => ⟨rfl, eT, hce, hsl⟩)
  dsimp only [Pt.U, Pt.locs, Pt.cells, Pt.slots] at X' l' y' z' st' hQ
  subst l' y' z'
  exact Go.tr st' (k T' _ v ⟨_, X', rfl, Fr.app N hQ.2, Nat.le_trans hn (hgrow _ _ hQ.1)⟩ hQ.1)
theorem own_selp {y : MethodName} {kk : Nat} (hZ : Z.Warmed39 s.vm) (wi : (Cond.instantiable y.cls kk).before a0 Z = true) (w2 : (Cond.instanceMethod y).before a0 Z = true) (w6 : (Cond.privateMethod y).before a0 Z = true) (hy : y.cls ≠ "java/lang/invoke/MethodHandle" ∧ y.cls ≠ "java/lang/invoke/VarHandle") : (Cond.selects y.cls y y).before args s = true := by
  have wi' : (Cond.instantiable y.cls kk).before args s = true := mvT hZ wi
  obtain ⟨c2, k2, i1, i2, i3, i4, -⟩ := Cond.instantiable_spec wi'
  exact Jvm.Stand.selects_self_of_private i1 i2 (by simp only [Bool.or_eq_false_iff] at i4; exact i4.1) (Cond.privateMethod_at (mvP hZ w6 (args := #[]))) (mvT hZ w2) hy
theorem Go.callP (C : Cx p s m meth c Z bytes own ret maxL) (X : On p l e R s m args below meth c n0 T h cells slots) {y : MethodName} {cb : ByteArray} {cm : Nat} {cr : Option FieldType} {rm : Room} {as' : Array Value} {P' : Option Value → Heap → Prop} {i W : Nat} {argsL rest : List Value} (K : Con l Z y cb cm cr rm as' h n0 P') {a : Addr} {Ck : String} (E : Exa Z h a Ck) (w1 : (Cond.methodLink own i y).before a0 Z = true) (w2 : (Cond.instanceMethod y).before a0 Z = true) {kk : Nat} (w5 : (Cond.instantiable y.cls kk).before a0 Z = true) (w6 : (Cond.privateMethod y).before a0 Z = true) (w3 : (Cond.initialized y.cls).before a0 Z = true) (w4 : (Cond.code y cb cm cr).before a0 Z = true) (hy : y.cls ≠ "java/lang/invoke/MethodHandle" ∧ y.cls ≠ "java/lang/invoke/VarHandle")
    (has : (.ref a :: argsL).toArray = as') (hst : st = argsL.reverse ++ .ref a :: rest) (hlen : ∀ sig, parseMethodDescriptor y.desc = some sig → argsL.length = sig.parameters.length) (hsz : Ls.size = maxL) (hW : (rest.map fun v => v.category).sum ≤ W) (hf : rm.frames + 1 ≤ R.frames) (hlo : W + (cm + 11) + rm.locals ≤ R.locals) (hce : cells + rm.cells ≤ R.cells) (hsl : slots + rm.slots ≤ R.slots) (hd : decode bytes pc = .ok (.invokevirtual i, 3)) (hp : pc + 3 = pc')
    (hgrow : ∀ v h', P' v h' → h.size ≤ h'.size)
    (k : ∀ T' h' v, On p l e R s m args below meth c n0 T' h' (cells + rm.cells) (slots + rm.slots) → P' v h' → Go p e below s n0 rc rs P T' (mkF m pc' Ls (v.toList ++ rest))) : Go p e below s n0 rc rs P T (mkF m pc Ls st) := by
  obtain ⟨locs, X, eT, N, hn⟩ := X; obtain ⟨hx, hZ, hby, hown, hml, hlk, hrt⟩ := C; subst hp has hst
  obtain ⟨cq, qa, qb⟩ := E.cell
  obtain ⟨v, _, ⟨T', L', k', n'⟩, -, X', ⟨Lc, hQ, l', y', z'⟩, st'⟩ := X.privateBack hx (y := y) hown (mvT hZ w1) (mvT hZ w2) (own_selp hZ w5 w2 w6 hy) (Cond.privateMethod_at (mvP hZ w6 (args := #[]))) (mvT hZ w4) hy (K.back (W := W) hZ w4 w3 hf hlo) (g := mkF m pc Ls (argsL.reverse ++ .ref a :: rest)) rfl (by rw [hml]; exact hsz) (Steps.refl _) (a := a) (by rw [eT]; exact qa) qb (argsL := argsL) (rest := rest) hlen rfl (by simpa using hW) (hb hby hd) (fun _ _ => ⟨rfl, eT, hce, hsl⟩)
  dsimp only [Pt.U, Pt.locs, Pt.cells, Pt.slots] at X' l' y' z' st' hQ
  subst l' y' z'
  exact Go.tr st' (k T' _ v ⟨_, X', rfl, Fr.app N hQ.2, Nat.le_trans hn (hgrow _ _ hQ.1)⟩ hQ.1)
end Own
end Jvm.RoadKit
namespace Jvm.RoadKit
theorem own_iadd {x y : Int32} (h1 : -2147483648 ≤ x.toInt + y.toInt) (h2 : x.toInt + y.toInt < 2147483648) : (x + y).toInt = x.toInt + y.toInt := by
  have h3 := c_iadd x y; have h4 := rng32 (x + y); omega
theorem own_isub {x y : Int32} (h1 : -2147483648 ≤ x.toInt - y.toInt) (h2 : x.toInt - y.toInt < 2147483648) : (x - y).toInt = x.toInt - y.toInt := by
  have h3 := c_isub x y; have h4 := rng32 (x - y); omega
theorem own_imul {x y : Int32} (h1 : -2147483648 ≤ x.toInt * y.toInt) (h2 : x.toInt * y.toInt < 2147483648) : (x * y).toInt = x.toInt * y.toInt := by
  have h3 := c_imul x y; have h4 := rng32 (x * y); omega
theorem own_ladd {x y : Int64} (h1 : -9223372036854775808 ≤ x.toInt + y.toInt) (h2 : x.toInt + y.toInt < 9223372036854775808) : (x + y).toInt = x.toInt + y.toInt := by
  have h3 := c_ladd x y; have h4 := rng64 (x + y); omega
theorem own_lsub {x y : Int64} (h1 : -9223372036854775808 ≤ x.toInt - y.toInt) (h2 : x.toInt - y.toInt < 9223372036854775808) : (x - y).toInt = x.toInt - y.toInt := by
  have h3 := c_lsub x y; have h4 := rng64 (x - y); omega
theorem own_lmul {x y : Int64} (h1 : -9223372036854775808 ≤ x.toInt * y.toInt) (h2 : x.toInt * y.toInt < 9223372036854775808) : (x * y).toInt = x.toInt * y.toInt := by
  have h3 := c_lmul x y; have h4 := rng64 (x * y); omega
theorem own_ilt {x y : Int32} : x < y ↔ x.toInt < y.toInt := Int32.lt_iff_toInt_lt
theorem own_jlt {x y : Int64} : x < y ↔ x.toInt < y.toInt := Int64.lt_iff_toInt_lt
theorem own_ieq {x y : Int32} : x = y ↔ x.toInt = y.toInt := Int32.toInt_inj.symm
theorem own_jeq {x y : Int64} : x = y ↔ x.toInt = y.toInt := Int64.toInt_inj.symm
theorem own_inc {x y : Int32} (h : x < y) : (x + (1 : Int32)).toInt = x.toInt + 1 := by
  rw [own_ilt] at h
  have h1 := rng32 x; have h2 := rng32 y
  have e : (1 : Int32).toInt = 1 := rfl
  rw [own_iadd (by omega) (by omega), e]
theorem own_dec {x y : Int32} (h : y < x) : (x + (-1 : Int32)).toInt = x.toInt - 1 := by
  rw [own_ilt] at h
  have h1 := rng32 x; have h2 := rng32 y
  have e : (-1 : Int32).toInt = -1 := rfl
  rw [own_iadd (by omega) (by omega), e]; omega
theorem own_nat32 {x : Int32} {n : Nat} (h : x.toInt = (n : Int)) : x = Int32.ofNat n := by
  apply Int32.toInt_inj.mp
  have := rng32 x
  rw [Int32.toInt_ofNat_of_lt (by omega), h]
theorem own_pos31 (x : Int32) : 0 ≤ (x &&& (2147483647 : Int32)).toInt := by
  have h := c_mask x 2147483647 31 (by decide) (by decide)
  rw [h]; exact Int.emod_nonneg _ (by decide)
theorem own_mod (x : Int32) (k : Int32) (d : Int) (hk : k.toInt = d) (hd : 0 < d) : ((x &&& (2147483647 : Int32)) % k).toInt = (x &&& (2147483647 : Int32)).toInt % d ∧ 0 ≤ ((x &&& (2147483647 : Int32)) % k).toInt ∧ ((x &&& (2147483647 : Int32)) % k).toInt < d := by
  have h := (c_irem (x &&& (2147483647 : Int32)) k d hk).1 (own_pos31 x)
  exact ⟨h, by rw [h]; exact Int.emod_nonneg _ (by omega), by rw [h]; exact Int.emod_lt_of_pos _ hd⟩
theorem own_upd {R : Int32 → Prop} {f : Nat → Int32} {x : Int32} {i : Nat} (h : ∀ q, R (f q)) (hx : R x) : ∀ q, R ((fun q => if q = i then x else f q) q) := fun q => by
  by_cases e : q = i
  · simp only [if_pos e]; exact hx
  · simp only [if_neg e]; exact h q
theorem own_i2b (x : Int32) : -128 ≤ (x.toInt8.toInt32).toInt ∧ (x.toInt8.toInt32).toInt ≤ 127 := by have := c_i2b x; omega
theorem own_b2 (x : Int32) : x.toInt8.toInt32.toInt8.toInt32 = x.toInt8.toInt32 := by rw [Int8.toInt8_toInt32]
theorem own_and3 (x : Int32) : x &&& (3 : Int32) = 0 ∨ x &&& (3 : Int32) = 1 ∨ x &&& (3 : Int32) = 2 ∨ x &&& (3 : Int32) = 3 := by
  have h := c_mask x 3 2 (by decide) (by decide)
  have z0 : (0 : Int32).toInt = 0 := rfl
  have z1 : (1 : Int32).toInt = 1 := rfl
  have z2 : (2 : Int32).toInt = 2 := rfl
  have z3 : (3 : Int32).toInt = 3 := rfl
  have h1 : ((2 ^ 2 : Nat) : Int) = 4 := rfl
  rw [h1] at h
  rw [own_ieq, own_ieq, own_ieq, own_ieq, z0, z1, z2, z3]
  omega
theorem own_and1 (x : Int32) : x &&& (1 : Int32) = 0 ∨ x &&& (1 : Int32) = 1 := by
  have h := c_mask x 1 1 (by decide) (by decide)
  have z0 : (0 : Int32).toInt = 0 := rfl
  have z1 : (1 : Int32).toInt = 1 := rfl
  have h1 : ((2 ^ 1 : Nat) : Int) = 2 := rfl
  rw [h1] at h
  rw [own_ieq, own_ieq, z0, z1]
  omega
end Jvm.RoadKit
namespace Jvm.Pilot.@@N@@
open Jvm Jvm.ClassFile Sem Op Lib Jvm.Free Jvm.Stand Jvm.LawKit Jvm.RoadKit Bundle Jvm.Pilot.@@N@@.Jvm.D
theorem d1_0 : decode method_2_code 0 = .ok (.lload_n 0, 1) := by decide +kernel
theorem d1_1 : decode method_2_code 1 = .ok (.bipush 8, 2) := by decide +kernel
theorem d1_3 : decode method_2_code 3 = .ok (.iload_n 2, 1) := by decide +kernel
theorem d1_4 : decode method_2_code 4 = .ok (.imul, 1) := by decide +kernel
theorem d1_5 : decode method_2_code 5 = .ok (.lushr, 1) := by decide +kernel
theorem d1_6 : decode method_2_code 6 = .ok (.ldc2_w 7, 3) := by decide +kernel
theorem d1_9 : decode method_2_code 9 = .ok (.land, 1) := by decide +kernel
theorem d1_10 : decode method_2_code 10 = .ok (.l2i, 1) := by decide +kernel
theorem d1_11 : decode method_2_code 11 = .ok (.istore 4, 2) := by decide +kernel
theorem d1_13 : decode method_2_code 13 = .ok (.iload_n 3, 1) := by decide +kernel
theorem d1_14 : decode method_2_code 14 = .ok (.iload_n 2, 1) := by decide +kernel
theorem d1_15 : decode method_2_code 15 = .ok (.ishr, 1) := by decide +kernel
theorem d1_16 : decode method_2_code 16 = .ok (.iconst 1, 1) := by decide +kernel
theorem d1_17 : decode method_2_code 17 = .ok (.iand, 1) := by decide +kernel
theorem d1_18 : decode method_2_code 18 = .ok (.ifCond .eq 13, 3) := by decide +kernel
theorem d1_31 : decode method_2_code 31 = .ok (.iload 4, 2) := by decide +kernel
theorem d1_33 : decode method_2_code 33 = .ok (.i2b, 1) := by decide +kernel
theorem d1_34 : decode method_2_code 34 = .ok (.ireturn, 1) := by decide +kernel
theorem d1_21 : decode method_2_code 21 = .ok (.bipush 48, 2) := by decide +kernel
theorem d1_23 : decode method_2_code 23 = .ok (.iload 4, 2) := by decide +kernel
theorem d1_25 : decode method_2_code 25 = .ok (.bipush 10, 2) := by decide +kernel
theorem d1_27 : decode method_2_code 27 = .ok (.irem, 1) := by decide +kernel
theorem d1_28 : decode method_2_code 28 = .ok (.iadd, 1) := by decide +kernel
theorem d1_29 : decode method_2_code 29 = .ok (.i2b, 1) := by decide +kernel
theorem d1_30 : decode method_2_code 30 = .ok (.ireturn, 1) := by decide +kernel
def own_f_rm1 (y0 : Int64) (y1 : Int32) (y2 : Int32) : Int32 := (if ((y2 >>> (y1 &&& 31)) &&& (1 : Int32)) = (0 : Int32) then ((((((y0).toUInt64 >>> (((8 : Int32) * y1) &&& 0x3f).toInt64.toUInt64).toInt64 &&& (255 : Int64))).toInt32).toInt8.toInt32).toInt8.toInt32 else ((((48 : Int32) + (((((y0).toUInt64 >>> (((8 : Int32) * y1) &&& 0x3f).toInt64.toUInt64).toInt64 &&& (255 : Int64))).toInt32 % (10 : Int32)))).toInt8.toInt32).toInt8.toInt32)
theorem own_pn0 : plainName "com/example/streamgauge/streamgauge/workloads/AccessLogLineDigitsPinLaw" = true := by first | (simp [plainName, overriddenIn]; done) | decide +kernel
theorem own_ef_rm1 (m : MethodId) (x0 : Int64) (x1 : Int32) (x2 : Int32) : entryFrame m #[(.long x0), (.int x1), (.int x2)] 5 = mkF m 0 #[.val (.long x0), .second, .val (.int x1), .val (.int x2), .unset] [] := by first | (simp [entryFrame, mkF, argsToLocals, Value.category]; done) | rfl
set_option maxRecDepth 65536 in
set_option maxHeartbeats 40000000 in
theorem rm1 (l : Launch) (Z : State) (a0 : Array Value) (hw : ∀ d ∈ tables_1, d.before a0 Z = true) (y0 : Int64) (y1 : Int32) (y2 : Int32) (h0 : Heap) (n0 : Nat) (Z0 : n0 ≤ h0.size)  :
    Con l Z (⟨"com/example/streamgauge/streamgauge/workloads/AccessLogLineDigitsPinLaw", "pick", "(JII)B"⟩ : MethodName) method_2_code 5 (some .byte) ({ frames := 0, cells := 0, slots := 0, locals := 0 } : Room) #[(.long y0), (.int y1), (.int y2)] h0 n0 (fun rv hv => rv = some (.int (own_f_rm1 y0 y1 y2)) ∧ h0 = hv) := by
  refine Con.enter (plainFor_of_name own_pn0) Z0 ?_
  intro p e s m below meth c T0 C hnm X0
  refine Go.cast (own_ef_rm1 m y0 y1 y2) ?_
  refine Go.lloadN C X0 (pc' := 1) d1_0 rfl rfl ?_
  refine Go.bipush C X0 (pc' := 3) (v := (8 : Int32)) d1_1 rfl rfl ?_
  refine Go.iloadN C X0 (pc' := 4) d1_3 rfl rfl ?_
  refine Go.imul C X0 (pc' := 5) d1_4 rfl ?_
  refine Go.lushr C X0 (pc' := 6) d1_5 rfl ?_
  refine Go.ldc2 C X0 (pc' := 9) (hw _ (List.mem_of_getElem? (i := 6) rfl)) d1_6 rfl ?_
  refine Go.land C X0 (pc' := 10) d1_9 rfl ?_
  refine Go.l2i C X0 (pc' := 11) d1_10 rfl ?_
  refine Go.istore C X0 (pc' := 13) (Ls' := #[.val (.long y0), .second, .val (.int y1), .val (.int y2), .val (.int ((((y0).toUInt64 >>> (((8 : Int32) * y1) &&& 0x3f).toInt64.toUInt64).toInt64 &&& (255 : Int64))).toInt32)]) d1_11 rfl rfl ?_
  refine Go.iloadN C X0 (pc' := 14) d1_13 rfl rfl ?_
  refine Go.iloadN C X0 (pc' := 15) d1_14 rfl rfl ?_
  refine Go.ishr C X0 (pc' := 16) d1_15 rfl ?_
  refine Go.iconst C X0 (pc' := 17) (v := (1 : Int32)) d1_16 rfl rfl ?_
  refine Go.iand C X0 (pc' := 18) d1_17 rfl ?_
  by_cases c2 : ((y2 >>> (y1 &&& 31)) &&& (1 : Int32)) = (0 : Int32)
  · refine Go.ifYes C X0 (pc' := 31) d1_18 ((if0 _ _).trans (teq c2).1) (by decide) (by decide) ?_
    refine Go.iload C X0 (pc' := 33) d1_31 rfl rfl ?_
    refine Go.i2b C X0 (pc' := 34) d1_33 rfl ?_
    exact Go.retZ (t := .byte) C X0 (z' := ((((((y0).toUInt64 >>> (((8 : Int32) * y1) &&& 0x3f).toInt64.toUInt64).toInt64 &&& (255 : Int64))).toInt32).toInt8.toInt32).toInt8.toInt32) rfl d1_34 ⟨by show some (Value.int ((((((y0).toUInt64 >>> (((8 : Int32) * y1) &&& 0x3f).toInt64.toUInt64).toInt64 &&& (255 : Int64))).toInt32).toInt8.toInt32).toInt8.toInt32) = some (Value.int (own_f_rm1 y0 y1 y2)); unfold own_f_rm1; rw [if_pos c2], rfl⟩ (by decide) (by decide)
  · refine Go.ifNo C X0 (pc' := 21) d1_18 ((if0 _ _).trans (feq c2).1) rfl ?_
    refine Go.bipush C X0 (pc' := 23) (v := (48 : Int32)) d1_21 rfl rfl ?_
    refine Go.iload C X0 (pc' := 25) d1_23 rfl rfl ?_
    refine Go.bipush C X0 (pc' := 27) (v := (10 : Int32)) d1_25 rfl rfl ?_
    refine Go.irem C X0 (pc' := 28) d1_27 (by decide) rfl ?_
    refine Go.iadd C X0 (pc' := 29) d1_28 rfl ?_
    refine Go.i2b C X0 (pc' := 30) d1_29 rfl ?_
    exact Go.retZ (t := .byte) C X0 (z' := ((((48 : Int32) + (((((y0).toUInt64 >>> (((8 : Int32) * y1) &&& 0x3f).toInt64.toUInt64).toInt64 &&& (255 : Int64))).toInt32 % (10 : Int32)))).toInt8.toInt32).toInt8.toInt32) rfl d1_30 ⟨by show some (Value.int ((((48 : Int32) + (((((y0).toUInt64 >>> (((8 : Int32) * y1) &&& 0x3f).toInt64.toUInt64).toInt64 &&& (255 : Int64))).toInt32 % (10 : Int32)))).toInt8.toInt32).toInt8.toInt32) = some (Value.int (own_f_rm1 y0 y1 y2)); unfold own_f_rm1; rw [if_neg c2], rfl⟩ (by decide) (by decide)
theorem d2_0 : decode method_3_code 0 = .ok (.iload_n 0, 1) := by decide +kernel
theorem d2_1 : decode method_3_code 1 = .ok (.bipush 48, 2) := by decide +kernel
theorem d2_3 : decode method_3_code 3 = .ok (.if_icmp .lt 9, 3) := by decide +kernel
theorem d2_12 : decode method_3_code 12 = .ok (.iconst (-1), 1) := by decide +kernel
theorem d2_13 : decode method_3_code 13 = .ok (.ireturn, 1) := by decide +kernel
theorem d2_6 : decode method_3_code 6 = .ok (.iload_n 0, 1) := by decide +kernel
theorem d2_7 : decode method_3_code 7 = .ok (.bipush 57, 2) := by decide +kernel
theorem d2_9 : decode method_3_code 9 = .ok (.if_icmp .le 5, 3) := by decide +kernel
theorem d2_14 : decode method_3_code 14 = .ok (.iload_n 0, 1) := by decide +kernel
theorem d2_15 : decode method_3_code 15 = .ok (.bipush 48, 2) := by decide +kernel
theorem d2_17 : decode method_3_code 17 = .ok (.isub, 1) := by decide +kernel
theorem d2_18 : decode method_3_code 18 = .ok (.ireturn, 1) := by decide +kernel
def own_f_rm2 (y0 : Int32) : Int32 := (if y0 < (48 : Int32) then (-1 : Int32) else (if (57 : Int32) < y0 then (-1 : Int32) else (y0 - (48 : Int32))))
theorem own_ef_rm2 (m : MethodId) (x0 : Int32) : entryFrame m #[(.int x0)] 1 = mkF m 0 #[.val (.int x0)] [] := by first | (simp [entryFrame, mkF, argsToLocals, Value.category]; done) | rfl
set_option maxRecDepth 65536 in
set_option maxHeartbeats 40000000 in
theorem rm2 (l : Launch) (Z : State) (a0 : Array Value) (hw : ∀ d ∈ tables_1, d.before a0 Z = true) (y0 : Int32) (h0 : Heap) (n0 : Nat) (Z0 : n0 ≤ h0.size)  :
    Con l Z (⟨"com/example/streamgauge/streamgauge/workloads/AccessLogLineDigitsPinLaw", "dig", "(B)I"⟩ : MethodName) method_3_code 1 (some .int) ({ frames := 0, cells := 0, slots := 0, locals := 0 } : Room) #[(.int y0)] h0 n0 (fun rv hv => rv = some (.int (own_f_rm2 y0)) ∧ h0 = hv) := by
  refine Con.enter (plainFor_of_name own_pn0) Z0 ?_
  intro p e s m below meth c T0 C hnm X0
  refine Go.cast (own_ef_rm2 m y0) ?_
  refine Go.iloadN C X0 (pc' := 1) d2_0 rfl rfl ?_
  refine Go.bipush C X0 (pc' := 3) (v := (48 : Int32)) d2_1 rfl rfl ?_
  by_cases c5 : y0 < (48 : Int32)
  · refine Go.icmpYes C X0 (pc' := 12) d2_3 (tlt c5).1 (by decide) (by decide) ?_
    refine Go.iconst C X0 (pc' := 13) (v := (-1 : Int32)) d2_12 rfl rfl ?_
    exact Go.retI C X0 d2_13 ⟨by show some (Value.int (-1 : Int32)) = some (Value.int (own_f_rm2 y0)); unfold own_f_rm2; rw [if_pos c5], rfl⟩ (by decide) (by decide)
  · refine Go.icmpNo C X0 (pc' := 6) d2_3 (flt c5).1 rfl ?_
    refine Go.iloadN C X0 (pc' := 7) d2_6 rfl rfl ?_
    refine Go.bipush C X0 (pc' := 9) (v := (57 : Int32)) d2_7 rfl rfl ?_
    by_cases c6 : (57 : Int32) < y0
    · refine Go.icmpNo C X0 (pc' := 12) d2_9 (tlt c6).2.2.2 rfl ?_
      refine Go.iconst C X0 (pc' := 13) (v := (-1 : Int32)) d2_12 rfl rfl ?_
      exact Go.retI C X0 d2_13 ⟨by show some (Value.int (-1 : Int32)) = some (Value.int (own_f_rm2 y0)); unfold own_f_rm2; rw [if_neg c5, if_pos c6], rfl⟩ (by decide) (by decide)
    · refine Go.icmpYes C X0 (pc' := 14) d2_9 (flt c6).2.2.2 (by decide) (by decide) ?_
      refine Go.iloadN C X0 (pc' := 15) d2_14 rfl rfl ?_
      refine Go.bipush C X0 (pc' := 17) (v := (48 : Int32)) d2_15 rfl rfl ?_
      refine Go.isub C X0 (pc' := 18) d2_17 rfl ?_
      exact Go.retI C X0 d2_18 ⟨by show some (Value.int (y0 - (48 : Int32))) = some (Value.int (own_f_rm2 y0)); unfold own_f_rm2; rw [if_neg c5, if_neg c6], rfl⟩ (by decide) (by decide)
def own_g (f : Nat → Int32) : Nat → Nat → Int32 → Int32
  | _, 0, r => r
  | i, k + 1, r => if f i - (48 : Int32) < (0 : Int32) then (-1 : Int32) else if (9 : Int32) < f i - (48 : Int32) then (-1 : Int32) else own_g f (i + 1) k ((r * (10 : Int32)) + (f i - (48 : Int32)))
theorem own_lim {lo ct : Int32} {n : Nat} (h1 : 0 ≤ lo.toInt) (h2 : 0 ≤ ct.toInt) (h3 : lo.toInt + ct.toInt ≤ (n : Int)) (hn : n ≤ 1000) : (lo + ct).toInt = lo.toInt + ct.toInt := own_iadd (by omega) (by omega)
theorem own_less {i n : Int32} {k : Nat} (h : i < n) (h0 : 0 ≤ i.toInt) (hk : (n.toInt - i.toInt).toNat < k + 1) : (n.toInt - (i + (1 : Int32)).toInt).toNat < k := by
  rw [own_inc h]; rw [own_ilt] at h; omega
theorem own_step {f : Nat → Int32} {r : Int32} {i n u : Int32} (hr : own_g f i.toInt.toNat (n.toInt - i.toInt).toNat u = r) (h : i < n) (h0 : 0 ≤ i.toInt) :
    (if f i.toInt.toNat - (48 : Int32) < (0 : Int32) then (-1 : Int32) else if (9 : Int32) < f i.toInt.toNat - (48 : Int32) then (-1 : Int32) else own_g f (i.toInt.toNat + 1) (n.toInt - (i + (1 : Int32)).toInt).toNat ((u * (10 : Int32)) + (f i.toInt.toNat - (48 : Int32)))) = r := by
  rw [own_inc h]
  rw [own_ilt] at h
  have e1 : (n.toInt - i.toInt).toNat = (n.toInt - (i.toInt + 1)).toNat + 1 := by omega
  rw [e1] at hr; exact hr
theorem own_back {f : Nat → Int32} {r : Int32} {i n u : Int32} (hr : own_g f i.toInt.toNat (n.toInt - i.toInt).toNat u = r) (h : i < n) (h0 : 0 ≤ i.toInt) (h1 : ¬ f i.toInt.toNat - (48 : Int32) < (0 : Int32)) (h2 : ¬ (9 : Int32) < f i.toInt.toNat - (48 : Int32)) :
    own_g f (i + (1 : Int32)).toInt.toNat (n.toInt - (i + (1 : Int32)).toInt).toNat ((u * (10 : Int32)) + (f i.toInt.toNat - (48 : Int32))) = r := by
  have q := own_step hr h h0
  rw [if_neg h1, if_neg h2] at q
  have e2 : (i + (1 : Int32)).toInt.toNat = i.toInt.toNat + 1 := by rw [own_inc h]; omega
  rw [e2]; exact q
theorem own_end {f : Nat → Int32} {r : Int32} {i n u : Int32} (hr : own_g f i.toInt.toNat (n.toInt - i.toInt).toNat u = r) (h : ¬ i < n) : u = r := by
  rw [own_ilt] at h
  have e1 : (n.toInt - i.toInt).toNat = 0 := by omega
  rw [e1] at hr; exact hr
theorem own_pn1 : plainName "com/example/streamgauge/streamgauge/workloads/AccessLogLine" = true := by first | (simp [plainName, overriddenIn]; done) | decide +kernel
theorem own_ef_rm3 (m : MethodId) (x0 : Addr) (x1 : Int32) (x2 : Int32) : entryFrame m #[(.ref x0), (.int x1), (.int x2)] 6 = mkF m 0 #[.val (.ref x0), .val (.int x1), .val (.int x2), .unset, .unset, .unset] [] := by first | (simp [entryFrame, mkF, argsToLocals, Value.category]; done) | rfl
theorem d3_0 : decode prog_116_method_8_code 0 = .ok (.iconst 0, 1) := by decide +kernel
theorem d3_1 : decode prog_116_method_8_code 1 = .ok (.istore_n 3, 1) := by decide +kernel
theorem d3_2 : decode prog_116_method_8_code 2 = .ok (.iload_n 1, 1) := by decide +kernel
theorem d3_3 : decode prog_116_method_8_code 3 = .ok (.istore 4, 2) := by decide +kernel
theorem d3_5 : decode prog_116_method_8_code 5 = .ok (.iload 4, 2) := by decide +kernel
theorem d3_7 : decode prog_116_method_8_code 7 = .ok (.iload_n 1, 1) := by decide +kernel
theorem d3_8 : decode prog_116_method_8_code 8 = .ok (.iload_n 2, 1) := by decide +kernel
theorem d3_9 : decode prog_116_method_8_code 9 = .ok (.iadd, 1) := by decide +kernel
theorem d3_10 : decode prog_116_method_8_code 10 = .ok (.if_icmp .ge 40, 3) := by decide +kernel
theorem d3_13 : decode prog_116_method_8_code 13 = .ok (.aload_n 0, 1) := by decide +kernel
theorem d3_14 : decode prog_116_method_8_code 14 = .ok (.iload 4, 2) := by decide +kernel
theorem d3_16 : decode prog_116_method_8_code 16 = .ok (.baload, 1) := by decide +kernel
theorem d3_17 : decode prog_116_method_8_code 17 = .ok (.bipush 48, 2) := by decide +kernel
theorem d3_19 : decode prog_116_method_8_code 19 = .ok (.isub, 1) := by decide +kernel
theorem d3_20 : decode prog_116_method_8_code 20 = .ok (.istore 5, 2) := by decide +kernel
theorem d3_22 : decode prog_116_method_8_code 22 = .ok (.iload 5, 2) := by decide +kernel
theorem d3_24 : decode prog_116_method_8_code 24 = .ok (.ifCond .lt 10, 3) := by decide +kernel
theorem d3_34 : decode prog_116_method_8_code 34 = .ok (.iconst (-1), 1) := by decide +kernel
theorem d3_35 : decode prog_116_method_8_code 35 = .ok (.ireturn, 1) := by decide +kernel
theorem d3_27 : decode prog_116_method_8_code 27 = .ok (.iload 5, 2) := by decide +kernel
theorem d3_29 : decode prog_116_method_8_code 29 = .ok (.bipush 9, 2) := by decide +kernel
theorem d3_31 : decode prog_116_method_8_code 31 = .ok (.if_icmp .le 5, 3) := by decide +kernel
theorem d3_36 : decode prog_116_method_8_code 36 = .ok (.iload_n 3, 1) := by decide +kernel
theorem d3_37 : decode prog_116_method_8_code 37 = .ok (.bipush 10, 2) := by decide +kernel
theorem d3_39 : decode prog_116_method_8_code 39 = .ok (.imul, 1) := by decide +kernel
theorem d3_40 : decode prog_116_method_8_code 40 = .ok (.iload 5, 2) := by decide +kernel
theorem d3_42 : decode prog_116_method_8_code 42 = .ok (.iadd, 1) := by decide +kernel
theorem d3_43 : decode prog_116_method_8_code 43 = .ok (.istore_n 3, 1) := by decide +kernel
theorem d3_44 : decode prog_116_method_8_code 44 = .ok (.iinc 4 1, 3) := by decide +kernel
theorem d3_47 : decode prog_116_method_8_code 47 = .ok (.goto (-42), 3) := by decide +kernel
theorem d3_50 : decode prog_116_method_8_code 50 = .ok (.iload_n 3, 1) := by decide +kernel
theorem d3_51 : decode prog_116_method_8_code 51 = .ok (.ireturn, 1) := by decide +kernel
set_option maxRecDepth 65536 in
set_option maxHeartbeats 40000000 in
theorem rm3 (l : Launch) (Z : State) (a0 : Array Value) (hw : ∀ d ∈ tables_1, d.before a0 Z = true) (ar : Addr) (lo : Int32) (ct : Int32) (n : Nat) (f : Nat → Int32) (h0 : Heap) (n0 : Nat) (Z0 : n0 ≤ h0.size) (f0 : AI Z h0 ar .byte n f) (h1 : 0 ≤ lo.toInt) (h2 : 0 ≤ ct.toInt) (h3 : lo.toInt + ct.toInt ≤ (n : Int)) (hn : n ≤ 1000) :
    Con l Z (⟨"com/example/streamgauge/streamgauge/workloads/AccessLogLine", "digits", "([BII)I"⟩ : MethodName) prog_116_method_8_code 6 (some .int) ({ frames := 0, cells := 0, slots := 0, locals := 0 } : Room) #[(.ref ar), (.int lo), (.int ct)] h0 n0 (fun rv hv => rv = some (.int (own_g f lo.toInt.toNat ct.toInt.toNat 0)) ∧ h0 = hv) := by
  refine Con.enter (plainFor_of_name own_pn1) Z0 ?_
  intro p e s m below meth c T0 C hnm X0
  refine Go.cast (own_ef_rm3 m ar lo ct) ?_
  refine Go.iconst C X0 (pc' := 1) (v := (0 : Int32)) d3_0 rfl rfl ?_
  refine Go.istoreN C X0 (pc' := 2) (Ls' := #[.val (.ref ar), .val (.int lo), .val (.int ct), .val (.int (0 : Int32)), .unset, .unset]) d3_1 rfl rfl ?_
  refine Go.iloadN C X0 (pc' := 3) d3_2 rfl rfl ?_
  refine Go.istore C X0 (pc' := 5) (Ls' := #[.val (.ref ar), .val (.int lo), .val (.int ct), .val (.int (0 : Int32)), .val (.int lo), .unset]) d3_3 rfl rfl ?_
  have Cut5 : ∀ (fuel : Nat) (T_5 : State) (u3 : Int32) (u4 : Int32) (s5 : Slot), ((lo + ct).toInt - u4.toInt).toNat < fuel → (0 ≤ u4.toInt) → (own_g f u4.toInt.toNat ((lo + ct).toInt - u4.toInt).toNat u3 = (own_g f lo.toInt.toNat ct.toInt.toNat 0)) → (s5 = .unset ∨ ∃ w : Int32, s5 = .val (.int w)) → On p l e ({ frames := 0, cells := 0, slots := 0, locals := 0 } : Room) s m #[(.ref ar), (.int lo), (.int ct)] below meth c n0 T_5 h0 0 0 → Go p e below s n0 (({ frames := 0, cells := 0, slots := 0, locals := 0 } : Room)).cells (({ frames := 0, cells := 0, slots := 0, locals := 0 } : Room)).slots (fun rv hv => rv = some (.int (own_g f lo.toInt.toNat ct.toInt.toNat 0)) ∧ h0 = hv) T_5 (mkF m 5 #[.val (.ref ar), .val (.int lo), .val (.int ct), .val (.int u3), .val (.int u4), s5] []) := by
    intro fuel
    induction fuel with
    | zero => intro T_5 u3 u4 s5 hM_5 h4 hr hs5 X_5; exact absurd hM_5 (Nat.not_lt_zero _)
    | succ fuel ih_5 =>
      intro T_5 u3 u4 s5 hM_5 h4 hr hs5 X_5
      refine Go.iload C X_5 (pc' := 7) d3_5 rfl rfl ?_
      refine Go.iloadN C X_5 (pc' := 8) d3_7 rfl rfl ?_
      refine Go.iloadN C X_5 (pc' := 9) d3_8 rfl rfl ?_
      refine Go.iadd C X_5 (pc' := 10) d3_9 rfl ?_
      by_cases c7 : u4 < (lo + ct)
      · refine Go.icmpNo C X_5 (pc' := 13) d3_10 (tlt c7).2.1 rfl ?_
        refine Go.aloadN C X_5 (pc' := 14) d3_13 rfl rfl rfl ?_
        refine Go.iload C X_5 (pc' := 16) d3_14 rfl rfl ?_
        refine Go.baload C X_5 (pc' := 17) (i := u4.toInt.toNat) (w := (f u4.toInt.toNat)) f0 (by omega) (by have := own_ilt.mp c7; rw [own_lim h1 h2 h3 hn] at this; omega) rfl d3_16 rfl ?_
        refine Go.bipush C X_5 (pc' := 19) (v := (48 : Int32)) d3_17 rfl rfl ?_
        refine Go.isub C X_5 (pc' := 20) d3_19 rfl ?_
        refine Go.istore C X_5 (pc' := 22) (Ls' := #[.val (.ref ar), .val (.int lo), .val (.int ct), .val (.int u3), .val (.int u4), .val (.int ((f u4.toInt.toNat) - (48 : Int32)))]) d3_20 (by rcases hs5 with rfl | ⟨w, rfl⟩ <;> rfl) rfl ?_
        refine Go.iload C X_5 (pc' := 24) d3_22 rfl rfl ?_
        by_cases c8 : ((f u4.toInt.toNat) - (48 : Int32)) < (0 : Int32)
        · refine Go.ifYes C X_5 (pc' := 34) d3_24 ((if0 _ _).trans (tlt c8).1) (by decide) (by decide) ?_
          refine Go.iconst C X_5 (pc' := 35) (v := (-1 : Int32)) d3_34 rfl rfl ?_
          exact Go.retI C X_5 d3_35 ⟨(by rw [← own_step hr c7 h4, if_pos c8]), rfl⟩ (by decide) (by decide)
        · refine Go.ifNo C X_5 (pc' := 27) d3_24 ((if0 _ _).trans (flt c8).1) rfl ?_
          refine Go.iload C X_5 (pc' := 29) d3_27 rfl rfl ?_
          refine Go.bipush C X_5 (pc' := 31) (v := (9 : Int32)) d3_29 rfl rfl ?_
          by_cases c9 : (9 : Int32) < ((f u4.toInt.toNat) - (48 : Int32))
          · refine Go.icmpNo C X_5 (pc' := 34) d3_31 (tlt c9).2.2.2 rfl ?_
            refine Go.iconst C X_5 (pc' := 35) (v := (-1 : Int32)) d3_34 rfl rfl ?_
            exact Go.retI C X_5 d3_35 ⟨(by rw [← own_step hr c7 h4, if_neg c8, if_pos c9]), rfl⟩ (by decide) (by decide)
          · refine Go.icmpYes C X_5 (pc' := 36) d3_31 (flt c9).2.2.2 (by decide) (by decide) ?_
            refine Go.iloadN C X_5 (pc' := 37) d3_36 rfl rfl ?_
            refine Go.bipush C X_5 (pc' := 39) (v := (10 : Int32)) d3_37 rfl rfl ?_
            refine Go.imul C X_5 (pc' := 40) d3_39 rfl ?_
            refine Go.iload C X_5 (pc' := 42) d3_40 rfl rfl ?_
            refine Go.iadd C X_5 (pc' := 43) d3_42 rfl ?_
            refine Go.istoreN C X_5 (pc' := 44) (Ls' := #[.val (.ref ar), .val (.int lo), .val (.int ct), .val (.int ((u3 * (10 : Int32)) + ((f u4.toInt.toNat) - (48 : Int32)))), .val (.int u4), .val (.int ((f u4.toInt.toNat) - (48 : Int32)))]) d3_43 rfl rfl ?_
            refine Go.iinc C X_5 (pc' := 47) (Ls' := #[.val (.ref ar), .val (.int lo), .val (.int ct), .val (.int ((u3 * (10 : Int32)) + ((f u4.toInt.toNat) - (48 : Int32)))), .val (.int (u4 + (1 : Int32))), .val (.int ((f u4.toInt.toNat) - (48 : Int32)))]) (v' := (u4 + (1 : Int32))) d3_44 rfl rfl rfl rfl ?_
            refine Go.goto C X_5 (pc' := 5) d3_47 (by decide) (by decide) ?_
            exact ih_5 T_5 ((u3 * (10 : Int32)) + ((f u4.toInt.toNat) - (48 : Int32))) (u4 + (1 : Int32)) (.val (.int ((f u4.toInt.toNat) - (48 : Int32)))) (own_less c7 h4 hM_5) (by rw [own_inc c7]; omega) (own_back hr c7 h4 c8 c9) (Or.inr ⟨_, rfl⟩) X_5
      · refine Go.icmpYes C X_5 (pc' := 50) d3_10 (flt c7).2.1 (by decide) (by decide) ?_
        refine Go.iloadN C X_5 (pc' := 51) d3_50 rfl rfl ?_
        exact Go.retI C X_5 d3_51 ⟨(by rw [own_end hr c7]), rfl⟩ (by decide) (by decide)
  exact Cut5 (_) T0 (0 : Int32) lo (.unset) (Nat.lt_succ_self _) h1 (by rw [own_lim h1 h2 h3 hn]; congr 1; omega) (Or.inl rfl) X0
theorem own_m5 (x : Int32) : ((x &&& (2147483647 : Int32)) % (5 : Int32)) = 0 ∨ ((x &&& (2147483647 : Int32)) % (5 : Int32)) = 1 ∨ ((x &&& (2147483647 : Int32)) % (5 : Int32)) = 2 ∨ ((x &&& (2147483647 : Int32)) % (5 : Int32)) = 3 ∨ ((x &&& (2147483647 : Int32)) % (5 : Int32)) = 4 := by
  have h := Jvm.RoadKit.own_mod x 5 5 rfl (by decide)
  have z0 : (0 : Int32).toInt = 0 := rfl
  have z1 : (1 : Int32).toInt = 1 := rfl
  have z2 : (2 : Int32).toInt = 2 := rfl
  have z3 : (3 : Int32).toInt = 3 := rfl
  have z4 : (4 : Int32).toInt = 4 := rfl
  rw [own_ieq, own_ieq, own_ieq, own_ieq, own_ieq, z0, z1, z2, z3, z4]; omega
theorem own_at (x : Int32) : 0 ≤ ((x &&& (2147483647 : Int32)) % (3 : Int32)).toInt ∧ ((x &&& (2147483647 : Int32)) % (3 : Int32)).toInt < 3 := (Jvm.RoadKit.own_mod x 3 3 rfl (by decide)).2
theorem own_atk (a k : Int32) (d : Int) (hk : k.toInt = d) (h1 : 0 ≤ a.toInt) (h2 : a.toInt < 3) (h3 : 0 ≤ d) (h4 : d ≤ 3) : (a + k).toInt = ((a.toInt.toNat + d.toNat : Nat) : Int) := by
  rw [own_iadd (by omega) (by omega)]; omega
theorem own_d {b : Int32} (h1 : -128 ≤ b.toInt) (h2 : b.toInt ≤ 127) : (b - (48 : Int32) < (0 : Int32) ↔ b < (48 : Int32)) ∧ ((9 : Int32) < b - (48 : Int32) ↔ (57 : Int32) < b) := by
  have e : (48 : Int32).toInt = 48 := rfl
  have e0 : (0 : Int32).toInt = 0 := rfl
  have e9 : (9 : Int32).toInt = 9 := rfl
  have e57 : (57 : Int32).toInt = 57 := rfl
  have s := own_isub (x := b) (y := 48) (by omega) (by omega)
  rw [own_ilt, own_ilt, own_ilt, own_ilt, s]; omega
theorem own_g1 {f : Nat → Int32} (hf : ∀ q, -128 ≤ (f q).toInt ∧ (f q).toInt ≤ 127) (i k : Nat) (r : Int32) : own_g f i (k + 1) r = if own_f_rm2 (f i) < (0 : Int32) then (-1 : Int32) else own_g f (i + 1) k ((r * (10 : Int32)) + own_f_rm2 (f i)) := by
  have hd := own_d (hf i).1 (hf i).2
  show (if f i - (48 : Int32) < (0 : Int32) then (-1 : Int32) else if (9 : Int32) < f i - (48 : Int32) then (-1 : Int32) else own_g f (i + 1) k ((r * (10 : Int32)) + (f i - (48 : Int32)))) = _
  unfold own_f_rm2
  by_cases c1 : f i < (48 : Int32)
  · rw [if_pos c1, if_pos (hd.1.mpr c1), if_pos (by decide)]
  · rw [if_neg c1, if_neg (fun q => c1 (hd.1.mp q))]
    by_cases c2 : (57 : Int32) < f i
    · rw [if_pos c2, if_pos (hd.2.mpr c2), if_pos (by decide)]
    · rw [if_neg c2, if_neg (fun q => c2 (hd.2.mp q)), if_neg (fun q => c1 (hd.1.mp q))]
theorem own_r1 (a : Int32) : ((0 : Int32) * (10 : Int32)) + a = a := by grind
theorem own_r2 (a b : Int32) : (((((0 : Int32) * (10 : Int32)) + a) * (10 : Int32)) + b) = ((a * (10 : Int32)) + b) := by grind
theorem own_r3 (a b c : Int32) : (((((((0 : Int32) * (10 : Int32)) + a) * (10 : Int32)) + b) * (10 : Int32)) + c) = (((a * (100 : Int32)) + (b * (10 : Int32))) + c) := by grind
theorem own_r4 (a b c d : Int32) : (((((((((0 : Int32) * (10 : Int32)) + a) * (10 : Int32)) + b) * (10 : Int32)) + c) * (10 : Int32)) + d) = ((((a * (1000 : Int32)) + (b * (100 : Int32))) + (c * (10 : Int32))) + d) := by grind
theorem own_ef_rm0 (m : MethodId) (x0 : Int32) (x1 : Int32) (x2 : Int64) (x3 : Int32) : entryFrame m #[(.int x0), (.int x1), (.long x2), (.int x3)] maxLocals = mkF m 0 #[.val (.int x0), .val (.int x1), .val (.long x2), .second, .val (.int x3), .unset, .unset, .unset, .unset, .unset, .unset, .unset, .unset, .unset, .unset] [] := by first | (simp [entryFrame, mkF, argsToLocals, Value.category, maxLocals]; done) | rfl
theorem own_pd0 : parseMethodDescriptor "(JII)B" = some ⟨[.long, .int, .int], some .byte⟩ := by decide +kernel
theorem own_pd1 : parseMethodDescriptor "(B)I" = some ⟨[.byte], some .int⟩ := by decide +kernel
theorem own_pd2 : parseMethodDescriptor "([BII)I" = some ⟨[(.array .byte), .int, .int], some .int⟩ := by decide +kernel
set_option maxRecDepth 65536 in
set_option maxHeartbeats 40000000 in
theorem rm0 (l : Launch) (Z : State) (a0 : Array Value) (hw : ∀ d ∈ tables_1, d.before a0 Z = true) (x0 x1 : Int32) (x2 : Int64) (x3 : Int32) (h0 : Heap) (n0 : Nat) (Z0 : n0 ≤ h0.size)  :
    Con l Z x code maxLocals ret room_1 #[(.int x0), (.int x1), (.long x2), (.int x3)] h0 n0 (fun rv hv => rv = some (.int 1)) := by
  refine Con.enter (plainFor_of_name own_pn0) Z0 ?_
  intro p e s m below meth c T0 C hnm X0
  refine Go.cast (own_ef_rm0 m x0 x1 x2 x3) ?_
  refine Go.iloadN C X0 (pc' := 1) at_0 rfl rfl ?_
  refine Go.ldc C X0 (pc' := 3) (hw _ (List.mem_of_getElem? (i := 0) rfl)) at_1 rfl ?_
  refine Go.iand C X0 (pc' := 4) at_3 rfl ?_
  refine Go.iconst C X0 (pc' := 5) (v := (3 : Int32)) at_4 rfl rfl ?_
  refine Go.irem C X0 (pc' := 6) at_5 (by decide) rfl ?_
  refine Go.istore C X0 (pc' := 8) (Ls' := #[.val (.int x0), .val (.int x1), .val (.long x2), .second, .val (.int x3), .val (.int ((x0 &&& (2147483647 : Int32)) % (3 : Int32))), .unset, .unset, .unset, .unset, .unset, .unset, .unset, .unset, .unset]) at_6 rfl rfl ?_
  refine Go.iloadN C X0 (pc' := 9) at_8 rfl rfl ?_
  refine Go.ldc C X0 (pc' := 11) (hw _ (List.mem_of_getElem? (i := 0) rfl)) at_9 rfl ?_
  refine Go.iand C X0 (pc' := 12) at_11 rfl ?_
  refine Go.iconst C X0 (pc' := 13) (v := (5 : Int32)) at_12 rfl rfl ?_
  refine Go.irem C X0 (pc' := 14) at_13 (by decide) rfl ?_
  refine Go.istore C X0 (pc' := 16) (Ls' := #[.val (.int x0), .val (.int x1), .val (.long x2), .second, .val (.int x3), .val (.int ((x0 &&& (2147483647 : Int32)) % (3 : Int32))), .val (.int ((x1 &&& (2147483647 : Int32)) % (5 : Int32))), .unset, .unset, .unset, .unset, .unset, .unset, .unset, .unset]) at_14 rfl rfl ?_
  refine Go.bipush C X0 (pc' := 18) (v := (6 : Int32)) at_16 rfl rfl ?_
  refine Go.newP C X0 (pc' := 20) (nn := 6) (cap := 6) (hw _ (List.mem_of_getElem? (i := 1) rfl)) at_18 rfl (by decide) (by decide) (by decide) (by decide) rfl (fun T10 h10 b10 k10 X10 g10 E10 Ar10 N10 => ?_)
  have A10 : AI Z h10 b10 .byte 6 (fun _ => 0) := AI.new rfl rfl Ar10
  refine Go.astore C X10 (pc' := 22) (Ls' := #[.val (.int x0), .val (.int x1), .val (.long x2), .second, .val (.int x3), .val (.int ((x0 &&& (2147483647 : Int32)) % (3 : Int32))), .val (.int ((x1 &&& (2147483647 : Int32)) % (5 : Int32))), .val (.ref b10), .unset, .unset, .unset, .unset, .unset, .unset, .unset]) at_20 rfl rfl rfl ?_
  refine Go.aload C X10 (pc' := 24) at_22 rfl rfl rfl ?_
  refine Go.iconst C X10 (pc' := 25) (v := (0 : Int32)) at_24 rfl rfl ?_
  refine Go.lloadN C X10 (pc' := 26) at_25 rfl rfl ?_
  refine Go.iconst C X10 (pc' := 27) (v := (0 : Int32)) at_26 rfl rfl ?_
  refine Go.iload C X10 (pc' := 29) at_27 rfl rfl ?_
  refine Go.callS C X10 (pc' := 32) (W := 2) (argsL := [(.long x2), (.int (0 : Int32)), (.int x3)]) (rest := [(.int (0 : Int32)), (.ref b10)]) (rm1 l Z a0 hw x2 (0 : Int32) x3 h10 n0 X10.sz ) (hw _ (List.mem_of_getElem? (i := 2) rfl)) (hw _ (List.mem_of_getElem? (i := 3) rfl)) (hw _ (List.mem_of_getElem? (i := 4) rfl)) (hw _ (List.mem_of_getElem? (i := 5) rfl)) (by decide) rfl rfl (lenOf own_pd0 rfl) rfl (Nat.le_of_eq rfl) (by decide) (by decide) (by decide) (by decide) at_29 rfl (fun _ _ q => Nat.le_of_eq (congrArg Array.size q.2)) (fun T11 h11 v11 X11 P11 => ?_)
  obtain ⟨rfl, rfl⟩ := P11
  show Go p e below s n0 _ _ _ T11 (mkF m 32 #[.val (.int x0), .val (.int x1), .val (.long x2), .second, .val (.int x3), .val (.int ((x0 &&& (2147483647 : Int32)) % (3 : Int32))), .val (.int ((x1 &&& (2147483647 : Int32)) % (5 : Int32))), .val (.ref b10), .unset, .unset, .unset, .unset, .unset, .unset, .unset] [(.int (own_f_rm1 x2 (0 : Int32) x3)), (.int (0 : Int32)), (.ref b10)])
  refine Go.bastore C X11 (pc' := 33) (i := 0) (x' := (nar .byte (own_f_rm1 x2 (0 : Int32) x3))) A10 rfl (by decide) rfl N10 at_32 rfl (fun T12 h12 X12 W12 A12 => ?_)
  refine Go.aload C X12 (pc' := 35) at_33 rfl rfl rfl ?_
  refine Go.iconst C X12 (pc' := 36) (v := (1 : Int32)) at_35 rfl rfl ?_
  refine Go.lloadN C X12 (pc' := 37) at_36 rfl rfl ?_
  refine Go.iconst C X12 (pc' := 38) (v := (1 : Int32)) at_37 rfl rfl ?_
  refine Go.iload C X12 (pc' := 40) at_38 rfl rfl ?_
  refine Go.callS C X12 (pc' := 43) (W := 2) (argsL := [(.long x2), (.int (1 : Int32)), (.int x3)]) (rest := [(.int (1 : Int32)), (.ref b10)]) (rm1 l Z a0 hw x2 (1 : Int32) x3 h12 n0 X12.sz ) (hw _ (List.mem_of_getElem? (i := 2) rfl)) (hw _ (List.mem_of_getElem? (i := 3) rfl)) (hw _ (List.mem_of_getElem? (i := 4) rfl)) (hw _ (List.mem_of_getElem? (i := 5) rfl)) (by decide) rfl rfl (lenOf own_pd0 rfl) rfl (Nat.le_of_eq rfl) (by decide) (by decide) (by decide) (by decide) at_40 rfl (fun _ _ q => Nat.le_of_eq (congrArg Array.size q.2)) (fun T13 h13 v13 X13 P13 => ?_)
  obtain ⟨rfl, rfl⟩ := P13
  show Go p e below s n0 _ _ _ T13 (mkF m 43 #[.val (.int x0), .val (.int x1), .val (.long x2), .second, .val (.int x3), .val (.int ((x0 &&& (2147483647 : Int32)) % (3 : Int32))), .val (.int ((x1 &&& (2147483647 : Int32)) % (5 : Int32))), .val (.ref b10), .unset, .unset, .unset, .unset, .unset, .unset, .unset] [(.int (own_f_rm1 x2 (1 : Int32) x3)), (.int (1 : Int32)), (.ref b10)])
  refine Go.bastore C X13 (pc' := 44) (i := 1) (x' := (nar .byte (own_f_rm1 x2 (1 : Int32) x3))) A12 rfl (by decide) rfl N10 at_43 rfl (fun T14 h14 X14 W14 A14 => ?_)
  refine Go.aload C X14 (pc' := 46) at_44 rfl rfl rfl ?_
  refine Go.iconst C X14 (pc' := 47) (v := (2 : Int32)) at_46 rfl rfl ?_
  refine Go.lloadN C X14 (pc' := 48) at_47 rfl rfl ?_
  refine Go.iconst C X14 (pc' := 49) (v := (2 : Int32)) at_48 rfl rfl ?_
  refine Go.iload C X14 (pc' := 51) at_49 rfl rfl ?_
  refine Go.callS C X14 (pc' := 54) (W := 2) (argsL := [(.long x2), (.int (2 : Int32)), (.int x3)]) (rest := [(.int (2 : Int32)), (.ref b10)]) (rm1 l Z a0 hw x2 (2 : Int32) x3 h14 n0 X14.sz ) (hw _ (List.mem_of_getElem? (i := 2) rfl)) (hw _ (List.mem_of_getElem? (i := 3) rfl)) (hw _ (List.mem_of_getElem? (i := 4) rfl)) (hw _ (List.mem_of_getElem? (i := 5) rfl)) (by decide) rfl rfl (lenOf own_pd0 rfl) rfl (Nat.le_of_eq rfl) (by decide) (by decide) (by decide) (by decide) at_51 rfl (fun _ _ q => Nat.le_of_eq (congrArg Array.size q.2)) (fun T15 h15 v15 X15 P15 => ?_)
  obtain ⟨rfl, rfl⟩ := P15
  show Go p e below s n0 _ _ _ T15 (mkF m 54 #[.val (.int x0), .val (.int x1), .val (.long x2), .second, .val (.int x3), .val (.int ((x0 &&& (2147483647 : Int32)) % (3 : Int32))), .val (.int ((x1 &&& (2147483647 : Int32)) % (5 : Int32))), .val (.ref b10), .unset, .unset, .unset, .unset, .unset, .unset, .unset] [(.int (own_f_rm1 x2 (2 : Int32) x3)), (.int (2 : Int32)), (.ref b10)])
  refine Go.bastore C X15 (pc' := 55) (i := 2) (x' := (nar .byte (own_f_rm1 x2 (2 : Int32) x3))) A14 rfl (by decide) rfl N10 at_54 rfl (fun T16 h16 X16 W16 A16 => ?_)
  refine Go.aload C X16 (pc' := 57) at_55 rfl rfl rfl ?_
  refine Go.iconst C X16 (pc' := 58) (v := (3 : Int32)) at_57 rfl rfl ?_
  refine Go.lloadN C X16 (pc' := 59) at_58 rfl rfl ?_
  refine Go.iconst C X16 (pc' := 60) (v := (3 : Int32)) at_59 rfl rfl ?_
  refine Go.iload C X16 (pc' := 62) at_60 rfl rfl ?_
  refine Go.callS C X16 (pc' := 65) (W := 2) (argsL := [(.long x2), (.int (3 : Int32)), (.int x3)]) (rest := [(.int (3 : Int32)), (.ref b10)]) (rm1 l Z a0 hw x2 (3 : Int32) x3 h16 n0 X16.sz ) (hw _ (List.mem_of_getElem? (i := 2) rfl)) (hw _ (List.mem_of_getElem? (i := 3) rfl)) (hw _ (List.mem_of_getElem? (i := 4) rfl)) (hw _ (List.mem_of_getElem? (i := 5) rfl)) (by decide) rfl rfl (lenOf own_pd0 rfl) rfl (Nat.le_of_eq rfl) (by decide) (by decide) (by decide) (by decide) at_62 rfl (fun _ _ q => Nat.le_of_eq (congrArg Array.size q.2)) (fun T17 h17 v17 X17 P17 => ?_)
  obtain ⟨rfl, rfl⟩ := P17
  show Go p e below s n0 _ _ _ T17 (mkF m 65 #[.val (.int x0), .val (.int x1), .val (.long x2), .second, .val (.int x3), .val (.int ((x0 &&& (2147483647 : Int32)) % (3 : Int32))), .val (.int ((x1 &&& (2147483647 : Int32)) % (5 : Int32))), .val (.ref b10), .unset, .unset, .unset, .unset, .unset, .unset, .unset] [(.int (own_f_rm1 x2 (3 : Int32) x3)), (.int (3 : Int32)), (.ref b10)])
  refine Go.bastore C X17 (pc' := 66) (i := 3) (x' := (nar .byte (own_f_rm1 x2 (3 : Int32) x3))) A16 rfl (by decide) rfl N10 at_65 rfl (fun T18 h18 X18 W18 A18 => ?_)
  refine Go.aload C X18 (pc' := 68) at_66 rfl rfl rfl ?_
  refine Go.iconst C X18 (pc' := 69) (v := (4 : Int32)) at_68 rfl rfl ?_
  refine Go.lloadN C X18 (pc' := 70) at_69 rfl rfl ?_
  refine Go.iconst C X18 (pc' := 71) (v := (4 : Int32)) at_70 rfl rfl ?_
  refine Go.iload C X18 (pc' := 73) at_71 rfl rfl ?_
  refine Go.callS C X18 (pc' := 76) (W := 2) (argsL := [(.long x2), (.int (4 : Int32)), (.int x3)]) (rest := [(.int (4 : Int32)), (.ref b10)]) (rm1 l Z a0 hw x2 (4 : Int32) x3 h18 n0 X18.sz ) (hw _ (List.mem_of_getElem? (i := 2) rfl)) (hw _ (List.mem_of_getElem? (i := 3) rfl)) (hw _ (List.mem_of_getElem? (i := 4) rfl)) (hw _ (List.mem_of_getElem? (i := 5) rfl)) (by decide) rfl rfl (lenOf own_pd0 rfl) rfl (Nat.le_of_eq rfl) (by decide) (by decide) (by decide) (by decide) at_73 rfl (fun _ _ q => Nat.le_of_eq (congrArg Array.size q.2)) (fun T19 h19 v19 X19 P19 => ?_)
  obtain ⟨rfl, rfl⟩ := P19
  show Go p e below s n0 _ _ _ T19 (mkF m 76 #[.val (.int x0), .val (.int x1), .val (.long x2), .second, .val (.int x3), .val (.int ((x0 &&& (2147483647 : Int32)) % (3 : Int32))), .val (.int ((x1 &&& (2147483647 : Int32)) % (5 : Int32))), .val (.ref b10), .unset, .unset, .unset, .unset, .unset, .unset, .unset] [(.int (own_f_rm1 x2 (4 : Int32) x3)), (.int (4 : Int32)), (.ref b10)])
  refine Go.bastore C X19 (pc' := 77) (i := 4) (x' := (nar .byte (own_f_rm1 x2 (4 : Int32) x3))) A18 rfl (by decide) rfl N10 at_76 rfl (fun T20 h20 X20 W20 A20 => ?_)
  refine Go.aload C X20 (pc' := 79) at_77 rfl rfl rfl ?_
  refine Go.iconst C X20 (pc' := 80) (v := (5 : Int32)) at_79 rfl rfl ?_
  refine Go.lloadN C X20 (pc' := 81) at_80 rfl rfl ?_
  refine Go.iconst C X20 (pc' := 82) (v := (5 : Int32)) at_81 rfl rfl ?_
  refine Go.iload C X20 (pc' := 84) at_82 rfl rfl ?_
  refine Go.callS C X20 (pc' := 87) (W := 2) (argsL := [(.long x2), (.int (5 : Int32)), (.int x3)]) (rest := [(.int (5 : Int32)), (.ref b10)]) (rm1 l Z a0 hw x2 (5 : Int32) x3 h20 n0 X20.sz ) (hw _ (List.mem_of_getElem? (i := 2) rfl)) (hw _ (List.mem_of_getElem? (i := 3) rfl)) (hw _ (List.mem_of_getElem? (i := 4) rfl)) (hw _ (List.mem_of_getElem? (i := 5) rfl)) (by decide) rfl rfl (lenOf own_pd0 rfl) rfl (Nat.le_of_eq rfl) (by decide) (by decide) (by decide) (by decide) at_84 rfl (fun _ _ q => Nat.le_of_eq (congrArg Array.size q.2)) (fun T21 h21 v21 X21 P21 => ?_)
  obtain ⟨rfl, rfl⟩ := P21
  show Go p e below s n0 _ _ _ T21 (mkF m 87 #[.val (.int x0), .val (.int x1), .val (.long x2), .second, .val (.int x3), .val (.int ((x0 &&& (2147483647 : Int32)) % (3 : Int32))), .val (.int ((x1 &&& (2147483647 : Int32)) % (5 : Int32))), .val (.ref b10), .unset, .unset, .unset, .unset, .unset, .unset, .unset] [(.int (own_f_rm1 x2 (5 : Int32) x3)), (.int (5 : Int32)), (.ref b10)])
  refine Go.bastore C X21 (pc' := 88) (i := 5) (x' := (nar .byte (own_f_rm1 x2 (5 : Int32) x3))) A20 rfl (by decide) rfl N10 at_87 rfl (fun T22 h22 X22 W22 A22 => ?_)
  obtain ⟨f, hf, A88⟩ : ∃ f : Nat → Int32, (∀ q, -128 ≤ (f q).toInt ∧ (f q).toInt ≤ 127) ∧ AI Z h22 b10 .byte 6 f := ⟨_, own_upd (R := fun z => -128 ≤ z.toInt ∧ z.toInt ≤ 127) (own_upd (R := fun z => -128 ≤ z.toInt ∧ z.toInt ≤ 127) (own_upd (R := fun z => -128 ≤ z.toInt ∧ z.toInt ≤ 127) (own_upd (R := fun z => -128 ≤ z.toInt ∧ z.toInt ≤ 127) (own_upd (R := fun z => -128 ≤ z.toInt ∧ z.toInt ≤ 127) (own_upd (R := fun z => -128 ≤ z.toInt ∧ z.toInt ≤ 127) (fun _ => by decide) (own_i2b _)) (own_i2b _)) (own_i2b _)) (own_i2b _)) (own_i2b _)) (own_i2b _), A22⟩
  refine Go.aload C X22 (pc' := 90) at_88 rfl rfl rfl ?_
  refine Go.iload C X22 (pc' := 92) at_90 rfl rfl ?_
  refine Go.baload C X22 (pc' := 93) (i := ((x0 &&& (2147483647 : Int32)) % (3 : Int32)).toInt.toNat) (w := (f ((x0 &&& (2147483647 : Int32)) % (3 : Int32)).toInt.toNat)) A88 (by have := own_at x0; omega) (by have := own_at x0; omega) rfl at_92 rfl ?_
  refine Go.callS C X22 (pc' := 96) (W := 0) (argsL := [(.int (f ((x0 &&& (2147483647 : Int32)) % (3 : Int32)).toInt.toNat))]) (rest := []) (rm2 l Z a0 hw (f ((x0 &&& (2147483647 : Int32)) % (3 : Int32)).toInt.toNat) h22 n0 X22.sz ) (hw _ (List.mem_of_getElem? (i := 7) rfl)) (hw _ (List.mem_of_getElem? (i := 8) rfl)) (hw _ (List.mem_of_getElem? (i := 4) rfl)) (hw _ (List.mem_of_getElem? (i := 9) rfl)) (by decide) rfl rfl (lenOf own_pd1 rfl) rfl (Nat.le_of_eq rfl) (by decide) (by decide) (by decide) (by decide) at_93 rfl (fun _ _ q => Nat.le_of_eq (congrArg Array.size q.2)) (fun T23 h23 v23 X23 P23 => ?_)
  obtain ⟨rfl, rfl⟩ := P23
  show Go p e below s n0 _ _ _ T23 (mkF m 96 #[.val (.int x0), .val (.int x1), .val (.long x2), .second, .val (.int x3), .val (.int ((x0 &&& (2147483647 : Int32)) % (3 : Int32))), .val (.int ((x1 &&& (2147483647 : Int32)) % (5 : Int32))), .val (.ref b10), .unset, .unset, .unset, .unset, .unset, .unset, .unset] [(.int (own_f_rm2 (f ((x0 &&& (2147483647 : Int32)) % (3 : Int32)).toInt.toNat)))])
  refine Go.istore C X23 (pc' := 98) (Ls' := #[.val (.int x0), .val (.int x1), .val (.long x2), .second, .val (.int x3), .val (.int ((x0 &&& (2147483647 : Int32)) % (3 : Int32))), .val (.int ((x1 &&& (2147483647 : Int32)) % (5 : Int32))), .val (.ref b10), .val (.int (own_f_rm2 (f ((x0 &&& (2147483647 : Int32)) % (3 : Int32)).toInt.toNat))), .unset, .unset, .unset, .unset, .unset, .unset]) at_96 rfl rfl ?_
  refine Go.aload C X23 (pc' := 100) at_98 rfl rfl rfl ?_
  refine Go.iload C X23 (pc' := 102) at_100 rfl rfl ?_
  refine Go.iconst C X23 (pc' := 103) (v := (1 : Int32)) at_102 rfl rfl ?_
  refine Go.iadd C X23 (pc' := 104) at_103 rfl ?_
  refine Go.baload C X23 (pc' := 105) (i := (((x0 &&& (2147483647 : Int32)) % (3 : Int32)).toInt.toNat + 1)) (w := (f (((x0 &&& (2147483647 : Int32)) % (3 : Int32)).toInt.toNat + 1))) A88 (own_atk _ 1 1 rfl (own_at x0).1 (own_at x0).2 (by decide) (by decide)) (by have := own_at x0; omega) rfl at_104 rfl ?_
  refine Go.callS C X23 (pc' := 108) (W := 0) (argsL := [(.int (f (((x0 &&& (2147483647 : Int32)) % (3 : Int32)).toInt.toNat + 1)))]) (rest := []) (rm2 l Z a0 hw (f (((x0 &&& (2147483647 : Int32)) % (3 : Int32)).toInt.toNat + 1)) h22 n0 X23.sz ) (hw _ (List.mem_of_getElem? (i := 7) rfl)) (hw _ (List.mem_of_getElem? (i := 8) rfl)) (hw _ (List.mem_of_getElem? (i := 4) rfl)) (hw _ (List.mem_of_getElem? (i := 9) rfl)) (by decide) rfl rfl (lenOf own_pd1 rfl) rfl (Nat.le_of_eq rfl) (by decide) (by decide) (by decide) (by decide) at_105 rfl (fun _ _ q => Nat.le_of_eq (congrArg Array.size q.2)) (fun T24 h24 v24 X24 P24 => ?_)
  obtain ⟨rfl, rfl⟩ := P24
  show Go p e below s n0 _ _ _ T24 (mkF m 108 #[.val (.int x0), .val (.int x1), .val (.long x2), .second, .val (.int x3), .val (.int ((x0 &&& (2147483647 : Int32)) % (3 : Int32))), .val (.int ((x1 &&& (2147483647 : Int32)) % (5 : Int32))), .val (.ref b10), .val (.int (own_f_rm2 (f ((x0 &&& (2147483647 : Int32)) % (3 : Int32)).toInt.toNat))), .unset, .unset, .unset, .unset, .unset, .unset] [(.int (own_f_rm2 (f (((x0 &&& (2147483647 : Int32)) % (3 : Int32)).toInt.toNat + 1))))])
  refine Go.istore C X24 (pc' := 110) (Ls' := #[.val (.int x0), .val (.int x1), .val (.long x2), .second, .val (.int x3), .val (.int ((x0 &&& (2147483647 : Int32)) % (3 : Int32))), .val (.int ((x1 &&& (2147483647 : Int32)) % (5 : Int32))), .val (.ref b10), .val (.int (own_f_rm2 (f ((x0 &&& (2147483647 : Int32)) % (3 : Int32)).toInt.toNat))), .val (.int (own_f_rm2 (f (((x0 &&& (2147483647 : Int32)) % (3 : Int32)).toInt.toNat + 1)))), .unset, .unset, .unset, .unset, .unset]) at_108 rfl rfl ?_
  refine Go.aload C X24 (pc' := 112) at_110 rfl rfl rfl ?_
  refine Go.iload C X24 (pc' := 114) at_112 rfl rfl ?_
  refine Go.iconst C X24 (pc' := 115) (v := (2 : Int32)) at_114 rfl rfl ?_
  refine Go.iadd C X24 (pc' := 116) at_115 rfl ?_
  refine Go.baload C X24 (pc' := 117) (i := (((x0 &&& (2147483647 : Int32)) % (3 : Int32)).toInt.toNat + 2)) (w := (f (((x0 &&& (2147483647 : Int32)) % (3 : Int32)).toInt.toNat + 2))) A88 (own_atk _ 2 2 rfl (own_at x0).1 (own_at x0).2 (by decide) (by decide)) (by have := own_at x0; omega) rfl at_116 rfl ?_
  refine Go.callS C X24 (pc' := 120) (W := 0) (argsL := [(.int (f (((x0 &&& (2147483647 : Int32)) % (3 : Int32)).toInt.toNat + 2)))]) (rest := []) (rm2 l Z a0 hw (f (((x0 &&& (2147483647 : Int32)) % (3 : Int32)).toInt.toNat + 2)) h22 n0 X24.sz ) (hw _ (List.mem_of_getElem? (i := 7) rfl)) (hw _ (List.mem_of_getElem? (i := 8) rfl)) (hw _ (List.mem_of_getElem? (i := 4) rfl)) (hw _ (List.mem_of_getElem? (i := 9) rfl)) (by decide) rfl rfl (lenOf own_pd1 rfl) rfl (Nat.le_of_eq rfl) (by decide) (by decide) (by decide) (by decide) at_117 rfl (fun _ _ q => Nat.le_of_eq (congrArg Array.size q.2)) (fun T25 h25 v25 X25 P25 => ?_)
  obtain ⟨rfl, rfl⟩ := P25
  show Go p e below s n0 _ _ _ T25 (mkF m 120 #[.val (.int x0), .val (.int x1), .val (.long x2), .second, .val (.int x3), .val (.int ((x0 &&& (2147483647 : Int32)) % (3 : Int32))), .val (.int ((x1 &&& (2147483647 : Int32)) % (5 : Int32))), .val (.ref b10), .val (.int (own_f_rm2 (f ((x0 &&& (2147483647 : Int32)) % (3 : Int32)).toInt.toNat))), .val (.int (own_f_rm2 (f (((x0 &&& (2147483647 : Int32)) % (3 : Int32)).toInt.toNat + 1)))), .unset, .unset, .unset, .unset, .unset] [(.int (own_f_rm2 (f (((x0 &&& (2147483647 : Int32)) % (3 : Int32)).toInt.toNat + 2))))])
  refine Go.istore C X25 (pc' := 122) (Ls' := #[.val (.int x0), .val (.int x1), .val (.long x2), .second, .val (.int x3), .val (.int ((x0 &&& (2147483647 : Int32)) % (3 : Int32))), .val (.int ((x1 &&& (2147483647 : Int32)) % (5 : Int32))), .val (.ref b10), .val (.int (own_f_rm2 (f ((x0 &&& (2147483647 : Int32)) % (3 : Int32)).toInt.toNat))), .val (.int (own_f_rm2 (f (((x0 &&& (2147483647 : Int32)) % (3 : Int32)).toInt.toNat + 1)))), .val (.int (own_f_rm2 (f (((x0 &&& (2147483647 : Int32)) % (3 : Int32)).toInt.toNat + 2)))), .unset, .unset, .unset, .unset]) at_120 rfl rfl ?_
  refine Go.aload C X25 (pc' := 124) at_122 rfl rfl rfl ?_
  refine Go.iload C X25 (pc' := 126) at_124 rfl rfl ?_
  refine Go.iconst C X25 (pc' := 127) (v := (3 : Int32)) at_126 rfl rfl ?_
  refine Go.iadd C X25 (pc' := 128) at_127 rfl ?_
  refine Go.baload C X25 (pc' := 129) (i := (((x0 &&& (2147483647 : Int32)) % (3 : Int32)).toInt.toNat + 3)) (w := (f (((x0 &&& (2147483647 : Int32)) % (3 : Int32)).toInt.toNat + 3))) A88 (own_atk _ 3 3 rfl (own_at x0).1 (own_at x0).2 (by decide) (by decide)) (by have := own_at x0; omega) rfl at_128 rfl ?_
  refine Go.callS C X25 (pc' := 132) (W := 0) (argsL := [(.int (f (((x0 &&& (2147483647 : Int32)) % (3 : Int32)).toInt.toNat + 3)))]) (rest := []) (rm2 l Z a0 hw (f (((x0 &&& (2147483647 : Int32)) % (3 : Int32)).toInt.toNat + 3)) h22 n0 X25.sz ) (hw _ (List.mem_of_getElem? (i := 7) rfl)) (hw _ (List.mem_of_getElem? (i := 8) rfl)) (hw _ (List.mem_of_getElem? (i := 4) rfl)) (hw _ (List.mem_of_getElem? (i := 9) rfl)) (by decide) rfl rfl (lenOf own_pd1 rfl) rfl (Nat.le_of_eq rfl) (by decide) (by decide) (by decide) (by decide) at_129 rfl (fun _ _ q => Nat.le_of_eq (congrArg Array.size q.2)) (fun T26 h26 v26 X26 P26 => ?_)
  obtain ⟨rfl, rfl⟩ := P26
  show Go p e below s n0 _ _ _ T26 (mkF m 132 #[.val (.int x0), .val (.int x1), .val (.long x2), .second, .val (.int x3), .val (.int ((x0 &&& (2147483647 : Int32)) % (3 : Int32))), .val (.int ((x1 &&& (2147483647 : Int32)) % (5 : Int32))), .val (.ref b10), .val (.int (own_f_rm2 (f ((x0 &&& (2147483647 : Int32)) % (3 : Int32)).toInt.toNat))), .val (.int (own_f_rm2 (f (((x0 &&& (2147483647 : Int32)) % (3 : Int32)).toInt.toNat + 1)))), .val (.int (own_f_rm2 (f (((x0 &&& (2147483647 : Int32)) % (3 : Int32)).toInt.toNat + 2)))), .unset, .unset, .unset, .unset] [(.int (own_f_rm2 (f (((x0 &&& (2147483647 : Int32)) % (3 : Int32)).toInt.toNat + 3))))])
  refine Go.istore C X26 (pc' := 134) (Ls' := #[.val (.int x0), .val (.int x1), .val (.long x2), .second, .val (.int x3), .val (.int ((x0 &&& (2147483647 : Int32)) % (3 : Int32))), .val (.int ((x1 &&& (2147483647 : Int32)) % (5 : Int32))), .val (.ref b10), .val (.int (own_f_rm2 (f ((x0 &&& (2147483647 : Int32)) % (3 : Int32)).toInt.toNat))), .val (.int (own_f_rm2 (f (((x0 &&& (2147483647 : Int32)) % (3 : Int32)).toInt.toNat + 1)))), .val (.int (own_f_rm2 (f (((x0 &&& (2147483647 : Int32)) % (3 : Int32)).toInt.toNat + 2)))), .val (.int (own_f_rm2 (f (((x0 &&& (2147483647 : Int32)) % (3 : Int32)).toInt.toNat + 3)))), .unset, .unset, .unset]) at_132 rfl rfl ?_
  rcases own_m5 x1 with q27 | q27 | q27 | q27 | q27
  · rw [q27]
    refine Go.iload C X26 (pc' := 136) at_134 rfl rfl ?_
    refine Go.iconst C X26 (pc' := 137) (v := (1 : Int32)) at_136 rfl rfl ?_
    refine Go.icmpYes C X26 (pc' := 145) at_137 (tlt (by decide)).1 (by decide) (by decide) ?_
    refine Go.iload C X26 (pc' := 147) at_145 rfl rfl ?_
    refine Go.iconst C X26 (pc' := 148) (v := (2 : Int32)) at_147 rfl rfl ?_
    refine Go.icmpYes C X26 (pc' := 156) at_148 (tlt (by decide)).1 (by decide) (by decide) ?_
    refine Go.iload C X26 (pc' := 158) at_156 rfl rfl ?_
    refine Go.iconst C X26 (pc' := 159) (v := (3 : Int32)) at_158 rfl rfl ?_
    refine Go.icmpYes C X26 (pc' := 167) at_159 (tlt (by decide)).1 (by decide) (by decide) ?_
    refine Go.iload C X26 (pc' := 169) at_167 rfl rfl ?_
    refine Go.iconst C X26 (pc' := 170) (v := (4 : Int32)) at_169 rfl rfl ?_
    refine Go.icmpYes C X26 (pc' := 182) at_170 (tlt (by decide)).1 (by decide) (by decide) ?_
    refine Go.iconst C X26 (pc' := 183) (v := (0 : Int32)) at_182 rfl rfl ?_
    refine Go.istore C X26 (pc' := 185) (Ls' := #[.val (.int x0), .val (.int x1), .val (.long x2), .second, .val (.int x3), .val (.int ((x0 &&& (2147483647 : Int32)) % (3 : Int32))), .val (.int (0 : Int32)), .val (.ref b10), .val (.int (own_f_rm2 (f ((x0 &&& (2147483647 : Int32)) % (3 : Int32)).toInt.toNat))), .val (.int (own_f_rm2 (f (((x0 &&& (2147483647 : Int32)) % (3 : Int32)).toInt.toNat + 1)))), .val (.int (own_f_rm2 (f (((x0 &&& (2147483647 : Int32)) % (3 : Int32)).toInt.toNat + 2)))), .val (.int (own_f_rm2 (f (((x0 &&& (2147483647 : Int32)) % (3 : Int32)).toInt.toNat + 3)))), .val (.int (0 : Int32)), .unset, .unset]) at_183 rfl rfl ?_
    refine Go.iload C X26 (pc' := 187) at_185 rfl rfl ?_
    refine Go.ifNo C X26 (pc' := 190) at_187 ((if0 _ _).trans (teq (by decide)).2) rfl ?_
    refine Go.iconst C X26 (pc' := 191) (v := (0 : Int32)) at_190 rfl rfl ?_
    refine Go.istore C X26 (pc' := 193) (Ls' := #[.val (.int x0), .val (.int x1), .val (.long x2), .second, .val (.int x3), .val (.int ((x0 &&& (2147483647 : Int32)) % (3 : Int32))), .val (.int (0 : Int32)), .val (.ref b10), .val (.int (own_f_rm2 (f ((x0 &&& (2147483647 : Int32)) % (3 : Int32)).toInt.toNat))), .val (.int (own_f_rm2 (f (((x0 &&& (2147483647 : Int32)) % (3 : Int32)).toInt.toNat + 1)))), .val (.int (own_f_rm2 (f (((x0 &&& (2147483647 : Int32)) % (3 : Int32)).toInt.toNat + 2)))), .val (.int (own_f_rm2 (f (((x0 &&& (2147483647 : Int32)) % (3 : Int32)).toInt.toNat + 3)))), .val (.int (0 : Int32)), .val (.int (0 : Int32)), .unset]) at_191 rfl rfl ?_
    refine Go.goto C X26 (pc' := 276) at_193 (by decide) (by decide) ?_
    refine Go.iload C X26 (pc' := 278) at_276 rfl rfl ?_
    refine Go.ifYes C X26 (pc' := 285) at_278 ((if0 _ _).trans (teq (by decide)).1) (by decide) (by decide) ?_
    refine Go.iload C X26 (pc' := 287) at_285 rfl rfl ?_
    refine Go.istore C X26 (pc' := 289) (Ls' := #[.val (.int x0), .val (.int x1), .val (.long x2), .second, .val (.int x3), .val (.int ((x0 &&& (2147483647 : Int32)) % (3 : Int32))), .val (.int (0 : Int32)), .val (.ref b10), .val (.int (own_f_rm2 (f ((x0 &&& (2147483647 : Int32)) % (3 : Int32)).toInt.toNat))), .val (.int (own_f_rm2 (f (((x0 &&& (2147483647 : Int32)) % (3 : Int32)).toInt.toNat + 1)))), .val (.int (own_f_rm2 (f (((x0 &&& (2147483647 : Int32)) % (3 : Int32)).toInt.toNat + 2)))), .val (.int (own_f_rm2 (f (((x0 &&& (2147483647 : Int32)) % (3 : Int32)).toInt.toNat + 3)))), .val (.int (0 : Int32)), .val (.int (0 : Int32)), .val (.int (0 : Int32))]) at_287 rfl rfl ?_
    refine Go.aload C X26 (pc' := 291) at_289 rfl rfl rfl ?_
    refine Go.iload C X26 (pc' := 293) at_291 rfl rfl ?_
    refine Go.iload C X26 (pc' := 295) at_293 rfl rfl ?_
    refine Go.callS C X26 (pc' := 298) (W := 0) (argsL := [(.ref b10), (.int ((x0 &&& (2147483647 : Int32)) % (3 : Int32))), (.int (0 : Int32))]) (rest := []) (rm3 l Z a0 hw b10 ((x0 &&& (2147483647 : Int32)) % (3 : Int32)) (0 : Int32) 6 f h22 n0 X26.sz A88 (own_at x0).1 (by decide) (by have := own_at x0; have e : (0 : Int32).toInt = 0 := rfl; omega) (by decide)) (hw _ (List.mem_of_getElem? (i := 10) rfl)) (hw _ (List.mem_of_getElem? (i := 11) rfl)) (hw _ (List.mem_of_getElem? (i := 12) rfl)) (hw _ (List.mem_of_getElem? (i := 13) rfl)) (by decide) rfl rfl (lenOf own_pd2 rfl) rfl (Nat.le_of_eq rfl) (by decide) (by decide) (by decide) (by decide) at_295 rfl (fun _ _ q => Nat.le_of_eq (congrArg Array.size q.2)) (fun T28 h28 v28 X28 P28 => ?_)
    obtain ⟨rfl, rfl⟩ := P28
    show Go p e below s n0 _ _ _ T28 (mkF m 298 #[.val (.int x0), .val (.int x1), .val (.long x2), .second, .val (.int x3), .val (.int ((x0 &&& (2147483647 : Int32)) % (3 : Int32))), .val (.int (0 : Int32)), .val (.ref b10), .val (.int (own_f_rm2 (f ((x0 &&& (2147483647 : Int32)) % (3 : Int32)).toInt.toNat))), .val (.int (own_f_rm2 (f (((x0 &&& (2147483647 : Int32)) % (3 : Int32)).toInt.toNat + 1)))), .val (.int (own_f_rm2 (f (((x0 &&& (2147483647 : Int32)) % (3 : Int32)).toInt.toNat + 2)))), .val (.int (own_f_rm2 (f (((x0 &&& (2147483647 : Int32)) % (3 : Int32)).toInt.toNat + 3)))), .val (.int (0 : Int32)), .val (.int (0 : Int32)), .val (.int (0 : Int32))] [(.int (own_g f ((x0 &&& (2147483647 : Int32)) % (3 : Int32)).toInt.toNat (0 : Int32).toInt.toNat 0))])
    refine Go.iload C X28 (pc' := 300) at_298 rfl rfl ?_
    refine Go.icmpNo C X28 (pc' := 303) at_300 (teq (by show own_g f ((x0 &&& (2147483647 : Int32)) % (3 : Int32)).toInt.toNat 0 0 = _; rfl)).2 rfl ?_
    refine Go.iconst C X28 (pc' := 304) (v := (1 : Int32)) at_303 rfl rfl ?_
    refine Go.goto C X28 (pc' := 308) at_304 (by decide) (by decide) ?_
    exact Go.retZ (t := .boolean) C X28 (z' := (1 : Int32)) (by decide) at_308 rfl (by decide) (by decide)
  · rw [q27]
    refine Go.iload C X26 (pc' := 136) at_134 rfl rfl ?_
    refine Go.iconst C X26 (pc' := 137) (v := (1 : Int32)) at_136 rfl rfl ?_
    refine Go.icmpNo C X26 (pc' := 140) at_137 (flt (by decide)).1 rfl ?_
    refine Go.iload C X26 (pc' := 142) at_140 rfl rfl ?_
    by_cases c29 : (own_f_rm2 (f ((x0 &&& (2147483647 : Int32)) % (3 : Int32)).toInt.toNat)) < (0 : Int32)
    · refine Go.ifYes C X26 (pc' := 178) at_142 ((if0 _ _).trans (tlt c29).1) (by decide) (by decide) ?_
      refine Go.iconst C X26 (pc' := 179) (v := (1 : Int32)) at_178 rfl rfl ?_
      refine Go.goto C X26 (pc' := 183) at_179 (by decide) (by decide) ?_
      refine Go.istore C X26 (pc' := 185) (Ls' := #[.val (.int x0), .val (.int x1), .val (.long x2), .second, .val (.int x3), .val (.int ((x0 &&& (2147483647 : Int32)) % (3 : Int32))), .val (.int (1 : Int32)), .val (.ref b10), .val (.int (own_f_rm2 (f ((x0 &&& (2147483647 : Int32)) % (3 : Int32)).toInt.toNat))), .val (.int (own_f_rm2 (f (((x0 &&& (2147483647 : Int32)) % (3 : Int32)).toInt.toNat + 1)))), .val (.int (own_f_rm2 (f (((x0 &&& (2147483647 : Int32)) % (3 : Int32)).toInt.toNat + 2)))), .val (.int (own_f_rm2 (f (((x0 &&& (2147483647 : Int32)) % (3 : Int32)).toInt.toNat + 3)))), .val (.int (1 : Int32)), .unset, .unset]) at_183 rfl rfl ?_
      refine Go.iload C X26 (pc' := 187) at_185 rfl rfl ?_
      refine Go.ifYes C X26 (pc' := 196) at_187 ((if0 _ _).trans (feq (by decide)).2) (by decide) (by decide) ?_
      refine Go.iload C X26 (pc' := 198) at_196 rfl rfl ?_
      refine Go.iconst C X26 (pc' := 199) (v := (1 : Int32)) at_198 rfl rfl ?_
      refine Go.icmpNo C X26 (pc' := 202) at_199 (teq (by decide)).2 rfl ?_
      refine Go.iload C X26 (pc' := 204) at_202 rfl rfl ?_
      refine Go.istore C X26 (pc' := 206) (Ls' := #[.val (.int x0), .val (.int x1), .val (.long x2), .second, .val (.int x3), .val (.int ((x0 &&& (2147483647 : Int32)) % (3 : Int32))), .val (.int (1 : Int32)), .val (.ref b10), .val (.int (own_f_rm2 (f ((x0 &&& (2147483647 : Int32)) % (3 : Int32)).toInt.toNat))), .val (.int (own_f_rm2 (f (((x0 &&& (2147483647 : Int32)) % (3 : Int32)).toInt.toNat + 1)))), .val (.int (own_f_rm2 (f (((x0 &&& (2147483647 : Int32)) % (3 : Int32)).toInt.toNat + 2)))), .val (.int (own_f_rm2 (f (((x0 &&& (2147483647 : Int32)) % (3 : Int32)).toInt.toNat + 3)))), .val (.int (1 : Int32)), .val (.int (own_f_rm2 (f ((x0 &&& (2147483647 : Int32)) % (3 : Int32)).toInt.toNat))), .unset]) at_204 rfl rfl ?_
      refine Go.goto C X26 (pc' := 276) at_206 (by decide) (by decide) ?_
      refine Go.iload C X26 (pc' := 278) at_276 rfl rfl ?_
      refine Go.ifNo C X26 (pc' := 281) at_278 ((if0 _ _).trans (feq (by decide)).1) rfl ?_
      refine Go.iconst C X26 (pc' := 282) (v := (-1 : Int32)) at_281 rfl rfl ?_
      refine Go.goto C X26 (pc' := 287) at_282 (by decide) (by decide) ?_
      refine Go.istore C X26 (pc' := 289) (Ls' := #[.val (.int x0), .val (.int x1), .val (.long x2), .second, .val (.int x3), .val (.int ((x0 &&& (2147483647 : Int32)) % (3 : Int32))), .val (.int (1 : Int32)), .val (.ref b10), .val (.int (own_f_rm2 (f ((x0 &&& (2147483647 : Int32)) % (3 : Int32)).toInt.toNat))), .val (.int (own_f_rm2 (f (((x0 &&& (2147483647 : Int32)) % (3 : Int32)).toInt.toNat + 1)))), .val (.int (own_f_rm2 (f (((x0 &&& (2147483647 : Int32)) % (3 : Int32)).toInt.toNat + 2)))), .val (.int (own_f_rm2 (f (((x0 &&& (2147483647 : Int32)) % (3 : Int32)).toInt.toNat + 3)))), .val (.int (1 : Int32)), .val (.int (own_f_rm2 (f ((x0 &&& (2147483647 : Int32)) % (3 : Int32)).toInt.toNat))), .val (.int (-1 : Int32))]) at_287 rfl rfl ?_
      refine Go.aload C X26 (pc' := 291) at_289 rfl rfl rfl ?_
      refine Go.iload C X26 (pc' := 293) at_291 rfl rfl ?_
      refine Go.iload C X26 (pc' := 295) at_293 rfl rfl ?_
      refine Go.callS C X26 (pc' := 298) (W := 0) (argsL := [(.ref b10), (.int ((x0 &&& (2147483647 : Int32)) % (3 : Int32))), (.int (1 : Int32))]) (rest := []) (rm3 l Z a0 hw b10 ((x0 &&& (2147483647 : Int32)) % (3 : Int32)) (1 : Int32) 6 f h22 n0 X26.sz A88 (own_at x0).1 (by decide) (by have := own_at x0; have e : (1 : Int32).toInt = 1 := rfl; omega) (by decide)) (hw _ (List.mem_of_getElem? (i := 10) rfl)) (hw _ (List.mem_of_getElem? (i := 11) rfl)) (hw _ (List.mem_of_getElem? (i := 12) rfl)) (hw _ (List.mem_of_getElem? (i := 13) rfl)) (by decide) rfl rfl (lenOf own_pd2 rfl) rfl (Nat.le_of_eq rfl) (by decide) (by decide) (by decide) (by decide) at_295 rfl (fun _ _ q => Nat.le_of_eq (congrArg Array.size q.2)) (fun T30 h30 v30 X30 P30 => ?_)
      obtain ⟨rfl, rfl⟩ := P30
      show Go p e below s n0 _ _ _ T30 (mkF m 298 #[.val (.int x0), .val (.int x1), .val (.long x2), .second, .val (.int x3), .val (.int ((x0 &&& (2147483647 : Int32)) % (3 : Int32))), .val (.int (1 : Int32)), .val (.ref b10), .val (.int (own_f_rm2 (f ((x0 &&& (2147483647 : Int32)) % (3 : Int32)).toInt.toNat))), .val (.int (own_f_rm2 (f (((x0 &&& (2147483647 : Int32)) % (3 : Int32)).toInt.toNat + 1)))), .val (.int (own_f_rm2 (f (((x0 &&& (2147483647 : Int32)) % (3 : Int32)).toInt.toNat + 2)))), .val (.int (own_f_rm2 (f (((x0 &&& (2147483647 : Int32)) % (3 : Int32)).toInt.toNat + 3)))), .val (.int (1 : Int32)), .val (.int (own_f_rm2 (f ((x0 &&& (2147483647 : Int32)) % (3 : Int32)).toInt.toNat))), .val (.int (-1 : Int32))] [(.int (own_g f ((x0 &&& (2147483647 : Int32)) % (3 : Int32)).toInt.toNat (1 : Int32).toInt.toNat 0))])
      refine Go.iload C X30 (pc' := 300) at_298 rfl rfl ?_
      refine Go.icmpNo C X30 (pc' := 303) at_300 (teq (by show own_g f ((x0 &&& (2147483647 : Int32)) % (3 : Int32)).toInt.toNat 1 0 = _; rw [own_g1 hf, if_pos c29])).2 rfl ?_
      refine Go.iconst C X30 (pc' := 304) (v := (1 : Int32)) at_303 rfl rfl ?_
      refine Go.goto C X30 (pc' := 308) at_304 (by decide) (by decide) ?_
      exact Go.retZ (t := .boolean) C X30 (z' := (1 : Int32)) (by decide) at_308 rfl (by decide) (by decide)
    · refine Go.ifNo C X26 (pc' := 145) at_142 ((if0 _ _).trans (flt c29).1) rfl ?_
      refine Go.iload C X26 (pc' := 147) at_145 rfl rfl ?_
      refine Go.iconst C X26 (pc' := 148) (v := (2 : Int32)) at_147 rfl rfl ?_
      refine Go.icmpYes C X26 (pc' := 156) at_148 (tlt (by decide)).1 (by decide) (by decide) ?_
      refine Go.iload C X26 (pc' := 158) at_156 rfl rfl ?_
      refine Go.iconst C X26 (pc' := 159) (v := (3 : Int32)) at_158 rfl rfl ?_
      refine Go.icmpYes C X26 (pc' := 167) at_159 (tlt (by decide)).1 (by decide) (by decide) ?_
      refine Go.iload C X26 (pc' := 169) at_167 rfl rfl ?_
      refine Go.iconst C X26 (pc' := 170) (v := (4 : Int32)) at_169 rfl rfl ?_
      refine Go.icmpYes C X26 (pc' := 182) at_170 (tlt (by decide)).1 (by decide) (by decide) ?_
      refine Go.iconst C X26 (pc' := 183) (v := (0 : Int32)) at_182 rfl rfl ?_
      refine Go.istore C X26 (pc' := 185) (Ls' := #[.val (.int x0), .val (.int x1), .val (.long x2), .second, .val (.int x3), .val (.int ((x0 &&& (2147483647 : Int32)) % (3 : Int32))), .val (.int (1 : Int32)), .val (.ref b10), .val (.int (own_f_rm2 (f ((x0 &&& (2147483647 : Int32)) % (3 : Int32)).toInt.toNat))), .val (.int (own_f_rm2 (f (((x0 &&& (2147483647 : Int32)) % (3 : Int32)).toInt.toNat + 1)))), .val (.int (own_f_rm2 (f (((x0 &&& (2147483647 : Int32)) % (3 : Int32)).toInt.toNat + 2)))), .val (.int (own_f_rm2 (f (((x0 &&& (2147483647 : Int32)) % (3 : Int32)).toInt.toNat + 3)))), .val (.int (0 : Int32)), .unset, .unset]) at_183 rfl rfl ?_
      refine Go.iload C X26 (pc' := 187) at_185 rfl rfl ?_
      refine Go.ifYes C X26 (pc' := 196) at_187 ((if0 _ _).trans (feq (by decide)).2) (by decide) (by decide) ?_
      refine Go.iload C X26 (pc' := 198) at_196 rfl rfl ?_
      refine Go.iconst C X26 (pc' := 199) (v := (1 : Int32)) at_198 rfl rfl ?_
      refine Go.icmpNo C X26 (pc' := 202) at_199 (teq (by decide)).2 rfl ?_
      refine Go.iload C X26 (pc' := 204) at_202 rfl rfl ?_
      refine Go.istore C X26 (pc' := 206) (Ls' := #[.val (.int x0), .val (.int x1), .val (.long x2), .second, .val (.int x3), .val (.int ((x0 &&& (2147483647 : Int32)) % (3 : Int32))), .val (.int (1 : Int32)), .val (.ref b10), .val (.int (own_f_rm2 (f ((x0 &&& (2147483647 : Int32)) % (3 : Int32)).toInt.toNat))), .val (.int (own_f_rm2 (f (((x0 &&& (2147483647 : Int32)) % (3 : Int32)).toInt.toNat + 1)))), .val (.int (own_f_rm2 (f (((x0 &&& (2147483647 : Int32)) % (3 : Int32)).toInt.toNat + 2)))), .val (.int (own_f_rm2 (f (((x0 &&& (2147483647 : Int32)) % (3 : Int32)).toInt.toNat + 3)))), .val (.int (0 : Int32)), .val (.int (own_f_rm2 (f ((x0 &&& (2147483647 : Int32)) % (3 : Int32)).toInt.toNat))), .unset]) at_204 rfl rfl ?_
      refine Go.goto C X26 (pc' := 276) at_206 (by decide) (by decide) ?_
      refine Go.iload C X26 (pc' := 278) at_276 rfl rfl ?_
      refine Go.ifYes C X26 (pc' := 285) at_278 ((if0 _ _).trans (teq (by decide)).1) (by decide) (by decide) ?_
      refine Go.iload C X26 (pc' := 287) at_285 rfl rfl ?_
      refine Go.istore C X26 (pc' := 289) (Ls' := #[.val (.int x0), .val (.int x1), .val (.long x2), .second, .val (.int x3), .val (.int ((x0 &&& (2147483647 : Int32)) % (3 : Int32))), .val (.int (1 : Int32)), .val (.ref b10), .val (.int (own_f_rm2 (f ((x0 &&& (2147483647 : Int32)) % (3 : Int32)).toInt.toNat))), .val (.int (own_f_rm2 (f (((x0 &&& (2147483647 : Int32)) % (3 : Int32)).toInt.toNat + 1)))), .val (.int (own_f_rm2 (f (((x0 &&& (2147483647 : Int32)) % (3 : Int32)).toInt.toNat + 2)))), .val (.int (own_f_rm2 (f (((x0 &&& (2147483647 : Int32)) % (3 : Int32)).toInt.toNat + 3)))), .val (.int (0 : Int32)), .val (.int (own_f_rm2 (f ((x0 &&& (2147483647 : Int32)) % (3 : Int32)).toInt.toNat))), .val (.int (own_f_rm2 (f ((x0 &&& (2147483647 : Int32)) % (3 : Int32)).toInt.toNat)))]) at_287 rfl rfl ?_
      refine Go.aload C X26 (pc' := 291) at_289 rfl rfl rfl ?_
      refine Go.iload C X26 (pc' := 293) at_291 rfl rfl ?_
      refine Go.iload C X26 (pc' := 295) at_293 rfl rfl ?_
      refine Go.callS C X26 (pc' := 298) (W := 0) (argsL := [(.ref b10), (.int ((x0 &&& (2147483647 : Int32)) % (3 : Int32))), (.int (1 : Int32))]) (rest := []) (rm3 l Z a0 hw b10 ((x0 &&& (2147483647 : Int32)) % (3 : Int32)) (1 : Int32) 6 f h22 n0 X26.sz A88 (own_at x0).1 (by decide) (by have := own_at x0; have e : (1 : Int32).toInt = 1 := rfl; omega) (by decide)) (hw _ (List.mem_of_getElem? (i := 10) rfl)) (hw _ (List.mem_of_getElem? (i := 11) rfl)) (hw _ (List.mem_of_getElem? (i := 12) rfl)) (hw _ (List.mem_of_getElem? (i := 13) rfl)) (by decide) rfl rfl (lenOf own_pd2 rfl) rfl (Nat.le_of_eq rfl) (by decide) (by decide) (by decide) (by decide) at_295 rfl (fun _ _ q => Nat.le_of_eq (congrArg Array.size q.2)) (fun T31 h31 v31 X31 P31 => ?_)
      obtain ⟨rfl, rfl⟩ := P31
      show Go p e below s n0 _ _ _ T31 (mkF m 298 #[.val (.int x0), .val (.int x1), .val (.long x2), .second, .val (.int x3), .val (.int ((x0 &&& (2147483647 : Int32)) % (3 : Int32))), .val (.int (1 : Int32)), .val (.ref b10), .val (.int (own_f_rm2 (f ((x0 &&& (2147483647 : Int32)) % (3 : Int32)).toInt.toNat))), .val (.int (own_f_rm2 (f (((x0 &&& (2147483647 : Int32)) % (3 : Int32)).toInt.toNat + 1)))), .val (.int (own_f_rm2 (f (((x0 &&& (2147483647 : Int32)) % (3 : Int32)).toInt.toNat + 2)))), .val (.int (own_f_rm2 (f (((x0 &&& (2147483647 : Int32)) % (3 : Int32)).toInt.toNat + 3)))), .val (.int (0 : Int32)), .val (.int (own_f_rm2 (f ((x0 &&& (2147483647 : Int32)) % (3 : Int32)).toInt.toNat))), .val (.int (own_f_rm2 (f ((x0 &&& (2147483647 : Int32)) % (3 : Int32)).toInt.toNat)))] [(.int (own_g f ((x0 &&& (2147483647 : Int32)) % (3 : Int32)).toInt.toNat (1 : Int32).toInt.toNat 0))])
      refine Go.iload C X31 (pc' := 300) at_298 rfl rfl ?_
      refine Go.icmpNo C X31 (pc' := 303) at_300 (teq (by show own_g f ((x0 &&& (2147483647 : Int32)) % (3 : Int32)).toInt.toNat 1 0 = _; rw [own_g1 hf, if_neg c29]; exact own_r1 _)).2 rfl ?_
      refine Go.iconst C X31 (pc' := 304) (v := (1 : Int32)) at_303 rfl rfl ?_
      refine Go.goto C X31 (pc' := 308) at_304 (by decide) (by decide) ?_
      exact Go.retZ (t := .boolean) C X31 (z' := (1 : Int32)) (by decide) at_308 rfl (by decide) (by decide)
  · rw [q27]
    refine Go.iload C X26 (pc' := 136) at_134 rfl rfl ?_
    refine Go.iconst C X26 (pc' := 137) (v := (1 : Int32)) at_136 rfl rfl ?_
    refine Go.icmpNo C X26 (pc' := 140) at_137 (flt (by decide)).1 rfl ?_
    refine Go.iload C X26 (pc' := 142) at_140 rfl rfl ?_
    by_cases c32 : (own_f_rm2 (f ((x0 &&& (2147483647 : Int32)) % (3 : Int32)).toInt.toNat)) < (0 : Int32)
    · refine Go.ifYes C X26 (pc' := 178) at_142 ((if0 _ _).trans (tlt c32).1) (by decide) (by decide) ?_
      refine Go.iconst C X26 (pc' := 179) (v := (1 : Int32)) at_178 rfl rfl ?_
      refine Go.goto C X26 (pc' := 183) at_179 (by decide) (by decide) ?_
      refine Go.istore C X26 (pc' := 185) (Ls' := #[.val (.int x0), .val (.int x1), .val (.long x2), .second, .val (.int x3), .val (.int ((x0 &&& (2147483647 : Int32)) % (3 : Int32))), .val (.int (2 : Int32)), .val (.ref b10), .val (.int (own_f_rm2 (f ((x0 &&& (2147483647 : Int32)) % (3 : Int32)).toInt.toNat))), .val (.int (own_f_rm2 (f (((x0 &&& (2147483647 : Int32)) % (3 : Int32)).toInt.toNat + 1)))), .val (.int (own_f_rm2 (f (((x0 &&& (2147483647 : Int32)) % (3 : Int32)).toInt.toNat + 2)))), .val (.int (own_f_rm2 (f (((x0 &&& (2147483647 : Int32)) % (3 : Int32)).toInt.toNat + 3)))), .val (.int (1 : Int32)), .unset, .unset]) at_183 rfl rfl ?_
      refine Go.iload C X26 (pc' := 187) at_185 rfl rfl ?_
      refine Go.ifYes C X26 (pc' := 196) at_187 ((if0 _ _).trans (feq (by decide)).2) (by decide) (by decide) ?_
      refine Go.iload C X26 (pc' := 198) at_196 rfl rfl ?_
      refine Go.iconst C X26 (pc' := 199) (v := (1 : Int32)) at_198 rfl rfl ?_
      refine Go.icmpYes C X26 (pc' := 209) at_199 (feq (by decide)).2 (by decide) (by decide) ?_
      refine Go.iload C X26 (pc' := 211) at_209 rfl rfl ?_
      refine Go.iconst C X26 (pc' := 212) (v := (2 : Int32)) at_211 rfl rfl ?_
      refine Go.icmpNo C X26 (pc' := 215) at_212 (teq (by decide)).2 rfl ?_
      refine Go.iload C X26 (pc' := 217) at_215 rfl rfl ?_
      refine Go.bipush C X26 (pc' := 219) (v := (10 : Int32)) at_217 rfl rfl ?_
      refine Go.imul C X26 (pc' := 220) at_219 rfl ?_
      refine Go.iload C X26 (pc' := 222) at_220 rfl rfl ?_
      refine Go.iadd C X26 (pc' := 223) at_222 rfl ?_
      refine Go.istore C X26 (pc' := 225) (Ls' := #[.val (.int x0), .val (.int x1), .val (.long x2), .second, .val (.int x3), .val (.int ((x0 &&& (2147483647 : Int32)) % (3 : Int32))), .val (.int (2 : Int32)), .val (.ref b10), .val (.int (own_f_rm2 (f ((x0 &&& (2147483647 : Int32)) % (3 : Int32)).toInt.toNat))), .val (.int (own_f_rm2 (f (((x0 &&& (2147483647 : Int32)) % (3 : Int32)).toInt.toNat + 1)))), .val (.int (own_f_rm2 (f (((x0 &&& (2147483647 : Int32)) % (3 : Int32)).toInt.toNat + 2)))), .val (.int (own_f_rm2 (f (((x0 &&& (2147483647 : Int32)) % (3 : Int32)).toInt.toNat + 3)))), .val (.int (1 : Int32)), .val (.int (((own_f_rm2 (f ((x0 &&& (2147483647 : Int32)) % (3 : Int32)).toInt.toNat)) * (10 : Int32)) + (own_f_rm2 (f (((x0 &&& (2147483647 : Int32)) % (3 : Int32)).toInt.toNat + 1))))), .unset]) at_223 rfl rfl ?_
      refine Go.goto C X26 (pc' := 276) at_225 (by decide) (by decide) ?_
      refine Go.iload C X26 (pc' := 278) at_276 rfl rfl ?_
      refine Go.ifNo C X26 (pc' := 281) at_278 ((if0 _ _).trans (feq (by decide)).1) rfl ?_
      refine Go.iconst C X26 (pc' := 282) (v := (-1 : Int32)) at_281 rfl rfl ?_
      refine Go.goto C X26 (pc' := 287) at_282 (by decide) (by decide) ?_
      refine Go.istore C X26 (pc' := 289) (Ls' := #[.val (.int x0), .val (.int x1), .val (.long x2), .second, .val (.int x3), .val (.int ((x0 &&& (2147483647 : Int32)) % (3 : Int32))), .val (.int (2 : Int32)), .val (.ref b10), .val (.int (own_f_rm2 (f ((x0 &&& (2147483647 : Int32)) % (3 : Int32)).toInt.toNat))), .val (.int (own_f_rm2 (f (((x0 &&& (2147483647 : Int32)) % (3 : Int32)).toInt.toNat + 1)))), .val (.int (own_f_rm2 (f (((x0 &&& (2147483647 : Int32)) % (3 : Int32)).toInt.toNat + 2)))), .val (.int (own_f_rm2 (f (((x0 &&& (2147483647 : Int32)) % (3 : Int32)).toInt.toNat + 3)))), .val (.int (1 : Int32)), .val (.int (((own_f_rm2 (f ((x0 &&& (2147483647 : Int32)) % (3 : Int32)).toInt.toNat)) * (10 : Int32)) + (own_f_rm2 (f (((x0 &&& (2147483647 : Int32)) % (3 : Int32)).toInt.toNat + 1))))), .val (.int (-1 : Int32))]) at_287 rfl rfl ?_
      refine Go.aload C X26 (pc' := 291) at_289 rfl rfl rfl ?_
      refine Go.iload C X26 (pc' := 293) at_291 rfl rfl ?_
      refine Go.iload C X26 (pc' := 295) at_293 rfl rfl ?_
      refine Go.callS C X26 (pc' := 298) (W := 0) (argsL := [(.ref b10), (.int ((x0 &&& (2147483647 : Int32)) % (3 : Int32))), (.int (2 : Int32))]) (rest := []) (rm3 l Z a0 hw b10 ((x0 &&& (2147483647 : Int32)) % (3 : Int32)) (2 : Int32) 6 f h22 n0 X26.sz A88 (own_at x0).1 (by decide) (by have := own_at x0; have e : (2 : Int32).toInt = 2 := rfl; omega) (by decide)) (hw _ (List.mem_of_getElem? (i := 10) rfl)) (hw _ (List.mem_of_getElem? (i := 11) rfl)) (hw _ (List.mem_of_getElem? (i := 12) rfl)) (hw _ (List.mem_of_getElem? (i := 13) rfl)) (by decide) rfl rfl (lenOf own_pd2 rfl) rfl (Nat.le_of_eq rfl) (by decide) (by decide) (by decide) (by decide) at_295 rfl (fun _ _ q => Nat.le_of_eq (congrArg Array.size q.2)) (fun T33 h33 v33 X33 P33 => ?_)
      obtain ⟨rfl, rfl⟩ := P33
      show Go p e below s n0 _ _ _ T33 (mkF m 298 #[.val (.int x0), .val (.int x1), .val (.long x2), .second, .val (.int x3), .val (.int ((x0 &&& (2147483647 : Int32)) % (3 : Int32))), .val (.int (2 : Int32)), .val (.ref b10), .val (.int (own_f_rm2 (f ((x0 &&& (2147483647 : Int32)) % (3 : Int32)).toInt.toNat))), .val (.int (own_f_rm2 (f (((x0 &&& (2147483647 : Int32)) % (3 : Int32)).toInt.toNat + 1)))), .val (.int (own_f_rm2 (f (((x0 &&& (2147483647 : Int32)) % (3 : Int32)).toInt.toNat + 2)))), .val (.int (own_f_rm2 (f (((x0 &&& (2147483647 : Int32)) % (3 : Int32)).toInt.toNat + 3)))), .val (.int (1 : Int32)), .val (.int (((own_f_rm2 (f ((x0 &&& (2147483647 : Int32)) % (3 : Int32)).toInt.toNat)) * (10 : Int32)) + (own_f_rm2 (f (((x0 &&& (2147483647 : Int32)) % (3 : Int32)).toInt.toNat + 1))))), .val (.int (-1 : Int32))] [(.int (own_g f ((x0 &&& (2147483647 : Int32)) % (3 : Int32)).toInt.toNat (2 : Int32).toInt.toNat 0))])
      refine Go.iload C X33 (pc' := 300) at_298 rfl rfl ?_
      refine Go.icmpNo C X33 (pc' := 303) at_300 (teq (by show own_g f ((x0 &&& (2147483647 : Int32)) % (3 : Int32)).toInt.toNat 2 0 = _; rw [own_g1 hf, if_pos c32])).2 rfl ?_
      refine Go.iconst C X33 (pc' := 304) (v := (1 : Int32)) at_303 rfl rfl ?_
      refine Go.goto C X33 (pc' := 308) at_304 (by decide) (by decide) ?_
      exact Go.retZ (t := .boolean) C X33 (z' := (1 : Int32)) (by decide) at_308 rfl (by decide) (by decide)
    · refine Go.ifNo C X26 (pc' := 145) at_142 ((if0 _ _).trans (flt c32).1) rfl ?_
      refine Go.iload C X26 (pc' := 147) at_145 rfl rfl ?_
      refine Go.iconst C X26 (pc' := 148) (v := (2 : Int32)) at_147 rfl rfl ?_
      refine Go.icmpNo C X26 (pc' := 151) at_148 (flt (by decide)).1 rfl ?_
      refine Go.iload C X26 (pc' := 153) at_151 rfl rfl ?_
      by_cases c34 : (own_f_rm2 (f (((x0 &&& (2147483647 : Int32)) % (3 : Int32)).toInt.toNat + 1))) < (0 : Int32)
      · refine Go.ifYes C X26 (pc' := 178) at_153 ((if0 _ _).trans (tlt c34).1) (by decide) (by decide) ?_
        refine Go.iconst C X26 (pc' := 179) (v := (1 : Int32)) at_178 rfl rfl ?_
        refine Go.goto C X26 (pc' := 183) at_179 (by decide) (by decide) ?_
        refine Go.istore C X26 (pc' := 185) (Ls' := #[.val (.int x0), .val (.int x1), .val (.long x2), .second, .val (.int x3), .val (.int ((x0 &&& (2147483647 : Int32)) % (3 : Int32))), .val (.int (2 : Int32)), .val (.ref b10), .val (.int (own_f_rm2 (f ((x0 &&& (2147483647 : Int32)) % (3 : Int32)).toInt.toNat))), .val (.int (own_f_rm2 (f (((x0 &&& (2147483647 : Int32)) % (3 : Int32)).toInt.toNat + 1)))), .val (.int (own_f_rm2 (f (((x0 &&& (2147483647 : Int32)) % (3 : Int32)).toInt.toNat + 2)))), .val (.int (own_f_rm2 (f (((x0 &&& (2147483647 : Int32)) % (3 : Int32)).toInt.toNat + 3)))), .val (.int (1 : Int32)), .unset, .unset]) at_183 rfl rfl ?_
        refine Go.iload C X26 (pc' := 187) at_185 rfl rfl ?_
        refine Go.ifYes C X26 (pc' := 196) at_187 ((if0 _ _).trans (feq (by decide)).2) (by decide) (by decide) ?_
        refine Go.iload C X26 (pc' := 198) at_196 rfl rfl ?_
        refine Go.iconst C X26 (pc' := 199) (v := (1 : Int32)) at_198 rfl rfl ?_
        refine Go.icmpYes C X26 (pc' := 209) at_199 (feq (by decide)).2 (by decide) (by decide) ?_
        refine Go.iload C X26 (pc' := 211) at_209 rfl rfl ?_
        refine Go.iconst C X26 (pc' := 212) (v := (2 : Int32)) at_211 rfl rfl ?_
        refine Go.icmpNo C X26 (pc' := 215) at_212 (teq (by decide)).2 rfl ?_
        refine Go.iload C X26 (pc' := 217) at_215 rfl rfl ?_
        refine Go.bipush C X26 (pc' := 219) (v := (10 : Int32)) at_217 rfl rfl ?_
        refine Go.imul C X26 (pc' := 220) at_219 rfl ?_
        refine Go.iload C X26 (pc' := 222) at_220 rfl rfl ?_
        refine Go.iadd C X26 (pc' := 223) at_222 rfl ?_
        refine Go.istore C X26 (pc' := 225) (Ls' := #[.val (.int x0), .val (.int x1), .val (.long x2), .second, .val (.int x3), .val (.int ((x0 &&& (2147483647 : Int32)) % (3 : Int32))), .val (.int (2 : Int32)), .val (.ref b10), .val (.int (own_f_rm2 (f ((x0 &&& (2147483647 : Int32)) % (3 : Int32)).toInt.toNat))), .val (.int (own_f_rm2 (f (((x0 &&& (2147483647 : Int32)) % (3 : Int32)).toInt.toNat + 1)))), .val (.int (own_f_rm2 (f (((x0 &&& (2147483647 : Int32)) % (3 : Int32)).toInt.toNat + 2)))), .val (.int (own_f_rm2 (f (((x0 &&& (2147483647 : Int32)) % (3 : Int32)).toInt.toNat + 3)))), .val (.int (1 : Int32)), .val (.int (((own_f_rm2 (f ((x0 &&& (2147483647 : Int32)) % (3 : Int32)).toInt.toNat)) * (10 : Int32)) + (own_f_rm2 (f (((x0 &&& (2147483647 : Int32)) % (3 : Int32)).toInt.toNat + 1))))), .unset]) at_223 rfl rfl ?_
        refine Go.goto C X26 (pc' := 276) at_225 (by decide) (by decide) ?_
        refine Go.iload C X26 (pc' := 278) at_276 rfl rfl ?_
        refine Go.ifNo C X26 (pc' := 281) at_278 ((if0 _ _).trans (feq (by decide)).1) rfl ?_
        refine Go.iconst C X26 (pc' := 282) (v := (-1 : Int32)) at_281 rfl rfl ?_
        refine Go.goto C X26 (pc' := 287) at_282 (by decide) (by decide) ?_
        refine Go.istore C X26 (pc' := 289) (Ls' := #[.val (.int x0), .val (.int x1), .val (.long x2), .second, .val (.int x3), .val (.int ((x0 &&& (2147483647 : Int32)) % (3 : Int32))), .val (.int (2 : Int32)), .val (.ref b10), .val (.int (own_f_rm2 (f ((x0 &&& (2147483647 : Int32)) % (3 : Int32)).toInt.toNat))), .val (.int (own_f_rm2 (f (((x0 &&& (2147483647 : Int32)) % (3 : Int32)).toInt.toNat + 1)))), .val (.int (own_f_rm2 (f (((x0 &&& (2147483647 : Int32)) % (3 : Int32)).toInt.toNat + 2)))), .val (.int (own_f_rm2 (f (((x0 &&& (2147483647 : Int32)) % (3 : Int32)).toInt.toNat + 3)))), .val (.int (1 : Int32)), .val (.int (((own_f_rm2 (f ((x0 &&& (2147483647 : Int32)) % (3 : Int32)).toInt.toNat)) * (10 : Int32)) + (own_f_rm2 (f (((x0 &&& (2147483647 : Int32)) % (3 : Int32)).toInt.toNat + 1))))), .val (.int (-1 : Int32))]) at_287 rfl rfl ?_
        refine Go.aload C X26 (pc' := 291) at_289 rfl rfl rfl ?_
        refine Go.iload C X26 (pc' := 293) at_291 rfl rfl ?_
        refine Go.iload C X26 (pc' := 295) at_293 rfl rfl ?_
        refine Go.callS C X26 (pc' := 298) (W := 0) (argsL := [(.ref b10), (.int ((x0 &&& (2147483647 : Int32)) % (3 : Int32))), (.int (2 : Int32))]) (rest := []) (rm3 l Z a0 hw b10 ((x0 &&& (2147483647 : Int32)) % (3 : Int32)) (2 : Int32) 6 f h22 n0 X26.sz A88 (own_at x0).1 (by decide) (by have := own_at x0; have e : (2 : Int32).toInt = 2 := rfl; omega) (by decide)) (hw _ (List.mem_of_getElem? (i := 10) rfl)) (hw _ (List.mem_of_getElem? (i := 11) rfl)) (hw _ (List.mem_of_getElem? (i := 12) rfl)) (hw _ (List.mem_of_getElem? (i := 13) rfl)) (by decide) rfl rfl (lenOf own_pd2 rfl) rfl (Nat.le_of_eq rfl) (by decide) (by decide) (by decide) (by decide) at_295 rfl (fun _ _ q => Nat.le_of_eq (congrArg Array.size q.2)) (fun T35 h35 v35 X35 P35 => ?_)
        obtain ⟨rfl, rfl⟩ := P35
        show Go p e below s n0 _ _ _ T35 (mkF m 298 #[.val (.int x0), .val (.int x1), .val (.long x2), .second, .val (.int x3), .val (.int ((x0 &&& (2147483647 : Int32)) % (3 : Int32))), .val (.int (2 : Int32)), .val (.ref b10), .val (.int (own_f_rm2 (f ((x0 &&& (2147483647 : Int32)) % (3 : Int32)).toInt.toNat))), .val (.int (own_f_rm2 (f (((x0 &&& (2147483647 : Int32)) % (3 : Int32)).toInt.toNat + 1)))), .val (.int (own_f_rm2 (f (((x0 &&& (2147483647 : Int32)) % (3 : Int32)).toInt.toNat + 2)))), .val (.int (own_f_rm2 (f (((x0 &&& (2147483647 : Int32)) % (3 : Int32)).toInt.toNat + 3)))), .val (.int (1 : Int32)), .val (.int (((own_f_rm2 (f ((x0 &&& (2147483647 : Int32)) % (3 : Int32)).toInt.toNat)) * (10 : Int32)) + (own_f_rm2 (f (((x0 &&& (2147483647 : Int32)) % (3 : Int32)).toInt.toNat + 1))))), .val (.int (-1 : Int32))] [(.int (own_g f ((x0 &&& (2147483647 : Int32)) % (3 : Int32)).toInt.toNat (2 : Int32).toInt.toNat 0))])
        refine Go.iload C X35 (pc' := 300) at_298 rfl rfl ?_
        refine Go.icmpNo C X35 (pc' := 303) at_300 (teq (by show own_g f ((x0 &&& (2147483647 : Int32)) % (3 : Int32)).toInt.toNat 2 0 = _; rw [own_g1 hf, if_neg c32, own_g1 hf, if_pos c34])).2 rfl ?_
        refine Go.iconst C X35 (pc' := 304) (v := (1 : Int32)) at_303 rfl rfl ?_
        refine Go.goto C X35 (pc' := 308) at_304 (by decide) (by decide) ?_
        exact Go.retZ (t := .boolean) C X35 (z' := (1 : Int32)) (by decide) at_308 rfl (by decide) (by decide)
      · refine Go.ifNo C X26 (pc' := 156) at_153 ((if0 _ _).trans (flt c34).1) rfl ?_
        refine Go.iload C X26 (pc' := 158) at_156 rfl rfl ?_
        refine Go.iconst C X26 (pc' := 159) (v := (3 : Int32)) at_158 rfl rfl ?_
        refine Go.icmpYes C X26 (pc' := 167) at_159 (tlt (by decide)).1 (by decide) (by decide) ?_
        refine Go.iload C X26 (pc' := 169) at_167 rfl rfl ?_
        refine Go.iconst C X26 (pc' := 170) (v := (4 : Int32)) at_169 rfl rfl ?_
        refine Go.icmpYes C X26 (pc' := 182) at_170 (tlt (by decide)).1 (by decide) (by decide) ?_
        refine Go.iconst C X26 (pc' := 183) (v := (0 : Int32)) at_182 rfl rfl ?_
        refine Go.istore C X26 (pc' := 185) (Ls' := #[.val (.int x0), .val (.int x1), .val (.long x2), .second, .val (.int x3), .val (.int ((x0 &&& (2147483647 : Int32)) % (3 : Int32))), .val (.int (2 : Int32)), .val (.ref b10), .val (.int (own_f_rm2 (f ((x0 &&& (2147483647 : Int32)) % (3 : Int32)).toInt.toNat))), .val (.int (own_f_rm2 (f (((x0 &&& (2147483647 : Int32)) % (3 : Int32)).toInt.toNat + 1)))), .val (.int (own_f_rm2 (f (((x0 &&& (2147483647 : Int32)) % (3 : Int32)).toInt.toNat + 2)))), .val (.int (own_f_rm2 (f (((x0 &&& (2147483647 : Int32)) % (3 : Int32)).toInt.toNat + 3)))), .val (.int (0 : Int32)), .unset, .unset]) at_183 rfl rfl ?_
        refine Go.iload C X26 (pc' := 187) at_185 rfl rfl ?_
        refine Go.ifYes C X26 (pc' := 196) at_187 ((if0 _ _).trans (feq (by decide)).2) (by decide) (by decide) ?_
        refine Go.iload C X26 (pc' := 198) at_196 rfl rfl ?_
        refine Go.iconst C X26 (pc' := 199) (v := (1 : Int32)) at_198 rfl rfl ?_
        refine Go.icmpYes C X26 (pc' := 209) at_199 (feq (by decide)).2 (by decide) (by decide) ?_
        refine Go.iload C X26 (pc' := 211) at_209 rfl rfl ?_
        refine Go.iconst C X26 (pc' := 212) (v := (2 : Int32)) at_211 rfl rfl ?_
        refine Go.icmpNo C X26 (pc' := 215) at_212 (teq (by decide)).2 rfl ?_
        refine Go.iload C X26 (pc' := 217) at_215 rfl rfl ?_
        refine Go.bipush C X26 (pc' := 219) (v := (10 : Int32)) at_217 rfl rfl ?_
        refine Go.imul C X26 (pc' := 220) at_219 rfl ?_
        refine Go.iload C X26 (pc' := 222) at_220 rfl rfl ?_
        refine Go.iadd C X26 (pc' := 223) at_222 rfl ?_
        refine Go.istore C X26 (pc' := 225) (Ls' := #[.val (.int x0), .val (.int x1), .val (.long x2), .second, .val (.int x3), .val (.int ((x0 &&& (2147483647 : Int32)) % (3 : Int32))), .val (.int (2 : Int32)), .val (.ref b10), .val (.int (own_f_rm2 (f ((x0 &&& (2147483647 : Int32)) % (3 : Int32)).toInt.toNat))), .val (.int (own_f_rm2 (f (((x0 &&& (2147483647 : Int32)) % (3 : Int32)).toInt.toNat + 1)))), .val (.int (own_f_rm2 (f (((x0 &&& (2147483647 : Int32)) % (3 : Int32)).toInt.toNat + 2)))), .val (.int (own_f_rm2 (f (((x0 &&& (2147483647 : Int32)) % (3 : Int32)).toInt.toNat + 3)))), .val (.int (0 : Int32)), .val (.int (((own_f_rm2 (f ((x0 &&& (2147483647 : Int32)) % (3 : Int32)).toInt.toNat)) * (10 : Int32)) + (own_f_rm2 (f (((x0 &&& (2147483647 : Int32)) % (3 : Int32)).toInt.toNat + 1))))), .unset]) at_223 rfl rfl ?_
        refine Go.goto C X26 (pc' := 276) at_225 (by decide) (by decide) ?_
        refine Go.iload C X26 (pc' := 278) at_276 rfl rfl ?_
        refine Go.ifYes C X26 (pc' := 285) at_278 ((if0 _ _).trans (teq (by decide)).1) (by decide) (by decide) ?_
        refine Go.iload C X26 (pc' := 287) at_285 rfl rfl ?_
        refine Go.istore C X26 (pc' := 289) (Ls' := #[.val (.int x0), .val (.int x1), .val (.long x2), .second, .val (.int x3), .val (.int ((x0 &&& (2147483647 : Int32)) % (3 : Int32))), .val (.int (2 : Int32)), .val (.ref b10), .val (.int (own_f_rm2 (f ((x0 &&& (2147483647 : Int32)) % (3 : Int32)).toInt.toNat))), .val (.int (own_f_rm2 (f (((x0 &&& (2147483647 : Int32)) % (3 : Int32)).toInt.toNat + 1)))), .val (.int (own_f_rm2 (f (((x0 &&& (2147483647 : Int32)) % (3 : Int32)).toInt.toNat + 2)))), .val (.int (own_f_rm2 (f (((x0 &&& (2147483647 : Int32)) % (3 : Int32)).toInt.toNat + 3)))), .val (.int (0 : Int32)), .val (.int (((own_f_rm2 (f ((x0 &&& (2147483647 : Int32)) % (3 : Int32)).toInt.toNat)) * (10 : Int32)) + (own_f_rm2 (f (((x0 &&& (2147483647 : Int32)) % (3 : Int32)).toInt.toNat + 1))))), .val (.int (((own_f_rm2 (f ((x0 &&& (2147483647 : Int32)) % (3 : Int32)).toInt.toNat)) * (10 : Int32)) + (own_f_rm2 (f (((x0 &&& (2147483647 : Int32)) % (3 : Int32)).toInt.toNat + 1)))))]) at_287 rfl rfl ?_
        refine Go.aload C X26 (pc' := 291) at_289 rfl rfl rfl ?_
        refine Go.iload C X26 (pc' := 293) at_291 rfl rfl ?_
        refine Go.iload C X26 (pc' := 295) at_293 rfl rfl ?_
        refine Go.callS C X26 (pc' := 298) (W := 0) (argsL := [(.ref b10), (.int ((x0 &&& (2147483647 : Int32)) % (3 : Int32))), (.int (2 : Int32))]) (rest := []) (rm3 l Z a0 hw b10 ((x0 &&& (2147483647 : Int32)) % (3 : Int32)) (2 : Int32) 6 f h22 n0 X26.sz A88 (own_at x0).1 (by decide) (by have := own_at x0; have e : (2 : Int32).toInt = 2 := rfl; omega) (by decide)) (hw _ (List.mem_of_getElem? (i := 10) rfl)) (hw _ (List.mem_of_getElem? (i := 11) rfl)) (hw _ (List.mem_of_getElem? (i := 12) rfl)) (hw _ (List.mem_of_getElem? (i := 13) rfl)) (by decide) rfl rfl (lenOf own_pd2 rfl) rfl (Nat.le_of_eq rfl) (by decide) (by decide) (by decide) (by decide) at_295 rfl (fun _ _ q => Nat.le_of_eq (congrArg Array.size q.2)) (fun T36 h36 v36 X36 P36 => ?_)
        obtain ⟨rfl, rfl⟩ := P36
        show Go p e below s n0 _ _ _ T36 (mkF m 298 #[.val (.int x0), .val (.int x1), .val (.long x2), .second, .val (.int x3), .val (.int ((x0 &&& (2147483647 : Int32)) % (3 : Int32))), .val (.int (2 : Int32)), .val (.ref b10), .val (.int (own_f_rm2 (f ((x0 &&& (2147483647 : Int32)) % (3 : Int32)).toInt.toNat))), .val (.int (own_f_rm2 (f (((x0 &&& (2147483647 : Int32)) % (3 : Int32)).toInt.toNat + 1)))), .val (.int (own_f_rm2 (f (((x0 &&& (2147483647 : Int32)) % (3 : Int32)).toInt.toNat + 2)))), .val (.int (own_f_rm2 (f (((x0 &&& (2147483647 : Int32)) % (3 : Int32)).toInt.toNat + 3)))), .val (.int (0 : Int32)), .val (.int (((own_f_rm2 (f ((x0 &&& (2147483647 : Int32)) % (3 : Int32)).toInt.toNat)) * (10 : Int32)) + (own_f_rm2 (f (((x0 &&& (2147483647 : Int32)) % (3 : Int32)).toInt.toNat + 1))))), .val (.int (((own_f_rm2 (f ((x0 &&& (2147483647 : Int32)) % (3 : Int32)).toInt.toNat)) * (10 : Int32)) + (own_f_rm2 (f (((x0 &&& (2147483647 : Int32)) % (3 : Int32)).toInt.toNat + 1)))))] [(.int (own_g f ((x0 &&& (2147483647 : Int32)) % (3 : Int32)).toInt.toNat (2 : Int32).toInt.toNat 0))])
        refine Go.iload C X36 (pc' := 300) at_298 rfl rfl ?_
        refine Go.icmpNo C X36 (pc' := 303) at_300 (teq (by show own_g f ((x0 &&& (2147483647 : Int32)) % (3 : Int32)).toInt.toNat 2 0 = _; rw [own_g1 hf, if_neg c32, own_g1 hf, if_neg c34]; exact own_r2 _ _)).2 rfl ?_
        refine Go.iconst C X36 (pc' := 304) (v := (1 : Int32)) at_303 rfl rfl ?_
        refine Go.goto C X36 (pc' := 308) at_304 (by decide) (by decide) ?_
        exact Go.retZ (t := .boolean) C X36 (z' := (1 : Int32)) (by decide) at_308 rfl (by decide) (by decide)
  · rw [q27]
    refine Go.iload C X26 (pc' := 136) at_134 rfl rfl ?_
    refine Go.iconst C X26 (pc' := 137) (v := (1 : Int32)) at_136 rfl rfl ?_
    refine Go.icmpNo C X26 (pc' := 140) at_137 (flt (by decide)).1 rfl ?_
    refine Go.iload C X26 (pc' := 142) at_140 rfl rfl ?_
    by_cases c37 : (own_f_rm2 (f ((x0 &&& (2147483647 : Int32)) % (3 : Int32)).toInt.toNat)) < (0 : Int32)
    · refine Go.ifYes C X26 (pc' := 178) at_142 ((if0 _ _).trans (tlt c37).1) (by decide) (by decide) ?_
      refine Go.iconst C X26 (pc' := 179) (v := (1 : Int32)) at_178 rfl rfl ?_
      refine Go.goto C X26 (pc' := 183) at_179 (by decide) (by decide) ?_
      refine Go.istore C X26 (pc' := 185) (Ls' := #[.val (.int x0), .val (.int x1), .val (.long x2), .second, .val (.int x3), .val (.int ((x0 &&& (2147483647 : Int32)) % (3 : Int32))), .val (.int (3 : Int32)), .val (.ref b10), .val (.int (own_f_rm2 (f ((x0 &&& (2147483647 : Int32)) % (3 : Int32)).toInt.toNat))), .val (.int (own_f_rm2 (f (((x0 &&& (2147483647 : Int32)) % (3 : Int32)).toInt.toNat + 1)))), .val (.int (own_f_rm2 (f (((x0 &&& (2147483647 : Int32)) % (3 : Int32)).toInt.toNat + 2)))), .val (.int (own_f_rm2 (f (((x0 &&& (2147483647 : Int32)) % (3 : Int32)).toInt.toNat + 3)))), .val (.int (1 : Int32)), .unset, .unset]) at_183 rfl rfl ?_
      refine Go.iload C X26 (pc' := 187) at_185 rfl rfl ?_
      refine Go.ifYes C X26 (pc' := 196) at_187 ((if0 _ _).trans (feq (by decide)).2) (by decide) (by decide) ?_
      refine Go.iload C X26 (pc' := 198) at_196 rfl rfl ?_
      refine Go.iconst C X26 (pc' := 199) (v := (1 : Int32)) at_198 rfl rfl ?_
      refine Go.icmpYes C X26 (pc' := 209) at_199 (feq (by decide)).2 (by decide) (by decide) ?_
      refine Go.iload C X26 (pc' := 211) at_209 rfl rfl ?_
      refine Go.iconst C X26 (pc' := 212) (v := (2 : Int32)) at_211 rfl rfl ?_
      refine Go.icmpYes C X26 (pc' := 228) at_212 (feq (by decide)).2 (by decide) (by decide) ?_
      refine Go.iload C X26 (pc' := 230) at_228 rfl rfl ?_
      refine Go.iconst C X26 (pc' := 231) (v := (3 : Int32)) at_230 rfl rfl ?_
      refine Go.icmpNo C X26 (pc' := 234) at_231 (teq (by decide)).2 rfl ?_
      refine Go.iload C X26 (pc' := 236) at_234 rfl rfl ?_
      refine Go.bipush C X26 (pc' := 238) (v := (100 : Int32)) at_236 rfl rfl ?_
      refine Go.imul C X26 (pc' := 239) at_238 rfl ?_
      refine Go.iload C X26 (pc' := 241) at_239 rfl rfl ?_
      refine Go.bipush C X26 (pc' := 243) (v := (10 : Int32)) at_241 rfl rfl ?_
      refine Go.imul C X26 (pc' := 244) at_243 rfl ?_
      refine Go.iadd C X26 (pc' := 245) at_244 rfl ?_
      refine Go.iload C X26 (pc' := 247) at_245 rfl rfl ?_
      refine Go.iadd C X26 (pc' := 248) at_247 rfl ?_
      refine Go.istore C X26 (pc' := 250) (Ls' := #[.val (.int x0), .val (.int x1), .val (.long x2), .second, .val (.int x3), .val (.int ((x0 &&& (2147483647 : Int32)) % (3 : Int32))), .val (.int (3 : Int32)), .val (.ref b10), .val (.int (own_f_rm2 (f ((x0 &&& (2147483647 : Int32)) % (3 : Int32)).toInt.toNat))), .val (.int (own_f_rm2 (f (((x0 &&& (2147483647 : Int32)) % (3 : Int32)).toInt.toNat + 1)))), .val (.int (own_f_rm2 (f (((x0 &&& (2147483647 : Int32)) % (3 : Int32)).toInt.toNat + 2)))), .val (.int (own_f_rm2 (f (((x0 &&& (2147483647 : Int32)) % (3 : Int32)).toInt.toNat + 3)))), .val (.int (1 : Int32)), .val (.int ((((own_f_rm2 (f ((x0 &&& (2147483647 : Int32)) % (3 : Int32)).toInt.toNat)) * (100 : Int32)) + ((own_f_rm2 (f (((x0 &&& (2147483647 : Int32)) % (3 : Int32)).toInt.toNat + 1))) * (10 : Int32))) + (own_f_rm2 (f (((x0 &&& (2147483647 : Int32)) % (3 : Int32)).toInt.toNat + 2))))), .unset]) at_248 rfl rfl ?_
      refine Go.goto C X26 (pc' := 276) at_250 (by decide) (by decide) ?_
      refine Go.iload C X26 (pc' := 278) at_276 rfl rfl ?_
      refine Go.ifNo C X26 (pc' := 281) at_278 ((if0 _ _).trans (feq (by decide)).1) rfl ?_
      refine Go.iconst C X26 (pc' := 282) (v := (-1 : Int32)) at_281 rfl rfl ?_
      refine Go.goto C X26 (pc' := 287) at_282 (by decide) (by decide) ?_
      refine Go.istore C X26 (pc' := 289) (Ls' := #[.val (.int x0), .val (.int x1), .val (.long x2), .second, .val (.int x3), .val (.int ((x0 &&& (2147483647 : Int32)) % (3 : Int32))), .val (.int (3 : Int32)), .val (.ref b10), .val (.int (own_f_rm2 (f ((x0 &&& (2147483647 : Int32)) % (3 : Int32)).toInt.toNat))), .val (.int (own_f_rm2 (f (((x0 &&& (2147483647 : Int32)) % (3 : Int32)).toInt.toNat + 1)))), .val (.int (own_f_rm2 (f (((x0 &&& (2147483647 : Int32)) % (3 : Int32)).toInt.toNat + 2)))), .val (.int (own_f_rm2 (f (((x0 &&& (2147483647 : Int32)) % (3 : Int32)).toInt.toNat + 3)))), .val (.int (1 : Int32)), .val (.int ((((own_f_rm2 (f ((x0 &&& (2147483647 : Int32)) % (3 : Int32)).toInt.toNat)) * (100 : Int32)) + ((own_f_rm2 (f (((x0 &&& (2147483647 : Int32)) % (3 : Int32)).toInt.toNat + 1))) * (10 : Int32))) + (own_f_rm2 (f (((x0 &&& (2147483647 : Int32)) % (3 : Int32)).toInt.toNat + 2))))), .val (.int (-1 : Int32))]) at_287 rfl rfl ?_
      refine Go.aload C X26 (pc' := 291) at_289 rfl rfl rfl ?_
      refine Go.iload C X26 (pc' := 293) at_291 rfl rfl ?_
      refine Go.iload C X26 (pc' := 295) at_293 rfl rfl ?_
      refine Go.callS C X26 (pc' := 298) (W := 0) (argsL := [(.ref b10), (.int ((x0 &&& (2147483647 : Int32)) % (3 : Int32))), (.int (3 : Int32))]) (rest := []) (rm3 l Z a0 hw b10 ((x0 &&& (2147483647 : Int32)) % (3 : Int32)) (3 : Int32) 6 f h22 n0 X26.sz A88 (own_at x0).1 (by decide) (by have := own_at x0; have e : (3 : Int32).toInt = 3 := rfl; omega) (by decide)) (hw _ (List.mem_of_getElem? (i := 10) rfl)) (hw _ (List.mem_of_getElem? (i := 11) rfl)) (hw _ (List.mem_of_getElem? (i := 12) rfl)) (hw _ (List.mem_of_getElem? (i := 13) rfl)) (by decide) rfl rfl (lenOf own_pd2 rfl) rfl (Nat.le_of_eq rfl) (by decide) (by decide) (by decide) (by decide) at_295 rfl (fun _ _ q => Nat.le_of_eq (congrArg Array.size q.2)) (fun T38 h38 v38 X38 P38 => ?_)
      obtain ⟨rfl, rfl⟩ := P38
      show Go p e below s n0 _ _ _ T38 (mkF m 298 #[.val (.int x0), .val (.int x1), .val (.long x2), .second, .val (.int x3), .val (.int ((x0 &&& (2147483647 : Int32)) % (3 : Int32))), .val (.int (3 : Int32)), .val (.ref b10), .val (.int (own_f_rm2 (f ((x0 &&& (2147483647 : Int32)) % (3 : Int32)).toInt.toNat))), .val (.int (own_f_rm2 (f (((x0 &&& (2147483647 : Int32)) % (3 : Int32)).toInt.toNat + 1)))), .val (.int (own_f_rm2 (f (((x0 &&& (2147483647 : Int32)) % (3 : Int32)).toInt.toNat + 2)))), .val (.int (own_f_rm2 (f (((x0 &&& (2147483647 : Int32)) % (3 : Int32)).toInt.toNat + 3)))), .val (.int (1 : Int32)), .val (.int ((((own_f_rm2 (f ((x0 &&& (2147483647 : Int32)) % (3 : Int32)).toInt.toNat)) * (100 : Int32)) + ((own_f_rm2 (f (((x0 &&& (2147483647 : Int32)) % (3 : Int32)).toInt.toNat + 1))) * (10 : Int32))) + (own_f_rm2 (f (((x0 &&& (2147483647 : Int32)) % (3 : Int32)).toInt.toNat + 2))))), .val (.int (-1 : Int32))] [(.int (own_g f ((x0 &&& (2147483647 : Int32)) % (3 : Int32)).toInt.toNat (3 : Int32).toInt.toNat 0))])
      refine Go.iload C X38 (pc' := 300) at_298 rfl rfl ?_
      refine Go.icmpNo C X38 (pc' := 303) at_300 (teq (by show own_g f ((x0 &&& (2147483647 : Int32)) % (3 : Int32)).toInt.toNat 3 0 = _; rw [own_g1 hf, if_pos c37])).2 rfl ?_
      refine Go.iconst C X38 (pc' := 304) (v := (1 : Int32)) at_303 rfl rfl ?_
      refine Go.goto C X38 (pc' := 308) at_304 (by decide) (by decide) ?_
      exact Go.retZ (t := .boolean) C X38 (z' := (1 : Int32)) (by decide) at_308 rfl (by decide) (by decide)
    · refine Go.ifNo C X26 (pc' := 145) at_142 ((if0 _ _).trans (flt c37).1) rfl ?_
      refine Go.iload C X26 (pc' := 147) at_145 rfl rfl ?_
      refine Go.iconst C X26 (pc' := 148) (v := (2 : Int32)) at_147 rfl rfl ?_
      refine Go.icmpNo C X26 (pc' := 151) at_148 (flt (by decide)).1 rfl ?_
      refine Go.iload C X26 (pc' := 153) at_151 rfl rfl ?_
      by_cases c39 : (own_f_rm2 (f (((x0 &&& (2147483647 : Int32)) % (3 : Int32)).toInt.toNat + 1))) < (0 : Int32)
      · refine Go.ifYes C X26 (pc' := 178) at_153 ((if0 _ _).trans (tlt c39).1) (by decide) (by decide) ?_
        refine Go.iconst C X26 (pc' := 179) (v := (1 : Int32)) at_178 rfl rfl ?_
        refine Go.goto C X26 (pc' := 183) at_179 (by decide) (by decide) ?_
        refine Go.istore C X26 (pc' := 185) (Ls' := #[.val (.int x0), .val (.int x1), .val (.long x2), .second, .val (.int x3), .val (.int ((x0 &&& (2147483647 : Int32)) % (3 : Int32))), .val (.int (3 : Int32)), .val (.ref b10), .val (.int (own_f_rm2 (f ((x0 &&& (2147483647 : Int32)) % (3 : Int32)).toInt.toNat))), .val (.int (own_f_rm2 (f (((x0 &&& (2147483647 : Int32)) % (3 : Int32)).toInt.toNat + 1)))), .val (.int (own_f_rm2 (f (((x0 &&& (2147483647 : Int32)) % (3 : Int32)).toInt.toNat + 2)))), .val (.int (own_f_rm2 (f (((x0 &&& (2147483647 : Int32)) % (3 : Int32)).toInt.toNat + 3)))), .val (.int (1 : Int32)), .unset, .unset]) at_183 rfl rfl ?_
        refine Go.iload C X26 (pc' := 187) at_185 rfl rfl ?_
        refine Go.ifYes C X26 (pc' := 196) at_187 ((if0 _ _).trans (feq (by decide)).2) (by decide) (by decide) ?_
        refine Go.iload C X26 (pc' := 198) at_196 rfl rfl ?_
        refine Go.iconst C X26 (pc' := 199) (v := (1 : Int32)) at_198 rfl rfl ?_
        refine Go.icmpYes C X26 (pc' := 209) at_199 (feq (by decide)).2 (by decide) (by decide) ?_
        refine Go.iload C X26 (pc' := 211) at_209 rfl rfl ?_
        refine Go.iconst C X26 (pc' := 212) (v := (2 : Int32)) at_211 rfl rfl ?_
        refine Go.icmpYes C X26 (pc' := 228) at_212 (feq (by decide)).2 (by decide) (by decide) ?_
        refine Go.iload C X26 (pc' := 230) at_228 rfl rfl ?_
        refine Go.iconst C X26 (pc' := 231) (v := (3 : Int32)) at_230 rfl rfl ?_
        refine Go.icmpNo C X26 (pc' := 234) at_231 (teq (by decide)).2 rfl ?_
        refine Go.iload C X26 (pc' := 236) at_234 rfl rfl ?_
        refine Go.bipush C X26 (pc' := 238) (v := (100 : Int32)) at_236 rfl rfl ?_
        refine Go.imul C X26 (pc' := 239) at_238 rfl ?_
        refine Go.iload C X26 (pc' := 241) at_239 rfl rfl ?_
        refine Go.bipush C X26 (pc' := 243) (v := (10 : Int32)) at_241 rfl rfl ?_
        refine Go.imul C X26 (pc' := 244) at_243 rfl ?_
        refine Go.iadd C X26 (pc' := 245) at_244 rfl ?_
        refine Go.iload C X26 (pc' := 247) at_245 rfl rfl ?_
        refine Go.iadd C X26 (pc' := 248) at_247 rfl ?_
        refine Go.istore C X26 (pc' := 250) (Ls' := #[.val (.int x0), .val (.int x1), .val (.long x2), .second, .val (.int x3), .val (.int ((x0 &&& (2147483647 : Int32)) % (3 : Int32))), .val (.int (3 : Int32)), .val (.ref b10), .val (.int (own_f_rm2 (f ((x0 &&& (2147483647 : Int32)) % (3 : Int32)).toInt.toNat))), .val (.int (own_f_rm2 (f (((x0 &&& (2147483647 : Int32)) % (3 : Int32)).toInt.toNat + 1)))), .val (.int (own_f_rm2 (f (((x0 &&& (2147483647 : Int32)) % (3 : Int32)).toInt.toNat + 2)))), .val (.int (own_f_rm2 (f (((x0 &&& (2147483647 : Int32)) % (3 : Int32)).toInt.toNat + 3)))), .val (.int (1 : Int32)), .val (.int ((((own_f_rm2 (f ((x0 &&& (2147483647 : Int32)) % (3 : Int32)).toInt.toNat)) * (100 : Int32)) + ((own_f_rm2 (f (((x0 &&& (2147483647 : Int32)) % (3 : Int32)).toInt.toNat + 1))) * (10 : Int32))) + (own_f_rm2 (f (((x0 &&& (2147483647 : Int32)) % (3 : Int32)).toInt.toNat + 2))))), .unset]) at_248 rfl rfl ?_
        refine Go.goto C X26 (pc' := 276) at_250 (by decide) (by decide) ?_
        refine Go.iload C X26 (pc' := 278) at_276 rfl rfl ?_
        refine Go.ifNo C X26 (pc' := 281) at_278 ((if0 _ _).trans (feq (by decide)).1) rfl ?_
        refine Go.iconst C X26 (pc' := 282) (v := (-1 : Int32)) at_281 rfl rfl ?_
        refine Go.goto C X26 (pc' := 287) at_282 (by decide) (by decide) ?_
        refine Go.istore C X26 (pc' := 289) (Ls' := #[.val (.int x0), .val (.int x1), .val (.long x2), .second, .val (.int x3), .val (.int ((x0 &&& (2147483647 : Int32)) % (3 : Int32))), .val (.int (3 : Int32)), .val (.ref b10), .val (.int (own_f_rm2 (f ((x0 &&& (2147483647 : Int32)) % (3 : Int32)).toInt.toNat))), .val (.int (own_f_rm2 (f (((x0 &&& (2147483647 : Int32)) % (3 : Int32)).toInt.toNat + 1)))), .val (.int (own_f_rm2 (f (((x0 &&& (2147483647 : Int32)) % (3 : Int32)).toInt.toNat + 2)))), .val (.int (own_f_rm2 (f (((x0 &&& (2147483647 : Int32)) % (3 : Int32)).toInt.toNat + 3)))), .val (.int (1 : Int32)), .val (.int ((((own_f_rm2 (f ((x0 &&& (2147483647 : Int32)) % (3 : Int32)).toInt.toNat)) * (100 : Int32)) + ((own_f_rm2 (f (((x0 &&& (2147483647 : Int32)) % (3 : Int32)).toInt.toNat + 1))) * (10 : Int32))) + (own_f_rm2 (f (((x0 &&& (2147483647 : Int32)) % (3 : Int32)).toInt.toNat + 2))))), .val (.int (-1 : Int32))]) at_287 rfl rfl ?_
        refine Go.aload C X26 (pc' := 291) at_289 rfl rfl rfl ?_
        refine Go.iload C X26 (pc' := 293) at_291 rfl rfl ?_
        refine Go.iload C X26 (pc' := 295) at_293 rfl rfl ?_
        refine Go.callS C X26 (pc' := 298) (W := 0) (argsL := [(.ref b10), (.int ((x0 &&& (2147483647 : Int32)) % (3 : Int32))), (.int (3 : Int32))]) (rest := []) (rm3 l Z a0 hw b10 ((x0 &&& (2147483647 : Int32)) % (3 : Int32)) (3 : Int32) 6 f h22 n0 X26.sz A88 (own_at x0).1 (by decide) (by have := own_at x0; have e : (3 : Int32).toInt = 3 := rfl; omega) (by decide)) (hw _ (List.mem_of_getElem? (i := 10) rfl)) (hw _ (List.mem_of_getElem? (i := 11) rfl)) (hw _ (List.mem_of_getElem? (i := 12) rfl)) (hw _ (List.mem_of_getElem? (i := 13) rfl)) (by decide) rfl rfl (lenOf own_pd2 rfl) rfl (Nat.le_of_eq rfl) (by decide) (by decide) (by decide) (by decide) at_295 rfl (fun _ _ q => Nat.le_of_eq (congrArg Array.size q.2)) (fun T40 h40 v40 X40 P40 => ?_)
        obtain ⟨rfl, rfl⟩ := P40
        show Go p e below s n0 _ _ _ T40 (mkF m 298 #[.val (.int x0), .val (.int x1), .val (.long x2), .second, .val (.int x3), .val (.int ((x0 &&& (2147483647 : Int32)) % (3 : Int32))), .val (.int (3 : Int32)), .val (.ref b10), .val (.int (own_f_rm2 (f ((x0 &&& (2147483647 : Int32)) % (3 : Int32)).toInt.toNat))), .val (.int (own_f_rm2 (f (((x0 &&& (2147483647 : Int32)) % (3 : Int32)).toInt.toNat + 1)))), .val (.int (own_f_rm2 (f (((x0 &&& (2147483647 : Int32)) % (3 : Int32)).toInt.toNat + 2)))), .val (.int (own_f_rm2 (f (((x0 &&& (2147483647 : Int32)) % (3 : Int32)).toInt.toNat + 3)))), .val (.int (1 : Int32)), .val (.int ((((own_f_rm2 (f ((x0 &&& (2147483647 : Int32)) % (3 : Int32)).toInt.toNat)) * (100 : Int32)) + ((own_f_rm2 (f (((x0 &&& (2147483647 : Int32)) % (3 : Int32)).toInt.toNat + 1))) * (10 : Int32))) + (own_f_rm2 (f (((x0 &&& (2147483647 : Int32)) % (3 : Int32)).toInt.toNat + 2))))), .val (.int (-1 : Int32))] [(.int (own_g f ((x0 &&& (2147483647 : Int32)) % (3 : Int32)).toInt.toNat (3 : Int32).toInt.toNat 0))])
        refine Go.iload C X40 (pc' := 300) at_298 rfl rfl ?_
        refine Go.icmpNo C X40 (pc' := 303) at_300 (teq (by show own_g f ((x0 &&& (2147483647 : Int32)) % (3 : Int32)).toInt.toNat 3 0 = _; rw [own_g1 hf, if_neg c37, own_g1 hf, if_pos c39])).2 rfl ?_
        refine Go.iconst C X40 (pc' := 304) (v := (1 : Int32)) at_303 rfl rfl ?_
        refine Go.goto C X40 (pc' := 308) at_304 (by decide) (by decide) ?_
        exact Go.retZ (t := .boolean) C X40 (z' := (1 : Int32)) (by decide) at_308 rfl (by decide) (by decide)
      · refine Go.ifNo C X26 (pc' := 156) at_153 ((if0 _ _).trans (flt c39).1) rfl ?_
        refine Go.iload C X26 (pc' := 158) at_156 rfl rfl ?_
        refine Go.iconst C X26 (pc' := 159) (v := (3 : Int32)) at_158 rfl rfl ?_
        refine Go.icmpNo C X26 (pc' := 162) at_159 (flt (by decide)).1 rfl ?_
        refine Go.iload C X26 (pc' := 164) at_162 rfl rfl ?_
        by_cases c41 : (own_f_rm2 (f (((x0 &&& (2147483647 : Int32)) % (3 : Int32)).toInt.toNat + 2))) < (0 : Int32)
        · refine Go.ifYes C X26 (pc' := 178) at_164 ((if0 _ _).trans (tlt c41).1) (by decide) (by decide) ?_
          refine Go.iconst C X26 (pc' := 179) (v := (1 : Int32)) at_178 rfl rfl ?_
          refine Go.goto C X26 (pc' := 183) at_179 (by decide) (by decide) ?_
          refine Go.istore C X26 (pc' := 185) (Ls' := #[.val (.int x0), .val (.int x1), .val (.long x2), .second, .val (.int x3), .val (.int ((x0 &&& (2147483647 : Int32)) % (3 : Int32))), .val (.int (3 : Int32)), .val (.ref b10), .val (.int (own_f_rm2 (f ((x0 &&& (2147483647 : Int32)) % (3 : Int32)).toInt.toNat))), .val (.int (own_f_rm2 (f (((x0 &&& (2147483647 : Int32)) % (3 : Int32)).toInt.toNat + 1)))), .val (.int (own_f_rm2 (f (((x0 &&& (2147483647 : Int32)) % (3 : Int32)).toInt.toNat + 2)))), .val (.int (own_f_rm2 (f (((x0 &&& (2147483647 : Int32)) % (3 : Int32)).toInt.toNat + 3)))), .val (.int (1 : Int32)), .unset, .unset]) at_183 rfl rfl ?_
          refine Go.iload C X26 (pc' := 187) at_185 rfl rfl ?_
          refine Go.ifYes C X26 (pc' := 196) at_187 ((if0 _ _).trans (feq (by decide)).2) (by decide) (by decide) ?_
          refine Go.iload C X26 (pc' := 198) at_196 rfl rfl ?_
          refine Go.iconst C X26 (pc' := 199) (v := (1 : Int32)) at_198 rfl rfl ?_
          refine Go.icmpYes C X26 (pc' := 209) at_199 (feq (by decide)).2 (by decide) (by decide) ?_
          refine Go.iload C X26 (pc' := 211) at_209 rfl rfl ?_
          refine Go.iconst C X26 (pc' := 212) (v := (2 : Int32)) at_211 rfl rfl ?_
          refine Go.icmpYes C X26 (pc' := 228) at_212 (feq (by decide)).2 (by decide) (by decide) ?_
          refine Go.iload C X26 (pc' := 230) at_228 rfl rfl ?_
          refine Go.iconst C X26 (pc' := 231) (v := (3 : Int32)) at_230 rfl rfl ?_
          refine Go.icmpNo C X26 (pc' := 234) at_231 (teq (by decide)).2 rfl ?_
          refine Go.iload C X26 (pc' := 236) at_234 rfl rfl ?_
          refine Go.bipush C X26 (pc' := 238) (v := (100 : Int32)) at_236 rfl rfl ?_
          refine Go.imul C X26 (pc' := 239) at_238 rfl ?_
          refine Go.iload C X26 (pc' := 241) at_239 rfl rfl ?_
          refine Go.bipush C X26 (pc' := 243) (v := (10 : Int32)) at_241 rfl rfl ?_
          refine Go.imul C X26 (pc' := 244) at_243 rfl ?_
          refine Go.iadd C X26 (pc' := 245) at_244 rfl ?_
          refine Go.iload C X26 (pc' := 247) at_245 rfl rfl ?_
          refine Go.iadd C X26 (pc' := 248) at_247 rfl ?_
          refine Go.istore C X26 (pc' := 250) (Ls' := #[.val (.int x0), .val (.int x1), .val (.long x2), .second, .val (.int x3), .val (.int ((x0 &&& (2147483647 : Int32)) % (3 : Int32))), .val (.int (3 : Int32)), .val (.ref b10), .val (.int (own_f_rm2 (f ((x0 &&& (2147483647 : Int32)) % (3 : Int32)).toInt.toNat))), .val (.int (own_f_rm2 (f (((x0 &&& (2147483647 : Int32)) % (3 : Int32)).toInt.toNat + 1)))), .val (.int (own_f_rm2 (f (((x0 &&& (2147483647 : Int32)) % (3 : Int32)).toInt.toNat + 2)))), .val (.int (own_f_rm2 (f (((x0 &&& (2147483647 : Int32)) % (3 : Int32)).toInt.toNat + 3)))), .val (.int (1 : Int32)), .val (.int ((((own_f_rm2 (f ((x0 &&& (2147483647 : Int32)) % (3 : Int32)).toInt.toNat)) * (100 : Int32)) + ((own_f_rm2 (f (((x0 &&& (2147483647 : Int32)) % (3 : Int32)).toInt.toNat + 1))) * (10 : Int32))) + (own_f_rm2 (f (((x0 &&& (2147483647 : Int32)) % (3 : Int32)).toInt.toNat + 2))))), .unset]) at_248 rfl rfl ?_
          refine Go.goto C X26 (pc' := 276) at_250 (by decide) (by decide) ?_
          refine Go.iload C X26 (pc' := 278) at_276 rfl rfl ?_
          refine Go.ifNo C X26 (pc' := 281) at_278 ((if0 _ _).trans (feq (by decide)).1) rfl ?_
          refine Go.iconst C X26 (pc' := 282) (v := (-1 : Int32)) at_281 rfl rfl ?_
          refine Go.goto C X26 (pc' := 287) at_282 (by decide) (by decide) ?_
          refine Go.istore C X26 (pc' := 289) (Ls' := #[.val (.int x0), .val (.int x1), .val (.long x2), .second, .val (.int x3), .val (.int ((x0 &&& (2147483647 : Int32)) % (3 : Int32))), .val (.int (3 : Int32)), .val (.ref b10), .val (.int (own_f_rm2 (f ((x0 &&& (2147483647 : Int32)) % (3 : Int32)).toInt.toNat))), .val (.int (own_f_rm2 (f (((x0 &&& (2147483647 : Int32)) % (3 : Int32)).toInt.toNat + 1)))), .val (.int (own_f_rm2 (f (((x0 &&& (2147483647 : Int32)) % (3 : Int32)).toInt.toNat + 2)))), .val (.int (own_f_rm2 (f (((x0 &&& (2147483647 : Int32)) % (3 : Int32)).toInt.toNat + 3)))), .val (.int (1 : Int32)), .val (.int ((((own_f_rm2 (f ((x0 &&& (2147483647 : Int32)) % (3 : Int32)).toInt.toNat)) * (100 : Int32)) + ((own_f_rm2 (f (((x0 &&& (2147483647 : Int32)) % (3 : Int32)).toInt.toNat + 1))) * (10 : Int32))) + (own_f_rm2 (f (((x0 &&& (2147483647 : Int32)) % (3 : Int32)).toInt.toNat + 2))))), .val (.int (-1 : Int32))]) at_287 rfl rfl ?_
          refine Go.aload C X26 (pc' := 291) at_289 rfl rfl rfl ?_
          refine Go.iload C X26 (pc' := 293) at_291 rfl rfl ?_
          refine Go.iload C X26 (pc' := 295) at_293 rfl rfl ?_
          refine Go.callS C X26 (pc' := 298) (W := 0) (argsL := [(.ref b10), (.int ((x0 &&& (2147483647 : Int32)) % (3 : Int32))), (.int (3 : Int32))]) (rest := []) (rm3 l Z a0 hw b10 ((x0 &&& (2147483647 : Int32)) % (3 : Int32)) (3 : Int32) 6 f h22 n0 X26.sz A88 (own_at x0).1 (by decide) (by have := own_at x0; have e : (3 : Int32).toInt = 3 := rfl; omega) (by decide)) (hw _ (List.mem_of_getElem? (i := 10) rfl)) (hw _ (List.mem_of_getElem? (i := 11) rfl)) (hw _ (List.mem_of_getElem? (i := 12) rfl)) (hw _ (List.mem_of_getElem? (i := 13) rfl)) (by decide) rfl rfl (lenOf own_pd2 rfl) rfl (Nat.le_of_eq rfl) (by decide) (by decide) (by decide) (by decide) at_295 rfl (fun _ _ q => Nat.le_of_eq (congrArg Array.size q.2)) (fun T42 h42 v42 X42 P42 => ?_)
          obtain ⟨rfl, rfl⟩ := P42
          show Go p e below s n0 _ _ _ T42 (mkF m 298 #[.val (.int x0), .val (.int x1), .val (.long x2), .second, .val (.int x3), .val (.int ((x0 &&& (2147483647 : Int32)) % (3 : Int32))), .val (.int (3 : Int32)), .val (.ref b10), .val (.int (own_f_rm2 (f ((x0 &&& (2147483647 : Int32)) % (3 : Int32)).toInt.toNat))), .val (.int (own_f_rm2 (f (((x0 &&& (2147483647 : Int32)) % (3 : Int32)).toInt.toNat + 1)))), .val (.int (own_f_rm2 (f (((x0 &&& (2147483647 : Int32)) % (3 : Int32)).toInt.toNat + 2)))), .val (.int (own_f_rm2 (f (((x0 &&& (2147483647 : Int32)) % (3 : Int32)).toInt.toNat + 3)))), .val (.int (1 : Int32)), .val (.int ((((own_f_rm2 (f ((x0 &&& (2147483647 : Int32)) % (3 : Int32)).toInt.toNat)) * (100 : Int32)) + ((own_f_rm2 (f (((x0 &&& (2147483647 : Int32)) % (3 : Int32)).toInt.toNat + 1))) * (10 : Int32))) + (own_f_rm2 (f (((x0 &&& (2147483647 : Int32)) % (3 : Int32)).toInt.toNat + 2))))), .val (.int (-1 : Int32))] [(.int (own_g f ((x0 &&& (2147483647 : Int32)) % (3 : Int32)).toInt.toNat (3 : Int32).toInt.toNat 0))])
          refine Go.iload C X42 (pc' := 300) at_298 rfl rfl ?_
          refine Go.icmpNo C X42 (pc' := 303) at_300 (teq (by show own_g f ((x0 &&& (2147483647 : Int32)) % (3 : Int32)).toInt.toNat 3 0 = _; rw [own_g1 hf, if_neg c37, own_g1 hf, if_neg c39, own_g1 hf, if_pos c41])).2 rfl ?_
          refine Go.iconst C X42 (pc' := 304) (v := (1 : Int32)) at_303 rfl rfl ?_
          refine Go.goto C X42 (pc' := 308) at_304 (by decide) (by decide) ?_
          exact Go.retZ (t := .boolean) C X42 (z' := (1 : Int32)) (by decide) at_308 rfl (by decide) (by decide)
        · refine Go.ifNo C X26 (pc' := 167) at_164 ((if0 _ _).trans (flt c41).1) rfl ?_
          refine Go.iload C X26 (pc' := 169) at_167 rfl rfl ?_
          refine Go.iconst C X26 (pc' := 170) (v := (4 : Int32)) at_169 rfl rfl ?_
          refine Go.icmpYes C X26 (pc' := 182) at_170 (tlt (by decide)).1 (by decide) (by decide) ?_
          refine Go.iconst C X26 (pc' := 183) (v := (0 : Int32)) at_182 rfl rfl ?_
          refine Go.istore C X26 (pc' := 185) (Ls' := #[.val (.int x0), .val (.int x1), .val (.long x2), .second, .val (.int x3), .val (.int ((x0 &&& (2147483647 : Int32)) % (3 : Int32))), .val (.int (3 : Int32)), .val (.ref b10), .val (.int (own_f_rm2 (f ((x0 &&& (2147483647 : Int32)) % (3 : Int32)).toInt.toNat))), .val (.int (own_f_rm2 (f (((x0 &&& (2147483647 : Int32)) % (3 : Int32)).toInt.toNat + 1)))), .val (.int (own_f_rm2 (f (((x0 &&& (2147483647 : Int32)) % (3 : Int32)).toInt.toNat + 2)))), .val (.int (own_f_rm2 (f (((x0 &&& (2147483647 : Int32)) % (3 : Int32)).toInt.toNat + 3)))), .val (.int (0 : Int32)), .unset, .unset]) at_183 rfl rfl ?_
          refine Go.iload C X26 (pc' := 187) at_185 rfl rfl ?_
          refine Go.ifYes C X26 (pc' := 196) at_187 ((if0 _ _).trans (feq (by decide)).2) (by decide) (by decide) ?_
          refine Go.iload C X26 (pc' := 198) at_196 rfl rfl ?_
          refine Go.iconst C X26 (pc' := 199) (v := (1 : Int32)) at_198 rfl rfl ?_
          refine Go.icmpYes C X26 (pc' := 209) at_199 (feq (by decide)).2 (by decide) (by decide) ?_
          refine Go.iload C X26 (pc' := 211) at_209 rfl rfl ?_
          refine Go.iconst C X26 (pc' := 212) (v := (2 : Int32)) at_211 rfl rfl ?_
          refine Go.icmpYes C X26 (pc' := 228) at_212 (feq (by decide)).2 (by decide) (by decide) ?_
          refine Go.iload C X26 (pc' := 230) at_228 rfl rfl ?_
          refine Go.iconst C X26 (pc' := 231) (v := (3 : Int32)) at_230 rfl rfl ?_
          refine Go.icmpNo C X26 (pc' := 234) at_231 (teq (by decide)).2 rfl ?_
          refine Go.iload C X26 (pc' := 236) at_234 rfl rfl ?_
          refine Go.bipush C X26 (pc' := 238) (v := (100 : Int32)) at_236 rfl rfl ?_
          refine Go.imul C X26 (pc' := 239) at_238 rfl ?_
          refine Go.iload C X26 (pc' := 241) at_239 rfl rfl ?_
          refine Go.bipush C X26 (pc' := 243) (v := (10 : Int32)) at_241 rfl rfl ?_
          refine Go.imul C X26 (pc' := 244) at_243 rfl ?_
          refine Go.iadd C X26 (pc' := 245) at_244 rfl ?_
          refine Go.iload C X26 (pc' := 247) at_245 rfl rfl ?_
          refine Go.iadd C X26 (pc' := 248) at_247 rfl ?_
          refine Go.istore C X26 (pc' := 250) (Ls' := #[.val (.int x0), .val (.int x1), .val (.long x2), .second, .val (.int x3), .val (.int ((x0 &&& (2147483647 : Int32)) % (3 : Int32))), .val (.int (3 : Int32)), .val (.ref b10), .val (.int (own_f_rm2 (f ((x0 &&& (2147483647 : Int32)) % (3 : Int32)).toInt.toNat))), .val (.int (own_f_rm2 (f (((x0 &&& (2147483647 : Int32)) % (3 : Int32)).toInt.toNat + 1)))), .val (.int (own_f_rm2 (f (((x0 &&& (2147483647 : Int32)) % (3 : Int32)).toInt.toNat + 2)))), .val (.int (own_f_rm2 (f (((x0 &&& (2147483647 : Int32)) % (3 : Int32)).toInt.toNat + 3)))), .val (.int (0 : Int32)), .val (.int ((((own_f_rm2 (f ((x0 &&& (2147483647 : Int32)) % (3 : Int32)).toInt.toNat)) * (100 : Int32)) + ((own_f_rm2 (f (((x0 &&& (2147483647 : Int32)) % (3 : Int32)).toInt.toNat + 1))) * (10 : Int32))) + (own_f_rm2 (f (((x0 &&& (2147483647 : Int32)) % (3 : Int32)).toInt.toNat + 2))))), .unset]) at_248 rfl rfl ?_
          refine Go.goto C X26 (pc' := 276) at_250 (by decide) (by decide) ?_
          refine Go.iload C X26 (pc' := 278) at_276 rfl rfl ?_
          refine Go.ifYes C X26 (pc' := 285) at_278 ((if0 _ _).trans (teq (by decide)).1) (by decide) (by decide) ?_
          refine Go.iload C X26 (pc' := 287) at_285 rfl rfl ?_
          refine Go.istore C X26 (pc' := 289) (Ls' := #[.val (.int x0), .val (.int x1), .val (.long x2), .second, .val (.int x3), .val (.int ((x0 &&& (2147483647 : Int32)) % (3 : Int32))), .val (.int (3 : Int32)), .val (.ref b10), .val (.int (own_f_rm2 (f ((x0 &&& (2147483647 : Int32)) % (3 : Int32)).toInt.toNat))), .val (.int (own_f_rm2 (f (((x0 &&& (2147483647 : Int32)) % (3 : Int32)).toInt.toNat + 1)))), .val (.int (own_f_rm2 (f (((x0 &&& (2147483647 : Int32)) % (3 : Int32)).toInt.toNat + 2)))), .val (.int (own_f_rm2 (f (((x0 &&& (2147483647 : Int32)) % (3 : Int32)).toInt.toNat + 3)))), .val (.int (0 : Int32)), .val (.int ((((own_f_rm2 (f ((x0 &&& (2147483647 : Int32)) % (3 : Int32)).toInt.toNat)) * (100 : Int32)) + ((own_f_rm2 (f (((x0 &&& (2147483647 : Int32)) % (3 : Int32)).toInt.toNat + 1))) * (10 : Int32))) + (own_f_rm2 (f (((x0 &&& (2147483647 : Int32)) % (3 : Int32)).toInt.toNat + 2))))), .val (.int ((((own_f_rm2 (f ((x0 &&& (2147483647 : Int32)) % (3 : Int32)).toInt.toNat)) * (100 : Int32)) + ((own_f_rm2 (f (((x0 &&& (2147483647 : Int32)) % (3 : Int32)).toInt.toNat + 1))) * (10 : Int32))) + (own_f_rm2 (f (((x0 &&& (2147483647 : Int32)) % (3 : Int32)).toInt.toNat + 2)))))]) at_287 rfl rfl ?_
          refine Go.aload C X26 (pc' := 291) at_289 rfl rfl rfl ?_
          refine Go.iload C X26 (pc' := 293) at_291 rfl rfl ?_
          refine Go.iload C X26 (pc' := 295) at_293 rfl rfl ?_
          refine Go.callS C X26 (pc' := 298) (W := 0) (argsL := [(.ref b10), (.int ((x0 &&& (2147483647 : Int32)) % (3 : Int32))), (.int (3 : Int32))]) (rest := []) (rm3 l Z a0 hw b10 ((x0 &&& (2147483647 : Int32)) % (3 : Int32)) (3 : Int32) 6 f h22 n0 X26.sz A88 (own_at x0).1 (by decide) (by have := own_at x0; have e : (3 : Int32).toInt = 3 := rfl; omega) (by decide)) (hw _ (List.mem_of_getElem? (i := 10) rfl)) (hw _ (List.mem_of_getElem? (i := 11) rfl)) (hw _ (List.mem_of_getElem? (i := 12) rfl)) (hw _ (List.mem_of_getElem? (i := 13) rfl)) (by decide) rfl rfl (lenOf own_pd2 rfl) rfl (Nat.le_of_eq rfl) (by decide) (by decide) (by decide) (by decide) at_295 rfl (fun _ _ q => Nat.le_of_eq (congrArg Array.size q.2)) (fun T43 h43 v43 X43 P43 => ?_)
          obtain ⟨rfl, rfl⟩ := P43
          show Go p e below s n0 _ _ _ T43 (mkF m 298 #[.val (.int x0), .val (.int x1), .val (.long x2), .second, .val (.int x3), .val (.int ((x0 &&& (2147483647 : Int32)) % (3 : Int32))), .val (.int (3 : Int32)), .val (.ref b10), .val (.int (own_f_rm2 (f ((x0 &&& (2147483647 : Int32)) % (3 : Int32)).toInt.toNat))), .val (.int (own_f_rm2 (f (((x0 &&& (2147483647 : Int32)) % (3 : Int32)).toInt.toNat + 1)))), .val (.int (own_f_rm2 (f (((x0 &&& (2147483647 : Int32)) % (3 : Int32)).toInt.toNat + 2)))), .val (.int (own_f_rm2 (f (((x0 &&& (2147483647 : Int32)) % (3 : Int32)).toInt.toNat + 3)))), .val (.int (0 : Int32)), .val (.int ((((own_f_rm2 (f ((x0 &&& (2147483647 : Int32)) % (3 : Int32)).toInt.toNat)) * (100 : Int32)) + ((own_f_rm2 (f (((x0 &&& (2147483647 : Int32)) % (3 : Int32)).toInt.toNat + 1))) * (10 : Int32))) + (own_f_rm2 (f (((x0 &&& (2147483647 : Int32)) % (3 : Int32)).toInt.toNat + 2))))), .val (.int ((((own_f_rm2 (f ((x0 &&& (2147483647 : Int32)) % (3 : Int32)).toInt.toNat)) * (100 : Int32)) + ((own_f_rm2 (f (((x0 &&& (2147483647 : Int32)) % (3 : Int32)).toInt.toNat + 1))) * (10 : Int32))) + (own_f_rm2 (f (((x0 &&& (2147483647 : Int32)) % (3 : Int32)).toInt.toNat + 2)))))] [(.int (own_g f ((x0 &&& (2147483647 : Int32)) % (3 : Int32)).toInt.toNat (3 : Int32).toInt.toNat 0))])
          refine Go.iload C X43 (pc' := 300) at_298 rfl rfl ?_
          refine Go.icmpNo C X43 (pc' := 303) at_300 (teq (by show own_g f ((x0 &&& (2147483647 : Int32)) % (3 : Int32)).toInt.toNat 3 0 = _; rw [own_g1 hf, if_neg c37, own_g1 hf, if_neg c39, own_g1 hf, if_neg c41]; exact own_r3 _ _ _)).2 rfl ?_
          refine Go.iconst C X43 (pc' := 304) (v := (1 : Int32)) at_303 rfl rfl ?_
          refine Go.goto C X43 (pc' := 308) at_304 (by decide) (by decide) ?_
          exact Go.retZ (t := .boolean) C X43 (z' := (1 : Int32)) (by decide) at_308 rfl (by decide) (by decide)
  · rw [q27]
    refine Go.iload C X26 (pc' := 136) at_134 rfl rfl ?_
    refine Go.iconst C X26 (pc' := 137) (v := (1 : Int32)) at_136 rfl rfl ?_
    refine Go.icmpNo C X26 (pc' := 140) at_137 (flt (by decide)).1 rfl ?_
    refine Go.iload C X26 (pc' := 142) at_140 rfl rfl ?_
    by_cases c44 : (own_f_rm2 (f ((x0 &&& (2147483647 : Int32)) % (3 : Int32)).toInt.toNat)) < (0 : Int32)
    · refine Go.ifYes C X26 (pc' := 178) at_142 ((if0 _ _).trans (tlt c44).1) (by decide) (by decide) ?_
      refine Go.iconst C X26 (pc' := 179) (v := (1 : Int32)) at_178 rfl rfl ?_
      refine Go.goto C X26 (pc' := 183) at_179 (by decide) (by decide) ?_
      refine Go.istore C X26 (pc' := 185) (Ls' := #[.val (.int x0), .val (.int x1), .val (.long x2), .second, .val (.int x3), .val (.int ((x0 &&& (2147483647 : Int32)) % (3 : Int32))), .val (.int (4 : Int32)), .val (.ref b10), .val (.int (own_f_rm2 (f ((x0 &&& (2147483647 : Int32)) % (3 : Int32)).toInt.toNat))), .val (.int (own_f_rm2 (f (((x0 &&& (2147483647 : Int32)) % (3 : Int32)).toInt.toNat + 1)))), .val (.int (own_f_rm2 (f (((x0 &&& (2147483647 : Int32)) % (3 : Int32)).toInt.toNat + 2)))), .val (.int (own_f_rm2 (f (((x0 &&& (2147483647 : Int32)) % (3 : Int32)).toInt.toNat + 3)))), .val (.int (1 : Int32)), .unset, .unset]) at_183 rfl rfl ?_
      refine Go.iload C X26 (pc' := 187) at_185 rfl rfl ?_
      refine Go.ifYes C X26 (pc' := 196) at_187 ((if0 _ _).trans (feq (by decide)).2) (by decide) (by decide) ?_
      refine Go.iload C X26 (pc' := 198) at_196 rfl rfl ?_
      refine Go.iconst C X26 (pc' := 199) (v := (1 : Int32)) at_198 rfl rfl ?_
      refine Go.icmpYes C X26 (pc' := 209) at_199 (feq (by decide)).2 (by decide) (by decide) ?_
      refine Go.iload C X26 (pc' := 211) at_209 rfl rfl ?_
      refine Go.iconst C X26 (pc' := 212) (v := (2 : Int32)) at_211 rfl rfl ?_
      refine Go.icmpYes C X26 (pc' := 228) at_212 (feq (by decide)).2 (by decide) (by decide) ?_
      refine Go.iload C X26 (pc' := 230) at_228 rfl rfl ?_
      refine Go.iconst C X26 (pc' := 231) (v := (3 : Int32)) at_230 rfl rfl ?_
      refine Go.icmpYes C X26 (pc' := 253) at_231 (feq (by decide)).2 (by decide) (by decide) ?_
      refine Go.iload C X26 (pc' := 255) at_253 rfl rfl ?_
      refine Go.sipush C X26 (pc' := 258) (v := (1000 : Int32)) at_255 rfl rfl ?_
      refine Go.imul C X26 (pc' := 259) at_258 rfl ?_
      refine Go.iload C X26 (pc' := 261) at_259 rfl rfl ?_
      refine Go.bipush C X26 (pc' := 263) (v := (100 : Int32)) at_261 rfl rfl ?_
      refine Go.imul C X26 (pc' := 264) at_263 rfl ?_
      refine Go.iadd C X26 (pc' := 265) at_264 rfl ?_
      refine Go.iload C X26 (pc' := 267) at_265 rfl rfl ?_
      refine Go.bipush C X26 (pc' := 269) (v := (10 : Int32)) at_267 rfl rfl ?_
      refine Go.imul C X26 (pc' := 270) at_269 rfl ?_
      refine Go.iadd C X26 (pc' := 271) at_270 rfl ?_
      refine Go.iload C X26 (pc' := 273) at_271 rfl rfl ?_
      refine Go.iadd C X26 (pc' := 274) at_273 rfl ?_
      refine Go.istore C X26 (pc' := 276) (Ls' := #[.val (.int x0), .val (.int x1), .val (.long x2), .second, .val (.int x3), .val (.int ((x0 &&& (2147483647 : Int32)) % (3 : Int32))), .val (.int (4 : Int32)), .val (.ref b10), .val (.int (own_f_rm2 (f ((x0 &&& (2147483647 : Int32)) % (3 : Int32)).toInt.toNat))), .val (.int (own_f_rm2 (f (((x0 &&& (2147483647 : Int32)) % (3 : Int32)).toInt.toNat + 1)))), .val (.int (own_f_rm2 (f (((x0 &&& (2147483647 : Int32)) % (3 : Int32)).toInt.toNat + 2)))), .val (.int (own_f_rm2 (f (((x0 &&& (2147483647 : Int32)) % (3 : Int32)).toInt.toNat + 3)))), .val (.int (1 : Int32)), .val (.int (((((own_f_rm2 (f ((x0 &&& (2147483647 : Int32)) % (3 : Int32)).toInt.toNat)) * (1000 : Int32)) + ((own_f_rm2 (f (((x0 &&& (2147483647 : Int32)) % (3 : Int32)).toInt.toNat + 1))) * (100 : Int32))) + ((own_f_rm2 (f (((x0 &&& (2147483647 : Int32)) % (3 : Int32)).toInt.toNat + 2))) * (10 : Int32))) + (own_f_rm2 (f (((x0 &&& (2147483647 : Int32)) % (3 : Int32)).toInt.toNat + 3))))), .unset]) at_274 rfl rfl ?_
      refine Go.iload C X26 (pc' := 278) at_276 rfl rfl ?_
      refine Go.ifNo C X26 (pc' := 281) at_278 ((if0 _ _).trans (feq (by decide)).1) rfl ?_
      refine Go.iconst C X26 (pc' := 282) (v := (-1 : Int32)) at_281 rfl rfl ?_
      refine Go.goto C X26 (pc' := 287) at_282 (by decide) (by decide) ?_
      refine Go.istore C X26 (pc' := 289) (Ls' := #[.val (.int x0), .val (.int x1), .val (.long x2), .second, .val (.int x3), .val (.int ((x0 &&& (2147483647 : Int32)) % (3 : Int32))), .val (.int (4 : Int32)), .val (.ref b10), .val (.int (own_f_rm2 (f ((x0 &&& (2147483647 : Int32)) % (3 : Int32)).toInt.toNat))), .val (.int (own_f_rm2 (f (((x0 &&& (2147483647 : Int32)) % (3 : Int32)).toInt.toNat + 1)))), .val (.int (own_f_rm2 (f (((x0 &&& (2147483647 : Int32)) % (3 : Int32)).toInt.toNat + 2)))), .val (.int (own_f_rm2 (f (((x0 &&& (2147483647 : Int32)) % (3 : Int32)).toInt.toNat + 3)))), .val (.int (1 : Int32)), .val (.int (((((own_f_rm2 (f ((x0 &&& (2147483647 : Int32)) % (3 : Int32)).toInt.toNat)) * (1000 : Int32)) + ((own_f_rm2 (f (((x0 &&& (2147483647 : Int32)) % (3 : Int32)).toInt.toNat + 1))) * (100 : Int32))) + ((own_f_rm2 (f (((x0 &&& (2147483647 : Int32)) % (3 : Int32)).toInt.toNat + 2))) * (10 : Int32))) + (own_f_rm2 (f (((x0 &&& (2147483647 : Int32)) % (3 : Int32)).toInt.toNat + 3))))), .val (.int (-1 : Int32))]) at_287 rfl rfl ?_
      refine Go.aload C X26 (pc' := 291) at_289 rfl rfl rfl ?_
      refine Go.iload C X26 (pc' := 293) at_291 rfl rfl ?_
      refine Go.iload C X26 (pc' := 295) at_293 rfl rfl ?_
      refine Go.callS C X26 (pc' := 298) (W := 0) (argsL := [(.ref b10), (.int ((x0 &&& (2147483647 : Int32)) % (3 : Int32))), (.int (4 : Int32))]) (rest := []) (rm3 l Z a0 hw b10 ((x0 &&& (2147483647 : Int32)) % (3 : Int32)) (4 : Int32) 6 f h22 n0 X26.sz A88 (own_at x0).1 (by decide) (by have := own_at x0; have e : (4 : Int32).toInt = 4 := rfl; omega) (by decide)) (hw _ (List.mem_of_getElem? (i := 10) rfl)) (hw _ (List.mem_of_getElem? (i := 11) rfl)) (hw _ (List.mem_of_getElem? (i := 12) rfl)) (hw _ (List.mem_of_getElem? (i := 13) rfl)) (by decide) rfl rfl (lenOf own_pd2 rfl) rfl (Nat.le_of_eq rfl) (by decide) (by decide) (by decide) (by decide) at_295 rfl (fun _ _ q => Nat.le_of_eq (congrArg Array.size q.2)) (fun T45 h45 v45 X45 P45 => ?_)
      obtain ⟨rfl, rfl⟩ := P45
      show Go p e below s n0 _ _ _ T45 (mkF m 298 #[.val (.int x0), .val (.int x1), .val (.long x2), .second, .val (.int x3), .val (.int ((x0 &&& (2147483647 : Int32)) % (3 : Int32))), .val (.int (4 : Int32)), .val (.ref b10), .val (.int (own_f_rm2 (f ((x0 &&& (2147483647 : Int32)) % (3 : Int32)).toInt.toNat))), .val (.int (own_f_rm2 (f (((x0 &&& (2147483647 : Int32)) % (3 : Int32)).toInt.toNat + 1)))), .val (.int (own_f_rm2 (f (((x0 &&& (2147483647 : Int32)) % (3 : Int32)).toInt.toNat + 2)))), .val (.int (own_f_rm2 (f (((x0 &&& (2147483647 : Int32)) % (3 : Int32)).toInt.toNat + 3)))), .val (.int (1 : Int32)), .val (.int (((((own_f_rm2 (f ((x0 &&& (2147483647 : Int32)) % (3 : Int32)).toInt.toNat)) * (1000 : Int32)) + ((own_f_rm2 (f (((x0 &&& (2147483647 : Int32)) % (3 : Int32)).toInt.toNat + 1))) * (100 : Int32))) + ((own_f_rm2 (f (((x0 &&& (2147483647 : Int32)) % (3 : Int32)).toInt.toNat + 2))) * (10 : Int32))) + (own_f_rm2 (f (((x0 &&& (2147483647 : Int32)) % (3 : Int32)).toInt.toNat + 3))))), .val (.int (-1 : Int32))] [(.int (own_g f ((x0 &&& (2147483647 : Int32)) % (3 : Int32)).toInt.toNat (4 : Int32).toInt.toNat 0))])
      refine Go.iload C X45 (pc' := 300) at_298 rfl rfl ?_
      refine Go.icmpNo C X45 (pc' := 303) at_300 (teq (by show own_g f ((x0 &&& (2147483647 : Int32)) % (3 : Int32)).toInt.toNat 4 0 = _; rw [own_g1 hf, if_pos c44])).2 rfl ?_
      refine Go.iconst C X45 (pc' := 304) (v := (1 : Int32)) at_303 rfl rfl ?_
      refine Go.goto C X45 (pc' := 308) at_304 (by decide) (by decide) ?_
      exact Go.retZ (t := .boolean) C X45 (z' := (1 : Int32)) (by decide) at_308 rfl (by decide) (by decide)
    · refine Go.ifNo C X26 (pc' := 145) at_142 ((if0 _ _).trans (flt c44).1) rfl ?_
      refine Go.iload C X26 (pc' := 147) at_145 rfl rfl ?_
      refine Go.iconst C X26 (pc' := 148) (v := (2 : Int32)) at_147 rfl rfl ?_
      refine Go.icmpNo C X26 (pc' := 151) at_148 (flt (by decide)).1 rfl ?_
      refine Go.iload C X26 (pc' := 153) at_151 rfl rfl ?_
      by_cases c46 : (own_f_rm2 (f (((x0 &&& (2147483647 : Int32)) % (3 : Int32)).toInt.toNat + 1))) < (0 : Int32)
      · refine Go.ifYes C X26 (pc' := 178) at_153 ((if0 _ _).trans (tlt c46).1) (by decide) (by decide) ?_
        refine Go.iconst C X26 (pc' := 179) (v := (1 : Int32)) at_178 rfl rfl ?_
        refine Go.goto C X26 (pc' := 183) at_179 (by decide) (by decide) ?_
        refine Go.istore C X26 (pc' := 185) (Ls' := #[.val (.int x0), .val (.int x1), .val (.long x2), .second, .val (.int x3), .val (.int ((x0 &&& (2147483647 : Int32)) % (3 : Int32))), .val (.int (4 : Int32)), .val (.ref b10), .val (.int (own_f_rm2 (f ((x0 &&& (2147483647 : Int32)) % (3 : Int32)).toInt.toNat))), .val (.int (own_f_rm2 (f (((x0 &&& (2147483647 : Int32)) % (3 : Int32)).toInt.toNat + 1)))), .val (.int (own_f_rm2 (f (((x0 &&& (2147483647 : Int32)) % (3 : Int32)).toInt.toNat + 2)))), .val (.int (own_f_rm2 (f (((x0 &&& (2147483647 : Int32)) % (3 : Int32)).toInt.toNat + 3)))), .val (.int (1 : Int32)), .unset, .unset]) at_183 rfl rfl ?_
        refine Go.iload C X26 (pc' := 187) at_185 rfl rfl ?_
        refine Go.ifYes C X26 (pc' := 196) at_187 ((if0 _ _).trans (feq (by decide)).2) (by decide) (by decide) ?_
        refine Go.iload C X26 (pc' := 198) at_196 rfl rfl ?_
        refine Go.iconst C X26 (pc' := 199) (v := (1 : Int32)) at_198 rfl rfl ?_
        refine Go.icmpYes C X26 (pc' := 209) at_199 (feq (by decide)).2 (by decide) (by decide) ?_
        refine Go.iload C X26 (pc' := 211) at_209 rfl rfl ?_
        refine Go.iconst C X26 (pc' := 212) (v := (2 : Int32)) at_211 rfl rfl ?_
        refine Go.icmpYes C X26 (pc' := 228) at_212 (feq (by decide)).2 (by decide) (by decide) ?_
        refine Go.iload C X26 (pc' := 230) at_228 rfl rfl ?_
        refine Go.iconst C X26 (pc' := 231) (v := (3 : Int32)) at_230 rfl rfl ?_
        refine Go.icmpYes C X26 (pc' := 253) at_231 (feq (by decide)).2 (by decide) (by decide) ?_
        refine Go.iload C X26 (pc' := 255) at_253 rfl rfl ?_
        refine Go.sipush C X26 (pc' := 258) (v := (1000 : Int32)) at_255 rfl rfl ?_
        refine Go.imul C X26 (pc' := 259) at_258 rfl ?_
        refine Go.iload C X26 (pc' := 261) at_259 rfl rfl ?_
        refine Go.bipush C X26 (pc' := 263) (v := (100 : Int32)) at_261 rfl rfl ?_
        refine Go.imul C X26 (pc' := 264) at_263 rfl ?_
        refine Go.iadd C X26 (pc' := 265) at_264 rfl ?_
        refine Go.iload C X26 (pc' := 267) at_265 rfl rfl ?_
        refine Go.bipush C X26 (pc' := 269) (v := (10 : Int32)) at_267 rfl rfl ?_
        refine Go.imul C X26 (pc' := 270) at_269 rfl ?_
        refine Go.iadd C X26 (pc' := 271) at_270 rfl ?_
        refine Go.iload C X26 (pc' := 273) at_271 rfl rfl ?_
        refine Go.iadd C X26 (pc' := 274) at_273 rfl ?_
        refine Go.istore C X26 (pc' := 276) (Ls' := #[.val (.int x0), .val (.int x1), .val (.long x2), .second, .val (.int x3), .val (.int ((x0 &&& (2147483647 : Int32)) % (3 : Int32))), .val (.int (4 : Int32)), .val (.ref b10), .val (.int (own_f_rm2 (f ((x0 &&& (2147483647 : Int32)) % (3 : Int32)).toInt.toNat))), .val (.int (own_f_rm2 (f (((x0 &&& (2147483647 : Int32)) % (3 : Int32)).toInt.toNat + 1)))), .val (.int (own_f_rm2 (f (((x0 &&& (2147483647 : Int32)) % (3 : Int32)).toInt.toNat + 2)))), .val (.int (own_f_rm2 (f (((x0 &&& (2147483647 : Int32)) % (3 : Int32)).toInt.toNat + 3)))), .val (.int (1 : Int32)), .val (.int (((((own_f_rm2 (f ((x0 &&& (2147483647 : Int32)) % (3 : Int32)).toInt.toNat)) * (1000 : Int32)) + ((own_f_rm2 (f (((x0 &&& (2147483647 : Int32)) % (3 : Int32)).toInt.toNat + 1))) * (100 : Int32))) + ((own_f_rm2 (f (((x0 &&& (2147483647 : Int32)) % (3 : Int32)).toInt.toNat + 2))) * (10 : Int32))) + (own_f_rm2 (f (((x0 &&& (2147483647 : Int32)) % (3 : Int32)).toInt.toNat + 3))))), .unset]) at_274 rfl rfl ?_
        refine Go.iload C X26 (pc' := 278) at_276 rfl rfl ?_
        refine Go.ifNo C X26 (pc' := 281) at_278 ((if0 _ _).trans (feq (by decide)).1) rfl ?_
        refine Go.iconst C X26 (pc' := 282) (v := (-1 : Int32)) at_281 rfl rfl ?_
        refine Go.goto C X26 (pc' := 287) at_282 (by decide) (by decide) ?_
        refine Go.istore C X26 (pc' := 289) (Ls' := #[.val (.int x0), .val (.int x1), .val (.long x2), .second, .val (.int x3), .val (.int ((x0 &&& (2147483647 : Int32)) % (3 : Int32))), .val (.int (4 : Int32)), .val (.ref b10), .val (.int (own_f_rm2 (f ((x0 &&& (2147483647 : Int32)) % (3 : Int32)).toInt.toNat))), .val (.int (own_f_rm2 (f (((x0 &&& (2147483647 : Int32)) % (3 : Int32)).toInt.toNat + 1)))), .val (.int (own_f_rm2 (f (((x0 &&& (2147483647 : Int32)) % (3 : Int32)).toInt.toNat + 2)))), .val (.int (own_f_rm2 (f (((x0 &&& (2147483647 : Int32)) % (3 : Int32)).toInt.toNat + 3)))), .val (.int (1 : Int32)), .val (.int (((((own_f_rm2 (f ((x0 &&& (2147483647 : Int32)) % (3 : Int32)).toInt.toNat)) * (1000 : Int32)) + ((own_f_rm2 (f (((x0 &&& (2147483647 : Int32)) % (3 : Int32)).toInt.toNat + 1))) * (100 : Int32))) + ((own_f_rm2 (f (((x0 &&& (2147483647 : Int32)) % (3 : Int32)).toInt.toNat + 2))) * (10 : Int32))) + (own_f_rm2 (f (((x0 &&& (2147483647 : Int32)) % (3 : Int32)).toInt.toNat + 3))))), .val (.int (-1 : Int32))]) at_287 rfl rfl ?_
        refine Go.aload C X26 (pc' := 291) at_289 rfl rfl rfl ?_
        refine Go.iload C X26 (pc' := 293) at_291 rfl rfl ?_
        refine Go.iload C X26 (pc' := 295) at_293 rfl rfl ?_
        refine Go.callS C X26 (pc' := 298) (W := 0) (argsL := [(.ref b10), (.int ((x0 &&& (2147483647 : Int32)) % (3 : Int32))), (.int (4 : Int32))]) (rest := []) (rm3 l Z a0 hw b10 ((x0 &&& (2147483647 : Int32)) % (3 : Int32)) (4 : Int32) 6 f h22 n0 X26.sz A88 (own_at x0).1 (by decide) (by have := own_at x0; have e : (4 : Int32).toInt = 4 := rfl; omega) (by decide)) (hw _ (List.mem_of_getElem? (i := 10) rfl)) (hw _ (List.mem_of_getElem? (i := 11) rfl)) (hw _ (List.mem_of_getElem? (i := 12) rfl)) (hw _ (List.mem_of_getElem? (i := 13) rfl)) (by decide) rfl rfl (lenOf own_pd2 rfl) rfl (Nat.le_of_eq rfl) (by decide) (by decide) (by decide) (by decide) at_295 rfl (fun _ _ q => Nat.le_of_eq (congrArg Array.size q.2)) (fun T47 h47 v47 X47 P47 => ?_)
        obtain ⟨rfl, rfl⟩ := P47
        show Go p e below s n0 _ _ _ T47 (mkF m 298 #[.val (.int x0), .val (.int x1), .val (.long x2), .second, .val (.int x3), .val (.int ((x0 &&& (2147483647 : Int32)) % (3 : Int32))), .val (.int (4 : Int32)), .val (.ref b10), .val (.int (own_f_rm2 (f ((x0 &&& (2147483647 : Int32)) % (3 : Int32)).toInt.toNat))), .val (.int (own_f_rm2 (f (((x0 &&& (2147483647 : Int32)) % (3 : Int32)).toInt.toNat + 1)))), .val (.int (own_f_rm2 (f (((x0 &&& (2147483647 : Int32)) % (3 : Int32)).toInt.toNat + 2)))), .val (.int (own_f_rm2 (f (((x0 &&& (2147483647 : Int32)) % (3 : Int32)).toInt.toNat + 3)))), .val (.int (1 : Int32)), .val (.int (((((own_f_rm2 (f ((x0 &&& (2147483647 : Int32)) % (3 : Int32)).toInt.toNat)) * (1000 : Int32)) + ((own_f_rm2 (f (((x0 &&& (2147483647 : Int32)) % (3 : Int32)).toInt.toNat + 1))) * (100 : Int32))) + ((own_f_rm2 (f (((x0 &&& (2147483647 : Int32)) % (3 : Int32)).toInt.toNat + 2))) * (10 : Int32))) + (own_f_rm2 (f (((x0 &&& (2147483647 : Int32)) % (3 : Int32)).toInt.toNat + 3))))), .val (.int (-1 : Int32))] [(.int (own_g f ((x0 &&& (2147483647 : Int32)) % (3 : Int32)).toInt.toNat (4 : Int32).toInt.toNat 0))])
        refine Go.iload C X47 (pc' := 300) at_298 rfl rfl ?_
        refine Go.icmpNo C X47 (pc' := 303) at_300 (teq (by show own_g f ((x0 &&& (2147483647 : Int32)) % (3 : Int32)).toInt.toNat 4 0 = _; rw [own_g1 hf, if_neg c44, own_g1 hf, if_pos c46])).2 rfl ?_
        refine Go.iconst C X47 (pc' := 304) (v := (1 : Int32)) at_303 rfl rfl ?_
        refine Go.goto C X47 (pc' := 308) at_304 (by decide) (by decide) ?_
        exact Go.retZ (t := .boolean) C X47 (z' := (1 : Int32)) (by decide) at_308 rfl (by decide) (by decide)
      · refine Go.ifNo C X26 (pc' := 156) at_153 ((if0 _ _).trans (flt c46).1) rfl ?_
        refine Go.iload C X26 (pc' := 158) at_156 rfl rfl ?_
        refine Go.iconst C X26 (pc' := 159) (v := (3 : Int32)) at_158 rfl rfl ?_
        refine Go.icmpNo C X26 (pc' := 162) at_159 (flt (by decide)).1 rfl ?_
        refine Go.iload C X26 (pc' := 164) at_162 rfl rfl ?_
        by_cases c48 : (own_f_rm2 (f (((x0 &&& (2147483647 : Int32)) % (3 : Int32)).toInt.toNat + 2))) < (0 : Int32)
        · refine Go.ifYes C X26 (pc' := 178) at_164 ((if0 _ _).trans (tlt c48).1) (by decide) (by decide) ?_
          refine Go.iconst C X26 (pc' := 179) (v := (1 : Int32)) at_178 rfl rfl ?_
          refine Go.goto C X26 (pc' := 183) at_179 (by decide) (by decide) ?_
          refine Go.istore C X26 (pc' := 185) (Ls' := #[.val (.int x0), .val (.int x1), .val (.long x2), .second, .val (.int x3), .val (.int ((x0 &&& (2147483647 : Int32)) % (3 : Int32))), .val (.int (4 : Int32)), .val (.ref b10), .val (.int (own_f_rm2 (f ((x0 &&& (2147483647 : Int32)) % (3 : Int32)).toInt.toNat))), .val (.int (own_f_rm2 (f (((x0 &&& (2147483647 : Int32)) % (3 : Int32)).toInt.toNat + 1)))), .val (.int (own_f_rm2 (f (((x0 &&& (2147483647 : Int32)) % (3 : Int32)).toInt.toNat + 2)))), .val (.int (own_f_rm2 (f (((x0 &&& (2147483647 : Int32)) % (3 : Int32)).toInt.toNat + 3)))), .val (.int (1 : Int32)), .unset, .unset]) at_183 rfl rfl ?_
          refine Go.iload C X26 (pc' := 187) at_185 rfl rfl ?_
          refine Go.ifYes C X26 (pc' := 196) at_187 ((if0 _ _).trans (feq (by decide)).2) (by decide) (by decide) ?_
          refine Go.iload C X26 (pc' := 198) at_196 rfl rfl ?_
          refine Go.iconst C X26 (pc' := 199) (v := (1 : Int32)) at_198 rfl rfl ?_
          refine Go.icmpYes C X26 (pc' := 209) at_199 (feq (by decide)).2 (by decide) (by decide) ?_
          refine Go.iload C X26 (pc' := 211) at_209 rfl rfl ?_
          refine Go.iconst C X26 (pc' := 212) (v := (2 : Int32)) at_211 rfl rfl ?_
          refine Go.icmpYes C X26 (pc' := 228) at_212 (feq (by decide)).2 (by decide) (by decide) ?_
          refine Go.iload C X26 (pc' := 230) at_228 rfl rfl ?_
          refine Go.iconst C X26 (pc' := 231) (v := (3 : Int32)) at_230 rfl rfl ?_
          refine Go.icmpYes C X26 (pc' := 253) at_231 (feq (by decide)).2 (by decide) (by decide) ?_
          refine Go.iload C X26 (pc' := 255) at_253 rfl rfl ?_
          refine Go.sipush C X26 (pc' := 258) (v := (1000 : Int32)) at_255 rfl rfl ?_
          refine Go.imul C X26 (pc' := 259) at_258 rfl ?_
          refine Go.iload C X26 (pc' := 261) at_259 rfl rfl ?_
          refine Go.bipush C X26 (pc' := 263) (v := (100 : Int32)) at_261 rfl rfl ?_
          refine Go.imul C X26 (pc' := 264) at_263 rfl ?_
          refine Go.iadd C X26 (pc' := 265) at_264 rfl ?_
          refine Go.iload C X26 (pc' := 267) at_265 rfl rfl ?_
          refine Go.bipush C X26 (pc' := 269) (v := (10 : Int32)) at_267 rfl rfl ?_
          refine Go.imul C X26 (pc' := 270) at_269 rfl ?_
          refine Go.iadd C X26 (pc' := 271) at_270 rfl ?_
          refine Go.iload C X26 (pc' := 273) at_271 rfl rfl ?_
          refine Go.iadd C X26 (pc' := 274) at_273 rfl ?_
          refine Go.istore C X26 (pc' := 276) (Ls' := #[.val (.int x0), .val (.int x1), .val (.long x2), .second, .val (.int x3), .val (.int ((x0 &&& (2147483647 : Int32)) % (3 : Int32))), .val (.int (4 : Int32)), .val (.ref b10), .val (.int (own_f_rm2 (f ((x0 &&& (2147483647 : Int32)) % (3 : Int32)).toInt.toNat))), .val (.int (own_f_rm2 (f (((x0 &&& (2147483647 : Int32)) % (3 : Int32)).toInt.toNat + 1)))), .val (.int (own_f_rm2 (f (((x0 &&& (2147483647 : Int32)) % (3 : Int32)).toInt.toNat + 2)))), .val (.int (own_f_rm2 (f (((x0 &&& (2147483647 : Int32)) % (3 : Int32)).toInt.toNat + 3)))), .val (.int (1 : Int32)), .val (.int (((((own_f_rm2 (f ((x0 &&& (2147483647 : Int32)) % (3 : Int32)).toInt.toNat)) * (1000 : Int32)) + ((own_f_rm2 (f (((x0 &&& (2147483647 : Int32)) % (3 : Int32)).toInt.toNat + 1))) * (100 : Int32))) + ((own_f_rm2 (f (((x0 &&& (2147483647 : Int32)) % (3 : Int32)).toInt.toNat + 2))) * (10 : Int32))) + (own_f_rm2 (f (((x0 &&& (2147483647 : Int32)) % (3 : Int32)).toInt.toNat + 3))))), .unset]) at_274 rfl rfl ?_
          refine Go.iload C X26 (pc' := 278) at_276 rfl rfl ?_
          refine Go.ifNo C X26 (pc' := 281) at_278 ((if0 _ _).trans (feq (by decide)).1) rfl ?_
          refine Go.iconst C X26 (pc' := 282) (v := (-1 : Int32)) at_281 rfl rfl ?_
          refine Go.goto C X26 (pc' := 287) at_282 (by decide) (by decide) ?_
          refine Go.istore C X26 (pc' := 289) (Ls' := #[.val (.int x0), .val (.int x1), .val (.long x2), .second, .val (.int x3), .val (.int ((x0 &&& (2147483647 : Int32)) % (3 : Int32))), .val (.int (4 : Int32)), .val (.ref b10), .val (.int (own_f_rm2 (f ((x0 &&& (2147483647 : Int32)) % (3 : Int32)).toInt.toNat))), .val (.int (own_f_rm2 (f (((x0 &&& (2147483647 : Int32)) % (3 : Int32)).toInt.toNat + 1)))), .val (.int (own_f_rm2 (f (((x0 &&& (2147483647 : Int32)) % (3 : Int32)).toInt.toNat + 2)))), .val (.int (own_f_rm2 (f (((x0 &&& (2147483647 : Int32)) % (3 : Int32)).toInt.toNat + 3)))), .val (.int (1 : Int32)), .val (.int (((((own_f_rm2 (f ((x0 &&& (2147483647 : Int32)) % (3 : Int32)).toInt.toNat)) * (1000 : Int32)) + ((own_f_rm2 (f (((x0 &&& (2147483647 : Int32)) % (3 : Int32)).toInt.toNat + 1))) * (100 : Int32))) + ((own_f_rm2 (f (((x0 &&& (2147483647 : Int32)) % (3 : Int32)).toInt.toNat + 2))) * (10 : Int32))) + (own_f_rm2 (f (((x0 &&& (2147483647 : Int32)) % (3 : Int32)).toInt.toNat + 3))))), .val (.int (-1 : Int32))]) at_287 rfl rfl ?_
          refine Go.aload C X26 (pc' := 291) at_289 rfl rfl rfl ?_
          refine Go.iload C X26 (pc' := 293) at_291 rfl rfl ?_
          refine Go.iload C X26 (pc' := 295) at_293 rfl rfl ?_
          refine Go.callS C X26 (pc' := 298) (W := 0) (argsL := [(.ref b10), (.int ((x0 &&& (2147483647 : Int32)) % (3 : Int32))), (.int (4 : Int32))]) (rest := []) (rm3 l Z a0 hw b10 ((x0 &&& (2147483647 : Int32)) % (3 : Int32)) (4 : Int32) 6 f h22 n0 X26.sz A88 (own_at x0).1 (by decide) (by have := own_at x0; have e : (4 : Int32).toInt = 4 := rfl; omega) (by decide)) (hw _ (List.mem_of_getElem? (i := 10) rfl)) (hw _ (List.mem_of_getElem? (i := 11) rfl)) (hw _ (List.mem_of_getElem? (i := 12) rfl)) (hw _ (List.mem_of_getElem? (i := 13) rfl)) (by decide) rfl rfl (lenOf own_pd2 rfl) rfl (Nat.le_of_eq rfl) (by decide) (by decide) (by decide) (by decide) at_295 rfl (fun _ _ q => Nat.le_of_eq (congrArg Array.size q.2)) (fun T49 h49 v49 X49 P49 => ?_)
          obtain ⟨rfl, rfl⟩ := P49
          show Go p e below s n0 _ _ _ T49 (mkF m 298 #[.val (.int x0), .val (.int x1), .val (.long x2), .second, .val (.int x3), .val (.int ((x0 &&& (2147483647 : Int32)) % (3 : Int32))), .val (.int (4 : Int32)), .val (.ref b10), .val (.int (own_f_rm2 (f ((x0 &&& (2147483647 : Int32)) % (3 : Int32)).toInt.toNat))), .val (.int (own_f_rm2 (f (((x0 &&& (2147483647 : Int32)) % (3 : Int32)).toInt.toNat + 1)))), .val (.int (own_f_rm2 (f (((x0 &&& (2147483647 : Int32)) % (3 : Int32)).toInt.toNat + 2)))), .val (.int (own_f_rm2 (f (((x0 &&& (2147483647 : Int32)) % (3 : Int32)).toInt.toNat + 3)))), .val (.int (1 : Int32)), .val (.int (((((own_f_rm2 (f ((x0 &&& (2147483647 : Int32)) % (3 : Int32)).toInt.toNat)) * (1000 : Int32)) + ((own_f_rm2 (f (((x0 &&& (2147483647 : Int32)) % (3 : Int32)).toInt.toNat + 1))) * (100 : Int32))) + ((own_f_rm2 (f (((x0 &&& (2147483647 : Int32)) % (3 : Int32)).toInt.toNat + 2))) * (10 : Int32))) + (own_f_rm2 (f (((x0 &&& (2147483647 : Int32)) % (3 : Int32)).toInt.toNat + 3))))), .val (.int (-1 : Int32))] [(.int (own_g f ((x0 &&& (2147483647 : Int32)) % (3 : Int32)).toInt.toNat (4 : Int32).toInt.toNat 0))])
          refine Go.iload C X49 (pc' := 300) at_298 rfl rfl ?_
          refine Go.icmpNo C X49 (pc' := 303) at_300 (teq (by show own_g f ((x0 &&& (2147483647 : Int32)) % (3 : Int32)).toInt.toNat 4 0 = _; rw [own_g1 hf, if_neg c44, own_g1 hf, if_neg c46, own_g1 hf, if_pos c48])).2 rfl ?_
          refine Go.iconst C X49 (pc' := 304) (v := (1 : Int32)) at_303 rfl rfl ?_
          refine Go.goto C X49 (pc' := 308) at_304 (by decide) (by decide) ?_
          exact Go.retZ (t := .boolean) C X49 (z' := (1 : Int32)) (by decide) at_308 rfl (by decide) (by decide)
        · refine Go.ifNo C X26 (pc' := 167) at_164 ((if0 _ _).trans (flt c48).1) rfl ?_
          refine Go.iload C X26 (pc' := 169) at_167 rfl rfl ?_
          refine Go.iconst C X26 (pc' := 170) (v := (4 : Int32)) at_169 rfl rfl ?_
          refine Go.icmpNo C X26 (pc' := 173) at_170 (flt (by decide)).1 rfl ?_
          refine Go.iload C X26 (pc' := 175) at_173 rfl rfl ?_
          by_cases c50 : (own_f_rm2 (f (((x0 &&& (2147483647 : Int32)) % (3 : Int32)).toInt.toNat + 3))) < (0 : Int32)
          · refine Go.ifNo C X26 (pc' := 178) at_175 ((if0 _ _).trans (tlt c50).2.1) rfl ?_
            refine Go.iconst C X26 (pc' := 179) (v := (1 : Int32)) at_178 rfl rfl ?_
            refine Go.goto C X26 (pc' := 183) at_179 (by decide) (by decide) ?_
            refine Go.istore C X26 (pc' := 185) (Ls' := #[.val (.int x0), .val (.int x1), .val (.long x2), .second, .val (.int x3), .val (.int ((x0 &&& (2147483647 : Int32)) % (3 : Int32))), .val (.int (4 : Int32)), .val (.ref b10), .val (.int (own_f_rm2 (f ((x0 &&& (2147483647 : Int32)) % (3 : Int32)).toInt.toNat))), .val (.int (own_f_rm2 (f (((x0 &&& (2147483647 : Int32)) % (3 : Int32)).toInt.toNat + 1)))), .val (.int (own_f_rm2 (f (((x0 &&& (2147483647 : Int32)) % (3 : Int32)).toInt.toNat + 2)))), .val (.int (own_f_rm2 (f (((x0 &&& (2147483647 : Int32)) % (3 : Int32)).toInt.toNat + 3)))), .val (.int (1 : Int32)), .unset, .unset]) at_183 rfl rfl ?_
            refine Go.iload C X26 (pc' := 187) at_185 rfl rfl ?_
            refine Go.ifYes C X26 (pc' := 196) at_187 ((if0 _ _).trans (feq (by decide)).2) (by decide) (by decide) ?_
            refine Go.iload C X26 (pc' := 198) at_196 rfl rfl ?_
            refine Go.iconst C X26 (pc' := 199) (v := (1 : Int32)) at_198 rfl rfl ?_
            refine Go.icmpYes C X26 (pc' := 209) at_199 (feq (by decide)).2 (by decide) (by decide) ?_
            refine Go.iload C X26 (pc' := 211) at_209 rfl rfl ?_
            refine Go.iconst C X26 (pc' := 212) (v := (2 : Int32)) at_211 rfl rfl ?_
            refine Go.icmpYes C X26 (pc' := 228) at_212 (feq (by decide)).2 (by decide) (by decide) ?_
            refine Go.iload C X26 (pc' := 230) at_228 rfl rfl ?_
            refine Go.iconst C X26 (pc' := 231) (v := (3 : Int32)) at_230 rfl rfl ?_
            refine Go.icmpYes C X26 (pc' := 253) at_231 (feq (by decide)).2 (by decide) (by decide) ?_
            refine Go.iload C X26 (pc' := 255) at_253 rfl rfl ?_
            refine Go.sipush C X26 (pc' := 258) (v := (1000 : Int32)) at_255 rfl rfl ?_
            refine Go.imul C X26 (pc' := 259) at_258 rfl ?_
            refine Go.iload C X26 (pc' := 261) at_259 rfl rfl ?_
            refine Go.bipush C X26 (pc' := 263) (v := (100 : Int32)) at_261 rfl rfl ?_
            refine Go.imul C X26 (pc' := 264) at_263 rfl ?_
            refine Go.iadd C X26 (pc' := 265) at_264 rfl ?_
            refine Go.iload C X26 (pc' := 267) at_265 rfl rfl ?_
            refine Go.bipush C X26 (pc' := 269) (v := (10 : Int32)) at_267 rfl rfl ?_
            refine Go.imul C X26 (pc' := 270) at_269 rfl ?_
            refine Go.iadd C X26 (pc' := 271) at_270 rfl ?_
            refine Go.iload C X26 (pc' := 273) at_271 rfl rfl ?_
            refine Go.iadd C X26 (pc' := 274) at_273 rfl ?_
            refine Go.istore C X26 (pc' := 276) (Ls' := #[.val (.int x0), .val (.int x1), .val (.long x2), .second, .val (.int x3), .val (.int ((x0 &&& (2147483647 : Int32)) % (3 : Int32))), .val (.int (4 : Int32)), .val (.ref b10), .val (.int (own_f_rm2 (f ((x0 &&& (2147483647 : Int32)) % (3 : Int32)).toInt.toNat))), .val (.int (own_f_rm2 (f (((x0 &&& (2147483647 : Int32)) % (3 : Int32)).toInt.toNat + 1)))), .val (.int (own_f_rm2 (f (((x0 &&& (2147483647 : Int32)) % (3 : Int32)).toInt.toNat + 2)))), .val (.int (own_f_rm2 (f (((x0 &&& (2147483647 : Int32)) % (3 : Int32)).toInt.toNat + 3)))), .val (.int (1 : Int32)), .val (.int (((((own_f_rm2 (f ((x0 &&& (2147483647 : Int32)) % (3 : Int32)).toInt.toNat)) * (1000 : Int32)) + ((own_f_rm2 (f (((x0 &&& (2147483647 : Int32)) % (3 : Int32)).toInt.toNat + 1))) * (100 : Int32))) + ((own_f_rm2 (f (((x0 &&& (2147483647 : Int32)) % (3 : Int32)).toInt.toNat + 2))) * (10 : Int32))) + (own_f_rm2 (f (((x0 &&& (2147483647 : Int32)) % (3 : Int32)).toInt.toNat + 3))))), .unset]) at_274 rfl rfl ?_
            refine Go.iload C X26 (pc' := 278) at_276 rfl rfl ?_
            refine Go.ifNo C X26 (pc' := 281) at_278 ((if0 _ _).trans (feq (by decide)).1) rfl ?_
            refine Go.iconst C X26 (pc' := 282) (v := (-1 : Int32)) at_281 rfl rfl ?_
            refine Go.goto C X26 (pc' := 287) at_282 (by decide) (by decide) ?_
            refine Go.istore C X26 (pc' := 289) (Ls' := #[.val (.int x0), .val (.int x1), .val (.long x2), .second, .val (.int x3), .val (.int ((x0 &&& (2147483647 : Int32)) % (3 : Int32))), .val (.int (4 : Int32)), .val (.ref b10), .val (.int (own_f_rm2 (f ((x0 &&& (2147483647 : Int32)) % (3 : Int32)).toInt.toNat))), .val (.int (own_f_rm2 (f (((x0 &&& (2147483647 : Int32)) % (3 : Int32)).toInt.toNat + 1)))), .val (.int (own_f_rm2 (f (((x0 &&& (2147483647 : Int32)) % (3 : Int32)).toInt.toNat + 2)))), .val (.int (own_f_rm2 (f (((x0 &&& (2147483647 : Int32)) % (3 : Int32)).toInt.toNat + 3)))), .val (.int (1 : Int32)), .val (.int (((((own_f_rm2 (f ((x0 &&& (2147483647 : Int32)) % (3 : Int32)).toInt.toNat)) * (1000 : Int32)) + ((own_f_rm2 (f (((x0 &&& (2147483647 : Int32)) % (3 : Int32)).toInt.toNat + 1))) * (100 : Int32))) + ((own_f_rm2 (f (((x0 &&& (2147483647 : Int32)) % (3 : Int32)).toInt.toNat + 2))) * (10 : Int32))) + (own_f_rm2 (f (((x0 &&& (2147483647 : Int32)) % (3 : Int32)).toInt.toNat + 3))))), .val (.int (-1 : Int32))]) at_287 rfl rfl ?_
            refine Go.aload C X26 (pc' := 291) at_289 rfl rfl rfl ?_
            refine Go.iload C X26 (pc' := 293) at_291 rfl rfl ?_
            refine Go.iload C X26 (pc' := 295) at_293 rfl rfl ?_
            refine Go.callS C X26 (pc' := 298) (W := 0) (argsL := [(.ref b10), (.int ((x0 &&& (2147483647 : Int32)) % (3 : Int32))), (.int (4 : Int32))]) (rest := []) (rm3 l Z a0 hw b10 ((x0 &&& (2147483647 : Int32)) % (3 : Int32)) (4 : Int32) 6 f h22 n0 X26.sz A88 (own_at x0).1 (by decide) (by have := own_at x0; have e : (4 : Int32).toInt = 4 := rfl; omega) (by decide)) (hw _ (List.mem_of_getElem? (i := 10) rfl)) (hw _ (List.mem_of_getElem? (i := 11) rfl)) (hw _ (List.mem_of_getElem? (i := 12) rfl)) (hw _ (List.mem_of_getElem? (i := 13) rfl)) (by decide) rfl rfl (lenOf own_pd2 rfl) rfl (Nat.le_of_eq rfl) (by decide) (by decide) (by decide) (by decide) at_295 rfl (fun _ _ q => Nat.le_of_eq (congrArg Array.size q.2)) (fun T51 h51 v51 X51 P51 => ?_)
            obtain ⟨rfl, rfl⟩ := P51
            show Go p e below s n0 _ _ _ T51 (mkF m 298 #[.val (.int x0), .val (.int x1), .val (.long x2), .second, .val (.int x3), .val (.int ((x0 &&& (2147483647 : Int32)) % (3 : Int32))), .val (.int (4 : Int32)), .val (.ref b10), .val (.int (own_f_rm2 (f ((x0 &&& (2147483647 : Int32)) % (3 : Int32)).toInt.toNat))), .val (.int (own_f_rm2 (f (((x0 &&& (2147483647 : Int32)) % (3 : Int32)).toInt.toNat + 1)))), .val (.int (own_f_rm2 (f (((x0 &&& (2147483647 : Int32)) % (3 : Int32)).toInt.toNat + 2)))), .val (.int (own_f_rm2 (f (((x0 &&& (2147483647 : Int32)) % (3 : Int32)).toInt.toNat + 3)))), .val (.int (1 : Int32)), .val (.int (((((own_f_rm2 (f ((x0 &&& (2147483647 : Int32)) % (3 : Int32)).toInt.toNat)) * (1000 : Int32)) + ((own_f_rm2 (f (((x0 &&& (2147483647 : Int32)) % (3 : Int32)).toInt.toNat + 1))) * (100 : Int32))) + ((own_f_rm2 (f (((x0 &&& (2147483647 : Int32)) % (3 : Int32)).toInt.toNat + 2))) * (10 : Int32))) + (own_f_rm2 (f (((x0 &&& (2147483647 : Int32)) % (3 : Int32)).toInt.toNat + 3))))), .val (.int (-1 : Int32))] [(.int (own_g f ((x0 &&& (2147483647 : Int32)) % (3 : Int32)).toInt.toNat (4 : Int32).toInt.toNat 0))])
            refine Go.iload C X51 (pc' := 300) at_298 rfl rfl ?_
            refine Go.icmpNo C X51 (pc' := 303) at_300 (teq (by show own_g f ((x0 &&& (2147483647 : Int32)) % (3 : Int32)).toInt.toNat 4 0 = _; rw [own_g1 hf, if_neg c44, own_g1 hf, if_neg c46, own_g1 hf, if_neg c48, own_g1 hf, if_pos c50])).2 rfl ?_
            refine Go.iconst C X51 (pc' := 304) (v := (1 : Int32)) at_303 rfl rfl ?_
            refine Go.goto C X51 (pc' := 308) at_304 (by decide) (by decide) ?_
            exact Go.retZ (t := .boolean) C X51 (z' := (1 : Int32)) (by decide) at_308 rfl (by decide) (by decide)
          · refine Go.ifYes C X26 (pc' := 182) at_175 ((if0 _ _).trans (flt c50).2.1) (by decide) (by decide) ?_
            refine Go.iconst C X26 (pc' := 183) (v := (0 : Int32)) at_182 rfl rfl ?_
            refine Go.istore C X26 (pc' := 185) (Ls' := #[.val (.int x0), .val (.int x1), .val (.long x2), .second, .val (.int x3), .val (.int ((x0 &&& (2147483647 : Int32)) % (3 : Int32))), .val (.int (4 : Int32)), .val (.ref b10), .val (.int (own_f_rm2 (f ((x0 &&& (2147483647 : Int32)) % (3 : Int32)).toInt.toNat))), .val (.int (own_f_rm2 (f (((x0 &&& (2147483647 : Int32)) % (3 : Int32)).toInt.toNat + 1)))), .val (.int (own_f_rm2 (f (((x0 &&& (2147483647 : Int32)) % (3 : Int32)).toInt.toNat + 2)))), .val (.int (own_f_rm2 (f (((x0 &&& (2147483647 : Int32)) % (3 : Int32)).toInt.toNat + 3)))), .val (.int (0 : Int32)), .unset, .unset]) at_183 rfl rfl ?_
            refine Go.iload C X26 (pc' := 187) at_185 rfl rfl ?_
            refine Go.ifYes C X26 (pc' := 196) at_187 ((if0 _ _).trans (feq (by decide)).2) (by decide) (by decide) ?_
            refine Go.iload C X26 (pc' := 198) at_196 rfl rfl ?_
            refine Go.iconst C X26 (pc' := 199) (v := (1 : Int32)) at_198 rfl rfl ?_
            refine Go.icmpYes C X26 (pc' := 209) at_199 (feq (by decide)).2 (by decide) (by decide) ?_
            refine Go.iload C X26 (pc' := 211) at_209 rfl rfl ?_
            refine Go.iconst C X26 (pc' := 212) (v := (2 : Int32)) at_211 rfl rfl ?_
            refine Go.icmpYes C X26 (pc' := 228) at_212 (feq (by decide)).2 (by decide) (by decide) ?_
            refine Go.iload C X26 (pc' := 230) at_228 rfl rfl ?_
            refine Go.iconst C X26 (pc' := 231) (v := (3 : Int32)) at_230 rfl rfl ?_
            refine Go.icmpYes C X26 (pc' := 253) at_231 (feq (by decide)).2 (by decide) (by decide) ?_
            refine Go.iload C X26 (pc' := 255) at_253 rfl rfl ?_
            refine Go.sipush C X26 (pc' := 258) (v := (1000 : Int32)) at_255 rfl rfl ?_
            refine Go.imul C X26 (pc' := 259) at_258 rfl ?_
            refine Go.iload C X26 (pc' := 261) at_259 rfl rfl ?_
            refine Go.bipush C X26 (pc' := 263) (v := (100 : Int32)) at_261 rfl rfl ?_
            refine Go.imul C X26 (pc' := 264) at_263 rfl ?_
            refine Go.iadd C X26 (pc' := 265) at_264 rfl ?_
            refine Go.iload C X26 (pc' := 267) at_265 rfl rfl ?_
            refine Go.bipush C X26 (pc' := 269) (v := (10 : Int32)) at_267 rfl rfl ?_
            refine Go.imul C X26 (pc' := 270) at_269 rfl ?_
            refine Go.iadd C X26 (pc' := 271) at_270 rfl ?_
            refine Go.iload C X26 (pc' := 273) at_271 rfl rfl ?_
            refine Go.iadd C X26 (pc' := 274) at_273 rfl ?_
            refine Go.istore C X26 (pc' := 276) (Ls' := #[.val (.int x0), .val (.int x1), .val (.long x2), .second, .val (.int x3), .val (.int ((x0 &&& (2147483647 : Int32)) % (3 : Int32))), .val (.int (4 : Int32)), .val (.ref b10), .val (.int (own_f_rm2 (f ((x0 &&& (2147483647 : Int32)) % (3 : Int32)).toInt.toNat))), .val (.int (own_f_rm2 (f (((x0 &&& (2147483647 : Int32)) % (3 : Int32)).toInt.toNat + 1)))), .val (.int (own_f_rm2 (f (((x0 &&& (2147483647 : Int32)) % (3 : Int32)).toInt.toNat + 2)))), .val (.int (own_f_rm2 (f (((x0 &&& (2147483647 : Int32)) % (3 : Int32)).toInt.toNat + 3)))), .val (.int (0 : Int32)), .val (.int (((((own_f_rm2 (f ((x0 &&& (2147483647 : Int32)) % (3 : Int32)).toInt.toNat)) * (1000 : Int32)) + ((own_f_rm2 (f (((x0 &&& (2147483647 : Int32)) % (3 : Int32)).toInt.toNat + 1))) * (100 : Int32))) + ((own_f_rm2 (f (((x0 &&& (2147483647 : Int32)) % (3 : Int32)).toInt.toNat + 2))) * (10 : Int32))) + (own_f_rm2 (f (((x0 &&& (2147483647 : Int32)) % (3 : Int32)).toInt.toNat + 3))))), .unset]) at_274 rfl rfl ?_
            refine Go.iload C X26 (pc' := 278) at_276 rfl rfl ?_
            refine Go.ifYes C X26 (pc' := 285) at_278 ((if0 _ _).trans (teq (by decide)).1) (by decide) (by decide) ?_
            refine Go.iload C X26 (pc' := 287) at_285 rfl rfl ?_
            refine Go.istore C X26 (pc' := 289) (Ls' := #[.val (.int x0), .val (.int x1), .val (.long x2), .second, .val (.int x3), .val (.int ((x0 &&& (2147483647 : Int32)) % (3 : Int32))), .val (.int (4 : Int32)), .val (.ref b10), .val (.int (own_f_rm2 (f ((x0 &&& (2147483647 : Int32)) % (3 : Int32)).toInt.toNat))), .val (.int (own_f_rm2 (f (((x0 &&& (2147483647 : Int32)) % (3 : Int32)).toInt.toNat + 1)))), .val (.int (own_f_rm2 (f (((x0 &&& (2147483647 : Int32)) % (3 : Int32)).toInt.toNat + 2)))), .val (.int (own_f_rm2 (f (((x0 &&& (2147483647 : Int32)) % (3 : Int32)).toInt.toNat + 3)))), .val (.int (0 : Int32)), .val (.int (((((own_f_rm2 (f ((x0 &&& (2147483647 : Int32)) % (3 : Int32)).toInt.toNat)) * (1000 : Int32)) + ((own_f_rm2 (f (((x0 &&& (2147483647 : Int32)) % (3 : Int32)).toInt.toNat + 1))) * (100 : Int32))) + ((own_f_rm2 (f (((x0 &&& (2147483647 : Int32)) % (3 : Int32)).toInt.toNat + 2))) * (10 : Int32))) + (own_f_rm2 (f (((x0 &&& (2147483647 : Int32)) % (3 : Int32)).toInt.toNat + 3))))), .val (.int (((((own_f_rm2 (f ((x0 &&& (2147483647 : Int32)) % (3 : Int32)).toInt.toNat)) * (1000 : Int32)) + ((own_f_rm2 (f (((x0 &&& (2147483647 : Int32)) % (3 : Int32)).toInt.toNat + 1))) * (100 : Int32))) + ((own_f_rm2 (f (((x0 &&& (2147483647 : Int32)) % (3 : Int32)).toInt.toNat + 2))) * (10 : Int32))) + (own_f_rm2 (f (((x0 &&& (2147483647 : Int32)) % (3 : Int32)).toInt.toNat + 3)))))]) at_287 rfl rfl ?_
            refine Go.aload C X26 (pc' := 291) at_289 rfl rfl rfl ?_
            refine Go.iload C X26 (pc' := 293) at_291 rfl rfl ?_
            refine Go.iload C X26 (pc' := 295) at_293 rfl rfl ?_
            refine Go.callS C X26 (pc' := 298) (W := 0) (argsL := [(.ref b10), (.int ((x0 &&& (2147483647 : Int32)) % (3 : Int32))), (.int (4 : Int32))]) (rest := []) (rm3 l Z a0 hw b10 ((x0 &&& (2147483647 : Int32)) % (3 : Int32)) (4 : Int32) 6 f h22 n0 X26.sz A88 (own_at x0).1 (by decide) (by have := own_at x0; have e : (4 : Int32).toInt = 4 := rfl; omega) (by decide)) (hw _ (List.mem_of_getElem? (i := 10) rfl)) (hw _ (List.mem_of_getElem? (i := 11) rfl)) (hw _ (List.mem_of_getElem? (i := 12) rfl)) (hw _ (List.mem_of_getElem? (i := 13) rfl)) (by decide) rfl rfl (lenOf own_pd2 rfl) rfl (Nat.le_of_eq rfl) (by decide) (by decide) (by decide) (by decide) at_295 rfl (fun _ _ q => Nat.le_of_eq (congrArg Array.size q.2)) (fun T52 h52 v52 X52 P52 => ?_)
            obtain ⟨rfl, rfl⟩ := P52
            show Go p e below s n0 _ _ _ T52 (mkF m 298 #[.val (.int x0), .val (.int x1), .val (.long x2), .second, .val (.int x3), .val (.int ((x0 &&& (2147483647 : Int32)) % (3 : Int32))), .val (.int (4 : Int32)), .val (.ref b10), .val (.int (own_f_rm2 (f ((x0 &&& (2147483647 : Int32)) % (3 : Int32)).toInt.toNat))), .val (.int (own_f_rm2 (f (((x0 &&& (2147483647 : Int32)) % (3 : Int32)).toInt.toNat + 1)))), .val (.int (own_f_rm2 (f (((x0 &&& (2147483647 : Int32)) % (3 : Int32)).toInt.toNat + 2)))), .val (.int (own_f_rm2 (f (((x0 &&& (2147483647 : Int32)) % (3 : Int32)).toInt.toNat + 3)))), .val (.int (0 : Int32)), .val (.int (((((own_f_rm2 (f ((x0 &&& (2147483647 : Int32)) % (3 : Int32)).toInt.toNat)) * (1000 : Int32)) + ((own_f_rm2 (f (((x0 &&& (2147483647 : Int32)) % (3 : Int32)).toInt.toNat + 1))) * (100 : Int32))) + ((own_f_rm2 (f (((x0 &&& (2147483647 : Int32)) % (3 : Int32)).toInt.toNat + 2))) * (10 : Int32))) + (own_f_rm2 (f (((x0 &&& (2147483647 : Int32)) % (3 : Int32)).toInt.toNat + 3))))), .val (.int (((((own_f_rm2 (f ((x0 &&& (2147483647 : Int32)) % (3 : Int32)).toInt.toNat)) * (1000 : Int32)) + ((own_f_rm2 (f (((x0 &&& (2147483647 : Int32)) % (3 : Int32)).toInt.toNat + 1))) * (100 : Int32))) + ((own_f_rm2 (f (((x0 &&& (2147483647 : Int32)) % (3 : Int32)).toInt.toNat + 2))) * (10 : Int32))) + (own_f_rm2 (f (((x0 &&& (2147483647 : Int32)) % (3 : Int32)).toInt.toNat + 3)))))] [(.int (own_g f ((x0 &&& (2147483647 : Int32)) % (3 : Int32)).toInt.toNat (4 : Int32).toInt.toNat 0))])
            refine Go.iload C X52 (pc' := 300) at_298 rfl rfl ?_
            refine Go.icmpNo C X52 (pc' := 303) at_300 (teq (by show own_g f ((x0 &&& (2147483647 : Int32)) % (3 : Int32)).toInt.toNat 4 0 = _; rw [own_g1 hf, if_neg c44, own_g1 hf, if_neg c46, own_g1 hf, if_neg c48, own_g1 hf, if_neg c50]; exact own_r4 _ _ _ _)).2 rfl ?_
            refine Go.iconst C X52 (pc' := 304) (v := (1 : Int32)) at_303 rfl rfl ?_
            refine Go.goto C X52 (pc' := 308) at_304 (by decide) (by decide) ?_
            exact Go.retZ (t := .boolean) C X52 (z' := (1 : Int32)) (by decide) at_308 rfl (by decide) (by decide)
set_option maxRecDepth 65536 in
set_option maxHeartbeats 40000000 in
theorem comes_1 {Post : Tables → Env → Array Value → State → Outcome → State → Prop} (hpost : ∀ tb e args s v u, (limb_1_1.after args s (.returned v) u = true ∧ limb_1_2.after args s (.returned v) u = true ∧ True) → FrameEnd s (.returned v) u (Jvm.fieldLocs frame_1_writes args s ++ Jvm.arrayLocs frame_1_arrays args s ++ Jvm.staticLocs frame_1_statics s) 16 128 → Post tb e args s (.returned v) u) :
    ArmFor flags0 classFile x code maxLocals ret World_1 tables_1 room_1 Calls_1 rest_1 Pre_1 Post := by
  intro l hfl _ _ p e ha hc hk s m args below hf hA hF happ hP
  obtain ⟨hcalls, hrest, hpre⟩ := hP
  obtain ⟨-, -, -, hnamed, -, -, -, hat⟩ := (Spec.applies_iff hf).mp happ
  obtain ⟨hg, hn⟩ := and_e (Cond.before_iff.mp (show (Jvm.Cond.and given_1 narrow_1).before args s = true from hpre))
  obtain ⟨hcount, hg0⟩ := and_e hg
  obtain ⟨w0, w1, w2, w3, rfl⟩ : ∃ w0 w1 w2 w3 : Value, args = #[w0, w1, w2, w3] := by
    have hs : args.size = 4 := by simpa [Cond.value, given_1] using hcount
    obtain ⟨L⟩ := args
    match L, hs with
    | [w0, w1, w2, w3], _ => exact ⟨w0, w1, w2, w3, rfl⟩
  have hw := fun d (hd : d ∈ tables_1) => atoms_spec (ws := Jvm.Cond.code x code maxLocals ret :: tables_1) hat d (List.mem_cons_of_mem _ hd)
  have hfit : Fit s := fun {y c} hc i hi => by
    obtain ⟨ha, rfl⟩ := Array.getElem?_eq_some_iff.mp hc
    have q := List.all_eq_true.mp ((Array.all_eq_true_iff_forall_mem.mp hF) _ (Array.getElem_mem ha)) i (List.mem_range.mpr hi)
    simpa [Array.getElem?_eq_getElem hi] using q
  obtain ⟨ha0, hg1⟩ := and_e hg0
  obtain ⟨i0, e0⟩ := is_v ha0
  obtain rfl : w0 = (.int i0) := Option.some.inj e0
  obtain ⟨ha1, hg2⟩ := and_e hg1
  obtain ⟨i1, e1⟩ := is_v ha1
  obtain rfl : w1 = (.int i1) := Option.some.inj e1
  obtain ⟨ha2, hg3⟩ := and_e hg2
  obtain ⟨i2, e2⟩ := isL_v ha2
  obtain rfl : w2 = (.long i2) := Option.some.inj e2
  obtain ⟨i3, e3⟩ := is_v hg3
  obtain rfl : w3 = (.int i3) := Option.some.inj e3
  obtain ⟨n, o, h1, h2, h3, _, L, rfl, ⟨rfl, N⟩, hq⟩ := rm0 l s _ hw i0 i1 i2 i3 s.heap s.heap.size (Nat.le_refl _)  tables_1 p e ha hc hk s m _ below hf ((Spec.applies_iff_loose hf).mp happ).1 ⟨rfl, State.Warmed39.refl s, rfl⟩ trivial
  refine ⟨n, _, h1, h2, h3, hpost _ _ _ _ _ _ ⟨Cond.after_iff.mpr rfl, Cond.after_iff.mpr (eq_i res_at (Term.int_eval (1)) rfl), trivial⟩ ⟨hq.1, hq.2.1, (hq.2.2.sift fun y hy => Or.inr (N y hy)).mono (by decide) (by decide)⟩⟩
theorem main_1_1 : Claimed_1_1 := comes_1 fun _ _ _ _ _ _ h hF => ⟨h.1, hF⟩
theorem main_1_2 : Claimed_1_2 := comes_1 fun _ _ _ _ _ _ h hF => ⟨h.2.1, hF⟩
end Jvm.Pilot.@@N@@
namespace Jvm.Pilot.@@N@@
open Jvm Jvm.ClassFile Sem Op Lib Jvm.Free Jvm.Stand Jvm.Pilot.@@N@@.Jvm.D
/-! MADE BY PROGRAM (witnessworld.py) out of the Statement's table words and the real class files: 10 classes; the members and pool entries that the words name. The judged class is class 1, her method 3. -/
namespace start1
open Jvm.ClassFile
def u (s : String) : CpInfo := .utf8 (stringToUtf16 s)
/-- a pool by its gaps: so many unusable entries, then the entry; so many at the end -/
def gap : Nat → List CpInfo → List CpInfo
  | 0, r => r
  | n + 1, r => .unusable :: gap n r
def poolList (es : List (Nat × CpInfo)) (last : Nat) : List CpInfo := es.foldr (fun e r => gap e.1 (e.2 :: r)) (gap last [])
def pool (es : List (Nat × CpInfo)) (last : Nat) : Array CpInfo := ⟨poolList es last⟩
def fileOf (pool : Array CpInfo) (this : Nat) (attrs : Array Attribute := #[]) (ms : Array MethodInfo := #[]) (fl : Nat := 33) (sup : Nat := 0) (ifs : Array Nat := #[]) (fds : Array FieldInfo := #[]) : ClassFile where
  minorVersion := 0
  majorVersion := 65
  constantPool := pool
  accessFlags := fl
  thisClass := this
  superClass := sup
  interfaces := ifs
  fields := fds
  methods := ms
  attributes := attrs
def plain (name : String) (sup : Option ClassId) : Class where
  name := name
  kind := .ordinary
  loader := none
  accessFlags := 33
  super := sup
  interfaces := #[]
  cf := none
  fields := #[]
  methods := #[]
  instanceTypes := #[]
  staticTypes := #[]
  resolved := #[]
  callSites := []
  init := .initialized
  statics := none
  mirror := none

def pool0 : Array CpInfo := pool [(5, u "<init>"), (0, u "()V"), (1, .class_ 10), (1, u "java/lang/Object")] 113

def k0m0 : Method := { name := "<init>", desc := "()V", sig := { parameters := [], returnType := none }, accessFlags := 1, code := none }
/-- java/lang/Object -/
def k0 : Class := { plain "java/lang/Object" none with
  accessFlags := 33
  interfaces := #[]
  cf := some (fileOf pool0 8 #[] #[{ accessFlags := 1, nameIndex := 5, descriptorIndex := 6, attributes := #[] }] 33 0 #[] #[])
  fields := #[]
  methods := #[k0m0]
  instanceTypes := #[]
  staticTypes := #[]
  resolved := Array.replicate 124 none
  statics := none }

def pool1 : Array CpInfo := pool [(2, .class_ 4), (1, u "java/lang/Object"), (0, u "<init>"), (0, u "()V"), (0, .long 255), (1, .integer 2147483647), (0, .methodref 11 12), (0, .class_ 13), (0, .nameAndType 14 15), (0, u "com/example/streamgauge/streamgauge/workloads/AccessLogLineDigitsPinLaw"), (0, u "pick"), (0, u "(JII)B"), (0, .methodref 11 17), (0, .nameAndType 18 19), (0, u "dig"), (0, u "(B)I"), (0, .methodref 21 22), (0, .class_ 23), (0, .nameAndType 24 25), (0, u "com/example/streamgauge/streamgauge/workloads/AccessLogLine"), (0, u "digits"), (0, u "([BII)I"), (3, u "law"), (0, u "(IIJI)Z")] 4

def k1m0 : Method := { name := "<init>", desc := "()V", sig := { parameters := [], returnType := none }, accessFlags := 2, code := none }
def k1c1 : Code := { maxStack := 4, maxLocals := 5, code := method_2_code, exceptionTable := #[], attributes := #[] }
def k1m1 : Method := { name := "pick", desc := "(JII)B", sig := { parameters := [.long, .int, .int], returnType := some .byte }, accessFlags := 10, code := some k1c1 }
def k1c2 : Code := { maxStack := 2, maxLocals := 1, code := method_3_code, exceptionTable := #[], attributes := #[] }
def k1m2 : Method := { name := "dig", desc := "(B)I", sig := { parameters := [.byte], returnType := some .int }, accessFlags := 10, code := some k1c2 }
def k1c3 : Code := { maxStack := 6, maxLocals := 15, code := code, exceptionTable := #[], attributes := #[] }
def k1m3 : Method := { name := "law", desc := "(IIJI)Z", sig := { parameters := [.int, .int, .long, .int], returnType := some .boolean }, accessFlags := 9, code := some k1c3 }
/-- com/example/streamgauge/streamgauge/workloads/AccessLogLineDigitsPinLaw -/
def k1 : Class := { plain "com/example/streamgauge/streamgauge/workloads/AccessLogLineDigitsPinLaw" (some 0) with
  accessFlags := 49
  interfaces := #[]
  cf := some (fileOf pool1 11 #[] #[{ accessFlags := 2, nameIndex := 5, descriptorIndex := 6, attributes := #[] }, { accessFlags := 10, nameIndex := 14, descriptorIndex := 15, attributes := #[] }, { accessFlags := 10, nameIndex := 18, descriptorIndex := 19, attributes := #[] }, { accessFlags := 9, nameIndex := 29, descriptorIndex := 30, attributes := #[] }] 49 2 #[] #[])
  fields := #[]
  methods := #[k1m0, k1m1, k1m2, k1m3]
  instanceTypes := #[]
  staticTypes := #[]
  resolved := Array.replicate 35 none
  statics := none }

def pool2 : Array CpInfo := pool [(2, .class_ 4), (1, u "java/lang/Object"), (0, u "<init>"), (0, u "()V"), (0, .class_ 8), (0, u "java/lang/Record")] 13

def k2m0 : Method := { name := "<init>", desc := "()V", sig := { parameters := [], returnType := none }, accessFlags := 4, code := none }
/-- java/lang/Record -/
def k2 : Class := { plain "java/lang/Record" (some 0) with
  accessFlags := 1057
  interfaces := #[]
  cf := some (fileOf pool2 7 #[] #[{ accessFlags := 4, nameIndex := 5, descriptorIndex := 6, attributes := #[] }] 1057 2 #[] #[])
  fields := #[]
  methods := #[k2m0]
  instanceTypes := #[]
  staticTypes := #[]
  resolved := Array.replicate 22 none
  statics := none }

def pool3 : Array CpInfo := pool [(2, .class_ 4), (1, u "java/lang/Record"), (3, .class_ 10), (1, u "com/example/streamgauge/streamgauge/workloads/AccessLogLine"), (0, u "epochSecond"), (0, u "J"), (2, u "status"), (0, u "I"), (2, u "datePosition"), (2, u "localDay"), (7, u "([BII)I"), (8, u "digits"), (34, u "FIRST_DAY"), (2, u "LAST_DAY"), (31, u "MONTHS"), (0, u "[[B"), (81, u "DATE_LENGTH"), (2, u "SECONDS_PER_DAY"), (0, u "TIME_LENGTH"), (1, u "FIELDS")] 45

def k3c0 : Code := { maxStack := 3, maxLocals := 6, code := prog_116_method_8_code, exceptionTable := #[], attributes := #[] }
def k3m0 : Method := { name := "digits", desc := "([BII)I", sig := { parameters := [(.array .byte), .int, .int], returnType := some .int }, accessFlags := 8, code := some k3c0 }
/-- com/example/streamgauge/streamgauge/workloads/AccessLogLine -/
def k3 : Class := { plain "com/example/streamgauge/streamgauge/workloads/AccessLogLine" (some 2) with
  accessFlags := 49
  interfaces := #[]
  cf := some (fileOf pool3 8 #[] #[{ accessFlags := 8, nameIndex := 39, descriptorIndex := 30, attributes := #[] }] 49 2 #[] #[{ accessFlags := 18, nameIndex := 11, descriptorIndex := 12, attributes := #[] }, { accessFlags := 18, nameIndex := 15, descriptorIndex := 16, attributes := #[] }, { accessFlags := 18, nameIndex := 19, descriptorIndex := 16, attributes := #[] }, { accessFlags := 18, nameIndex := 22, descriptorIndex := 12, attributes := #[] }, { accessFlags := 24, nameIndex := 192, descriptorIndex := 16, attributes := #[] }, { accessFlags := 24, nameIndex := 74, descriptorIndex := 12, attributes := #[] }, { accessFlags := 24, nameIndex := 77, descriptorIndex := 12, attributes := #[] }, { accessFlags := 24, nameIndex := 195, descriptorIndex := 12, attributes := #[] }, { accessFlags := 26, nameIndex := 196, descriptorIndex := 16, attributes := #[] }, { accessFlags := 26, nameIndex := 198, descriptorIndex := 16, attributes := #[] }, { accessFlags := 26, nameIndex := 109, descriptorIndex := 110, attributes := #[] }])
  fields := #[{ name := "epochSecond", type := .long, accessFlags := 18, slot := 0, constantValue := 0 }, { name := "status", type := .int, accessFlags := 18, slot := 1, constantValue := 0 }, { name := "datePosition", type := .int, accessFlags := 18, slot := 2, constantValue := 0 }, { name := "localDay", type := .long, accessFlags := 18, slot := 3, constantValue := 0 }, { name := "DATE_LENGTH", type := .int, accessFlags := 24, slot := 0, constantValue := 0 }, { name := "FIRST_DAY", type := .long, accessFlags := 24, slot := 1, constantValue := 0 }, { name := "LAST_DAY", type := .long, accessFlags := 24, slot := 2, constantValue := 0 }, { name := "SECONDS_PER_DAY", type := .long, accessFlags := 24, slot := 3, constantValue := 0 }, { name := "TIME_LENGTH", type := .int, accessFlags := 26, slot := 4, constantValue := 0 }, { name := "FIELDS", type := .int, accessFlags := 26, slot := 5, constantValue := 0 }, { name := "MONTHS", type := (.array (.array .byte)), accessFlags := 26, slot := 6, constantValue := 0 }]
  methods := #[k3m0]
  instanceTypes := #[.long, .int, .int, .long]
  staticTypes := #[.int, .long, .long, .long, .int, .int, (.array (.array .byte))]
  resolved := Array.replicate 244 none
  statics := none }

def pool4 : Array CpInfo := pool [(1, u "java/lang/Cloneable"), (0, .class_ 1), (0, u "java/lang/Object"), (0, .class_ 3)] 3

/-- java/lang/Cloneable -/
def k4 : Class := { plain "java/lang/Cloneable" (some 0) with
  accessFlags := 1537
  interfaces := #[]
  cf := some (fileOf pool4 2 #[] #[] 1537 4 #[] #[])
  fields := #[]
  methods := #[]
  instanceTypes := #[]
  staticTypes := #[]
  resolved := Array.replicate 8 none
  statics := none }

def pool5 : Array CpInfo := pool [(1, u "java/io/Serializable"), (0, .class_ 1), (0, u "java/lang/Object"), (0, .class_ 3)] 3

/-- java/io/Serializable -/
def k5 : Class := { plain "java/io/Serializable" (some 0) with
  accessFlags := 1537
  interfaces := #[]
  cf := some (fileOf pool5 2 #[] #[] 1537 4 #[] #[])
  fields := #[]
  methods := #[]
  instanceTypes := #[]
  staticTypes := #[]
  resolved := Array.replicate 8 none
  statics := none }

/-- the primitive byte -/
def k6 : Class := { plain "byte" none with kind := .primitive 'B', accessFlags := 0x411 }
/-- [B -/
def k7 : Class := { plain "[B" (some 0) with kind := .array 6 .byte, interfaces := #[4, 5], accessFlags := 1041 }

/-- the primitive int -/
def k8 : Class := { plain "int" none with kind := .primitive 'I', accessFlags := 0x411 }
/-- [I -/
def k9 : Class := { plain "[I" (some 0) with kind := .array 8 .int, interfaces := #[4, 5], accessFlags := 1041 }

def heap : Heap := #[]
def classes : Array Class := #[k0, k1, k2, k3, k4, k5, k6, k7, k8, k9]
def interned : List (Array UInt16 × Addr) := []
def slotsUsed : Nat := 0
def theMethod : MethodId := ⟨1, 3⟩
def args0 : Array Value := #[.int 1, .int 3, .long 3544385890265608, .int 63]
def aboutOver (below : List Frame) : State where
  vm := { classes := classes, interned := interned.toArray }
  heap := heap
  slotsUsed := slotsUsed
  threads := #[{ frames := .invoking theMethod args0 :: below }]
def below0 : List Frame := [.native { method := ⟨0, 0⟩, args := #[] }]
def about1 : State := aboutOver below0
def p0 : Program := .bare "" "" ""
def e0 : Env := launch0.env 0 0 0
theorem w_frames : about1.frames = Frame.invoking theMethod args0 :: below0 := rfl
set_option maxRecDepth 65536 in
theorem w_args : argsFit about1.vm theMethod args0 = true := by decide +kernel
set_option maxRecDepth 65536 in
theorem w_heap : heapFits about1 = true := by decide +kernel
set_option maxRecDepth 65536 in
theorem w_runnable : about1.curStatus? = some .runnable := by decide +kernel
set_option maxRecDepth 65536 in
theorem w_alone : about1.alone = true := by decide +kernel
set_option maxRecDepth 65536 in
theorem w_named : about1.methodNamed? x = some theMethod := by decide +kernel
set_option maxRecDepth 65536 in
theorem w_hears : about1.hears theMethod below0 = true := by decide +kernel
set_option maxRecDepth 65536 in
theorem w_ripe : about1.ripe theMethod args0 below0 = true := by decide +kernel
theorem w_running : about1.status = .running := rfl
set_option maxRecDepth 65536 in
theorem w_room : about1.hasRoom e0.platform room_1 = true :=
  launch0.hasRoom_least _ room_1 (by decide +kernel) (by decide +kernel) (by decide +kernel) (by decide +kernel) (by decide +kernel) (by decide +kernel)
theorem allAtoms_all (ts : List Jvm.Cond) (a : Array Jvm.Value) (st : Jvm.State) : (allAtoms ts).before a st = ts.all (fun c => c.before a st) := by
  induction ts with
  | nil => rfl
  | cons c t ih =>
    show (Jvm.Cond.and c (allAtoms t)).before a st = _
    rw [Jvm.Cond.before_and, ih, List.all_cons]
def words1 : List Jvm.Cond := Jvm.Cond.code x code maxLocals ret :: tables_1
/-- a 'code' word, met by the world's own term for the bytes: nothing is compared byte by byte -/
theorem code_word {y : MethodName} {bytes : ByteArray} {mx : Nat} {rt : Option FieldType} {a : Array Value} {s : State} {m : MethodId} {meth : Method} {c : Code} (h1 : s.methodNamed? y = some m) (h2 : s.vm.method? m = some meth) (h3 : meth.code = some c) (h4 : c.code = bytes)
    (h5 : (c.maxLocals == mx && c.exceptionTable.isEmpty && decide (c.maxStack ≤ mostOperands) && decide (meth.sig.returnType = rt) && !meth.locks && decide (parseMethodDescriptor y.desc = some meth.sig)) = true) : (Jvm.Cond.code y bytes mx rt).before a s = true := by
  simp only [Bool.and_eq_true, beq_iff_eq, Bool.not_eq_true', decide_eq_true_eq] at h5
  obtain ⟨⟨⟨⟨⟨g1, g2⟩, g3⟩, g4⟩, g5⟩, g6⟩ := h5
  simp [Cond.before, Cond.holds, Cond.value, h1, h2, h3, h4, g1, g2, g3, g4, g5, g6]
def isCode : Jvm.Cond → Bool
  | .code _ _ _ _ => true
  | _ => false
theorem all_split {L : List Jvm.Cond} {P : Jvm.Cond → Bool} (h1 : L.all (fun c => isCode c || P c) = true) (h2 : ∀ c ∈ L.filter isCode, P c = true) : L.all P = true := by
  refine List.all_eq_true.mpr fun c hc => ?_
  have h := List.all_eq_true.mp h1 c hc
  rcases Bool.eq_false_or_eq_true (isCode c) with hi | hi
  · exact h2 c (List.mem_filter.mpr ⟨hc, hi⟩)
  · simpa [hi] using h
set_option maxRecDepth 65536 in
theorem w_c0 : (Jvm.Cond.code x code maxLocals ret).before args0 about1 = true := code_word (m := ⟨1, 3⟩) (meth := k1m3) (c := k1c3) (by decide +kernel) rfl rfl rfl (by decide +kernel)
set_option maxRecDepth 65536 in
theorem w_c1 : (Jvm.Cond.code ({ cls := "com/example/streamgauge/streamgauge/workloads/AccessLogLineDigitsPinLaw", name := "pick", desc := "(JII)B" } : Jvm.MethodName) method_2_code (5 : Nat) (Option.some Jvm.ClassFile.FieldType.byte)).before args0 about1 = true := code_word (m := ⟨1, 1⟩) (meth := k1m1) (c := k1c1) (by decide +kernel) rfl rfl rfl (by decide +kernel)
set_option maxRecDepth 65536 in
theorem w_c2 : (Jvm.Cond.code ({ cls := "com/example/streamgauge/streamgauge/workloads/AccessLogLineDigitsPinLaw", name := "dig", desc := "(B)I" } : Jvm.MethodName) method_3_code (1 : Nat) (Option.some Jvm.ClassFile.FieldType.int)).before args0 about1 = true := code_word (m := ⟨1, 2⟩) (meth := k1m2) (c := k1c2) (by decide +kernel) rfl rfl rfl (by decide +kernel)
set_option maxRecDepth 65536 in
theorem w_c3 : (Jvm.Cond.code ({ cls := "com/example/streamgauge/streamgauge/workloads/AccessLogLine", name := "digits", desc := "([BII)I" } : Jvm.MethodName) prog_116_method_8_code (6 : Nat) (Option.some Jvm.ClassFile.FieldType.int)).before args0 about1 = true := code_word (m := ⟨3, 0⟩) (meth := k3m0) (c := k3c0) (by decide +kernel) rfl rfl rfl (by decide +kernel)
def codes1 : List Jvm.Cond := [Jvm.Cond.code x code maxLocals ret, Jvm.Cond.code ({ cls := "com/example/streamgauge/streamgauge/workloads/AccessLogLineDigitsPinLaw", name := "pick", desc := "(JII)B" } : Jvm.MethodName) method_2_code (5 : Nat) (Option.some Jvm.ClassFile.FieldType.byte), Jvm.Cond.code ({ cls := "com/example/streamgauge/streamgauge/workloads/AccessLogLineDigitsPinLaw", name := "dig", desc := "(B)I" } : Jvm.MethodName) method_3_code (1 : Nat) (Option.some Jvm.ClassFile.FieldType.int), Jvm.Cond.code ({ cls := "com/example/streamgauge/streamgauge/workloads/AccessLogLine", name := "digits", desc := "([BII)I" } : Jvm.MethodName) prog_116_method_8_code (6 : Nat) (Option.some Jvm.ClassFile.FieldType.int)]
set_option maxRecDepth 65536 in
theorem codes_eq : words1.filter isCode = codes1 := rfl
theorem w_codes : ∀ c ∈ words1.filter isCode, c.before args0 about1 = true := by
  rw [codes_eq]
  intro c hc
  simp only [codes1, List.mem_cons, List.not_mem_nil, or_false] at hc
  rcases hc with rfl | rfl | rfl | rfl
  · exact w_c0
  · exact w_c1
  · exact w_c2
  · exact w_c3
set_option maxRecDepth 65536 in
theorem w_t1 : words1.all (fun c => isCode c || c.before args0 about1) = true := by decide +kernel
theorem w_tables : (allAtoms (Jvm.Cond.code x code maxLocals ret :: tables_1)).before args0 about1 = true := by
  rw [allAtoms_all]
  show words1.all (fun c => c.before args0 about1) = true
  refine all_split ?_ w_codes
  rw [w_t1]
set_option maxRecDepth 65536 in
theorem w_case : (Jvm.Cond.and given_1 narrow_1).before args0 about1 = true := by decide +kernel
theorem w_applies : (headSpec (Jvm.Cond.code x code maxLocals ret :: tables_1) room_1).applies x e0.platform about1 = true :=
  (Spec.applies_iff w_frames).mpr ⟨w_running, w_runnable, w_alone, w_named, w_hears, w_ripe, w_room, w_tables⟩
theorem atStart : AtStart classFile x code maxLocals ret World_1 tables_1 room_1 Calls_1 rest_1 Pre_1 launch0 p0 e0 about1 theMethod args0 below0 :=
  ⟨lists_1, trivial, launch0.admits_env _ _ _, launch0.least_env, fairChoices_fair.cas, fairChoices_fair.clock, w_frames, w_args, w_heap, w_applies, trivial, trivial, w_case⟩
end start1
theorem witness_1 : WitnessClaimed_1 := ⟨start1.p0, start1.e0, start1.about1, start1.theMethod, start1.args0, start1.below0, start1.atStart⟩
end Jvm.Pilot.@@N@@
