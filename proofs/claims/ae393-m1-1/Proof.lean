import JvmDerived
import JvmDerived.Pilot.@@N@@Statement
import JvmDerived.Pilot.@@N@@Code
set_option linter.unusedVariables false
set_option linter.unusedSimpArgs false
namespace Jvm.OwnKit
open Sem ClassFile Op Lib Jvm.Stand Jvm.Free Jvm.LawKit Jvm.RoadKit
/-! The walk told forwards: 'Go .. pc Ls st h cells slots' says that the run of a body has come to pc with these locals, this stack and this heap. One theorem an instruction carries it on. -/
abbrev W : Type := Program × Env × State × MethodId × Array Value × List Frame × Method × Code × State
abbrev W.p (w : W) : Program := w.1
abbrev W.e (w : W) : Env := w.2.1
abbrev W.s (w : W) : State := w.2.2.1
abbrev W.m (w : W) : MethodId := w.2.2.2.1
abbrev W.args (w : W) : Array Value := w.2.2.2.2.1
abbrev W.below (w : W) : List Frame := w.2.2.2.2.2.1
abbrev W.meth (w : W) : Method := w.2.2.2.2.2.2.1
abbrev W.c (w : W) : Code := w.2.2.2.2.2.2.2.1
abbrev W.S0 (w : W) : State := w.2.2.2.2.2.2.2.2
def Sure (w : W) (Z : State) (y : MethodName) (code : ByteArray) (ml : Nat) (ret : Option FieldType) : Prop :=
  w.p.tables.exec = Jvm.exec ∧ Z.Warmed39 w.s.vm ∧ w.s.vm.findClass y.cls = some w.m.cls ∧ w.c.code = code ∧ w.c.maxLocals = ml ∧ w.meth.sig.returnType = ret ∧ w.meth.locks = false ∧ w.meth.name = y.name
def Go (w : W) (l : Launch) (R : Room) (Z : State) (n0 : Nat) (y : MethodName) (code : ByteArray) (ml : Nat) (ret : Option FieldType) (pc : Nat) (Ls : List Slot) (st : List Value) (h : Heap) (cells slots : Nat) : Prop :=
  Sure w Z y code ml ret ∧ ∃ T locs, Stand w.p l w.e R w.s w.m w.args w.below w.meth w.c T locs cells slots ∧ T.heap = h ∧ Fr n0 locs ∧
    ∀ t, Steps w.p.tables w.e w.below (T.setTop (mkF w.m pc Ls.toArray st)) t → Steps w.p.tables w.e w.below w.S0 t
def Fini (w : W) (n0 : Nat) (Q : Option Value → Heap → Prop) (C S : Nat) : Prop :=
  ∃ s₂ o, Steps w.p.tables w.e w.below w.S0 s₂ ∧ s₂.status = .running ∧ Ended s₂ w.below o ∧ ∃ v L, o = .returned v ∧ (Q v s₂.heap ∧ Fr n0 L) ∧ FrameEnd w.s o s₂ L C S
def Met (l : Launch) (Z : State) (y : MethodName) (code : ByteArray) (ml : Nat) (ret : Option FieldType) (rm : Room) (as : List Value) (h0 : Heap) (n0 : Nat) (Q : Option Value → Heap → Prop) : Prop :=
  ∀ ws, MetFree l y (head1 (Cond.code y code ml ret :: ws) rm) (fun a U => a = as.toArray ∧ Z.Warmed39 U.vm ∧ U.heap = h0) (fun _ _ _ _ _ => True) (fun _ U o U' => ∃ v L, o = .returned v ∧ (Q v U'.heap ∧ Fr n0 L) ∧ FrameEnd U o U' L rm.cells rm.slots)
def Ret (Q : Value → Heap → Prop) : Option Value → Heap → Prop := fun v h => ∃ u, v = some u ∧ Q u h
def Ret0 (Q : Heap → Prop) : Option Value → Heap → Prop := fun v h => v = none ∧ Q h
section Walk
variable {w : W} {l : Launch} {R : Room} {Z : State} {n0 : Nat} {y : MethodName} {code : ByteArray} {ml : Nat} {ret : Option FieldType} {pc : Nat} {Ls : List Slot} {st : List Value} {h : Heap} {cells slots : Nat}
theorem Met.intro {rm : Room} {as : List Value} {Q : Option Value → Heap → Prop} (hp : plainFor y = true) (hf : ∀ m, entryFrame m as.toArray ml = mkF m 0 Ls.toArray [])
    (body : ∀ w : W, Go w l rm Z n0 y code ml ret 0 Ls [] h 0 0 → Fini w n0 Q rm.cells rm.slots) : Met l Z y code ml ret rm as h n0 Q := by
  intro ws
  refine MetFree.of_bodySF hp hisR ?_
  intro p e s m args below meth c s₁ Bd hml0 hP hK
  obtain ⟨rfl, hZ, hh⟩ := hP
  have hown : s.vm.findClass y.cls = some m.cls := findClass_of_methodNamed Bd.named
  have hnm := (name_of_methodNamed Bd.named Bd.method).1
  have X0 : Stand p l e rm s m as.toArray below meth c s₁ [] 0 0 := Stand.of_body Bd
  have e0 : s₁.heap = h := by rw [← hh, Bd.state]; rfl
  exact body (p, e, s, m, as.toArray, below, meth, c, s₁.setTop (entryFrame m as.toArray ml)) ⟨⟨Bd.exec, hZ, hown, Bd.bytes, hml0, Bd.returns, BodyLoose.notSynchronized Bd, hnm⟩, s₁, [], X0, e0, Fr.nil n0, fun t k => castTop (hf m) k⟩
theorem Go.more (r : Go w l R Z n0 y code ml ret pc Ls st h cells slots) {cells' slots' : Nat} (h1 : cells ≤ cells') (h2 : slots ≤ slots') : Go w l R Z n0 y code ml ret pc Ls st h cells' slots' := by
  obtain ⟨S, T, locs, X, e, N, k⟩ := r
  exact ⟨S, T, locs, X.more h1 h2, e, N, k⟩
/-- one step that leaves the heap -/
theorem Go.step (r : Go w l R Z n0 y code ml ret pc Ls st h cells slots) {pc' : Nat} {Ls' : List Slot} {st' : List Value}
    (f : ∀ T t, At T w.m w.c w.below → w.p.tables.exec = Jvm.exec → w.c.code = code → Steps w.p.tables w.e w.below (T.setTop (mkF w.m pc' Ls'.toArray st')) t → Steps w.p.tables w.e w.below (T.setTop (mkF w.m pc Ls.toArray st)) t) :
    Go w l R Z n0 y code ml ret pc' Ls' st' h cells slots := by
  obtain ⟨S, T, locs, X, e, N, k⟩ := r
  exact ⟨S, T, locs, X, e, N, fun t q => k t (f T t X.here S.1 S.2.2.2.1 q)⟩
def oneB : Slot → Bool
  | .unset => true
  | .val v => v.category == 1
  | .second => false
theorem One.of {o : Slot} (h : oneB o = true) : One o := by
  cases o with
  | unset => exact One.u
  | val v => exact One.val (by simpa [oneB] using h)
  | second => cases h
theorem Go.iconst {i : Int} (r : Go w l R Z n0 y code ml ret pc Ls st h cells slots) (pc' : Nat) (hd : decode code pc = .ok (.iconst i, 1)) (hp : pc + 1 = pc') : Go w l R Z n0 y code ml ret pc' Ls (.int (Int32.ofInt i) :: st) h cells slots := by
  subst hp; exact r.step fun T t a x b k => XS.iconst a x rfl (hb b hd) k
theorem Go.bipush {i : Int} (r : Go w l R Z n0 y code ml ret pc Ls st h cells slots) (pc' : Nat) (hd : decode code pc = .ok (.bipush i, 2)) (hp : pc + 2 = pc') : Go w l R Z n0 y code ml ret pc' Ls (.int (Int8.ofInt i).toInt32 :: st) h cells slots := by
  subst hp; exact r.step fun T t a x b k => XS.bipush a x rfl (hb b hd) k
theorem Go.sipush {i : Int} (r : Go w l R Z n0 y code ml ret pc Ls st h cells slots) (pc' : Nat) (hd : decode code pc = .ok (.sipush i, 3)) (hp : pc + 3 = pc') : Go w l R Z n0 y code ml ret pc' Ls (.int (Int16.ofInt i).toInt32 :: st) h cells slots := by
  subst hp; exact r.step fun T t a x b k => XS.sipush a x rfl (hb b hd) k
theorem Go.iconstV {i : Int} (r : Go w l R Z n0 y code ml ret pc Ls st h cells slots) (pc' : Nat) (hd : decode code pc = .ok (.iconst i, 1)) (hp : pc + 1 = pc') (v : Int32) (hv : Int32.ofInt i = v) : Go w l R Z n0 y code ml ret pc' Ls (.int v :: st) h cells slots := by
  subst hp; exact r.step fun T t a x b k => XS.iconst a x rfl (hb b hd) (by rw [hv]; exact k)
theorem Go.bipushV {i : Int} (r : Go w l R Z n0 y code ml ret pc Ls st h cells slots) (pc' : Nat) (hd : decode code pc = .ok (.bipush i, 2)) (hp : pc + 2 = pc') (v : Int32) (hv : (Int8.ofInt i).toInt32 = v) : Go w l R Z n0 y code ml ret pc' Ls (.int v :: st) h cells slots := by
  subst hp; exact r.step fun T t a x b k => XS.bipush a x rfl (hb b hd) (by rw [hv]; exact k)
theorem Go.sipushV {i : Int} (r : Go w l R Z n0 y code ml ret pc Ls st h cells slots) (pc' : Nat) (hd : decode code pc = .ok (.sipush i, 3)) (hp : pc + 3 = pc') (v : Int32) (hv : (Int16.ofInt i).toInt32 = v) : Go w l R Z n0 y code ml ret pc' Ls (.int v :: st) h cells slots := by
  subst hp; exact r.step fun T t a x b k => XS.sipush a x rfl (hb b hd) (by rw [hv]; exact k)
theorem Go.lconstV {i : Fin 2} (r : Go w l R Z n0 y code ml ret pc Ls st h cells slots) (pc' : Nat) (hd : decode code pc = .ok (.lconst i, 1)) (hp : pc + 1 = pc') (v : Int64) (hv : Int64.ofNat i = v) : Go w l R Z n0 y code ml ret pc' Ls (.long v :: st) h cells slots := by
  subst hp; exact r.step fun T t a x b k => XS.lconst a x rfl (hb b hd) (by rw [hv]; exact k)
theorem Go.iadd {u v : Int32} (r : Go w l R Z n0 y code ml ret pc Ls (.int v :: .int u :: st) h cells slots) (pc' : Nat) (hd : decode code pc = .ok (.iadd, 1)) (hp : pc + 1 = pc') : Go w l R Z n0 y code ml ret pc' Ls (.int (u + v) :: st) h cells slots := by
  subst hp; exact r.step fun T t a x b k => XS.iadd a x rfl (hb b hd) rfl k
theorem Go.isub {u v : Int32} (r : Go w l R Z n0 y code ml ret pc Ls (.int v :: .int u :: st) h cells slots) (pc' : Nat) (hd : decode code pc = .ok (.isub, 1)) (hp : pc + 1 = pc') : Go w l R Z n0 y code ml ret pc' Ls (.int (u - v) :: st) h cells slots := by
  subst hp; exact r.step fun T t a x b k => XS.isub a x rfl (hb b hd) rfl k
theorem Go.imul {u v : Int32} (r : Go w l R Z n0 y code ml ret pc Ls (.int v :: .int u :: st) h cells slots) (pc' : Nat) (hd : decode code pc = .ok (.imul, 1)) (hp : pc + 1 = pc') : Go w l R Z n0 y code ml ret pc' Ls (.int (u * v) :: st) h cells slots := by
  subst hp; exact r.step fun T t a x b k => XS.imul a x rfl (hb b hd) rfl k
theorem Go.iand {u v : Int32} (r : Go w l R Z n0 y code ml ret pc Ls (.int v :: .int u :: st) h cells slots) (pc' : Nat) (hd : decode code pc = .ok (.iand, 1)) (hp : pc + 1 = pc') : Go w l R Z n0 y code ml ret pc' Ls (.int (u &&& v) :: st) h cells slots := by
  subst hp; exact r.step fun T t a x b k => XS.iand a x rfl (hb b hd) rfl k
theorem Go.ior {u v : Int32} (r : Go w l R Z n0 y code ml ret pc Ls (.int v :: .int u :: st) h cells slots) (pc' : Nat) (hd : decode code pc = .ok (.ior, 1)) (hp : pc + 1 = pc') : Go w l R Z n0 y code ml ret pc' Ls (.int (u ||| v) :: st) h cells slots := by
  subst hp; exact r.step fun T t a x b k => XS.ior a x rfl (hb b hd) rfl k
theorem Go.ixor {u v : Int32} (r : Go w l R Z n0 y code ml ret pc Ls (.int v :: .int u :: st) h cells slots) (pc' : Nat) (hd : decode code pc = .ok (.ixor, 1)) (hp : pc + 1 = pc') : Go w l R Z n0 y code ml ret pc' Ls (.int (u ^^^ v) :: st) h cells slots := by
  subst hp; exact r.step fun T t a x b k => XS.ixor a x rfl (hb b hd) rfl k
theorem Go.ladd {u v : Int64} (r : Go w l R Z n0 y code ml ret pc Ls (.long v :: .long u :: st) h cells slots) (pc' : Nat) (hd : decode code pc = .ok (.ladd, 1)) (hp : pc + 1 = pc') : Go w l R Z n0 y code ml ret pc' Ls (.long (u + v) :: st) h cells slots := by
  subst hp; exact r.step fun T t a x b k => XS.ladd a x rfl (hb b hd) rfl k
theorem Go.lsub {u v : Int64} (r : Go w l R Z n0 y code ml ret pc Ls (.long v :: .long u :: st) h cells slots) (pc' : Nat) (hd : decode code pc = .ok (.lsub, 1)) (hp : pc + 1 = pc') : Go w l R Z n0 y code ml ret pc' Ls (.long (u - v) :: st) h cells slots := by
  subst hp; exact r.step fun T t a x b k => XS.lsub a x rfl (hb b hd) rfl k
theorem Go.lmul {u v : Int64} (r : Go w l R Z n0 y code ml ret pc Ls (.long v :: .long u :: st) h cells slots) (pc' : Nat) (hd : decode code pc = .ok (.lmul, 1)) (hp : pc + 1 = pc') : Go w l R Z n0 y code ml ret pc' Ls (.long (u * v) :: st) h cells slots := by
  subst hp; exact r.step fun T t a x b k => XS.lmul a x rfl (hb b hd) rfl k
theorem Go.land {u v : Int64} (r : Go w l R Z n0 y code ml ret pc Ls (.long v :: .long u :: st) h cells slots) (pc' : Nat) (hd : decode code pc = .ok (.land, 1)) (hp : pc + 1 = pc') : Go w l R Z n0 y code ml ret pc' Ls (.long (u &&& v) :: st) h cells slots := by
  subst hp; exact r.step fun T t a x b k => XS.land a x rfl (hb b hd) rfl k
theorem Go.lor {u v : Int64} (r : Go w l R Z n0 y code ml ret pc Ls (.long v :: .long u :: st) h cells slots) (pc' : Nat) (hd : decode code pc = .ok (.lor, 1)) (hp : pc + 1 = pc') : Go w l R Z n0 y code ml ret pc' Ls (.long (u ||| v) :: st) h cells slots := by
  subst hp; exact r.step fun T t a x b k => XS.lor a x rfl (hb b hd) rfl k
theorem Go.lxor {u v : Int64} (r : Go w l R Z n0 y code ml ret pc Ls (.long v :: .long u :: st) h cells slots) (pc' : Nat) (hd : decode code pc = .ok (.lxor, 1)) (hp : pc + 1 = pc') : Go w l R Z n0 y code ml ret pc' Ls (.long (u ^^^ v) :: st) h cells slots := by
  subst hp; exact r.step fun T t a x b k => XS.lxor a x rfl (hb b hd) rfl k
theorem Go.idiv {u v : Int32} (r : Go w l R Z n0 y code ml ret pc Ls (.int v :: .int u :: st) h cells slots) (pc' : Nat) (hd : decode code pc = .ok (.idiv, 1)) (hp : pc + 1 = pc') (hv : v ≠ 0) : Go w l R Z n0 y code ml ret pc' Ls (.int (u / v) :: st) h cells slots := by
  subst hp; exact r.step fun T t a x b k => XS.idiv a x rfl (hb b hd) rfl hv k
theorem Go.irem {u v : Int32} (r : Go w l R Z n0 y code ml ret pc Ls (.int v :: .int u :: st) h cells slots) (pc' : Nat) (hd : decode code pc = .ok (.irem, 1)) (hp : pc + 1 = pc') (hv : v ≠ 0) : Go w l R Z n0 y code ml ret pc' Ls (.int (u % v) :: st) h cells slots := by
  subst hp; exact r.step fun T t a x b k => XS.irem a x rfl (hb b hd) rfl hv (by rw [irem_eq_mod]; exact k)
theorem Go.ishl {u v : Int32} (r : Go w l R Z n0 y code ml ret pc Ls (.int v :: .int u :: st) h cells slots) (pc' : Nat) (hd : decode code pc = .ok (.ishl, 1)) (hp : pc + 1 = pc') : Go w l R Z n0 y code ml ret pc' Ls (.int (u <<< (v &&& 31)) :: st) h cells slots := by
  subst hp; exact r.step fun T t a x b k => XS.ishl a x rfl (hb b hd) rfl k
theorem Go.ishr {u v : Int32} (r : Go w l R Z n0 y code ml ret pc Ls (.int v :: .int u :: st) h cells slots) (pc' : Nat) (hd : decode code pc = .ok (.ishr, 1)) (hp : pc + 1 = pc') : Go w l R Z n0 y code ml ret pc' Ls (.int (u >>> (v &&& 31)) :: st) h cells slots := by
  subst hp; exact r.step fun T t a x b k => XS.ishr a x rfl (hb b hd) rfl k
theorem Go.iushr {u v : Int32} (r : Go w l R Z n0 y code ml ret pc Ls (.int v :: .int u :: st) h cells slots) (pc' : Nat) (hd : decode code pc = .ok (.iushr, 1)) (hp : pc + 1 = pc') : Go w l R Z n0 y code ml ret pc' Ls (.int ((u.toUInt32 >>> (v &&& 31).toUInt32).toInt32) :: st) h cells slots := by
  subst hp; exact r.step fun T t a x b k => XS.iushr a x rfl (hb b hd) rfl k
theorem Go.lshl {u : Int64} {v : Int32} (r : Go w l R Z n0 y code ml ret pc Ls (.int v :: .long u :: st) h cells slots) (pc' : Nat) (hd : decode code pc = .ok (.lshl, 1)) (hp : pc + 1 = pc') : Go w l R Z n0 y code ml ret pc' Ls (.long (u <<< (v &&& 0x3f).toInt64) :: st) h cells slots := by
  subst hp; exact r.step fun T t a x b k => XS.lshl a x rfl (hb b hd) rfl k
theorem Go.lshr {u : Int64} {v : Int32} (r : Go w l R Z n0 y code ml ret pc Ls (.int v :: .long u :: st) h cells slots) (pc' : Nat) (hd : decode code pc = .ok (.lshr, 1)) (hp : pc + 1 = pc') : Go w l R Z n0 y code ml ret pc' Ls (.long (u >>> (v &&& 0x3f).toInt64) :: st) h cells slots := by
  subst hp; exact r.step fun T t a x b k => XS.lshr a x rfl (hb b hd) rfl k
theorem Go.lushr {u : Int64} {v : Int32} (r : Go w l R Z n0 y code ml ret pc Ls (.int v :: .long u :: st) h cells slots) (pc' : Nat) (hd : decode code pc = .ok (.lushr, 1)) (hp : pc + 1 = pc') : Go w l R Z n0 y code ml ret pc' Ls (.long ((u.toUInt64 >>> (v &&& 0x3f).toInt64.toUInt64).toInt64) :: st) h cells slots := by
  subst hp; exact r.step fun T t a x b k => XS.lushr a x rfl (hb b hd) rfl k
theorem Go.lcmp {u v : Int64} (r : Go w l R Z n0 y code ml ret pc Ls (.long v :: .long u :: st) h cells slots) (pc' : Nat) (hd : decode code pc = .ok (.lcmp, 1)) (hp : pc + 1 = pc') : Go w l R Z n0 y code ml ret pc' Ls (.int (lcmpW u v) :: st) h cells slots := by
  subst hp; exact r.step fun T t a x b k => XS.lcmp a x rfl (hb b hd) rfl k
theorem Go.i2l {u : Int32} (r : Go w l R Z n0 y code ml ret pc Ls (.int u :: st) h cells slots) (pc' : Nat) (hd : decode code pc = .ok (.i2l, 1)) (hp : pc + 1 = pc') : Go w l R Z n0 y code ml ret pc' Ls (.long u.toInt64 :: st) h cells slots := by
  subst hp; exact r.step fun T t a x b k => XS.i2l a x rfl (hb b hd) rfl k
theorem Go.l2i {u : Int64} (r : Go w l R Z n0 y code ml ret pc Ls (.long u :: st) h cells slots) (pc' : Nat) (hd : decode code pc = .ok (.l2i, 1)) (hp : pc + 1 = pc') : Go w l R Z n0 y code ml ret pc' Ls (.int u.toInt32 :: st) h cells slots := by
  subst hp; exact r.step fun T t a x b k => XS.l2i a x rfl (hb b hd) rfl k
theorem Go.i2b {u : Int32} (r : Go w l R Z n0 y code ml ret pc Ls (.int u :: st) h cells slots) (pc' : Nat) (hd : decode code pc = .ok (.i2b, 1)) (hp : pc + 1 = pc') : Go w l R Z n0 y code ml ret pc' Ls (.int u.toInt8.toInt32 :: st) h cells slots := by
  subst hp; exact r.step fun T t a x b k => XS.i2b a x rfl (hb b hd) rfl k
theorem Go.dup {v : Value} (r : Go w l R Z n0 y code ml ret pc Ls (v :: st) h cells slots) (pc' : Nat) (hd : decode code pc = .ok (.dup, 1)) (hp : pc + 1 = pc') (hv : v.category = 1) : Go w l R Z n0 y code ml ret pc' Ls (v :: v :: st) h cells slots := by
  subst hp; exact r.step fun T t a x b k => XS.dup a x rfl (hb b hd) rfl hv k
theorem Go.pop {v : Value} (r : Go w l R Z n0 y code ml ret pc Ls (v :: st) h cells slots) (pc' : Nat) (hd : decode code pc = .ok (.pop, 1)) (hp : pc + 1 = pc') (hv : v.category = 1) : Go w l R Z n0 y code ml ret pc' Ls st h cells slots := by
  subst hp; exact r.step fun T t a x b k => XS.pop a x rfl (hb b hd) rfl hv k
theorem Go.dupX1 {u v : Value} (r : Go w l R Z n0 y code ml ret pc Ls (v :: u :: st) h cells slots) (pc' : Nat) (hd : decode code pc = .ok (.dup_x1, 1)) (hp : pc + 1 = pc') (hv : v.category = 1) (hu : u.category = 1) : Go w l R Z n0 y code ml ret pc' Ls (v :: u :: v :: st) h cells slots := by
  subst hp; exact r.step fun T t a x b k => XS.dupX1 a x rfl (hb b hd) rfl hv hu k
theorem Go.dup2 {u v : Value} (r : Go w l R Z n0 y code ml ret pc Ls (v :: u :: st) h cells slots) (pc' : Nat) (hd : decode code pc = .ok (.dup2, 1)) (hp : pc + 1 = pc') (hv : v.category = 1) (hu : u.category = 1) : Go w l R Z n0 y code ml ret pc' Ls (v :: u :: v :: u :: st) h cells slots := by
  subst hp; exact r.step fun T t a x b k => XT.dup2 a x rfl (hb b hd) rfl hv hu k
theorem Go.iloadG {v : Int32} {k : Nat} (r : Go w l R Z n0 y code ml ret pc Ls st h cells slots) (pc' : Nat) (hd : decode code pc = .ok (.iload k, 2)) (hp : pc + 2 = pc') (hl : Ls[k]? = some (.val (.int v))) : Go w l R Z n0 y code ml ret pc' Ls ((.int v) :: st) h cells slots := by
  subst hp; exact r.step fun T t a x b k => XS.iload a x rfl (hb b hd) (show Ls.toArray[_]? = _ by rw [List.getElem?_toArray]; exact hl) k
theorem Go.iloadNG {v : Int32} {k : Fin 4} (r : Go w l R Z n0 y code ml ret pc Ls st h cells slots) (pc' : Nat) (hd : decode code pc = .ok (.iload_n k, 1)) (hp : pc + 1 = pc') (hl : Ls[k.val]? = some (.val (.int v))) : Go w l R Z n0 y code ml ret pc' Ls ((.int v) :: st) h cells slots := by
  subst hp; exact r.step fun T t a x b k => XS.iloadN a x rfl (hb b hd) (show Ls.toArray[_]? = _ by rw [List.getElem?_toArray]; exact hl) k
theorem Go.lloadG {v : Int64} {k : Nat} (r : Go w l R Z n0 y code ml ret pc Ls st h cells slots) (pc' : Nat) (hd : decode code pc = .ok (.lload k, 2)) (hp : pc + 2 = pc') (hl : Ls[k]? = some (.val (.long v))) : Go w l R Z n0 y code ml ret pc' Ls ((.long v) :: st) h cells slots := by
  subst hp; exact r.step fun T t a x b k => XS.lload a x rfl (hb b hd) (show Ls.toArray[_]? = _ by rw [List.getElem?_toArray]; exact hl) k
theorem Go.lloadNG {v : Int64} {k : Fin 4} (r : Go w l R Z n0 y code ml ret pc Ls st h cells slots) (pc' : Nat) (hd : decode code pc = .ok (.lload_n k, 1)) (hp : pc + 1 = pc') (hl : Ls[k.val]? = some (.val (.long v))) : Go w l R Z n0 y code ml ret pc' Ls ((.long v) :: st) h cells slots := by
  subst hp; exact r.step fun T t a x b k => XS.lloadN a x rfl (hb b hd) (show Ls.toArray[_]? = _ by rw [List.getElem?_toArray]; exact hl) k
theorem Go.aloadG {v : Value} {k : Nat} (r : Go w l R Z n0 y code ml ret pc Ls st h cells slots) (pc' : Nat) (hd : decode code pc = .ok (.aload k, 2)) (hp : pc + 2 = pc') (hl : Ls[k]? = some (.val v)) (hv : v.isRef = true) : Go w l R Z n0 y code ml ret pc' Ls (v :: st) h cells slots := by
  subst hp; exact r.step fun T t a x b k => XS.aload a x rfl (hb b hd) (show Ls.toArray[_]? = _ by rw [List.getElem?_toArray]; exact hl) hv k
theorem Go.aloadNG {v : Value} {k : Fin 4} (r : Go w l R Z n0 y code ml ret pc Ls st h cells slots) (pc' : Nat) (hd : decode code pc = .ok (.aload_n k, 1)) (hp : pc + 1 = pc') (hl : Ls[k.val]? = some (.val v)) (hv : v.isRef = true) : Go w l R Z n0 y code ml ret pc' Ls (v :: st) h cells slots := by
  subst hp; exact r.step fun T t a x b k => XS.aloadN a x rfl (hb b hd) (show Ls.toArray[_]? = _ by rw [List.getElem?_toArray]; exact hl) hv k
theorem storeL {Ls Ls' : List Slot} {i : Nat} {v : Value} {o : Slot} (ho : Ls[i]? = some o) (h1 : One o) (hv : v.category = 1) (he : Ls.set i (.val v) = Ls') : storeLocals Ls.toArray i v = some Ls'.toArray := by
  subst he
  rw [XS.store1 (o := o) (by rw [List.getElem?_toArray]; exact ho) h1 hv]
  simp
/-- a long over two slots -/
def Two (o p : Slot) : Prop := (o = .unset ∧ p = .unset) ∨ (∃ v, o = .val (.long v) ∧ p = .second) ∨ (o = .unset ∧ ∃ v : Value, p = .val v ∧ v.category = 1) ∨ (∃ v : Value, o = .val v ∧ v.category = 1 ∧ (p = .unset ∨ ∃ u : Value, p = .val u ∧ u.category = 1))
def twoB : Slot → Slot → Bool
  | .unset, .unset => true
  | .unset, .val v => v.category == 1
  | .val (.long _), .second => true
  | .val v, .unset => v.category == 1
  | .val v, .val u => v.category == 1 && u.category == 1
  | _, _ => false
theorem Two.of {o p : Slot} (h : twoB o p = true) : Two o p := by
  cases o with
  | unset => cases p with
    | unset => exact Or.inl ⟨rfl, rfl⟩
    | val v => exact Or.inr (Or.inr (Or.inl ⟨rfl, v, rfl, by simpa [twoB] using h⟩))
    | second => cases h
  | second => cases h
  | val v => cases p with
    | unset => exact Or.inr (Or.inr (Or.inr ⟨v, rfl, by cases v <;> simpa [twoB] using h, Or.inl rfl⟩))
    | val u => exact Or.inr (Or.inr (Or.inr ⟨v, rfl, by cases v <;> simp_all [twoB], Or.inr ⟨u, rfl, by cases v <;> simp_all [twoB]⟩⟩))
    | second => cases v with
      | long z => exact Or.inr (Or.inl ⟨z, rfl, rfl⟩)
      | _ => simp [twoB] at h
theorem storeL2 {Ls Ls' : List Slot} {i : Nat} {v : Int64} {o q : Slot} (ho : Ls[i]? = some o) (hq : Ls[i + 1]? = some q) (h2 : Two o q) (he : (Ls.set i (.val (.long v))).set (i + 1) .second = Ls') : storeLocals Ls.toArray i (.long v) = some Ls'.toArray := by
  subst he
  obtain ⟨h3, h4⟩ := List.getElem?_eq_some_iff.mp ho
  obtain ⟨h5, h6⟩ := List.getElem?_eq_some_iff.mp hq
  have a1 : ∀ p q : Slot, ((Ls.set i p)[i + 1]? = some q) ↔ q = Ls[i + 1] := fun p q => by rw [List.getElem?_set_ne (by omega), hq, h6]; constructor <;> (intro z; simp_all)
  rcases h2 with ⟨rfl, rfl⟩ | ⟨u, rfl, rfl⟩ | ⟨rfl, u, rfl, hu⟩ | ⟨u, rfl, hu, rfl | ⟨u', rfl, hu'⟩⟩ <;>
    simp [storeLocals, storeSelf, Jvm.setAt, Value.category, ho, hq, h3, h5, List.getElem?_set_ne, List.set_comm, *] <;> (try simp_all [Value.category])
theorem Go.istoreG {u : Int32} {k : Nat} {o : Slot} {Ls' : List Slot} (r : Go w l R Z n0 y code ml ret pc Ls ((.int u) :: st) h cells slots) (pc' : Nat) (hd : decode code pc = .ok (.istore k, 2)) (hp : pc + 2 = pc') (ho : Ls[k]? = some o) (h1 : One o) (he : Ls.set k (.val (.int u)) = Ls') : Go w l R Z n0 y code ml ret pc' Ls' st h cells slots := by
  subst hp; exact r.step fun T t a x b k => XS.istore a x rfl (hb b hd) rfl (storeL ho h1 rfl he) k
theorem Go.istoreNG {u : Int32} {k : Fin 4} {o : Slot} {Ls' : List Slot} (r : Go w l R Z n0 y code ml ret pc Ls ((.int u) :: st) h cells slots) (pc' : Nat) (hd : decode code pc = .ok (.istore_n k, 1)) (hp : pc + 1 = pc') (ho : Ls[k.val]? = some o) (h1 : One o) (he : Ls.set k.val (.val (.int u)) = Ls') : Go w l R Z n0 y code ml ret pc' Ls' st h cells slots := by
  subst hp; exact r.step fun T t a x b k => XS.istoreN a x rfl (hb b hd) rfl (storeL ho h1 rfl he) k
theorem Go.astoreG {u : Value} {k : Nat} {o : Slot} {Ls' : List Slot} (r : Go w l R Z n0 y code ml ret pc Ls (u :: st) h cells slots) (pc' : Nat) (hd : decode code pc = .ok (.astore k, 2)) (hp : pc + 2 = pc') (hv : u.isRef = true) (hc : u.category = 1) (ho : Ls[k]? = some o) (h1 : One o) (he : Ls.set k (.val u) = Ls') : Go w l R Z n0 y code ml ret pc' Ls' st h cells slots := by
  subst hp; exact r.step fun T t a x b k => XS.astore a x rfl (hb b hd) rfl hv (storeL ho h1 hc he) k
theorem Go.astoreNG {u : Value} {k : Fin 4} {o : Slot} {Ls' : List Slot} (r : Go w l R Z n0 y code ml ret pc Ls (u :: st) h cells slots) (pc' : Nat) (hd : decode code pc = .ok (.astore_n k, 1)) (hp : pc + 1 = pc') (hv : u.isRef = true) (hc : u.category = 1) (ho : Ls[k.val]? = some o) (h1 : One o) (he : Ls.set k.val (.val u) = Ls') : Go w l R Z n0 y code ml ret pc' Ls' st h cells slots := by
  subst hp; exact r.step fun T t a x b k => XS.astoreN a x rfl (hb b hd) rfl hv (storeL ho h1 hc he) k
theorem Go.lstoreG {u : Int64} {k : Nat} {o q : Slot} {Ls' : List Slot} (r : Go w l R Z n0 y code ml ret pc Ls (.long u :: st) h cells slots) (pc' : Nat) (hd : decode code pc = .ok (.lstore k, 2)) (hp : pc + 2 = pc') (ho : Ls[k]? = some o) (hq : Ls[k + 1]? = some q) (h2 : Two o q) (he : (Ls.set k (.val (.long u))).set (k + 1) .second = Ls') : Go w l R Z n0 y code ml ret pc' Ls' st h cells slots := by
  subst hp; exact r.step fun T t a x b k => XS.lstore a x rfl (hb b hd) rfl (storeL2 ho hq h2 he) k
theorem Go.lstoreNG {u : Int64} {k : Fin 4} {o q : Slot} {Ls' : List Slot} (r : Go w l R Z n0 y code ml ret pc Ls (.long u :: st) h cells slots) (pc' : Nat) (hd : decode code pc = .ok (.lstore_n k, 1)) (hp : pc + 1 = pc') (ho : Ls[k.val]? = some o) (hq : Ls[k.val + 1]? = some q) (h2 : Two o q) (he : (Ls.set k.val (.val (.long u))).set (k.val + 1) .second = Ls') : Go w l R Z n0 y code ml ret pc' Ls' st h cells slots := by
  subst hp; exact r.step fun T t a x b k => XS.lstoreN a x rfl (hb b hd) rfl (storeL2 ho hq h2 he) k
theorem Go.iincG {u : Int32} {k : Nat} {i : Int} {Ls' : List Slot} (r : Go w l R Z n0 y code ml ret pc Ls st h cells slots) (pc' : Nat) (hd : decode code pc = .ok (.iinc k i, 3)) (hp : pc + 3 = pc') (hl : Ls[k]? = some (.val (.int u))) (he : Ls.set k (.val (.int (u + Int32.ofInt i))) = Ls') : Go w l R Z n0 y code ml ret pc' Ls' st h cells slots := by
  subst hp; exact r.step fun T t a x b k => XS.iinc a x rfl (hb b hd) (show Ls.toArray[_]? = _ by rw [List.getElem?_toArray]; exact hl) (storeL hl (One.val rfl) rfl he) k
theorem get_s {α : Type} {a : α} {L : List α} {k : Nat} {v : α} (h : L[k]? = some v) : (a :: L)[k + 1]? = some v := h
theorem get_z {α : Type} {L : List α} {v : α} : (v :: L)[0]? = some v := rfl
theorem set_s {α : Type} {a v : α} {L L' : List α} {k : Nat} (h : L.set k v = L') : (a :: L).set (k + 1) v = a :: L' := by subst h; rfl
theorem set_z {α : Type} {a v : α} {L : List α} : (a :: L).set 0 v = v :: L := rfl
theorem Go.ald0 {v : Addr} {q : List Slot} (r : Go w l R Z n0 y code ml ret pc (.val (.ref v) :: q) st h cells slots) (pc' : Nat) (hd : decode code pc = .ok (.aload_n 0, 1)) (hp : pc + 1 = pc') : Go w l R Z n0 y code ml ret pc' (.val (.ref v) :: q) ((.ref v) :: st) h cells slots := r.aloadNG pc' hd hp get_z rfl
theorem Go.ald2 {v : Addr} {a0 a1 : Slot} {q : List Slot} (r : Go w l R Z n0 y code ml ret pc (a0 :: a1 :: .val (.ref v) :: q) st h cells slots) (pc' : Nat) (hd : decode code pc = .ok (.aload_n 2, 1)) (hp : pc + 1 = pc') : Go w l R Z n0 y code ml ret pc' (a0 :: a1 :: .val (.ref v) :: q) ((.ref v) :: st) h cells slots := r.aloadNG pc' hd hp (get_s (get_s get_z)) rfl
theorem Go.ald11 {v : Addr} {a0 a1 a2 a3 a4 a5 a6 a7 a8 a9 a10 : Slot} {q : List Slot} (r : Go w l R Z n0 y code ml ret pc (a0 :: a1 :: a2 :: a3 :: a4 :: a5 :: a6 :: a7 :: a8 :: a9 :: a10 :: .val (.ref v) :: q) st h cells slots) (pc' : Nat) (hd : decode code pc = .ok (.aload 11, 2)) (hp : pc + 2 = pc') : Go w l R Z n0 y code ml ret pc' (a0 :: a1 :: a2 :: a3 :: a4 :: a5 :: a6 :: a7 :: a8 :: a9 :: a10 :: .val (.ref v) :: q) ((.ref v) :: st) h cells slots := r.aloadG pc' hd hp (get_s (get_s (get_s (get_s (get_s (get_s (get_s (get_s (get_s (get_s (get_s get_z))))))))))) rfl
theorem Go.ast2 {v : Addr} {o : Slot} {a0 a1 : Slot} {q : List Slot} (r : Go w l R Z n0 y code ml ret pc (a0 :: a1 :: o :: q) ((.ref v) :: st) h cells slots) (pc' : Nat) (hd : decode code pc = .ok (.astore_n 2, 1)) (hp : pc + 1 = pc') (ho : One o) : Go w l R Z n0 y code ml ret pc' (a0 :: a1 :: .val (.ref v) :: q) st h cells slots := r.astoreNG pc' hd hp rfl rfl (get_s (get_s get_z)) ho (set_s (set_s set_z))
theorem Go.ast11 {v : Addr} {o : Slot} {a0 a1 a2 a3 a4 a5 a6 a7 a8 a9 a10 : Slot} {q : List Slot} (r : Go w l R Z n0 y code ml ret pc (a0 :: a1 :: a2 :: a3 :: a4 :: a5 :: a6 :: a7 :: a8 :: a9 :: a10 :: o :: q) ((.ref v) :: st) h cells slots) (pc' : Nat) (hd : decode code pc = .ok (.astore 11, 2)) (hp : pc + 2 = pc') (ho : One o) : Go w l R Z n0 y code ml ret pc' (a0 :: a1 :: a2 :: a3 :: a4 :: a5 :: a6 :: a7 :: a8 :: a9 :: a10 :: .val (.ref v) :: q) st h cells slots := r.astoreG pc' hd hp rfl rfl (get_s (get_s (get_s (get_s (get_s (get_s (get_s (get_s (get_s (get_s (get_s get_z))))))))))) ho (set_s (set_s (set_s (set_s (set_s (set_s (set_s (set_s (set_s (set_s (set_s set_z)))))))))))
theorem Go.ild0 {v : Int32} {q : List Slot} (r : Go w l R Z n0 y code ml ret pc (.val (.int v) :: q) st h cells slots) (pc' : Nat) (hd : decode code pc = .ok (.iload_n 0, 1)) (hp : pc + 1 = pc') : Go w l R Z n0 y code ml ret pc' (.val (.int v) :: q) ((.int v) :: st) h cells slots := r.iloadNG pc' hd hp get_z
theorem Go.ild1 {v : Int32} {a0 : Slot} {q : List Slot} (r : Go w l R Z n0 y code ml ret pc (a0 :: .val (.int v) :: q) st h cells slots) (pc' : Nat) (hd : decode code pc = .ok (.iload_n 1, 1)) (hp : pc + 1 = pc') : Go w l R Z n0 y code ml ret pc' (a0 :: .val (.int v) :: q) ((.int v) :: st) h cells slots := r.iloadNG pc' hd hp (get_s get_z)
theorem Go.ild2 {v : Int32} {a0 a1 : Slot} {q : List Slot} (r : Go w l R Z n0 y code ml ret pc (a0 :: a1 :: .val (.int v) :: q) st h cells slots) (pc' : Nat) (hd : decode code pc = .ok (.iload_n 2, 1)) (hp : pc + 1 = pc') : Go w l R Z n0 y code ml ret pc' (a0 :: a1 :: .val (.int v) :: q) ((.int v) :: st) h cells slots := r.iloadNG pc' hd hp (get_s (get_s get_z))
theorem Go.ild3 {v : Int32} {a0 a1 a2 : Slot} {q : List Slot} (r : Go w l R Z n0 y code ml ret pc (a0 :: a1 :: a2 :: .val (.int v) :: q) st h cells slots) (pc' : Nat) (hd : decode code pc = .ok (.iload_n 3, 1)) (hp : pc + 1 = pc') : Go w l R Z n0 y code ml ret pc' (a0 :: a1 :: a2 :: .val (.int v) :: q) ((.int v) :: st) h cells slots := r.iloadNG pc' hd hp (get_s (get_s (get_s get_z)))
theorem Go.ild4 {v : Int32} {a0 a1 a2 a3 : Slot} {q : List Slot} (r : Go w l R Z n0 y code ml ret pc (a0 :: a1 :: a2 :: a3 :: .val (.int v) :: q) st h cells slots) (pc' : Nat) (hd : decode code pc = .ok (.iload 4, 2)) (hp : pc + 2 = pc') : Go w l R Z n0 y code ml ret pc' (a0 :: a1 :: a2 :: a3 :: .val (.int v) :: q) ((.int v) :: st) h cells slots := r.iloadG pc' hd hp (get_s (get_s (get_s (get_s get_z))))
theorem Go.ild9 {v : Int32} {a0 a1 a2 a3 a4 a5 a6 a7 a8 : Slot} {q : List Slot} (r : Go w l R Z n0 y code ml ret pc (a0 :: a1 :: a2 :: a3 :: a4 :: a5 :: a6 :: a7 :: a8 :: .val (.int v) :: q) st h cells slots) (pc' : Nat) (hd : decode code pc = .ok (.iload 9, 2)) (hp : pc + 2 = pc') : Go w l R Z n0 y code ml ret pc' (a0 :: a1 :: a2 :: a3 :: a4 :: a5 :: a6 :: a7 :: a8 :: .val (.int v) :: q) ((.int v) :: st) h cells slots := r.iloadG pc' hd hp (get_s (get_s (get_s (get_s (get_s (get_s (get_s (get_s (get_s get_z)))))))))
theorem Go.ild10 {v : Int32} {a0 a1 a2 a3 a4 a5 a6 a7 a8 a9 : Slot} {q : List Slot} (r : Go w l R Z n0 y code ml ret pc (a0 :: a1 :: a2 :: a3 :: a4 :: a5 :: a6 :: a7 :: a8 :: a9 :: .val (.int v) :: q) st h cells slots) (pc' : Nat) (hd : decode code pc = .ok (.iload 10, 2)) (hp : pc + 2 = pc') : Go w l R Z n0 y code ml ret pc' (a0 :: a1 :: a2 :: a3 :: a4 :: a5 :: a6 :: a7 :: a8 :: a9 :: .val (.int v) :: q) ((.int v) :: st) h cells slots := r.iloadG pc' hd hp (get_s (get_s (get_s (get_s (get_s (get_s (get_s (get_s (get_s (get_s get_z))))))))))
theorem Go.ild18 {v : Int32} {a0 a1 a2 a3 a4 a5 a6 a7 a8 a9 a10 a11 a12 a13 a14 a15 a16 a17 : Slot} {q : List Slot} (r : Go w l R Z n0 y code ml ret pc (a0 :: a1 :: a2 :: a3 :: a4 :: a5 :: a6 :: a7 :: a8 :: a9 :: a10 :: a11 :: a12 :: a13 :: a14 :: a15 :: a16 :: a17 :: .val (.int v) :: q) st h cells slots) (pc' : Nat) (hd : decode code pc = .ok (.iload 18, 2)) (hp : pc + 2 = pc') : Go w l R Z n0 y code ml ret pc' (a0 :: a1 :: a2 :: a3 :: a4 :: a5 :: a6 :: a7 :: a8 :: a9 :: a10 :: a11 :: a12 :: a13 :: a14 :: a15 :: a16 :: a17 :: .val (.int v) :: q) ((.int v) :: st) h cells slots := r.iloadG pc' hd hp (get_s (get_s (get_s (get_s (get_s (get_s (get_s (get_s (get_s (get_s (get_s (get_s (get_s (get_s (get_s (get_s (get_s (get_s get_z))))))))))))))))))
theorem Go.ild19 {v : Int32} {a0 a1 a2 a3 a4 a5 a6 a7 a8 a9 a10 a11 a12 a13 a14 a15 a16 a17 a18 : Slot} {q : List Slot} (r : Go w l R Z n0 y code ml ret pc (a0 :: a1 :: a2 :: a3 :: a4 :: a5 :: a6 :: a7 :: a8 :: a9 :: a10 :: a11 :: a12 :: a13 :: a14 :: a15 :: a16 :: a17 :: a18 :: .val (.int v) :: q) st h cells slots) (pc' : Nat) (hd : decode code pc = .ok (.iload 19, 2)) (hp : pc + 2 = pc') : Go w l R Z n0 y code ml ret pc' (a0 :: a1 :: a2 :: a3 :: a4 :: a5 :: a6 :: a7 :: a8 :: a9 :: a10 :: a11 :: a12 :: a13 :: a14 :: a15 :: a16 :: a17 :: a18 :: .val (.int v) :: q) ((.int v) :: st) h cells slots := r.iloadG pc' hd hp (get_s (get_s (get_s (get_s (get_s (get_s (get_s (get_s (get_s (get_s (get_s (get_s (get_s (get_s (get_s (get_s (get_s (get_s (get_s get_z)))))))))))))))))))
theorem Go.inc3 {v d : Int32} {i : Int} {a0 a1 a2 : Slot} {q : List Slot} (r : Go w l R Z n0 y code ml ret pc (a0 :: a1 :: a2 :: .val (.int v) :: q) st h cells slots) (pc' : Nat) (hd : decode code pc = .ok (.iinc 3 i, 3)) (hp : pc + 3 = pc') (he : Int32.ofInt i = d) : Go w l R Z n0 y code ml ret pc' (a0 :: a1 :: a2 :: .val (.int (v + d)) :: q) st h cells slots := r.iincG pc' hd hp (get_s (get_s (get_s get_z))) (by rw [he]; exact (set_s (set_s (set_s set_z))))
theorem Go.ist2 {v : Int32} {o : Slot} {a0 a1 : Slot} {q : List Slot} (r : Go w l R Z n0 y code ml ret pc (a0 :: a1 :: o :: q) ((.int v) :: st) h cells slots) (pc' : Nat) (hd : decode code pc = .ok (.istore_n 2, 1)) (hp : pc + 1 = pc') (ho : One o) : Go w l R Z n0 y code ml ret pc' (a0 :: a1 :: .val (.int v) :: q) st h cells slots := r.istoreNG pc' hd hp (get_s (get_s get_z)) ho (set_s (set_s set_z))
theorem Go.ist3 {v : Int32} {o : Slot} {a0 a1 a2 : Slot} {q : List Slot} (r : Go w l R Z n0 y code ml ret pc (a0 :: a1 :: a2 :: o :: q) ((.int v) :: st) h cells slots) (pc' : Nat) (hd : decode code pc = .ok (.istore_n 3, 1)) (hp : pc + 1 = pc') (ho : One o) : Go w l R Z n0 y code ml ret pc' (a0 :: a1 :: a2 :: .val (.int v) :: q) st h cells slots := r.istoreNG pc' hd hp (get_s (get_s (get_s get_z))) ho (set_s (set_s (set_s set_z)))
theorem Go.ist4 {v : Int32} {o : Slot} {a0 a1 a2 a3 : Slot} {q : List Slot} (r : Go w l R Z n0 y code ml ret pc (a0 :: a1 :: a2 :: a3 :: o :: q) ((.int v) :: st) h cells slots) (pc' : Nat) (hd : decode code pc = .ok (.istore 4, 2)) (hp : pc + 2 = pc') (ho : One o) : Go w l R Z n0 y code ml ret pc' (a0 :: a1 :: a2 :: a3 :: .val (.int v) :: q) st h cells slots := r.istoreG pc' hd hp (get_s (get_s (get_s (get_s get_z)))) ho (set_s (set_s (set_s (set_s set_z))))
theorem Go.ist9 {v : Int32} {o : Slot} {a0 a1 a2 a3 a4 a5 a6 a7 a8 : Slot} {q : List Slot} (r : Go w l R Z n0 y code ml ret pc (a0 :: a1 :: a2 :: a3 :: a4 :: a5 :: a6 :: a7 :: a8 :: o :: q) ((.int v) :: st) h cells slots) (pc' : Nat) (hd : decode code pc = .ok (.istore 9, 2)) (hp : pc + 2 = pc') (ho : One o) : Go w l R Z n0 y code ml ret pc' (a0 :: a1 :: a2 :: a3 :: a4 :: a5 :: a6 :: a7 :: a8 :: .val (.int v) :: q) st h cells slots := r.istoreG pc' hd hp (get_s (get_s (get_s (get_s (get_s (get_s (get_s (get_s (get_s get_z))))))))) ho (set_s (set_s (set_s (set_s (set_s (set_s (set_s (set_s (set_s set_z)))))))))
theorem Go.ist10 {v : Int32} {o : Slot} {a0 a1 a2 a3 a4 a5 a6 a7 a8 a9 : Slot} {q : List Slot} (r : Go w l R Z n0 y code ml ret pc (a0 :: a1 :: a2 :: a3 :: a4 :: a5 :: a6 :: a7 :: a8 :: a9 :: o :: q) ((.int v) :: st) h cells slots) (pc' : Nat) (hd : decode code pc = .ok (.istore 10, 2)) (hp : pc + 2 = pc') (ho : One o) : Go w l R Z n0 y code ml ret pc' (a0 :: a1 :: a2 :: a3 :: a4 :: a5 :: a6 :: a7 :: a8 :: a9 :: .val (.int v) :: q) st h cells slots := r.istoreG pc' hd hp (get_s (get_s (get_s (get_s (get_s (get_s (get_s (get_s (get_s (get_s get_z)))))))))) ho (set_s (set_s (set_s (set_s (set_s (set_s (set_s (set_s (set_s (set_s set_z))))))))))
theorem Go.ist18 {v : Int32} {o : Slot} {a0 a1 a2 a3 a4 a5 a6 a7 a8 a9 a10 a11 a12 a13 a14 a15 a16 a17 : Slot} {q : List Slot} (r : Go w l R Z n0 y code ml ret pc (a0 :: a1 :: a2 :: a3 :: a4 :: a5 :: a6 :: a7 :: a8 :: a9 :: a10 :: a11 :: a12 :: a13 :: a14 :: a15 :: a16 :: a17 :: o :: q) ((.int v) :: st) h cells slots) (pc' : Nat) (hd : decode code pc = .ok (.istore 18, 2)) (hp : pc + 2 = pc') (ho : One o) : Go w l R Z n0 y code ml ret pc' (a0 :: a1 :: a2 :: a3 :: a4 :: a5 :: a6 :: a7 :: a8 :: a9 :: a10 :: a11 :: a12 :: a13 :: a14 :: a15 :: a16 :: a17 :: .val (.int v) :: q) st h cells slots := r.istoreG pc' hd hp (get_s (get_s (get_s (get_s (get_s (get_s (get_s (get_s (get_s (get_s (get_s (get_s (get_s (get_s (get_s (get_s (get_s (get_s get_z)))))))))))))))))) ho (set_s (set_s (set_s (set_s (set_s (set_s (set_s (set_s (set_s (set_s (set_s (set_s (set_s (set_s (set_s (set_s (set_s (set_s set_z))))))))))))))))))
theorem Go.ist19 {v : Int32} {o : Slot} {a0 a1 a2 a3 a4 a5 a6 a7 a8 a9 a10 a11 a12 a13 a14 a15 a16 a17 a18 : Slot} {q : List Slot} (r : Go w l R Z n0 y code ml ret pc (a0 :: a1 :: a2 :: a3 :: a4 :: a5 :: a6 :: a7 :: a8 :: a9 :: a10 :: a11 :: a12 :: a13 :: a14 :: a15 :: a16 :: a17 :: a18 :: o :: q) ((.int v) :: st) h cells slots) (pc' : Nat) (hd : decode code pc = .ok (.istore 19, 2)) (hp : pc + 2 = pc') (ho : One o) : Go w l R Z n0 y code ml ret pc' (a0 :: a1 :: a2 :: a3 :: a4 :: a5 :: a6 :: a7 :: a8 :: a9 :: a10 :: a11 :: a12 :: a13 :: a14 :: a15 :: a16 :: a17 :: a18 :: .val (.int v) :: q) st h cells slots := r.istoreG pc' hd hp (get_s (get_s (get_s (get_s (get_s (get_s (get_s (get_s (get_s (get_s (get_s (get_s (get_s (get_s (get_s (get_s (get_s (get_s (get_s get_z))))))))))))))))))) ho (set_s (set_s (set_s (set_s (set_s (set_s (set_s (set_s (set_s (set_s (set_s (set_s (set_s (set_s (set_s (set_s (set_s (set_s (set_s set_z)))))))))))))))))))
theorem Go.lld0 {v : Int64} {q : List Slot} (r : Go w l R Z n0 y code ml ret pc (.val (.long v) :: q) st h cells slots) (pc' : Nat) (hd : decode code pc = .ok (.lload_n 0, 1)) (hp : pc + 1 = pc') : Go w l R Z n0 y code ml ret pc' (.val (.long v) :: q) ((.long v) :: st) h cells slots := r.lloadNG pc' hd hp get_z
theorem Go.lld1 {v : Int64} {a0 : Slot} {q : List Slot} (r : Go w l R Z n0 y code ml ret pc (a0 :: .val (.long v) :: q) st h cells slots) (pc' : Nat) (hd : decode code pc = .ok (.lload_n 1, 1)) (hp : pc + 1 = pc') : Go w l R Z n0 y code ml ret pc' (a0 :: .val (.long v) :: q) ((.long v) :: st) h cells slots := r.lloadNG pc' hd hp (get_s get_z)
theorem Go.lld2 {v : Int64} {a0 a1 : Slot} {q : List Slot} (r : Go w l R Z n0 y code ml ret pc (a0 :: a1 :: .val (.long v) :: q) st h cells slots) (pc' : Nat) (hd : decode code pc = .ok (.lload_n 2, 1)) (hp : pc + 1 = pc') : Go w l R Z n0 y code ml ret pc' (a0 :: a1 :: .val (.long v) :: q) ((.long v) :: st) h cells slots := r.lloadNG pc' hd hp (get_s (get_s get_z))
theorem Go.lld3 {v : Int64} {a0 a1 a2 : Slot} {q : List Slot} (r : Go w l R Z n0 y code ml ret pc (a0 :: a1 :: a2 :: .val (.long v) :: q) st h cells slots) (pc' : Nat) (hd : decode code pc = .ok (.lload_n 3, 1)) (hp : pc + 1 = pc') : Go w l R Z n0 y code ml ret pc' (a0 :: a1 :: a2 :: .val (.long v) :: q) ((.long v) :: st) h cells slots := r.lloadNG pc' hd hp (get_s (get_s (get_s get_z)))
theorem Go.lld5 {v : Int64} {a0 a1 a2 a3 a4 : Slot} {q : List Slot} (r : Go w l R Z n0 y code ml ret pc (a0 :: a1 :: a2 :: a3 :: a4 :: .val (.long v) :: q) st h cells slots) (pc' : Nat) (hd : decode code pc = .ok (.lload 5, 2)) (hp : pc + 2 = pc') : Go w l R Z n0 y code ml ret pc' (a0 :: a1 :: a2 :: a3 :: a4 :: .val (.long v) :: q) ((.long v) :: st) h cells slots := r.lloadG pc' hd hp (get_s (get_s (get_s (get_s (get_s get_z)))))
theorem Go.lld7 {v : Int64} {a0 a1 a2 a3 a4 a5 a6 : Slot} {q : List Slot} (r : Go w l R Z n0 y code ml ret pc (a0 :: a1 :: a2 :: a3 :: a4 :: a5 :: a6 :: .val (.long v) :: q) st h cells slots) (pc' : Nat) (hd : decode code pc = .ok (.lload 7, 2)) (hp : pc + 2 = pc') : Go w l R Z n0 y code ml ret pc' (a0 :: a1 :: a2 :: a3 :: a4 :: a5 :: a6 :: .val (.long v) :: q) ((.long v) :: st) h cells slots := r.lloadG pc' hd hp (get_s (get_s (get_s (get_s (get_s (get_s (get_s get_z)))))))
theorem Go.lld12 {v : Int64} {a0 a1 a2 a3 a4 a5 a6 a7 a8 a9 a10 a11 : Slot} {q : List Slot} (r : Go w l R Z n0 y code ml ret pc (a0 :: a1 :: a2 :: a3 :: a4 :: a5 :: a6 :: a7 :: a8 :: a9 :: a10 :: a11 :: .val (.long v) :: q) st h cells slots) (pc' : Nat) (hd : decode code pc = .ok (.lload 12, 2)) (hp : pc + 2 = pc') : Go w l R Z n0 y code ml ret pc' (a0 :: a1 :: a2 :: a3 :: a4 :: a5 :: a6 :: a7 :: a8 :: a9 :: a10 :: a11 :: .val (.long v) :: q) ((.long v) :: st) h cells slots := r.lloadG pc' hd hp (get_s (get_s (get_s (get_s (get_s (get_s (get_s (get_s (get_s (get_s (get_s (get_s get_z))))))))))))
theorem Go.lld14 {v : Int64} {a0 a1 a2 a3 a4 a5 a6 a7 a8 a9 a10 a11 a12 a13 : Slot} {q : List Slot} (r : Go w l R Z n0 y code ml ret pc (a0 :: a1 :: a2 :: a3 :: a4 :: a5 :: a6 :: a7 :: a8 :: a9 :: a10 :: a11 :: a12 :: a13 :: .val (.long v) :: q) st h cells slots) (pc' : Nat) (hd : decode code pc = .ok (.lload 14, 2)) (hp : pc + 2 = pc') : Go w l R Z n0 y code ml ret pc' (a0 :: a1 :: a2 :: a3 :: a4 :: a5 :: a6 :: a7 :: a8 :: a9 :: a10 :: a11 :: a12 :: a13 :: .val (.long v) :: q) ((.long v) :: st) h cells slots := r.lloadG pc' hd hp (get_s (get_s (get_s (get_s (get_s (get_s (get_s (get_s (get_s (get_s (get_s (get_s (get_s (get_s get_z))))))))))))))
theorem Go.lld16 {v : Int64} {a0 a1 a2 a3 a4 a5 a6 a7 a8 a9 a10 a11 a12 a13 a14 a15 : Slot} {q : List Slot} (r : Go w l R Z n0 y code ml ret pc (a0 :: a1 :: a2 :: a3 :: a4 :: a5 :: a6 :: a7 :: a8 :: a9 :: a10 :: a11 :: a12 :: a13 :: a14 :: a15 :: .val (.long v) :: q) st h cells slots) (pc' : Nat) (hd : decode code pc = .ok (.lload 16, 2)) (hp : pc + 2 = pc') : Go w l R Z n0 y code ml ret pc' (a0 :: a1 :: a2 :: a3 :: a4 :: a5 :: a6 :: a7 :: a8 :: a9 :: a10 :: a11 :: a12 :: a13 :: a14 :: a15 :: .val (.long v) :: q) ((.long v) :: st) h cells slots := r.lloadG pc' hd hp (get_s (get_s (get_s (get_s (get_s (get_s (get_s (get_s (get_s (get_s (get_s (get_s (get_s (get_s (get_s (get_s get_z))))))))))))))))
theorem Go.lld20 {v : Int64} {a0 a1 a2 a3 a4 a5 a6 a7 a8 a9 a10 a11 a12 a13 a14 a15 a16 a17 a18 a19 : Slot} {q : List Slot} (r : Go w l R Z n0 y code ml ret pc (a0 :: a1 :: a2 :: a3 :: a4 :: a5 :: a6 :: a7 :: a8 :: a9 :: a10 :: a11 :: a12 :: a13 :: a14 :: a15 :: a16 :: a17 :: a18 :: a19 :: .val (.long v) :: q) st h cells slots) (pc' : Nat) (hd : decode code pc = .ok (.lload 20, 2)) (hp : pc + 2 = pc') : Go w l R Z n0 y code ml ret pc' (a0 :: a1 :: a2 :: a3 :: a4 :: a5 :: a6 :: a7 :: a8 :: a9 :: a10 :: a11 :: a12 :: a13 :: a14 :: a15 :: a16 :: a17 :: a18 :: a19 :: .val (.long v) :: q) ((.long v) :: st) h cells slots := r.lloadG pc' hd hp (get_s (get_s (get_s (get_s (get_s (get_s (get_s (get_s (get_s (get_s (get_s (get_s (get_s (get_s (get_s (get_s (get_s (get_s (get_s (get_s get_z))))))))))))))))))))
theorem Go.lst1 {v : Int64} {o o' : Slot} {a0 : Slot} {q : List Slot} (r : Go w l R Z n0 y code ml ret pc (a0 :: o :: o' :: q) (.long v :: st) h cells slots) (pc' : Nat) (hd : decode code pc = .ok (.lstore_n 1, 1)) (hp : pc + 1 = pc') (ho : Two o o') : Go w l R Z n0 y code ml ret pc' (a0 :: .val (.long v) :: .second :: q) st h cells slots := r.lstoreNG pc' hd hp (get_s get_z) (get_s (get_s get_z)) ho (by show ((a0 :: o :: o' :: q).set 1 (.val (.long v))).set (1 + 1) .second = _; rw [show (a0 :: o :: o' :: q).set 1 (.val (.long v)) = (a0 :: .val (.long v) :: o' :: q) from (set_s set_z)]; exact (set_s (set_s set_z)))
theorem Go.lst3 {v : Int64} {o o' : Slot} {a0 a1 a2 : Slot} {q : List Slot} (r : Go w l R Z n0 y code ml ret pc (a0 :: a1 :: a2 :: o :: o' :: q) (.long v :: st) h cells slots) (pc' : Nat) (hd : decode code pc = .ok (.lstore_n 3, 1)) (hp : pc + 1 = pc') (ho : Two o o') : Go w l R Z n0 y code ml ret pc' (a0 :: a1 :: a2 :: .val (.long v) :: .second :: q) st h cells slots := r.lstoreNG pc' hd hp (get_s (get_s (get_s get_z))) (get_s (get_s (get_s (get_s get_z)))) ho (by show ((a0 :: a1 :: a2 :: o :: o' :: q).set 3 (.val (.long v))).set (3 + 1) .second = _; rw [show (a0 :: a1 :: a2 :: o :: o' :: q).set 3 (.val (.long v)) = (a0 :: a1 :: a2 :: .val (.long v) :: o' :: q) from (set_s (set_s (set_s set_z)))]; exact (set_s (set_s (set_s (set_s set_z)))))
theorem Go.lst5 {v : Int64} {o o' : Slot} {a0 a1 a2 a3 a4 : Slot} {q : List Slot} (r : Go w l R Z n0 y code ml ret pc (a0 :: a1 :: a2 :: a3 :: a4 :: o :: o' :: q) (.long v :: st) h cells slots) (pc' : Nat) (hd : decode code pc = .ok (.lstore 5, 2)) (hp : pc + 2 = pc') (ho : Two o o') : Go w l R Z n0 y code ml ret pc' (a0 :: a1 :: a2 :: a3 :: a4 :: .val (.long v) :: .second :: q) st h cells slots := r.lstoreG pc' hd hp (get_s (get_s (get_s (get_s (get_s get_z))))) (get_s (get_s (get_s (get_s (get_s (get_s get_z)))))) ho (by show ((a0 :: a1 :: a2 :: a3 :: a4 :: o :: o' :: q).set 5 (.val (.long v))).set (5 + 1) .second = _; rw [show (a0 :: a1 :: a2 :: a3 :: a4 :: o :: o' :: q).set 5 (.val (.long v)) = (a0 :: a1 :: a2 :: a3 :: a4 :: .val (.long v) :: o' :: q) from (set_s (set_s (set_s (set_s (set_s set_z)))))]; exact (set_s (set_s (set_s (set_s (set_s (set_s set_z)))))))
theorem Go.lst7 {v : Int64} {o o' : Slot} {a0 a1 a2 a3 a4 a5 a6 : Slot} {q : List Slot} (r : Go w l R Z n0 y code ml ret pc (a0 :: a1 :: a2 :: a3 :: a4 :: a5 :: a6 :: o :: o' :: q) (.long v :: st) h cells slots) (pc' : Nat) (hd : decode code pc = .ok (.lstore 7, 2)) (hp : pc + 2 = pc') (ho : Two o o') : Go w l R Z n0 y code ml ret pc' (a0 :: a1 :: a2 :: a3 :: a4 :: a5 :: a6 :: .val (.long v) :: .second :: q) st h cells slots := r.lstoreG pc' hd hp (get_s (get_s (get_s (get_s (get_s (get_s (get_s get_z))))))) (get_s (get_s (get_s (get_s (get_s (get_s (get_s (get_s get_z)))))))) ho (by show ((a0 :: a1 :: a2 :: a3 :: a4 :: a5 :: a6 :: o :: o' :: q).set 7 (.val (.long v))).set (7 + 1) .second = _; rw [show (a0 :: a1 :: a2 :: a3 :: a4 :: a5 :: a6 :: o :: o' :: q).set 7 (.val (.long v)) = (a0 :: a1 :: a2 :: a3 :: a4 :: a5 :: a6 :: .val (.long v) :: o' :: q) from (set_s (set_s (set_s (set_s (set_s (set_s (set_s set_z)))))))]; exact (set_s (set_s (set_s (set_s (set_s (set_s (set_s (set_s set_z)))))))))
theorem Go.lst12 {v : Int64} {o o' : Slot} {a0 a1 a2 a3 a4 a5 a6 a7 a8 a9 a10 a11 : Slot} {q : List Slot} (r : Go w l R Z n0 y code ml ret pc (a0 :: a1 :: a2 :: a3 :: a4 :: a5 :: a6 :: a7 :: a8 :: a9 :: a10 :: a11 :: o :: o' :: q) (.long v :: st) h cells slots) (pc' : Nat) (hd : decode code pc = .ok (.lstore 12, 2)) (hp : pc + 2 = pc') (ho : Two o o') : Go w l R Z n0 y code ml ret pc' (a0 :: a1 :: a2 :: a3 :: a4 :: a5 :: a6 :: a7 :: a8 :: a9 :: a10 :: a11 :: .val (.long v) :: .second :: q) st h cells slots := r.lstoreG pc' hd hp (get_s (get_s (get_s (get_s (get_s (get_s (get_s (get_s (get_s (get_s (get_s (get_s get_z)))))))))))) (get_s (get_s (get_s (get_s (get_s (get_s (get_s (get_s (get_s (get_s (get_s (get_s (get_s get_z))))))))))))) ho (by show ((a0 :: a1 :: a2 :: a3 :: a4 :: a5 :: a6 :: a7 :: a8 :: a9 :: a10 :: a11 :: o :: o' :: q).set 12 (.val (.long v))).set (12 + 1) .second = _; rw [show (a0 :: a1 :: a2 :: a3 :: a4 :: a5 :: a6 :: a7 :: a8 :: a9 :: a10 :: a11 :: o :: o' :: q).set 12 (.val (.long v)) = (a0 :: a1 :: a2 :: a3 :: a4 :: a5 :: a6 :: a7 :: a8 :: a9 :: a10 :: a11 :: .val (.long v) :: o' :: q) from (set_s (set_s (set_s (set_s (set_s (set_s (set_s (set_s (set_s (set_s (set_s (set_s set_z))))))))))))]; exact (set_s (set_s (set_s (set_s (set_s (set_s (set_s (set_s (set_s (set_s (set_s (set_s (set_s set_z))))))))))))))
theorem Go.lst14 {v : Int64} {o o' : Slot} {a0 a1 a2 a3 a4 a5 a6 a7 a8 a9 a10 a11 a12 a13 : Slot} {q : List Slot} (r : Go w l R Z n0 y code ml ret pc (a0 :: a1 :: a2 :: a3 :: a4 :: a5 :: a6 :: a7 :: a8 :: a9 :: a10 :: a11 :: a12 :: a13 :: o :: o' :: q) (.long v :: st) h cells slots) (pc' : Nat) (hd : decode code pc = .ok (.lstore 14, 2)) (hp : pc + 2 = pc') (ho : Two o o') : Go w l R Z n0 y code ml ret pc' (a0 :: a1 :: a2 :: a3 :: a4 :: a5 :: a6 :: a7 :: a8 :: a9 :: a10 :: a11 :: a12 :: a13 :: .val (.long v) :: .second :: q) st h cells slots := r.lstoreG pc' hd hp (get_s (get_s (get_s (get_s (get_s (get_s (get_s (get_s (get_s (get_s (get_s (get_s (get_s (get_s get_z)))))))))))))) (get_s (get_s (get_s (get_s (get_s (get_s (get_s (get_s (get_s (get_s (get_s (get_s (get_s (get_s (get_s get_z))))))))))))))) ho (by show ((a0 :: a1 :: a2 :: a3 :: a4 :: a5 :: a6 :: a7 :: a8 :: a9 :: a10 :: a11 :: a12 :: a13 :: o :: o' :: q).set 14 (.val (.long v))).set (14 + 1) .second = _; rw [show (a0 :: a1 :: a2 :: a3 :: a4 :: a5 :: a6 :: a7 :: a8 :: a9 :: a10 :: a11 :: a12 :: a13 :: o :: o' :: q).set 14 (.val (.long v)) = (a0 :: a1 :: a2 :: a3 :: a4 :: a5 :: a6 :: a7 :: a8 :: a9 :: a10 :: a11 :: a12 :: a13 :: .val (.long v) :: o' :: q) from (set_s (set_s (set_s (set_s (set_s (set_s (set_s (set_s (set_s (set_s (set_s (set_s (set_s (set_s set_z))))))))))))))]; exact (set_s (set_s (set_s (set_s (set_s (set_s (set_s (set_s (set_s (set_s (set_s (set_s (set_s (set_s (set_s set_z))))))))))))))))
theorem Go.lst16 {v : Int64} {o o' : Slot} {a0 a1 a2 a3 a4 a5 a6 a7 a8 a9 a10 a11 a12 a13 a14 a15 : Slot} {q : List Slot} (r : Go w l R Z n0 y code ml ret pc (a0 :: a1 :: a2 :: a3 :: a4 :: a5 :: a6 :: a7 :: a8 :: a9 :: a10 :: a11 :: a12 :: a13 :: a14 :: a15 :: o :: o' :: q) (.long v :: st) h cells slots) (pc' : Nat) (hd : decode code pc = .ok (.lstore 16, 2)) (hp : pc + 2 = pc') (ho : Two o o') : Go w l R Z n0 y code ml ret pc' (a0 :: a1 :: a2 :: a3 :: a4 :: a5 :: a6 :: a7 :: a8 :: a9 :: a10 :: a11 :: a12 :: a13 :: a14 :: a15 :: .val (.long v) :: .second :: q) st h cells slots := r.lstoreG pc' hd hp (get_s (get_s (get_s (get_s (get_s (get_s (get_s (get_s (get_s (get_s (get_s (get_s (get_s (get_s (get_s (get_s get_z)))))))))))))))) (get_s (get_s (get_s (get_s (get_s (get_s (get_s (get_s (get_s (get_s (get_s (get_s (get_s (get_s (get_s (get_s (get_s get_z))))))))))))))))) ho (by show ((a0 :: a1 :: a2 :: a3 :: a4 :: a5 :: a6 :: a7 :: a8 :: a9 :: a10 :: a11 :: a12 :: a13 :: a14 :: a15 :: o :: o' :: q).set 16 (.val (.long v))).set (16 + 1) .second = _; rw [show (a0 :: a1 :: a2 :: a3 :: a4 :: a5 :: a6 :: a7 :: a8 :: a9 :: a10 :: a11 :: a12 :: a13 :: a14 :: a15 :: o :: o' :: q).set 16 (.val (.long v)) = (a0 :: a1 :: a2 :: a3 :: a4 :: a5 :: a6 :: a7 :: a8 :: a9 :: a10 :: a11 :: a12 :: a13 :: a14 :: a15 :: .val (.long v) :: o' :: q) from (set_s (set_s (set_s (set_s (set_s (set_s (set_s (set_s (set_s (set_s (set_s (set_s (set_s (set_s (set_s (set_s set_z))))))))))))))))]; exact (set_s (set_s (set_s (set_s (set_s (set_s (set_s (set_s (set_s (set_s (set_s (set_s (set_s (set_s (set_s (set_s (set_s set_z))))))))))))))))))
theorem Go.lst20 {v : Int64} {o o' : Slot} {a0 a1 a2 a3 a4 a5 a6 a7 a8 a9 a10 a11 a12 a13 a14 a15 a16 a17 a18 a19 : Slot} {q : List Slot} (r : Go w l R Z n0 y code ml ret pc (a0 :: a1 :: a2 :: a3 :: a4 :: a5 :: a6 :: a7 :: a8 :: a9 :: a10 :: a11 :: a12 :: a13 :: a14 :: a15 :: a16 :: a17 :: a18 :: a19 :: o :: o' :: q) (.long v :: st) h cells slots) (pc' : Nat) (hd : decode code pc = .ok (.lstore 20, 2)) (hp : pc + 2 = pc') (ho : Two o o') : Go w l R Z n0 y code ml ret pc' (a0 :: a1 :: a2 :: a3 :: a4 :: a5 :: a6 :: a7 :: a8 :: a9 :: a10 :: a11 :: a12 :: a13 :: a14 :: a15 :: a16 :: a17 :: a18 :: a19 :: .val (.long v) :: .second :: q) st h cells slots := r.lstoreG pc' hd hp (get_s (get_s (get_s (get_s (get_s (get_s (get_s (get_s (get_s (get_s (get_s (get_s (get_s (get_s (get_s (get_s (get_s (get_s (get_s (get_s get_z)))))))))))))))))))) (get_s (get_s (get_s (get_s (get_s (get_s (get_s (get_s (get_s (get_s (get_s (get_s (get_s (get_s (get_s (get_s (get_s (get_s (get_s (get_s (get_s get_z))))))))))))))))))))) ho (by show ((a0 :: a1 :: a2 :: a3 :: a4 :: a5 :: a6 :: a7 :: a8 :: a9 :: a10 :: a11 :: a12 :: a13 :: a14 :: a15 :: a16 :: a17 :: a18 :: a19 :: o :: o' :: q).set 20 (.val (.long v))).set (20 + 1) .second = _; rw [show (a0 :: a1 :: a2 :: a3 :: a4 :: a5 :: a6 :: a7 :: a8 :: a9 :: a10 :: a11 :: a12 :: a13 :: a14 :: a15 :: a16 :: a17 :: a18 :: a19 :: o :: o' :: q).set 20 (.val (.long v)) = (a0 :: a1 :: a2 :: a3 :: a4 :: a5 :: a6 :: a7 :: a8 :: a9 :: a10 :: a11 :: a12 :: a13 :: a14 :: a15 :: a16 :: a17 :: a18 :: a19 :: .val (.long v) :: o' :: q) from (set_s (set_s (set_s (set_s (set_s (set_s (set_s (set_s (set_s (set_s (set_s (set_s (set_s (set_s (set_s (set_s (set_s (set_s (set_s (set_s set_z))))))))))))))))))))]; exact (set_s (set_s (set_s (set_s (set_s (set_s (set_s (set_s (set_s (set_s (set_s (set_s (set_s (set_s (set_s (set_s (set_s (set_s (set_s (set_s (set_s set_z))))))))))))))))))))))
theorem Go.goto {o : Int} (r : Go w l R Z n0 y code ml ret pc Ls st h cells slots) (pc' : Nat) (hd : decode code pc = .ok (.goto o, 3)) (hp : (pc : Int) + o = pc') : Go w l R Z n0 y code ml ret pc' Ls st h cells slots :=
  r.step fun T t a x b k => XS.goto a x rfl (pc0 := pc) (pc' := pc') rfl (hb b hd) (by rw [hp]; exact Int.natCast_nonneg _) (by rw [hp]; exact Int.toNat_natCast _) k
theorem Go.ifT {o : Int} {cd : ClassFile.Cond} {u : Int32} (r : Go w l R Z n0 y code ml ret pc Ls (.int u :: st) h cells slots) (pc' : Nat) (hd : decode code pc = .ok (.ifCond cd o, 3)) (hp : (pc : Int) + o = pc') (hc : ifCond.holds cd u = true) : Go w l R Z n0 y code ml ret pc' Ls st h cells slots :=
  r.step fun T t a x b k => XS.ifYes a x rfl (pc0 := pc) (pc' := pc') rfl (hb b hd) rfl hc (by rw [hp]; exact Int.natCast_nonneg _) (by rw [hp]; exact Int.toNat_natCast _) k
theorem Go.ifF {o : Int} {cd : ClassFile.Cond} {u : Int32} (r : Go w l R Z n0 y code ml ret pc Ls (.int u :: st) h cells slots) (pc' : Nat) (hd : decode code pc = .ok (.ifCond cd o, 3)) (hp : pc + 3 = pc') (hc : ifCond.holds cd u = false) : Go w l R Z n0 y code ml ret pc' Ls st h cells slots := by
  subst hp; exact r.step fun T t a x b k => XS.ifNo a x rfl (hb b hd) rfl hc k
theorem Go.icT {o : Int} {cd : ClassFile.Cond} {u v : Int32} (r : Go w l R Z n0 y code ml ret pc Ls (.int v :: .int u :: st) h cells slots) (pc' : Nat) (hd : decode code pc = .ok (.if_icmp cd o, 3)) (hp : (pc : Int) + o = pc') (hc : if_icmp.holds cd u v = true) : Go w l R Z n0 y code ml ret pc' Ls st h cells slots :=
  r.step fun T t a x b k => XS.icmpYes a x rfl (pc0 := pc) (pc' := pc') rfl (hb b hd) rfl hc (by rw [hp]; exact Int.natCast_nonneg _) (by rw [hp]; exact Int.toNat_natCast _) k
theorem Go.icF {o : Int} {cd : ClassFile.Cond} {u v : Int32} (r : Go w l R Z n0 y code ml ret pc Ls (.int v :: .int u :: st) h cells slots) (pc' : Nat) (hd : decode code pc = .ok (.if_icmp cd o, 3)) (hp : pc + 3 = pc') (hc : if_icmp.holds cd u v = false) : Go w l R Z n0 y code ml ret pc' Ls st h cells slots := by
  subst hp; exact r.step fun T t a x b k => XS.icmpNo a x rfl (hb b hd) rfl hc k
theorem Go.if_eqT {o : Int} {u : Int32} (r : Go w l R Z n0 y code ml ret pc Ls (.int u :: st) h cells slots) (pc' : Nat) (hd : decode code pc = .ok (.ifCond .eq o, 3)) (hp : (pc : Int) + o = pc') (hc : u = 0) : Go w l R Z n0 y code ml ret pc' Ls st h cells slots := r.ifT pc' hd hp ((if0 _ _).trans (teq hc).1)
theorem Go.if_eqF {o : Int} {u : Int32} (r : Go w l R Z n0 y code ml ret pc Ls (.int u :: st) h cells slots) (pc' : Nat) (hd : decode code pc = .ok (.ifCond .eq o, 3)) (hp : pc + 3 = pc') (hc : ¬ u = 0) : Go w l R Z n0 y code ml ret pc' Ls st h cells slots := r.ifF pc' hd hp ((if0 _ _).trans (feq hc).1)
theorem Go.if_eq {o : Int} {u : Int32} (r : Go w l R Z n0 y code ml ret pc Ls (.int u :: st) h cells slots) (pcT pcF : Nat) (hd : decode code pc = .ok (.ifCond .eq o, 3)) (hp : (pc : Int) + o = pcT) (hq : pc + 3 = pcF) : ((u = 0) ∧ Go w l R Z n0 y code ml ret pcT Ls st h cells slots) ∨ ((¬ u = 0) ∧ Go w l R Z n0 y code ml ret pcF Ls st h cells slots) := by
  by_cases hc : u = 0
  · exact Or.inl ⟨hc, r.if_eqT pcT hd hp hc⟩
  · exact Or.inr ⟨hc, r.if_eqF pcF hd hq hc⟩
theorem Go.ic_eqT {o : Int} {u v : Int32} (r : Go w l R Z n0 y code ml ret pc Ls (.int v :: .int u :: st) h cells slots) (pc' : Nat) (hd : decode code pc = .ok (.if_icmp .eq o, 3)) (hp : (pc : Int) + o = pc') (hc : u = v) : Go w l R Z n0 y code ml ret pc' Ls st h cells slots := r.icT pc' hd hp (teq hc).1
theorem Go.ic_eqF {o : Int} {u v : Int32} (r : Go w l R Z n0 y code ml ret pc Ls (.int v :: .int u :: st) h cells slots) (pc' : Nat) (hd : decode code pc = .ok (.if_icmp .eq o, 3)) (hp : pc + 3 = pc') (hc : ¬ u = v) : Go w l R Z n0 y code ml ret pc' Ls st h cells slots := r.icF pc' hd hp (feq hc).1
theorem Go.ic_eq {o : Int} {u v : Int32} (r : Go w l R Z n0 y code ml ret pc Ls (.int v :: .int u :: st) h cells slots) (pcT pcF : Nat) (hd : decode code pc = .ok (.if_icmp .eq o, 3)) (hp : (pc : Int) + o = pcT) (hq : pc + 3 = pcF) : ((u = v) ∧ Go w l R Z n0 y code ml ret pcT Ls st h cells slots) ∨ ((¬ u = v) ∧ Go w l R Z n0 y code ml ret pcF Ls st h cells slots) := by
  by_cases hc : u = v
  · exact Or.inl ⟨hc, r.ic_eqT pcT hd hp hc⟩
  · exact Or.inr ⟨hc, r.ic_eqF pcF hd hq hc⟩
theorem Go.if_neT {o : Int} {u : Int32} (r : Go w l R Z n0 y code ml ret pc Ls (.int u :: st) h cells slots) (pc' : Nat) (hd : decode code pc = .ok (.ifCond .ne o, 3)) (hp : (pc : Int) + o = pc') (hc : ¬ u = 0) : Go w l R Z n0 y code ml ret pc' Ls st h cells slots := r.ifT pc' hd hp ((if0 _ _).trans (feq hc).2)
theorem Go.if_neF {o : Int} {u : Int32} (r : Go w l R Z n0 y code ml ret pc Ls (.int u :: st) h cells slots) (pc' : Nat) (hd : decode code pc = .ok (.ifCond .ne o, 3)) (hp : pc + 3 = pc') (hc : u = 0) : Go w l R Z n0 y code ml ret pc' Ls st h cells slots := r.ifF pc' hd hp ((if0 _ _).trans (teq hc).2)
theorem Go.if_ne {o : Int} {u : Int32} (r : Go w l R Z n0 y code ml ret pc Ls (.int u :: st) h cells slots) (pcT pcF : Nat) (hd : decode code pc = .ok (.ifCond .ne o, 3)) (hp : (pc : Int) + o = pcT) (hq : pc + 3 = pcF) : ((¬ u = 0) ∧ Go w l R Z n0 y code ml ret pcT Ls st h cells slots) ∨ ((u = 0) ∧ Go w l R Z n0 y code ml ret pcF Ls st h cells slots) := by
  by_cases hc : ¬ u = 0
  · exact Or.inl ⟨hc, r.if_neT pcT hd hp hc⟩
  · exact Or.inr ⟨Classical.not_not.mp hc, r.if_neF pcF hd hq (Classical.not_not.mp hc)⟩
theorem Go.ic_neT {o : Int} {u v : Int32} (r : Go w l R Z n0 y code ml ret pc Ls (.int v :: .int u :: st) h cells slots) (pc' : Nat) (hd : decode code pc = .ok (.if_icmp .ne o, 3)) (hp : (pc : Int) + o = pc') (hc : ¬ u = v) : Go w l R Z n0 y code ml ret pc' Ls st h cells slots := r.icT pc' hd hp (feq hc).2
theorem Go.ic_neF {o : Int} {u v : Int32} (r : Go w l R Z n0 y code ml ret pc Ls (.int v :: .int u :: st) h cells slots) (pc' : Nat) (hd : decode code pc = .ok (.if_icmp .ne o, 3)) (hp : pc + 3 = pc') (hc : u = v) : Go w l R Z n0 y code ml ret pc' Ls st h cells slots := r.icF pc' hd hp (teq hc).2
theorem Go.ic_ne {o : Int} {u v : Int32} (r : Go w l R Z n0 y code ml ret pc Ls (.int v :: .int u :: st) h cells slots) (pcT pcF : Nat) (hd : decode code pc = .ok (.if_icmp .ne o, 3)) (hp : (pc : Int) + o = pcT) (hq : pc + 3 = pcF) : ((¬ u = v) ∧ Go w l R Z n0 y code ml ret pcT Ls st h cells slots) ∨ ((u = v) ∧ Go w l R Z n0 y code ml ret pcF Ls st h cells slots) := by
  by_cases hc : ¬ u = v
  · exact Or.inl ⟨hc, r.ic_neT pcT hd hp hc⟩
  · exact Or.inr ⟨Classical.not_not.mp hc, r.ic_neF pcF hd hq (Classical.not_not.mp hc)⟩
theorem Go.if_ltT {o : Int} {u : Int32} (r : Go w l R Z n0 y code ml ret pc Ls (.int u :: st) h cells slots) (pc' : Nat) (hd : decode code pc = .ok (.ifCond .lt o, 3)) (hp : (pc : Int) + o = pc') (hc : u < 0) : Go w l R Z n0 y code ml ret pc' Ls st h cells slots := r.ifT pc' hd hp ((if0 _ _).trans (tlt hc).1)
theorem Go.if_ltF {o : Int} {u : Int32} (r : Go w l R Z n0 y code ml ret pc Ls (.int u :: st) h cells slots) (pc' : Nat) (hd : decode code pc = .ok (.ifCond .lt o, 3)) (hp : pc + 3 = pc') (hc : ¬ u < 0) : Go w l R Z n0 y code ml ret pc' Ls st h cells slots := r.ifF pc' hd hp ((if0 _ _).trans (flt hc).1)
theorem Go.if_lt {o : Int} {u : Int32} (r : Go w l R Z n0 y code ml ret pc Ls (.int u :: st) h cells slots) (pcT pcF : Nat) (hd : decode code pc = .ok (.ifCond .lt o, 3)) (hp : (pc : Int) + o = pcT) (hq : pc + 3 = pcF) : ((u < 0) ∧ Go w l R Z n0 y code ml ret pcT Ls st h cells slots) ∨ ((¬ u < 0) ∧ Go w l R Z n0 y code ml ret pcF Ls st h cells slots) := by
  by_cases hc : u < 0
  · exact Or.inl ⟨hc, r.if_ltT pcT hd hp hc⟩
  · exact Or.inr ⟨hc, r.if_ltF pcF hd hq hc⟩
theorem Go.ic_ltT {o : Int} {u v : Int32} (r : Go w l R Z n0 y code ml ret pc Ls (.int v :: .int u :: st) h cells slots) (pc' : Nat) (hd : decode code pc = .ok (.if_icmp .lt o, 3)) (hp : (pc : Int) + o = pc') (hc : u < v) : Go w l R Z n0 y code ml ret pc' Ls st h cells slots := r.icT pc' hd hp (tlt hc).1
theorem Go.ic_ltF {o : Int} {u v : Int32} (r : Go w l R Z n0 y code ml ret pc Ls (.int v :: .int u :: st) h cells slots) (pc' : Nat) (hd : decode code pc = .ok (.if_icmp .lt o, 3)) (hp : pc + 3 = pc') (hc : ¬ u < v) : Go w l R Z n0 y code ml ret pc' Ls st h cells slots := r.icF pc' hd hp (flt hc).1
theorem Go.ic_lt {o : Int} {u v : Int32} (r : Go w l R Z n0 y code ml ret pc Ls (.int v :: .int u :: st) h cells slots) (pcT pcF : Nat) (hd : decode code pc = .ok (.if_icmp .lt o, 3)) (hp : (pc : Int) + o = pcT) (hq : pc + 3 = pcF) : ((u < v) ∧ Go w l R Z n0 y code ml ret pcT Ls st h cells slots) ∨ ((¬ u < v) ∧ Go w l R Z n0 y code ml ret pcF Ls st h cells slots) := by
  by_cases hc : u < v
  · exact Or.inl ⟨hc, r.ic_ltT pcT hd hp hc⟩
  · exact Or.inr ⟨hc, r.ic_ltF pcF hd hq hc⟩
theorem Go.if_geT {o : Int} {u : Int32} (r : Go w l R Z n0 y code ml ret pc Ls (.int u :: st) h cells slots) (pc' : Nat) (hd : decode code pc = .ok (.ifCond .ge o, 3)) (hp : (pc : Int) + o = pc') (hc : ¬ u < 0) : Go w l R Z n0 y code ml ret pc' Ls st h cells slots := r.ifT pc' hd hp ((if0 _ _).trans (flt hc).2.1)
theorem Go.if_geF {o : Int} {u : Int32} (r : Go w l R Z n0 y code ml ret pc Ls (.int u :: st) h cells slots) (pc' : Nat) (hd : decode code pc = .ok (.ifCond .ge o, 3)) (hp : pc + 3 = pc') (hc : u < 0) : Go w l R Z n0 y code ml ret pc' Ls st h cells slots := r.ifF pc' hd hp ((if0 _ _).trans (tlt hc).2.1)
theorem Go.if_ge {o : Int} {u : Int32} (r : Go w l R Z n0 y code ml ret pc Ls (.int u :: st) h cells slots) (pcT pcF : Nat) (hd : decode code pc = .ok (.ifCond .ge o, 3)) (hp : (pc : Int) + o = pcT) (hq : pc + 3 = pcF) : ((¬ u < 0) ∧ Go w l R Z n0 y code ml ret pcT Ls st h cells slots) ∨ ((u < 0) ∧ Go w l R Z n0 y code ml ret pcF Ls st h cells slots) := by
  by_cases hc : ¬ u < 0
  · exact Or.inl ⟨hc, r.if_geT pcT hd hp hc⟩
  · exact Or.inr ⟨Classical.not_not.mp hc, r.if_geF pcF hd hq (Classical.not_not.mp hc)⟩
theorem Go.ic_geT {o : Int} {u v : Int32} (r : Go w l R Z n0 y code ml ret pc Ls (.int v :: .int u :: st) h cells slots) (pc' : Nat) (hd : decode code pc = .ok (.if_icmp .ge o, 3)) (hp : (pc : Int) + o = pc') (hc : ¬ u < v) : Go w l R Z n0 y code ml ret pc' Ls st h cells slots := r.icT pc' hd hp (flt hc).2.1
theorem Go.ic_geF {o : Int} {u v : Int32} (r : Go w l R Z n0 y code ml ret pc Ls (.int v :: .int u :: st) h cells slots) (pc' : Nat) (hd : decode code pc = .ok (.if_icmp .ge o, 3)) (hp : pc + 3 = pc') (hc : u < v) : Go w l R Z n0 y code ml ret pc' Ls st h cells slots := r.icF pc' hd hp (tlt hc).2.1
theorem Go.ic_ge {o : Int} {u v : Int32} (r : Go w l R Z n0 y code ml ret pc Ls (.int v :: .int u :: st) h cells slots) (pcT pcF : Nat) (hd : decode code pc = .ok (.if_icmp .ge o, 3)) (hp : (pc : Int) + o = pcT) (hq : pc + 3 = pcF) : ((¬ u < v) ∧ Go w l R Z n0 y code ml ret pcT Ls st h cells slots) ∨ ((u < v) ∧ Go w l R Z n0 y code ml ret pcF Ls st h cells slots) := by
  by_cases hc : ¬ u < v
  · exact Or.inl ⟨hc, r.ic_geT pcT hd hp hc⟩
  · exact Or.inr ⟨Classical.not_not.mp hc, r.ic_geF pcF hd hq (Classical.not_not.mp hc)⟩
theorem Go.if_gtT {o : Int} {u : Int32} (r : Go w l R Z n0 y code ml ret pc Ls (.int u :: st) h cells slots) (pc' : Nat) (hd : decode code pc = .ok (.ifCond .gt o, 3)) (hp : (pc : Int) + o = pc') (hc : 0 < u) : Go w l R Z n0 y code ml ret pc' Ls st h cells slots := r.ifT pc' hd hp ((if0 _ _).trans (tlt hc).2.2.1)
theorem Go.if_gtF {o : Int} {u : Int32} (r : Go w l R Z n0 y code ml ret pc Ls (.int u :: st) h cells slots) (pc' : Nat) (hd : decode code pc = .ok (.ifCond .gt o, 3)) (hp : pc + 3 = pc') (hc : ¬ 0 < u) : Go w l R Z n0 y code ml ret pc' Ls st h cells slots := r.ifF pc' hd hp ((if0 _ _).trans (flt hc).2.2.1)
theorem Go.if_gt {o : Int} {u : Int32} (r : Go w l R Z n0 y code ml ret pc Ls (.int u :: st) h cells slots) (pcT pcF : Nat) (hd : decode code pc = .ok (.ifCond .gt o, 3)) (hp : (pc : Int) + o = pcT) (hq : pc + 3 = pcF) : ((0 < u) ∧ Go w l R Z n0 y code ml ret pcT Ls st h cells slots) ∨ ((¬ 0 < u) ∧ Go w l R Z n0 y code ml ret pcF Ls st h cells slots) := by
  by_cases hc : 0 < u
  · exact Or.inl ⟨hc, r.if_gtT pcT hd hp hc⟩
  · exact Or.inr ⟨hc, r.if_gtF pcF hd hq hc⟩
theorem Go.ic_gtT {o : Int} {u v : Int32} (r : Go w l R Z n0 y code ml ret pc Ls (.int v :: .int u :: st) h cells slots) (pc' : Nat) (hd : decode code pc = .ok (.if_icmp .gt o, 3)) (hp : (pc : Int) + o = pc') (hc : v < u) : Go w l R Z n0 y code ml ret pc' Ls st h cells slots := r.icT pc' hd hp (tlt hc).2.2.1
theorem Go.ic_gtF {o : Int} {u v : Int32} (r : Go w l R Z n0 y code ml ret pc Ls (.int v :: .int u :: st) h cells slots) (pc' : Nat) (hd : decode code pc = .ok (.if_icmp .gt o, 3)) (hp : pc + 3 = pc') (hc : ¬ v < u) : Go w l R Z n0 y code ml ret pc' Ls st h cells slots := r.icF pc' hd hp (flt hc).2.2.1
theorem Go.ic_gt {o : Int} {u v : Int32} (r : Go w l R Z n0 y code ml ret pc Ls (.int v :: .int u :: st) h cells slots) (pcT pcF : Nat) (hd : decode code pc = .ok (.if_icmp .gt o, 3)) (hp : (pc : Int) + o = pcT) (hq : pc + 3 = pcF) : ((v < u) ∧ Go w l R Z n0 y code ml ret pcT Ls st h cells slots) ∨ ((¬ v < u) ∧ Go w l R Z n0 y code ml ret pcF Ls st h cells slots) := by
  by_cases hc : v < u
  · exact Or.inl ⟨hc, r.ic_gtT pcT hd hp hc⟩
  · exact Or.inr ⟨hc, r.ic_gtF pcF hd hq hc⟩
theorem Go.if_leT {o : Int} {u : Int32} (r : Go w l R Z n0 y code ml ret pc Ls (.int u :: st) h cells slots) (pc' : Nat) (hd : decode code pc = .ok (.ifCond .le o, 3)) (hp : (pc : Int) + o = pc') (hc : ¬ 0 < u) : Go w l R Z n0 y code ml ret pc' Ls st h cells slots := r.ifT pc' hd hp ((if0 _ _).trans (flt hc).2.2.2)
theorem Go.if_leF {o : Int} {u : Int32} (r : Go w l R Z n0 y code ml ret pc Ls (.int u :: st) h cells slots) (pc' : Nat) (hd : decode code pc = .ok (.ifCond .le o, 3)) (hp : pc + 3 = pc') (hc : 0 < u) : Go w l R Z n0 y code ml ret pc' Ls st h cells slots := r.ifF pc' hd hp ((if0 _ _).trans (tlt hc).2.2.2)
theorem Go.if_le {o : Int} {u : Int32} (r : Go w l R Z n0 y code ml ret pc Ls (.int u :: st) h cells slots) (pcT pcF : Nat) (hd : decode code pc = .ok (.ifCond .le o, 3)) (hp : (pc : Int) + o = pcT) (hq : pc + 3 = pcF) : ((¬ 0 < u) ∧ Go w l R Z n0 y code ml ret pcT Ls st h cells slots) ∨ ((0 < u) ∧ Go w l R Z n0 y code ml ret pcF Ls st h cells slots) := by
  by_cases hc : ¬ 0 < u
  · exact Or.inl ⟨hc, r.if_leT pcT hd hp hc⟩
  · exact Or.inr ⟨Classical.not_not.mp hc, r.if_leF pcF hd hq (Classical.not_not.mp hc)⟩
theorem Go.ic_leT {o : Int} {u v : Int32} (r : Go w l R Z n0 y code ml ret pc Ls (.int v :: .int u :: st) h cells slots) (pc' : Nat) (hd : decode code pc = .ok (.if_icmp .le o, 3)) (hp : (pc : Int) + o = pc') (hc : ¬ v < u) : Go w l R Z n0 y code ml ret pc' Ls st h cells slots := r.icT pc' hd hp (flt hc).2.2.2
theorem Go.ic_leF {o : Int} {u v : Int32} (r : Go w l R Z n0 y code ml ret pc Ls (.int v :: .int u :: st) h cells slots) (pc' : Nat) (hd : decode code pc = .ok (.if_icmp .le o, 3)) (hp : pc + 3 = pc') (hc : v < u) : Go w l R Z n0 y code ml ret pc' Ls st h cells slots := r.icF pc' hd hp (tlt hc).2.2.2
theorem Go.ic_le {o : Int} {u v : Int32} (r : Go w l R Z n0 y code ml ret pc Ls (.int v :: .int u :: st) h cells slots) (pcT pcF : Nat) (hd : decode code pc = .ok (.if_icmp .le o, 3)) (hp : (pc : Int) + o = pcT) (hq : pc + 3 = pcF) : ((¬ v < u) ∧ Go w l R Z n0 y code ml ret pcT Ls st h cells slots) ∨ ((v < u) ∧ Go w l R Z n0 y code ml ret pcF Ls st h cells slots) := by
  by_cases hc : ¬ v < u
  · exact Or.inl ⟨hc, r.ic_leT pcT hd hp hc⟩
  · exact Or.inr ⟨Classical.not_not.mp hc, r.ic_leF pcF hd hq (Classical.not_not.mp hc)⟩
/-! constants of the pool -/
theorem Go.ldcI {idx : Nat} {v : Int32} {a0 : Array Value} (r : Go w l R Z n0 y code ml ret pc Ls st h cells slots) (pc' : Nat) (hd : decode code pc = .ok (.ldc idx, 2)) (hp : pc + 2 = pc') (wc : (Cond.constant y.cls idx v).before a0 Z = true) : Go w l R Z n0 y code ml ret pc' Ls (.int v :: st) h cells slots := by
  subst hp
  obtain ⟨S, T, locs, X, e, N, k⟩ := r
  exact ⟨S, T, locs, X, e, N, fun t q => k t (X.ldcInt S.1 S.2.2.1 (mvT S.2.1 wc) (g := mkF w.m pc Ls.toArray st) rfl (hb S.2.2.2.1 hd) t q)⟩
theorem Go.ldc2 {idx : Nat} {v : Int64} {a0 : Array Value} (r : Go w l R Z n0 y code ml ret pc Ls st h cells slots) (pc' : Nat) (hd : decode code pc = .ok (.ldc2_w idx, 3)) (hp : pc + 3 = pc') (wc : (Cond.constantLong y.cls idx v).before a0 Z = true) : Go w l R Z n0 y code ml ret pc' Ls (.long v :: st) h cells slots := by
  subst hp
  obtain ⟨S, T, locs, X, e, N, k⟩ := r
  exact ⟨S, T, locs, X, e, N, fun t q => k t (X.ldc2Long S.1 S.2.2.1 (mvT S.2.1 wc) (g := mkF w.m pc Ls.toArray st) rfl (hb S.2.2.2.1 hd) t q)⟩
/-! fields -/
theorem Go.getF {idx : Nat} {O n d : String} {v : Value} {a : Addr} {a0 : Array Value} (r : Go w l R Z n0 y code ml ret pc Ls (.ref a :: st) h cells slots) (pc' : Nat) (hd : decode code pc = .ok (.getfield idx, 3)) (hp : pc + 3 = pc') (wf : (Cond.fieldLink y.cls idx O n d).before a0 Z = true) (F : Fld Z h a O n d v) : Go w l R Z n0 y code ml ret pc' Ls (v :: st) h cells slots := by
  subst hp
  obtain ⟨S, T, locs, X, e, N, k⟩ := r
  obtain ⟨T', X', e', q⟩ := Jvm.RoadKit.getF X S.1 S.2.1 S.2.2.1 (host := "") (Or.inl wf) Via.refl e F (g := mkF w.m pc Ls.toArray (.ref a :: st)) rfl rfl (hb S.2.2.2.1 hd)
  exact ⟨S, T', locs, X', e', N, fun t z => k t (q t z)⟩
/-- a field's place in an object of class C that may be written here: 'lays', or 'laysFinal' in a constructor of its own class -/
def Wry (Z : State) (a0 : Array Value) (y : MethodName) (C O n d : String) : Prop := (Cond.lays C O n d).before a0 Z = true ∨ ((Cond.laysFinal C O n d).before a0 Z = true ∧ y.cls = O ∧ y.name = "<init>")
theorem Go.putF {idx kk : Nat} {C O n d : String} {v old : Value} {a : Addr} {a0 : Array Value} (r : Go w l R Z n0 y code ml ret pc Ls (v :: .ref a :: st) h cells slots) (pc' : Nat) (hd : decode code pc = .ok (.putfield idx, 3)) (hp : pc + 3 = pc') (wf : (Cond.fieldLink y.cls idx O n d).before a0 Z = true) (wl : Wry Z a0 y C O n d) (wi : (Cond.instantiable C kk).before a0 Z = true) (E : Exa Z h a C) (F : Fld Z h a O n d old) {ty : FieldType} (hty : parseFieldDescriptor d = some ty) (hn : narrow ty v = v) (hf : fits ty v = true) (g0 : n0 ≤ a) :
    ∃ h', Wr h h' a (Jvm.RoadKit.slotOf Z O n d) v ∧ Go w l R Z n0 y code ml ret pc' Ls st h' cells slots := by
  subst hp
  obtain ⟨S, T, locs, X, e, N, k⟩ := r
  obtain ⟨T', h', X', e', Wq, q⟩ := Jvm.RoadKit.putF X S.1 S.2.1 S.2.2.1 (host := "") (Or.inl wf) Via.refl e F E (wl.imp id fun z => ⟨z.1, z.2.1, S.2.2.2.2.2.2.2.trans z.2.2⟩) wi hty hn hf (g := mkF w.m pc Ls.toArray (v :: .ref a :: st)) rfl rfl (hb S.2.2.2.1 hd)
  exact ⟨h', Wq, S, T', _, X', e', Fr.snoc X' N g0, fun t z => k t (q t z)⟩
theorem Go.putFN {idx kk : Nat} {C O n d : String} {v v' old : Value} {a : Addr} {a0 : Array Value} (r : Go w l R Z n0 y code ml ret pc Ls (v :: .ref a :: st) h cells slots) (pc' : Nat) (hd : decode code pc = .ok (.putfield idx, 3)) (hp : pc + 3 = pc') (wf : (Cond.fieldLink y.cls idx O n d).before a0 Z = true) (wl : Wry Z a0 y C O n d) (wi : (Cond.instantiable C kk).before a0 Z = true) (E : Exa Z h a C) (F : Fld Z h a O n d old) {ty : FieldType} (hty : parseFieldDescriptor d = some ty) (hn : narrow ty v = v') (hf : fits ty v' = true) (g0 : n0 ≤ a) :
    ∃ h', Wr h h' a (Jvm.RoadKit.slotOf Z O n d) v' ∧ Go w l R Z n0 y code ml ret pc' Ls st h' cells slots := by
  subst hp
  obtain ⟨S, T, locs, X, e, N, k⟩ := r
  obtain ⟨T', h', X', e', Wq, q⟩ := Jvm.RoadKit.putFN X S.1 S.2.1 S.2.2.1 wf Via.refl e F E (wl.imp id fun z => ⟨z.1, z.2.1, S.2.2.2.2.2.2.2.trans z.2.2⟩) wi hty hn hf (g := mkF w.m pc Ls.toArray (v :: .ref a :: st)) rfl rfl (hb S.2.2.2.1 hd)
  exact ⟨h', Wq, S, T', _, X', e', Fr.snoc X' N g0, fun t z => k t (q t z)⟩
/-! making -/
theorem Go.newO {idx n : Nat} {C : String} {a0 : Array Value} (r : Go w l R Z n0 y code ml ret pc Ls st h cells slots) (pc' : Nat) (hd : decode code pc = .ok (.new idx, 3)) (hp : pc + 3 = pc') (w1 : (Cond.classLink y.cls idx C).before a0 Z = true) (w2 : (Cond.instantiable C n).before a0 Z = true) (w3 : (Cond.initialized C).before a0 Z = true) (hc : cells + 1 ≤ R.cells) (hs : slots + n ≤ R.slots) :
    ∃ h' a, a = h.size ∧ Ext h h' ∧ Exa Z h' a C ∧ (∀ {O nm d : String} {ty : FieldType}, Laid Z a0 C O nm d → parseFieldDescriptor d = some ty → Fld Z h' a O nm d (defaultValue ty)) ∧ Go w l R Z n0 y code ml ret pc' Ls (.ref a :: st) h' (cells + 1) (slots + n) := by
  subst hp
  obtain ⟨S, T, locs, X, e, N, k⟩ := r
  obtain ⟨T', h', X', e', E, A, D, -, q⟩ := Jvm.RoadKit.newO X S.1 S.2.1 S.2.2.1 w1 w2 w3 e (g := mkF w.m pc Ls.toArray st) rfl (hb S.2.2.2.1 hd) hc hs
  exact ⟨h', h.size, rfl, E, A, D, S, T', locs, X', e', N, fun t z => k t (q t z)⟩
/-- an array with all its components -/
def Ary (Z : State) (h : Heap) (a : Addr) (ty : FieldType) (vs : List Value) : Prop := ∃ k d, Arv Z h a k ty (Int32.ofNat vs.length) vs d ∧ vs.length < 2 ^ 31
theorem len_nat {n : Nat} (h : n < 2 ^ 31) : (Int32.ofNat n).toNatClampNeg = n := by
  have := Int32.toInt_ofNat_small h
  simp only [Int32.toNatClampNeg]; omega
theorem len_nn {n : Nat} (h : n < 2 ^ 31) : ¬ Int32.ofNat n < 0 := by
  rw [Int32.lt_iff_toInt_lt, Int32.toInt_ofNat_small h]; have : (0 : Int32).toInt = 0 := rfl; omega
theorem nn_back {n : Int32} (h : ¬ n < 0) : Int32.ofNat n.toNatClampNeg = n := by
  have h1 := (back32 h).1
  simpa using h1
variable {a b : Addr} {ty : FieldType} {vs : List Value} {h' : Heap}
theorem Ary.lt (A : Ary Z h a ty vs) : a < h.size := by obtain ⟨k, d, V, -⟩ := A; exact V.lt
theorem Ary.ext (A : Ary Z h a ty vs) (E : Ext h h') : Ary Z h' a ty vs := by obtain ⟨k, d, V, q⟩ := A; exact ⟨k, d, V.ext E, q⟩
theorem Ary.other {v : Value} {sl : Nat} (A : Ary Z h b ty vs) (Wq : Wr h h' a sl v) (q : b ≠ a) : Ary Z h' b ty vs := by obtain ⟨k, d, V, z⟩ := A; exact ⟨k, d, V.other Wq q, z⟩
theorem Ary.keep {ws : List Addr} (A : Ary Z h a ty vs) (K : Keep h h' ws) (q : a ∉ ws) : Ary Z h' a ty vs := by obtain ⟨k, d, V, z⟩ := A; exact ⟨k, d, V.keep K q, z⟩
theorem Ary.len (A : Ary Z h a ty vs) : vs.length < 2 ^ 31 := by obtain ⟨k, d, V, z⟩ := A; exact z
theorem Ary.unf (A : Ary Z h a ty vs) : ∃ c : Cell, Arr Z h a c ty ∧ c.slots.size = vs.length ∧ (∀ i : Nat, i < vs.length → c.slots[i]? = vs[i]?) ∧ c.slots.size.toInt32 = Int32.ofNat vs.length := by
  obtain ⟨k, d, ⟨c, A1, A2, A3, A4, A5, A6⟩, z⟩ := A
  have e := len_nat z
  rw [e] at A3
  refine ⟨c, A1, A3, fun i hi => ?_, by rw [A3]⟩
  rw [A5 i (by omega), List.getD_eq_getElem?_getD, List.getElem?_eq_getElem hi]; rfl
theorem Ary.set {v : Value} {j : Int32} (A : Ary Z h a ty vs) (Wq : Wr h h' a j.toNatClampNeg v) (hf : fits ty v = true) (hj : j.toNatClampNeg < vs.length) : Ary Z h' a ty (vs.set j.toNatClampNeg v) := by
  obtain ⟨k, d, ⟨c, A1, A2, A3, A4, A5, A6⟩, z⟩ := A
  refine ⟨k, d, ?_, by simpa using z⟩
  have := Arv.set A1 A2 A3 A4 A5 A6 hf Wq _ rfl hj
  simpa using this
theorem Go.newA {aty : ArrayType} {n : Int32} {vs : List Value} {a0 : Array Value} (r : Go w l R Z n0 y code ml ret pc Ls (.int n :: st) h cells slots) (pc' : Nat) (hd : decode code pc = .ok (.newarray aty, 2)) (hp : pc + 2 = pc') (w1 : (Cond.arrayClass (newarray.typeOf aty)).before a0 Z = true) (hn : ¬ n < 0) (hv : List.replicate n.toNatClampNeg (defaultValue (newarray.typeOf aty)) = vs) (cap : Nat) (hcap : n.toNatClampNeg ≤ cap) (hb8 : cap * 8 ≤ 536870912) (hc : cells + 1 ≤ R.cells) (hs : slots + cap ≤ R.slots) :
    ∃ h' a, a = h.size ∧ Ext h h' ∧ Ary Z h' a (newarray.typeOf aty) vs ∧ Go w l R Z n0 y code ml ret pc' Ls (.ref a :: st) h' (cells + 1) (slots + cap) := by
  subst hp
  obtain ⟨S, T, locs, X, e, N, k⟩ := r
  obtain ⟨T', h', kA, X', e', E, A, q⟩ := Jvm.RoadKit.newP X S.1 S.2.1 w1 e (g := mkF w.m pc Ls.toArray (.int n :: st)) rfl (hb S.2.2.2.1 hd) rfl hn hcap hb8 hc hs
  refine ⟨h', h.size, rfl, E, ?_, S, T', locs, X', e', N, fun t z => k t (q t z)⟩
  have hl : vs.length = n.toNatClampNeg := by rw [← hv]; simp
  refine ⟨kA, defaultValue (newarray.typeOf aty), ?_, by rw [hl]; exact (back32 hn).2⟩
  rw [hl, nn_back hn, ← hv]
  exact (Arv.new A hn).pad (by simpa using pad_rep [] (defaultValue (newarray.typeOf aty)) n.toNatClampNeg)
/-! arrays -/
theorem inb {j : Int32} {n : Nat} (h0 : ¬ j < 0) (hj : j.toNatClampNeg < n) : ¬ (j < 0 ∨ n ≤ j.toNatClampNeg) := fun q => q.elim h0 (Nat.not_le.mpr hj)
theorem Go.alen (r : Go w l R Z n0 y code ml ret pc Ls (.ref a :: st) h cells slots) (pc' : Nat) (hd : decode code pc = .ok (.arraylength, 1)) (hp : pc + 1 = pc') (A : Ary Z h a ty vs) (n : Int32) (hn : Int32.ofNat vs.length = n) : Go w l R Z n0 y code ml ret pc' Ls (.int n :: st) h cells slots := by
  subst hp hn
  obtain ⟨S, T, locs, X, e, N, k⟩ := r
  obtain ⟨c, A1, A2, A3, A4⟩ := A.unf
  exact ⟨S, T, locs, X, e, N, fun t q => k t (X.arraylength S.1 (by rw [e]; exact A1.1) (State.isArrayOf_alike S.2.1.alike A1.2.1) (g := mkF w.m pc Ls.toArray (.ref a :: st)) rfl rfl (hb S.2.2.2.1 hd) t (by rw [A4]; exact q))⟩
theorem Go.iald {j : Int32} {v : Value} (r : Go w l R Z n0 y code ml ret pc Ls (.int j :: .ref a :: st) h cells slots) (pc' : Nat) (hd : decode code pc = .ok (.iaload, 1)) (hp : pc + 1 = pc') (A : Ary Z h a .int vs) (h0 : ¬ j < 0) (hv : vs[j.toNatClampNeg]? = some v) : Go w l R Z n0 y code ml ret pc' Ls (v :: st) h cells slots := by
  subst hp
  obtain ⟨S, T, locs, X, e, N, k⟩ := r
  obtain ⟨c, A1, A2, A3, A4⟩ := A.unf
  have hj := (List.getElem?_eq_some_iff.mp hv).1
  exact ⟨S, T, locs, X, e, N, fun t q => k t (X.iaload S.1 (by rw [e]; exact A1.1) (State.isArrayOf_alike S.2.1.alike A1.2.1) A1.2.2 (by rw [A2]; exact inb h0 hj) ((A3 _ hj).trans hv) (g := mkF w.m pc Ls.toArray (.int j :: .ref a :: st)) rfl rfl (hb S.2.2.2.1 hd) t q)⟩
theorem Go.lald {j : Int32} {v : Value} (r : Go w l R Z n0 y code ml ret pc Ls (.int j :: .ref a :: st) h cells slots) (pc' : Nat) (hd : decode code pc = .ok (.laload, 1)) (hp : pc + 1 = pc') (A : Ary Z h a .long vs) (h0 : ¬ j < 0) (hv : vs[j.toNatClampNeg]? = some v) : Go w l R Z n0 y code ml ret pc' Ls (v :: st) h cells slots := by
  subst hp
  obtain ⟨S, T, locs, X, e, N, k⟩ := r
  obtain ⟨c, A1, A2, A3, A4⟩ := A.unf
  have hj := (List.getElem?_eq_some_iff.mp hv).1
  exact ⟨S, T, locs, X, e, N, fun t q => k t (X.laload S.1 (by rw [e]; exact A1.1) (State.isArrayOf_alike S.2.1.alike A1.2.1) A1.2.2 (by rw [A2]; exact inb h0 hj) ((A3 _ hj).trans hv) (g := mkF w.m pc Ls.toArray (.int j :: .ref a :: st)) rfl rfl (hb S.2.2.2.1 hd) t q)⟩
theorem Go.bald {j : Int32} {v : Value} (r : Go w l R Z n0 y code ml ret pc Ls (.int j :: .ref a :: st) h cells slots) (pc' : Nat) (hd : decode code pc = .ok (.baload, 1)) (hp : pc + 1 = pc') (A : Ary Z h a .byte vs) (h0 : ¬ j < 0) (hv : vs[j.toNatClampNeg]? = some v) : Go w l R Z n0 y code ml ret pc' Ls (v :: st) h cells slots := by
  subst hp
  obtain ⟨S, T, locs, X, e, N, k⟩ := r
  obtain ⟨c, A1, A2, A3, A4⟩ := A.unf
  have hj := (List.getElem?_eq_some_iff.mp hv).1
  exact ⟨S, T, locs, X, e, N, fun t q => k t (X.baloadBytes S.1 (by rw [e]; exact A1.1) (State.isArrayOf_alike S.2.1.alike A1.2.1) A1.2.2 (by rw [A2]; exact inb h0 hj) ((A3 _ hj).trans hv) (g := mkF w.m pc Ls.toArray (.int j :: .ref a :: st)) rfl rfl (hb S.2.2.2.1 hd) t q)⟩
theorem Go.zald {j : Int32} {v : Value} (r : Go w l R Z n0 y code ml ret pc Ls (.int j :: .ref a :: st) h cells slots) (pc' : Nat) (hd : decode code pc = .ok (.baload, 1)) (hp : pc + 1 = pc') (A : Ary Z h a .boolean vs) (h0 : ¬ j < 0) (hv : vs[j.toNatClampNeg]? = some v) : Go w l R Z n0 y code ml ret pc' Ls (v :: st) h cells slots := by
  subst hp
  obtain ⟨S, T, locs, X, e, N, k⟩ := r
  obtain ⟨c, A1, A2, A3, A4⟩ := A.unf
  have hj := (List.getElem?_eq_some_iff.mp hv).1
  exact ⟨S, T, locs, X, e, N, fun t q => k t (X.baloadBooleans S.1 (by rw [e]; exact A1.1) (State.isArrayOf_alike S.2.1.alike A1.2.1) A1.2.2 (by rw [A2]; exact inb h0 hj) ((A3 _ hj).trans hv) (g := mkF w.m pc Ls.toArray (.int j :: .ref a :: st)) rfl rfl (hb S.2.2.2.1 hd) t q)⟩
theorem Go.iast {j x : Int32} (r : Go w l R Z n0 y code ml ret pc Ls (.int x :: .int j :: .ref a :: st) h cells slots) (pc' : Nat) (hd : decode code pc = .ok (.iastore, 1)) (hp : pc + 1 = pc') (A : Ary Z h a .int vs) (h0 : ¬ j < 0) (hj : j.toNatClampNeg < vs.length) (g0 : n0 ≤ a) :
    ∃ h', Wr h h' a j.toNatClampNeg (.int x) ∧ Ary Z h' a .int (vs.set j.toNatClampNeg (.int x)) ∧ Go w l R Z n0 y code ml ret pc' Ls st h' cells slots := by
  subst hp
  obtain ⟨S, T, locs, X, e, N, k⟩ := r
  obtain ⟨c, A1, A2, A3, A4⟩ := A.unf
  obtain ⟨T', h', X', e', Wq, q⟩ := stI X S.1 S.2.1 e A1 (j := j) (by rw [A2]; exact inb h0 hj) (g := mkF w.m pc Ls.toArray (.int x :: .int j :: .ref a :: st)) rfl rfl (hb S.2.2.2.1 hd)
  exact ⟨h', Wq, A.set Wq rfl hj, S, T', _, X', e', Fr.snoc X' N g0, fun t z => k t (q t z)⟩
theorem Go.last {j : Int32} {x : Int64} (r : Go w l R Z n0 y code ml ret pc Ls (.long x :: .int j :: .ref a :: st) h cells slots) (pc' : Nat) (hd : decode code pc = .ok (.lastore, 1)) (hp : pc + 1 = pc') (A : Ary Z h a .long vs) (h0 : ¬ j < 0) (hj : j.toNatClampNeg < vs.length) (g0 : n0 ≤ a) :
    ∃ h', Wr h h' a j.toNatClampNeg (.long x) ∧ Ary Z h' a .long (vs.set j.toNatClampNeg (.long x)) ∧ Go w l R Z n0 y code ml ret pc' Ls st h' cells slots := by
  subst hp
  obtain ⟨S, T, locs, X, e, N, k⟩ := r
  obtain ⟨c, A1, A2, A3, A4⟩ := A.unf
  obtain ⟨T', h', X', e', Wq, q⟩ := stJ X S.1 S.2.1 e A1 (j := j) (by rw [A2]; exact inb h0 hj) (g := mkF w.m pc Ls.toArray (.long x :: .int j :: .ref a :: st)) rfl rfl (hb S.2.2.2.1 hd)
  exact ⟨h', Wq, A.set Wq rfl hj, S, T', _, X', e', Fr.snoc X' N g0, fun t z => k t (q t z)⟩
theorem Go.bast {j x : Int32} (r : Go w l R Z n0 y code ml ret pc Ls (.int x :: .int j :: .ref a :: st) h cells slots) (pc' : Nat) (hd : decode code pc = .ok (.bastore, 1)) (hp : pc + 1 = pc') (A : Ary Z h a .byte vs) (h0 : ¬ j < 0) (hj : j.toNatClampNeg < vs.length) (g0 : n0 ≤ a) :
    ∃ h', Wr h h' a j.toNatClampNeg (.int x.toInt8.toInt32) ∧ Ary Z h' a .byte (vs.set j.toNatClampNeg (.int x.toInt8.toInt32)) ∧ Go w l R Z n0 y code ml ret pc' Ls st h' cells slots := by
  subst hp
  obtain ⟨S, T, locs, X, e, N, k⟩ := r
  obtain ⟨c, A1, A2, A3, A4⟩ := A.unf
  obtain ⟨T', h', X', e', Wq, q⟩ := stB X S.1 S.2.1 e A1 (j := j) (by rw [A2]; exact inb h0 hj) (g := mkF w.m pc Ls.toArray (.int x :: .int j :: .ref a :: st)) rfl rfl (hb S.2.2.2.1 hd)
  exact ⟨h', Wq, A.set Wq (fits_nar_byte _) hj, S, T', _, X', e', Fr.snoc X' N g0, fun t z => k t (q t z)⟩
theorem Go.zast {j x : Int32} (r : Go w l R Z n0 y code ml ret pc Ls (.int x :: .int j :: .ref a :: st) h cells slots) (pc' : Nat) (hd : decode code pc = .ok (.bastore, 1)) (hp : pc + 1 = pc') (A : Ary Z h a .boolean vs) (h0 : ¬ j < 0) (hj : j.toNatClampNeg < vs.length) (g0 : n0 ≤ a) :
    ∃ h', Wr h h' a j.toNatClampNeg (.int (x &&& 1)) ∧ Ary Z h' a .boolean (vs.set j.toNatClampNeg (.int (x &&& 1))) ∧ Go w l R Z n0 y code ml ret pc' Ls st h' cells slots := by
  subst hp
  obtain ⟨S, T, locs, X, e, N, k⟩ := r
  obtain ⟨c, A1, A2, A3, A4⟩ := A.unf
  obtain ⟨T', h', X', e', Wq, q⟩ := stZ X S.1 S.2.1 e A1 (j := j) (by rw [A2]; exact inb h0 hj) (g := mkF w.m pc Ls.toArray (.int x :: .int j :: .ref a :: st)) rfl rfl (hb S.2.2.2.1 hd)
  exact ⟨h', Wq, A.set Wq (fits_nar_bool _) hj, S, T', _, X', e', Fr.snoc X' N g0, fun t z => k t (q t z)⟩
/-! calls -/
def wt (st : List Value) : Nat := (st.map fun v => v.category).sum
variable {y' : MethodName} {code' : ByteArray} {ml' : Nat} {ret' : Option FieldType} {rm : Room} {as rest : List Value} {Q : Option Value → Heap → Prop} {ps : List FieldType} {rt : Option FieldType} {a0 : Array Value} {idx : Nat}
theorem Go.callS (r : Go w l R Z n0 y code ml ret pc Ls st h cells slots) (pc' : Nat) (hd : decode code pc = .ok (.invokestatic idx, 3)) (hp : pc + 3 = pc') (M : Met l Z y' code' ml' ret' rm as h n0 Q) (w1 : (Cond.methodLink y.cls idx y').before a0 Z = true) (w2 : (Cond.static y').before a0 Z = true) (w3 : (Cond.initialized y'.cls).before a0 Z = true) (w4 : (Cond.code y' code' ml' ret').before a0 Z = true)
    (hpd : parseMethodDescriptor y'.desc = some ⟨ps, rt⟩) (hlen : as.length = ps.length) (hst : st = as.reverse ++ rest) (hLs : Ls.length = ml) (hy : y'.cls ≠ "java/lang/invoke/MethodHandle" ∧ y'.cls ≠ "java/lang/invoke/VarHandle") (hf : rm.frames + 1 ≤ R.frames) (hl : wt rest + (ml' + 11) + rm.locals ≤ R.locals) (hc : cells + rm.cells ≤ R.cells) (hs : slots + rm.slots ≤ R.slots) :
    ∃ v h', Q v h' ∧ Go w l R Z n0 y code ml ret pc' Ls (v.toList ++ rest) h' (cells + rm.cells) (slots + rm.slots) := by
  subst hp hst
  obtain ⟨S, T, locs, X, e, N, k⟩ := r
  obtain ⟨v, _, ⟨T', L', k', n'⟩, -, X', ⟨Lc, hQ, l', y2, z2⟩, q⟩ := Jvm.LawKit.callS X S.1 (y := y') S.2.2.1 (mvT S.2.1 w1) (mvT S.2.1 w2) (mvT S.2.1 w3) (mvT S.2.1 w4) hy (backOf (W := wt rest) (Q := fun v h L => Q v h ∧ Fr n0 L) (M []) S.2.1 w4 w3 hf hl) (g := mkF w.m pc Ls.toArray (as.reverse ++ rest)) rfl (by rw [S.2.2.2.2.1]; simpa using hLs) (argsL := as) (rest := rest) (lenOf hpd hlen) rfl (by show 2 * 0 + _ ≤ _; simp [wt]) (hb S.2.2.2.1 hd) (fun _ _ => ⟨rfl, e, hc, hs⟩)
  dsimp only [Pt.U, Pt.locs, Pt.cells, Pt.slots] at X' l' y2 z2 q hQ
  subst l' y2 z2
  exact ⟨v, T'.heap, hQ.1, S, T', _, X', rfl, N.app hQ.2, fun t z => k t (q t z)⟩
theorem Go.callI (r : Go w l R Z n0 y code ml ret pc Ls st h cells slots) (pc' : Nat) (hd : decode code pc = .ok (.invokespecial idx, 3)) (hp : pc + 3 = pc') (M : Met l Z y' code' ml' none rm (.ref a :: as) h n0 Q) (hin : y'.name = "<init>") (w1 : (Cond.methodLink y.cls idx y').before a0 Z = true) (w2 : (Cond.instanceMethod y').before a0 Z = true) (w3 : (Cond.initialized y'.cls).before a0 Z = true) (w4 : (Cond.code y' code' ml' none).before a0 Z = true)
    (hpd : parseMethodDescriptor y'.desc = some ⟨ps, rt⟩) (hlen : as.length = ps.length) (hst : st = as.reverse ++ .ref a :: rest) (hLs : Ls.length = ml) (hy : y'.cls ≠ "java/lang/invoke/MethodHandle" ∧ y'.cls ≠ "java/lang/invoke/VarHandle") (hf : rm.frames + 1 ≤ R.frames) (hl : wt rest + (ml' + 11) + rm.locals ≤ R.locals) (hc : cells + rm.cells ≤ R.cells) (hs : slots + rm.slots ≤ R.slots) :
    ∃ v h', Q v h' ∧ Go w l R Z n0 y code ml ret pc' Ls (v.toList ++ rest) h' (cells + rm.cells) (slots + rm.slots) := by
  subst hp hst
  obtain ⟨S, T, locs, X, e, N, k⟩ := r
  obtain ⟨v, _, ⟨T', L', k', n'⟩, -, X', ⟨Lc, hQ, l', y2, z2⟩, q⟩ := X.specialBack S.1 (y := y') hin S.2.2.1 (mvT S.2.1 w1) (mvT S.2.1 w2) (mvT S.2.1 w4) hy (backOf (W := wt rest) (Q := fun v h L => Q v h ∧ Fr n0 L) (M []) S.2.1 w4 w3 hf hl) (g := mkF w.m pc Ls.toArray (as.reverse ++ .ref a :: rest)) rfl (by rw [S.2.2.2.2.1]; simpa using hLs) (Steps.refl _) (a := a) (argsL := as) (rest := rest) (lenOf hpd hlen) rfl (by show 2 * 0 + _ ≤ _; simp [wt]) (hb S.2.2.2.1 hd) (fun _ _ => ⟨rfl, e, hc, hs⟩)
  dsimp only [Pt.U, Pt.locs, Pt.cells, Pt.slots] at X' l' y2 z2 q hQ
  subst l' y2 z2
  exact ⟨v, T'.heap, hQ.1, S, T', _, X', rfl, N.app hQ.2, fun t z => k t (q.trans z)⟩
theorem Go.callV (r : Go w l R Z n0 y code ml ret pc Ls st h cells slots) (pc' : Nat) (hd : decode code pc = .ok (.invokevirtual idx, 3)) (hp : pc + 3 = pc') (M : Met l Z y' code' ml' ret' rm (.ref a :: as) h n0 Q) (E : Exa Z h a y'.cls) (w1 : (Cond.methodLink y.cls idx y').before a0 Z = true) (wd : (Cond.declares y').before a0 Z = true) (w2 : (Cond.instanceMethod y').before a0 Z = true) (ws : (Cond.selects y'.cls y' y').before a0 Z = true) (w3 : (Cond.initialized y'.cls).before a0 Z = true) (w4 : (Cond.code y' code' ml' ret').before a0 Z = true)
    (hpd : parseMethodDescriptor y'.desc = some ⟨ps, rt⟩) (hlen : as.length = ps.length) (hst : st = as.reverse ++ .ref a :: rest) (hLs : Ls.length = ml) (hy : y'.cls ≠ "java/lang/invoke/MethodHandle" ∧ y'.cls ≠ "java/lang/invoke/VarHandle") (hf : rm.frames + 1 ≤ R.frames) (hl : wt rest + (ml' + 11) + rm.locals ≤ R.locals) (hc : cells + rm.cells ≤ R.cells) (hs : slots + rm.slots ≤ R.slots) :
    ∃ v h', Q v h' ∧ Go w l R Z n0 y code ml ret pc' Ls (v.toList ++ rest) h' (cells + rm.cells) (slots + rm.slots) := by
  subst hp hst
  obtain ⟨S, T, locs, X, e, N, k⟩ := r
  obtain ⟨cq, kq, qa, qb, qc⟩ := isOf S.2.1 e E
  obtain ⟨v, _, ⟨T', L', k', n'⟩, -, X', ⟨Lc, hQ, l', y2, z2⟩, q⟩ := X.virtualBack S.1 (y := y') (z := y') S.2.2.1 (mvT S.2.1 w1) (mvT S.2.1 wd) (notFace_of_selects (args := #[]) (mvT S.2.1 ws)) (mvT S.2.1 ws) (mvT S.2.1 w2) hy (backOf (W := wt rest) (Q := fun v h L => Q v h ∧ Fr n0 L) (M []) S.2.1 w4 w3 hf hl) qa qc (g := mkF w.m pc Ls.toArray (as.reverse ++ .ref a :: rest)) rfl (by rw [S.2.2.2.2.1]; simpa using hLs) (Steps.refl _) (argsL := as) (rest := rest) (lenOf hpd hlen) rfl (by show 2 * 0 + _ ≤ _; simp [wt]) (hb S.2.2.2.1 hd) (fun _ _ => ⟨rfl, e, hc, hs⟩)
  dsimp only [Pt.U, Pt.locs, Pt.cells, Pt.slots] at X' l' y2 z2 q hQ
  subst l' y2 z2
  exact ⟨v, T'.heap, hQ.1, S, T', _, X', rfl, N.app hQ.2, fun t z => k t (q.trans z)⟩
theorem Go.callP {kk : Nat} (r : Go w l R Z n0 y code ml ret pc Ls st h cells slots) (pc' : Nat) (hd : decode code pc = .ok (.invokevirtual idx, 3)) (hp : pc + 3 = pc') (M : Met l Z y' code' ml' ret' rm (.ref a :: as) h n0 Q) (E : Exa Z h a y'.cls) (w1 : (Cond.methodLink y.cls idx y').before a0 Z = true) (w2 : (Cond.instanceMethod y').before a0 Z = true) (wp : (Cond.privateMethod y').before a0 Z = true) (w3 : (Cond.initialized y'.cls).before a0 Z = true) (wi : (Cond.instantiable y'.cls kk).before a0 Z = true) (w4 : (Cond.code y' code' ml' ret').before a0 Z = true)
    (hpd : parseMethodDescriptor y'.desc = some ⟨ps, rt⟩) (hlen : as.length = ps.length) (hst : st = as.reverse ++ .ref a :: rest) (hLs : Ls.length = ml) (hy : y'.cls ≠ "java/lang/invoke/MethodHandle" ∧ y'.cls ≠ "java/lang/invoke/VarHandle") (hf : rm.frames + 1 ≤ R.frames) (hl : wt rest + (ml' + 11) + rm.locals ≤ R.locals) (hc : cells + rm.cells ≤ R.cells) (hs : slots + rm.slots ≤ R.slots) :
    ∃ v h', Q v h' ∧ Go w l R Z n0 y code ml ret pc' Ls (v.toList ++ rest) h' (cells + rm.cells) (slots + rm.slots) := by
  subst hp hst
  obtain ⟨S, T, locs, X, e, N, k⟩ := r
  obtain ⟨cq, q1, q2⟩ := E.cell
  obtain ⟨c1, k1, b1, b2, -, b3, -, -⟩ := Cond.instantiable_spec (show (Cond.instantiable y'.cls kk).before w.args w.s = true from mvT S.2.1 wi)
  have hsel : (Cond.selects y'.cls y' y').before w.args w.s = true := selects_self_of_private b1 b2 (Bool.or_eq_false_iff.mp b3).1 (Cond.privateMethod_at (mvP S.2.1 wp (args := w.args))) (mvT S.2.1 w2) hy
  obtain ⟨v, _, ⟨T', L', k', n'⟩, -, X', ⟨Lc, hQ, l', y2, z2⟩, q⟩ := X.privateBack S.1 (y := y') S.2.2.1 (mvT S.2.1 w1) (mvT S.2.1 w2) hsel (Cond.privateMethod_at (mvP S.2.1 wp (args := w.args))) (mvT S.2.1 w4) hy (backOf (W := wt rest) (Q := fun v h L => Q v h ∧ Fr n0 L) (M []) S.2.1 w4 w3 hf hl) (g := mkF w.m pc Ls.toArray (as.reverse ++ .ref a :: rest)) rfl (by rw [S.2.2.2.2.1]; simpa using hLs) (Steps.refl _) (a := a) (by rw [e]; exact q1) q2 (argsL := as) (rest := rest) (lenOf hpd hlen) rfl (by show 2 * 0 + _ ≤ _; simp [wt]) (hb S.2.2.2.1 hd) (fun _ _ => ⟨rfl, e, hc, hs⟩)
  dsimp only [Pt.U, Pt.locs, Pt.cells, Pt.slots] at X' l' y2 z2 q hQ
  subst l' y2 z2
  exact ⟨v, T'.heap, hQ.1, S, T', _, X', rfl, N.app hQ.2, fun t z => k t (q.trans z)⟩
/-- System.arraycopy between two arrays of one primitive kind, from the first place of both -/
theorem Go.acopy {nn : Int32} {vd : List Value} (r : Go w l R Z n0 y code ml ret pc Ls (.int nn :: .int 0 :: .ref b :: .int 0 :: .ref a :: st) h cells slots) (pc' : Nat) (hd : decode code pc = .ok (.invokestatic idx, 3)) (hp : pc + 3 = pc') (w1 : (Cond.methodLink y.cls idx Jvm.Stand.acN).before a0 Z = true) (w2 : (Cond.native Jvm.Stand.acN).before a0 Z = true) (w3 : (Cond.static Jvm.Stand.acN).before a0 Z = true) (w4 : (Cond.initialized "java/lang/System").before a0 Z = true)
    (A : Ary Z h a ty vs) (B : Ary Z h b ty vd) (hty : refKind ty = false) (hn : ¬ nn < 0) (h4 : nn.toNatClampNeg ≤ vs.length) (h5 : nn.toNatClampNeg ≤ vd.length) (g0 : n0 ≤ b) (hLs : Ls.length = ml) (hf : 1 ≤ R.frames) (hl : wt st + (nativeFrameWords "java/lang/System" "arraycopy" 5 + 11) ≤ R.locals) :
    ∃ h', Keep h h' [b] ∧ Ary Z h' b ty (vs.take nn.toNatClampNeg ++ vd.drop nn.toNatClampNeg) ∧ Go w l R Z n0 y code ml ret pc' Ls st h' cells slots := by
  subst hp
  obtain ⟨S, T, locs, X, e, N, k⟩ := r
  obtain ⟨ka, da, Va, za⟩ := A
  obtain ⟨kb, db, Vb, zb⟩ := B
  have z0 : (0 : Int32).toNatClampNeg = 0 := rfl
  obtain ⟨T', h', L, X', e', N', K, V, q⟩ := cpA X S.1 S.2.1 S.2.2.1 w1 w2 w3 w4 e (us := vs.take nn.toNatClampNeg) Va Vb (Or.inl ⟨rfl, hty⟩) (sp := 0) (dp := 0) (nn := nn) (by decide) (by decide) hn (by rw [len_nat za, z0]; omega) (by rw [len_nat zb, z0]; omega)
    (by
      rw [z0]
      apply List.ext_getElem?
      intro i
      by_cases hi : i < nn.toNatClampNeg
      · rw [List.getElem?_take_of_lt hi, List.getElem?_map, List.getElem?_range hi]
        simp only [Option.map_some, Nat.zero_add, List.getD_eq_getElem?_getD]
        rw [List.getElem?_eq_getElem (by omega)]; rfl
      · rw [List.getElem?_eq_none (by simp; omega), List.getElem?_eq_none (by simp; omega)])
    (by rw [z0]; omega) N g0 (g := mkF w.m pc Ls.toArray (.int nn :: .int 0 :: .ref b :: .int 0 :: .ref a :: st)) rfl (by rw [S.2.2.2.2.1]; simpa using hLs) rfl (hb S.2.2.2.1 hd) hf (W := wt st) (by show 2 * 0 + _ ≤ _; simp [wt]) hl
  refine ⟨h', K, ⟨kb, db, ?_, ?_⟩, S, T', L, X', e', N', fun t z => k t (q t z)⟩
  · have hlen : (vs.take nn.toNatClampNeg ++ vd.drop nn.toNatClampNeg).length = vd.length := by simp; omega
    rw [hlen]
    rw [z0] at V
    simpa using V
  · have hlen : (vs.take nn.toNatClampNeg ++ vd.drop nn.toNatClampNeg).length = vd.length := by simp; omega
    rw [hlen]; exact zb
/-! returning -/
theorem Go.retV (r : Go w l R Z n0 y code ml none pc Ls [] h cells slots) (hd : decode code pc = .ok (.return_, 1)) {Q : Heap → Prop} (q : Q h) {C S : Nat} (hc : cells ≤ C) (hs : slots ≤ S) : Fini w n0 (Ret0 Q) C S := by
  obtain ⟨S, T, locs, X, e, N, k⟩ := r
  obtain ⟨fs, hr, hrun, hended, hW, hsame⟩ := X.leave (v := none) (fun _ => rfl) S.2.2.2.2.2.2.1
  exact ⟨_, _, k _ (X.returnOut S.1 S.2.2.2.2.2.1 (hb S.2.2.2.1 hd) hr), hrun, hended, _, _, rfl, ⟨⟨rfl, by show Q T.heap; rw [e]; exact q⟩, N⟩, ⟨_, rfl⟩, hW, hsame.mono hc hs⟩
theorem Go.retI {z : Int32} (r : Go w l R Z n0 y code ml (some .int) pc Ls (.int z :: st) h cells slots) (hd : decode code pc = .ok (.ireturn, 1)) {Q : Value → Heap → Prop} (q : Q (.int z) h) {C S : Nat} (hc : cells ≤ C) (hs : slots ≤ S) : Fini w n0 (Ret Q) C S := by
  obtain ⟨S, T, locs, X, e, N, k⟩ := r
  obtain ⟨fs, hr, hrun, hended, hW, hsame⟩ := X.leave (v := some (.int z)) (fun h => by rw [S.2.2.2.2.2.1] at h; cases h) S.2.2.2.2.2.2.1
  exact ⟨_, _, k _ (retOut X S.1 S.2.2.2.2.2.1 rfl (Or.inl ⟨rfl, Or.inl rfl, z, rfl⟩) (hb S.2.2.2.1 hd) hr), hrun, hended, _, _, rfl, ⟨⟨_, rfl, by show Q _ T.heap; rw [e]; exact q⟩, N⟩, ⟨_, rfl⟩, hW, hsame.mono hc hs⟩
theorem Go.retN {t : FieldType} {z z' : Int32} (r : Go w l R Z n0 y code ml (some t) pc Ls (.int z :: st) h cells slots) (hd : decode code pc = .ok (.ireturn, 1)) (ht : t = .boolean ∨ t = .byte ∨ t = .char ∨ t = .short) (hz : nar t z = z') {Q : Value → Heap → Prop} (q : Q (.int z') h) {C S : Nat} (hc : cells ≤ C) (hs : slots ≤ S) : Fini w n0 (Ret Q) C S := by
  subst hz
  obtain ⟨S, T, locs, X, e, N, k⟩ := r
  obtain ⟨fs, hr, hrun, hended, hW, hsame⟩ := X.leave (v := some (.int (nar t z))) (fun h => by rw [S.2.2.2.2.2.1] at h; cases h) S.2.2.2.2.2.2.1
  exact ⟨_, _, k _ (Jvm.RoadKit.retN X S.1 S.2.2.2.2.2.1 ht (hb S.2.2.2.1 hd) hr), hrun, hended, _, _, rfl, ⟨⟨_, rfl, by show Q _ T.heap; rw [e]; exact q⟩, N⟩, ⟨_, rfl⟩, hW, hsame.mono hc hs⟩
theorem Go.retL {z : Int64} (r : Go w l R Z n0 y code ml (some .long) pc Ls (.long z :: st) h cells slots) (hd : decode code pc = .ok (.lreturn, 1)) {Q : Value → Heap → Prop} (q : Q (.long z) h) {C S : Nat} (hc : cells ≤ C) (hs : slots ≤ S) : Fini w n0 (Ret Q) C S := by
  obtain ⟨S, T, locs, X, e, N, k⟩ := r
  obtain ⟨fs, hr, hrun, hended, hW, hsame⟩ := X.leave (v := some (.long z)) (fun h => by rw [S.2.2.2.2.2.1] at h; cases h) S.2.2.2.2.2.2.1
  exact ⟨_, _, k _ (retOut X S.1 S.2.2.2.2.2.1 rfl (Or.inr (Or.inl ⟨rfl, rfl, z, rfl⟩)) (hb S.2.2.2.1 hd) hr), hrun, hended, _, _, rfl, ⟨⟨_, rfl, by show Q _ T.heap; rw [e]; exact q⟩, N⟩, ⟨_, rfl⟩, hW, hsame.mono hc hs⟩
theorem Go.retA {t : FieldType} (r : Go w l R Z n0 y code ml (some t) pc Ls (.ref a :: st) h cells slots) (hd : decode code pc = .ok (.areturn, 1)) (ht : t.isReference = true) (hn : narrow t (.ref a) = .ref a) {Q : Value → Heap → Prop} (q : Q (.ref a) h) {C S : Nat} (hc : cells ≤ C) (hs : slots ≤ S) : Fini w n0 (Ret Q) C S := by
  obtain ⟨S, T, locs, X, e, N, k⟩ := r
  obtain ⟨fs, hr, hrun, hended, hW, hsame⟩ := X.leave (v := some (.ref a)) (fun h => by rw [S.2.2.2.2.2.1] at h; cases h) S.2.2.2.2.2.2.1
  exact ⟨_, _, k _ (retOut X S.1 S.2.2.2.2.2.1 hn (Or.inr (Or.inr (Or.inr (Or.inr ⟨rfl, ht, rfl⟩)))) (hb S.2.2.2.1 hd) hr), hrun, hended, _, _, rfl, ⟨⟨_, rfl, by show Q _ T.heap; rw [e]; exact q⟩, N⟩, ⟨_, rfl⟩, hW, hsame.mono hc hs⟩
/-! small numbers -/
theorem nlt {a b : Nat} (ha : a < 2 ^ 31) (hb : b < 2 ^ 31) : Int32.ofNat a < Int32.ofNat b ↔ a < b := by
  rw [Int32.lt_iff_toInt_lt, Int32.toInt_ofNat_small ha, Int32.toInt_ofNat_small hb]; omega
theorem nadd (a b : Nat) : Int32.ofNat a + Int32.ofNat b = Int32.ofNat (a + b) := (Int32.ofNat_add a b).symm
theorem nadd1 (a : Nat) : Int32.ofNat a + 1 = Int32.ofNat (a + 1) := nadd a 1
theorem nsub {a b : Nat} (h : b ≤ a) : Int32.ofNat a - Int32.ofNat b = Int32.ofNat (a - b) := (Int32.ofNat_sub a b h).symm
theorem neqn {a b : Nat} (ha : a < 2 ^ 31) (hb : b < 2 ^ 31) : Int32.ofNat a = Int32.ofNat b ↔ a = b := by
  rw [← Int32.toInt_inj, Int32.toInt_ofNat_small ha, Int32.toInt_ofNat_small hb]; omega
theorem get_long {os : List Int64} {j : Nat} (hj : j < os.length) : (os.map Value.long)[j]? = some (.long (os.getD j 0)) := by
  rw [List.getElem?_map, List.getD_eq_getElem?_getD, List.getElem?_eq_getElem hj]; rfl
theorem get_int {os : List Int32} {j : Nat} (hj : j < os.length) : (os.map Value.int)[j]? = some (.int (os.getD j 0)) := by
  rw [List.getElem?_map, List.getD_eq_getElem?_getD, List.getElem?_eq_getElem hj]; rfl
end Walk
end Jvm.OwnKit
namespace Jvm.Pilot.@@N@@
open Jvm Jvm.ClassFile Sem Op Lib Jvm.Free Jvm.Stand Jvm.LawKit Jvm.RoadKit Bundle Jvm.OwnKit Jvm.Pilot.@@N@@.Jvm.D
abbrev Ws (Z : State) (a0 : Array Value) : Prop := ∀ d ∈ tables_1, d.before a0 Z = true
theorem wd_0 {Z : State} {a0 : Array Value} (hw : Ws Z a0) : (Jvm.Cond.constantLong "com/example/vestledger/vestledger/census/RowBytesReadNumberPinLaw" (9 : Nat) (9223372036854775807 : Int64)).before a0 Z = true := hw _ (List.mem_of_getElem? (i := 0) rfl)
theorem wd_1 {Z : State} {a0 : Array Value} (hw : Ws Z a0) : (Jvm.Cond.classLink "com/example/vestledger/vestledger/census/RowBytesReadNumberPinLaw" (11 : Nat) "com/example/vestledger/vestledger/census/RowBytes").before a0 Z = true := hw _ (List.mem_of_getElem? (i := 1) rfl)
theorem wd_2 {Z : State} {a0 : Array Value} (hw : Ws Z a0) : (Jvm.Cond.instantiable "com/example/vestledger/vestledger/census/RowBytes" (3 : Nat)).before a0 Z = true := hw _ (List.mem_of_getElem? (i := 2) rfl)
theorem wd_3 {Z : State} {a0 : Array Value} (hw : Ws Z a0) : (Jvm.Cond.initialized "com/example/vestledger/vestledger/census/RowBytes").before a0 Z = true := hw _ (List.mem_of_getElem? (i := 3) rfl)
theorem wd_4 {Z : State} {a0 : Array Value} (hw : Ws Z a0) : (Jvm.Cond.methodLink "com/example/vestledger/vestledger/census/RowBytesReadNumberPinLaw" (13 : Nat) ({ cls := "com/example/vestledger/vestledger/census/RowBytes", name := "<init>", desc := "()V" } : Jvm.MethodName)).before a0 Z = true := hw _ (List.mem_of_getElem? (i := 4) rfl)
theorem wd_5 {Z : State} {a0 : Array Value} (hw : Ws Z a0) : (Jvm.Cond.instanceMethod ({ cls := "com/example/vestledger/vestledger/census/RowBytes", name := "<init>", desc := "()V" } : Jvm.MethodName)).before a0 Z = true := hw _ (List.mem_of_getElem? (i := 5) rfl)
theorem wd_6 {Z : State} {a0 : Array Value} (hw : Ws Z a0) : (Jvm.Cond.code ({ cls := "com/example/vestledger/vestledger/census/RowBytes", name := "<init>", desc := "()V" } : Jvm.MethodName) prog_23_method_1_code (1 : Nat) (Option.none : Option Jvm.ClassFile.FieldType)).before a0 Z = true := hw _ (List.mem_of_getElem? (i := 6) rfl)
theorem wd_7 {Z : State} {a0 : Array Value} (hw : Ws Z a0) : (Jvm.Cond.methodLink "com/example/vestledger/vestledger/census/RowBytes" (1 : Nat) ({ cls := "java/lang/Object", name := "<init>", desc := "()V" } : Jvm.MethodName)).before a0 Z = true := hw _ (List.mem_of_getElem? (i := 7) rfl)
theorem wd_8 {Z : State} {a0 : Array Value} (hw : Ws Z a0) : (Jvm.Cond.instanceMethod ({ cls := "java/lang/Object", name := "<init>", desc := "()V" } : Jvm.MethodName)).before a0 Z = true := hw _ (List.mem_of_getElem? (i := 8) rfl)
theorem wd_9 {Z : State} {a0 : Array Value} (hw : Ws Z a0) : (Jvm.Cond.code ({ cls := "java/lang/Object", name := "<init>", desc := "()V" } : Jvm.MethodName) object_method_1_code (1 : Nat) (Option.none : Option Jvm.ClassFile.FieldType)).before a0 Z = true := hw _ (List.mem_of_getElem? (i := 9) rfl)
theorem wd_10 {Z : State} {a0 : Array Value} (hw : Ws Z a0) : (Jvm.Cond.arrayClass Jvm.ClassFile.FieldType.byte).before a0 Z = true := hw _ (List.mem_of_getElem? (i := 10) rfl)
theorem wd_11 {Z : State} {a0 : Array Value} (hw : Ws Z a0) : (Jvm.Cond.fieldLink "com/example/vestledger/vestledger/census/RowBytes" (7 : Nat) "com/example/vestledger/vestledger/census/RowBytes" "bytes" "[B").before a0 Z = true := hw _ (List.mem_of_getElem? (i := 11) rfl)
theorem wd_12 {Z : State} {a0 : Array Value} (hw : Ws Z a0) : (Jvm.Cond.lays "com/example/vestledger/vestledger/census/RowBytes" "com/example/vestledger/vestledger/census/RowBytes" "bytes" "[B").before a0 Z = true := hw _ (List.mem_of_getElem? (i := 12) rfl)
theorem wd_13 {Z : State} {a0 : Array Value} (hw : Ws Z a0) : (Jvm.Cond.methodLink "com/example/vestledger/vestledger/census/RowBytesReadNumberPinLaw" (14 : Nat) ({ cls := "com/example/vestledger/vestledger/census/RowBytes", name := "writeNumber", desc := "(J)V" } : Jvm.MethodName)).before a0 Z = true := hw _ (List.mem_of_getElem? (i := 13) rfl)
theorem wd_14 {Z : State} {a0 : Array Value} (hw : Ws Z a0) : (Jvm.Cond.declares ({ cls := "com/example/vestledger/vestledger/census/RowBytes", name := "writeNumber", desc := "(J)V" } : Jvm.MethodName)).before a0 Z = true := hw _ (List.mem_of_getElem? (i := 14) rfl)
theorem wd_15 {Z : State} {a0 : Array Value} (hw : Ws Z a0) : (Jvm.Cond.instanceMethod ({ cls := "com/example/vestledger/vestledger/census/RowBytes", name := "writeNumber", desc := "(J)V" } : Jvm.MethodName)).before a0 Z = true := hw _ (List.mem_of_getElem? (i := 15) rfl)
theorem wd_16 {Z : State} {a0 : Array Value} (hw : Ws Z a0) : (Jvm.Cond.selects "com/example/vestledger/vestledger/census/RowBytes" ({ cls := "com/example/vestledger/vestledger/census/RowBytes", name := "writeNumber", desc := "(J)V" } : Jvm.MethodName) ({ cls := "com/example/vestledger/vestledger/census/RowBytes", name := "writeNumber", desc := "(J)V" } : Jvm.MethodName)).before a0 Z = true := hw _ (List.mem_of_getElem? (i := 16) rfl)
theorem wd_17 {Z : State} {a0 : Array Value} (hw : Ws Z a0) : (Jvm.Cond.code ({ cls := "com/example/vestledger/vestledger/census/RowBytes", name := "writeNumber", desc := "(J)V" } : Jvm.MethodName) prog_23_method_7_code (5 : Nat) (Option.none : Option Jvm.ClassFile.FieldType)).before a0 Z = true := hw _ (List.mem_of_getElem? (i := 17) rfl)
theorem wd_18 {Z : State} {a0 : Array Value} (hw : Ws Z a0) : (Jvm.Cond.methodLink "com/example/vestledger/vestledger/census/RowBytes" (29 : Nat) ({ cls := "com/example/vestledger/vestledger/census/RowBytes", name := "makeRoom", desc := "(I)V" } : Jvm.MethodName)).before a0 Z = true := hw _ (List.mem_of_getElem? (i := 18) rfl)
theorem wd_19 {Z : State} {a0 : Array Value} (hw : Ws Z a0) : (Jvm.Cond.instanceMethod ({ cls := "com/example/vestledger/vestledger/census/RowBytes", name := "makeRoom", desc := "(I)V" } : Jvm.MethodName)).before a0 Z = true := hw _ (List.mem_of_getElem? (i := 19) rfl)
theorem wd_20 {Z : State} {a0 : Array Value} (hw : Ws Z a0) : (Jvm.Cond.privateMethod ({ cls := "com/example/vestledger/vestledger/census/RowBytes", name := "makeRoom", desc := "(I)V" } : Jvm.MethodName)).before a0 Z = true := hw _ (List.mem_of_getElem? (i := 20) rfl)
theorem wd_21 {Z : State} {a0 : Array Value} (hw : Ws Z a0) : (Jvm.Cond.code ({ cls := "com/example/vestledger/vestledger/census/RowBytes", name := "makeRoom", desc := "(I)V" } : Jvm.MethodName) prog_23_method_17_code (4 : Nat) (Option.none : Option Jvm.ClassFile.FieldType)).before a0 Z = true := hw _ (List.mem_of_getElem? (i := 21) rfl)
theorem wd_22 {Z : State} {a0 : Array Value} (hw : Ws Z a0) : (Jvm.Cond.fieldLink "com/example/vestledger/vestledger/census/RowBytes" (13 : Nat) "com/example/vestledger/vestledger/census/RowBytes" "length" "I").before a0 Z = true := hw _ (List.mem_of_getElem? (i := 22) rfl)
theorem wd_23 {Z : State} {a0 : Array Value} (hw : Ws Z a0) : (Jvm.Cond.lays "com/example/vestledger/vestledger/census/RowBytes" "com/example/vestledger/vestledger/census/RowBytes" "length" "I").before a0 Z = true := hw _ (List.mem_of_getElem? (i := 23) rfl)
theorem wd_24 {Z : State} {a0 : Array Value} (hw : Ws Z a0) : (Jvm.Cond.methodLink "com/example/vestledger/vestledger/census/RowBytes" (70 : Nat) ({ cls := "java/lang/Math", name := "max", desc := "(II)I" } : Jvm.MethodName)).before a0 Z = true := hw _ (List.mem_of_getElem? (i := 24) rfl)
theorem wd_25 {Z : State} {a0 : Array Value} (hw : Ws Z a0) : (Jvm.Cond.static ({ cls := "java/lang/Math", name := "max", desc := "(II)I" } : Jvm.MethodName)).before a0 Z = true := hw _ (List.mem_of_getElem? (i := 25) rfl)
theorem wd_26 {Z : State} {a0 : Array Value} (hw : Ws Z a0) : (Jvm.Cond.initialized "java/lang/Math").before a0 Z = true := hw _ (List.mem_of_getElem? (i := 26) rfl)
theorem wd_27 {Z : State} {a0 : Array Value} (hw : Ws Z a0) : (Jvm.Cond.code ({ cls := "java/lang/Math", name := "max", desc := "(II)I" } : Jvm.MethodName) jdk_29_method_65_code (2 : Nat) (Option.some Jvm.ClassFile.FieldType.int)).before a0 Z = true := hw _ (List.mem_of_getElem? (i := 27) rfl)
theorem wd_28 {Z : State} {a0 : Array Value} (hw : Ws Z a0) : (Jvm.Cond.methodLink "com/example/vestledger/vestledger/census/RowBytes" (76 : Nat) ({ cls := "java/util/Arrays", name := "copyOf", desc := "([BI)[B" } : Jvm.MethodName)).before a0 Z = true := hw _ (List.mem_of_getElem? (i := 28) rfl)
theorem wd_29 {Z : State} {a0 : Array Value} (hw : Ws Z a0) : (Jvm.Cond.static ({ cls := "java/util/Arrays", name := "copyOf", desc := "([BI)[B" } : Jvm.MethodName)).before a0 Z = true := hw _ (List.mem_of_getElem? (i := 29) rfl)
theorem wd_30 {Z : State} {a0 : Array Value} (hw : Ws Z a0) : (Jvm.Cond.initialized "java/util/Arrays").before a0 Z = true := hw _ (List.mem_of_getElem? (i := 30) rfl)
theorem wd_31 {Z : State} {a0 : Array Value} (hw : Ws Z a0) : (Jvm.Cond.code ({ cls := "java/util/Arrays", name := "copyOf", desc := "([BI)[B" } : Jvm.MethodName) jdk_65_method_121_code (3 : Nat) (Option.some (Jvm.ClassFile.FieldType.array Jvm.ClassFile.FieldType.byte))).before a0 Z = true := hw _ (List.mem_of_getElem? (i := 31) rfl)
theorem wd_32 {Z : State} {a0 : Array Value} (hw : Ws Z a0) : (Jvm.Cond.methodLink "java/util/Arrays" (304 : Nat) ({ cls := "java/lang/Math", name := "min", desc := "(II)I" } : Jvm.MethodName)).before a0 Z = true := hw _ (List.mem_of_getElem? (i := 32) rfl)
theorem wd_33 {Z : State} {a0 : Array Value} (hw : Ws Z a0) : (Jvm.Cond.static ({ cls := "java/lang/Math", name := "min", desc := "(II)I" } : Jvm.MethodName)).before a0 Z = true := hw _ (List.mem_of_getElem? (i := 33) rfl)
theorem wd_34 {Z : State} {a0 : Array Value} (hw : Ws Z a0) : (Jvm.Cond.code ({ cls := "java/lang/Math", name := "min", desc := "(II)I" } : Jvm.MethodName) jdk_29_method_69_code (2 : Nat) (Option.some Jvm.ClassFile.FieldType.int)).before a0 Z = true := hw _ (List.mem_of_getElem? (i := 34) rfl)
theorem wd_35 {Z : State} {a0 : Array Value} (hw : Ws Z a0) : (Jvm.Cond.methodLink "java/util/Arrays" (150 : Nat) ({ cls := "java/lang/System", name := "arraycopy", desc := "(Ljava/lang/Object;ILjava/lang/Object;II)V" } : Jvm.MethodName)).before a0 Z = true := hw _ (List.mem_of_getElem? (i := 35) rfl)
theorem wd_36 {Z : State} {a0 : Array Value} (hw : Ws Z a0) : (Jvm.Cond.static ({ cls := "java/lang/System", name := "arraycopy", desc := "(Ljava/lang/Object;ILjava/lang/Object;II)V" } : Jvm.MethodName)).before a0 Z = true := hw _ (List.mem_of_getElem? (i := 36) rfl)
theorem wd_37 {Z : State} {a0 : Array Value} (hw : Ws Z a0) : (Jvm.Cond.initialized "java/lang/System").before a0 Z = true := hw _ (List.mem_of_getElem? (i := 37) rfl)
theorem wd_38 {Z : State} {a0 : Array Value} (hw : Ws Z a0) : (Jvm.Cond.native ({ cls := "java/lang/System", name := "arraycopy", desc := "(Ljava/lang/Object;ILjava/lang/Object;II)V" } : Jvm.MethodName)).before a0 Z = true := hw _ (List.mem_of_getElem? (i := 38) rfl)
theorem wd_39 {Z : State} {a0 : Array Value} (hw : Ws Z a0) : (Jvm.Cond.constantLong "com/example/vestledger/vestledger/census/RowBytes" (33 : Nat) (128 : Int64)).before a0 Z = true := hw _ (List.mem_of_getElem? (i := 39) rfl)
theorem wd_40 {Z : State} {a0 : Array Value} (hw : Ws Z a0) : (Jvm.Cond.methodLink "com/example/vestledger/vestledger/census/RowBytesReadNumberPinLaw" (18 : Nat) ({ cls := "com/example/vestledger/vestledger/census/RowBytes", name := "writeByte", desc := "(B)V" } : Jvm.MethodName)).before a0 Z = true := hw _ (List.mem_of_getElem? (i := 40) rfl)
theorem wd_41 {Z : State} {a0 : Array Value} (hw : Ws Z a0) : (Jvm.Cond.declares ({ cls := "com/example/vestledger/vestledger/census/RowBytes", name := "writeByte", desc := "(B)V" } : Jvm.MethodName)).before a0 Z = true := hw _ (List.mem_of_getElem? (i := 41) rfl)
theorem wd_42 {Z : State} {a0 : Array Value} (hw : Ws Z a0) : (Jvm.Cond.instanceMethod ({ cls := "com/example/vestledger/vestledger/census/RowBytes", name := "writeByte", desc := "(B)V" } : Jvm.MethodName)).before a0 Z = true := hw _ (List.mem_of_getElem? (i := 42) rfl)
theorem wd_43 {Z : State} {a0 : Array Value} (hw : Ws Z a0) : (Jvm.Cond.selects "com/example/vestledger/vestledger/census/RowBytes" ({ cls := "com/example/vestledger/vestledger/census/RowBytes", name := "writeByte", desc := "(B)V" } : Jvm.MethodName) ({ cls := "com/example/vestledger/vestledger/census/RowBytes", name := "writeByte", desc := "(B)V" } : Jvm.MethodName)).before a0 Z = true := hw _ (List.mem_of_getElem? (i := 43) rfl)
theorem wd_44 {Z : State} {a0 : Array Value} (hw : Ws Z a0) : (Jvm.Cond.code ({ cls := "com/example/vestledger/vestledger/census/RowBytes", name := "writeByte", desc := "(B)V" } : Jvm.MethodName) prog_23_method_10_code (2 : Nat) (Option.none : Option Jvm.ClassFile.FieldType)).before a0 Z = true := hw _ (List.mem_of_getElem? (i := 44) rfl)
theorem wd_45 {Z : State} {a0 : Array Value} (hw : Ws Z a0) : (Jvm.Cond.methodLink "com/example/vestledger/vestledger/census/RowBytesReadNumberPinLaw" (22 : Nat) ({ cls := "com/example/vestledger/vestledger/census/RowBytes", name := "readNumber", desc := "()J" } : Jvm.MethodName)).before a0 Z = true := hw _ (List.mem_of_getElem? (i := 45) rfl)
theorem wd_46 {Z : State} {a0 : Array Value} (hw : Ws Z a0) : (Jvm.Cond.declares ({ cls := "com/example/vestledger/vestledger/census/RowBytes", name := "readNumber", desc := "()J" } : Jvm.MethodName)).before a0 Z = true := hw _ (List.mem_of_getElem? (i := 46) rfl)
theorem wd_47 {Z : State} {a0 : Array Value} (hw : Ws Z a0) : (Jvm.Cond.instanceMethod ({ cls := "com/example/vestledger/vestledger/census/RowBytes", name := "readNumber", desc := "()J" } : Jvm.MethodName)).before a0 Z = true := hw _ (List.mem_of_getElem? (i := 47) rfl)
theorem wd_48 {Z : State} {a0 : Array Value} (hw : Ws Z a0) : (Jvm.Cond.selects "com/example/vestledger/vestledger/census/RowBytes" ({ cls := "com/example/vestledger/vestledger/census/RowBytes", name := "readNumber", desc := "()J" } : Jvm.MethodName) ({ cls := "com/example/vestledger/vestledger/census/RowBytes", name := "readNumber", desc := "()J" } : Jvm.MethodName)).before a0 Z = true := hw _ (List.mem_of_getElem? (i := 48) rfl)
theorem wd_49 {Z : State} {a0 : Array Value} (hw : Ws Z a0) : (Jvm.Cond.code ({ cls := "com/example/vestledger/vestledger/census/RowBytes", name := "readNumber", desc := "()J" } : Jvm.MethodName) prog_23_method_13_code (5 : Nat) (Option.some Jvm.ClassFile.FieldType.long)).before a0 Z = true := hw _ (List.mem_of_getElem? (i := 49) rfl)
theorem wd_50 {Z : State} {a0 : Array Value} (hw : Ws Z a0) : (Jvm.Cond.fieldLink "com/example/vestledger/vestledger/census/RowBytes" (17 : Nat) "com/example/vestledger/vestledger/census/RowBytes" "position" "I").before a0 Z = true := hw _ (List.mem_of_getElem? (i := 50) rfl)
theorem wd_51 {Z : State} {a0 : Array Value} (hw : Ws Z a0) : (Jvm.Cond.lays "com/example/vestledger/vestledger/census/RowBytes" "com/example/vestledger/vestledger/census/RowBytes" "position" "I").before a0 Z = true := hw _ (List.mem_of_getElem? (i := 51) rfl)
theorem wd_52 {Z : State} {a0 : Array Value} (hw : Ws Z a0) : (Jvm.Cond.methodLink "com/example/vestledger/vestledger/census/RowBytesReadNumberPinLaw" (26 : Nat) ({ cls := "com/example/vestledger/vestledger/census/RowBytes", name := "hasMore", desc := "()Z" } : Jvm.MethodName)).before a0 Z = true := hw _ (List.mem_of_getElem? (i := 52) rfl)
theorem wd_53 {Z : State} {a0 : Array Value} (hw : Ws Z a0) : (Jvm.Cond.declares ({ cls := "com/example/vestledger/vestledger/census/RowBytes", name := "hasMore", desc := "()Z" } : Jvm.MethodName)).before a0 Z = true := hw _ (List.mem_of_getElem? (i := 53) rfl)
theorem wd_54 {Z : State} {a0 : Array Value} (hw : Ws Z a0) : (Jvm.Cond.instanceMethod ({ cls := "com/example/vestledger/vestledger/census/RowBytes", name := "hasMore", desc := "()Z" } : Jvm.MethodName)).before a0 Z = true := hw _ (List.mem_of_getElem? (i := 54) rfl)
theorem wd_55 {Z : State} {a0 : Array Value} (hw : Ws Z a0) : (Jvm.Cond.selects "com/example/vestledger/vestledger/census/RowBytes" ({ cls := "com/example/vestledger/vestledger/census/RowBytes", name := "hasMore", desc := "()Z" } : Jvm.MethodName) ({ cls := "com/example/vestledger/vestledger/census/RowBytes", name := "hasMore", desc := "()Z" } : Jvm.MethodName)).before a0 Z = true := hw _ (List.mem_of_getElem? (i := 55) rfl)
theorem wd_56 {Z : State} {a0 : Array Value} (hw : Ws Z a0) : (Jvm.Cond.code ({ cls := "com/example/vestledger/vestledger/census/RowBytes", name := "hasMore", desc := "()Z" } : Jvm.MethodName) prog_23_method_5_code (1 : Nat) (Option.some Jvm.ClassFile.FieldType.boolean)).before a0 Z = true := hw _ (List.mem_of_getElem? (i := 56) rfl)
abbrev Y0 : MethodName := x
abbrev Y1 : MethodName := ⟨"com/example/vestledger/vestledger/census/RowBytes", "<init>", "()V"⟩
theorem d1_0 : decode prog_23_method_1_code 0 = .ok (.aload_n 0, 1) := by decide +kernel
theorem d1_1 : decode prog_23_method_1_code 1 = .ok (.invokespecial 1, 3) := by decide +kernel
theorem d1_4 : decode prog_23_method_1_code 4 = .ok (.aload_n 0, 1) := by decide +kernel
theorem d1_5 : decode prog_23_method_1_code 5 = .ok (.iconst 0, 1) := by decide +kernel
theorem d1_6 : decode prog_23_method_1_code 6 = .ok (.newarray .byte, 2) := by decide +kernel
theorem d1_8 : decode prog_23_method_1_code 8 = .ok (.putfield 7, 3) := by decide +kernel
theorem d1_11 : decode prog_23_method_1_code 11 = .ok (.return_, 1) := by decide +kernel
theorem pd_1 : parseMethodDescriptor "()V" = some ⟨[], none⟩ := by decide +kernel
abbrev Y2 : MethodName := ⟨"java/lang/Object", "<init>", "()V"⟩
abbrev Y3 : MethodName := ⟨"com/example/vestledger/vestledger/census/RowBytes", "writeNumber", "(J)V"⟩
theorem d3_0 : decode prog_23_method_7_code 0 = .ok (.lload_n 1, 1) := by decide +kernel
theorem d3_1 : decode prog_23_method_7_code 1 = .ok (.lconst 0, 1) := by decide +kernel
theorem d3_2 : decode prog_23_method_7_code 2 = .ok (.lcmp, 1) := by decide +kernel
theorem d3_3 : decode prog_23_method_7_code 3 = .ok (.ifCond .ge 17, 3) := by decide +kernel
theorem d3_20 : decode prog_23_method_7_code 20 = .ok (.aload_n 0, 1) := by decide +kernel
theorem d3_21 : decode prog_23_method_7_code 21 = .ok (.bipush 10, 2) := by decide +kernel
theorem d3_23 : decode prog_23_method_7_code 23 = .ok (.invokevirtual 29, 3) := by decide +kernel
theorem d3_26 : decode prog_23_method_7_code 26 = .ok (.lload_n 1, 1) := by decide +kernel
theorem d3_27 : decode prog_23_method_7_code 27 = .ok (.lstore_n 3, 1) := by decide +kernel
theorem d3_28 : decode prog_23_method_7_code 28 = .ok (.lload_n 3, 1) := by decide +kernel
theorem d3_29 : decode prog_23_method_7_code 29 = .ok (.ldc2_w 33, 3) := by decide +kernel
theorem d3_32 : decode prog_23_method_7_code 32 = .ok (.lcmp, 1) := by decide +kernel
theorem d3_33 : decode prog_23_method_7_code 33 = .ok (.ifCond .lt 34, 3) := by decide +kernel
theorem d3_36 : decode prog_23_method_7_code 36 = .ok (.aload_n 0, 1) := by decide +kernel
theorem d3_37 : decode prog_23_method_7_code 37 = .ok (.getfield 7, 3) := by decide +kernel
theorem d3_40 : decode prog_23_method_7_code 40 = .ok (.aload_n 0, 1) := by decide +kernel
theorem d3_41 : decode prog_23_method_7_code 41 = .ok (.dup, 1) := by decide +kernel
theorem d3_42 : decode prog_23_method_7_code 42 = .ok (.getfield 13, 3) := by decide +kernel
theorem d3_45 : decode prog_23_method_7_code 45 = .ok (.dup_x1, 1) := by decide +kernel
theorem d3_46 : decode prog_23_method_7_code 46 = .ok (.iconst 1, 1) := by decide +kernel
theorem d3_47 : decode prog_23_method_7_code 47 = .ok (.iadd, 1) := by decide +kernel
theorem d3_48 : decode prog_23_method_7_code 48 = .ok (.putfield 13, 3) := by decide +kernel
theorem d3_51 : decode prog_23_method_7_code 51 = .ok (.lload_n 3, 1) := by decide +kernel
theorem d3_52 : decode prog_23_method_7_code 52 = .ok (.ldc2_w 33, 3) := by decide +kernel
theorem d3_55 : decode prog_23_method_7_code 55 = .ok (.lor, 1) := by decide +kernel
theorem d3_56 : decode prog_23_method_7_code 56 = .ok (.l2i, 1) := by decide +kernel
theorem d3_57 : decode prog_23_method_7_code 57 = .ok (.i2b, 1) := by decide +kernel
theorem d3_58 : decode prog_23_method_7_code 58 = .ok (.bastore, 1) := by decide +kernel
theorem d3_59 : decode prog_23_method_7_code 59 = .ok (.lload_n 3, 1) := by decide +kernel
theorem d3_60 : decode prog_23_method_7_code 60 = .ok (.bipush 7, 2) := by decide +kernel
theorem d3_62 : decode prog_23_method_7_code 62 = .ok (.lushr, 1) := by decide +kernel
theorem d3_63 : decode prog_23_method_7_code 63 = .ok (.lstore_n 3, 1) := by decide +kernel
theorem d3_64 : decode prog_23_method_7_code 64 = .ok (.goto (-36), 3) := by decide +kernel
theorem d3_67 : decode prog_23_method_7_code 67 = .ok (.aload_n 0, 1) := by decide +kernel
theorem d3_68 : decode prog_23_method_7_code 68 = .ok (.getfield 7, 3) := by decide +kernel
theorem d3_71 : decode prog_23_method_7_code 71 = .ok (.aload_n 0, 1) := by decide +kernel
theorem d3_72 : decode prog_23_method_7_code 72 = .ok (.dup, 1) := by decide +kernel
theorem d3_73 : decode prog_23_method_7_code 73 = .ok (.getfield 13, 3) := by decide +kernel
theorem d3_76 : decode prog_23_method_7_code 76 = .ok (.dup_x1, 1) := by decide +kernel
theorem d3_77 : decode prog_23_method_7_code 77 = .ok (.iconst 1, 1) := by decide +kernel
theorem d3_78 : decode prog_23_method_7_code 78 = .ok (.iadd, 1) := by decide +kernel
theorem d3_79 : decode prog_23_method_7_code 79 = .ok (.putfield 13, 3) := by decide +kernel
theorem d3_82 : decode prog_23_method_7_code 82 = .ok (.lload_n 3, 1) := by decide +kernel
theorem d3_83 : decode prog_23_method_7_code 83 = .ok (.l2i, 1) := by decide +kernel
theorem d3_84 : decode prog_23_method_7_code 84 = .ok (.i2b, 1) := by decide +kernel
theorem d3_85 : decode prog_23_method_7_code 85 = .ok (.bastore, 1) := by decide +kernel
theorem d3_86 : decode prog_23_method_7_code 86 = .ok (.return_, 1) := by decide +kernel
theorem pd_3 : parseMethodDescriptor "(J)V" = some ⟨[.long], none⟩ := by decide +kernel
abbrev Y4 : MethodName := ⟨"com/example/vestledger/vestledger/census/RowBytes", "makeRoom", "(I)V"⟩
theorem d4_0 : decode prog_23_method_17_code 0 = .ok (.aload_n 0, 1) := by decide +kernel
theorem d4_1 : decode prog_23_method_17_code 1 = .ok (.getfield 13, 3) := by decide +kernel
theorem d4_4 : decode prog_23_method_17_code 4 = .ok (.iload_n 1, 1) := by decide +kernel
theorem d4_5 : decode prog_23_method_17_code 5 = .ok (.iadd, 1) := by decide +kernel
theorem d4_6 : decode prog_23_method_17_code 6 = .ok (.istore_n 2, 1) := by decide +kernel
theorem d4_7 : decode prog_23_method_17_code 7 = .ok (.iload_n 2, 1) := by decide +kernel
theorem d4_8 : decode prog_23_method_17_code 8 = .ok (.aload_n 0, 1) := by decide +kernel
theorem d4_9 : decode prog_23_method_17_code 9 = .ok (.getfield 7, 3) := by decide +kernel
theorem d4_12 : decode prog_23_method_17_code 12 = .ok (.arraylength, 1) := by decide +kernel
theorem d4_13 : decode prog_23_method_17_code 13 = .ok (.if_icmp .le 32, 3) := by decide +kernel
theorem d4_16 : decode prog_23_method_17_code 16 = .ok (.bipush 32, 2) := by decide +kernel
theorem d4_18 : decode prog_23_method_17_code 18 = .ok (.aload_n 0, 1) := by decide +kernel
theorem d4_19 : decode prog_23_method_17_code 19 = .ok (.getfield 7, 3) := by decide +kernel
theorem d4_22 : decode prog_23_method_17_code 22 = .ok (.arraylength, 1) := by decide +kernel
theorem d4_23 : decode prog_23_method_17_code 23 = .ok (.iconst 2, 1) := by decide +kernel
theorem d4_24 : decode prog_23_method_17_code 24 = .ok (.imul, 1) := by decide +kernel
theorem d4_25 : decode prog_23_method_17_code 25 = .ok (.invokestatic 70, 3) := by decide +kernel
theorem d4_28 : decode prog_23_method_17_code 28 = .ok (.istore_n 3, 1) := by decide +kernel
theorem d4_29 : decode prog_23_method_17_code 29 = .ok (.aload_n 0, 1) := by decide +kernel
theorem d4_30 : decode prog_23_method_17_code 30 = .ok (.aload_n 0, 1) := by decide +kernel
theorem d4_31 : decode prog_23_method_17_code 31 = .ok (.getfield 7, 3) := by decide +kernel
theorem d4_34 : decode prog_23_method_17_code 34 = .ok (.iload_n 2, 1) := by decide +kernel
theorem d4_35 : decode prog_23_method_17_code 35 = .ok (.iload_n 3, 1) := by decide +kernel
theorem d4_36 : decode prog_23_method_17_code 36 = .ok (.invokestatic 70, 3) := by decide +kernel
theorem d4_39 : decode prog_23_method_17_code 39 = .ok (.invokestatic 76, 3) := by decide +kernel
theorem d4_42 : decode prog_23_method_17_code 42 = .ok (.putfield 7, 3) := by decide +kernel
theorem d4_45 : decode prog_23_method_17_code 45 = .ok (.return_, 1) := by decide +kernel
theorem pd_4 : parseMethodDescriptor "(I)V" = some ⟨[.int], none⟩ := by decide +kernel
abbrev Y5 : MethodName := ⟨"java/lang/Math", "max", "(II)I"⟩
theorem d5_0 : decode jdk_29_method_65_code 0 = .ok (.iload_n 0, 1) := by decide +kernel
theorem d5_1 : decode jdk_29_method_65_code 1 = .ok (.iload_n 1, 1) := by decide +kernel
theorem d5_2 : decode jdk_29_method_65_code 2 = .ok (.if_icmp .lt 7, 3) := by decide +kernel
theorem d5_5 : decode jdk_29_method_65_code 5 = .ok (.iload_n 0, 1) := by decide +kernel
theorem d5_6 : decode jdk_29_method_65_code 6 = .ok (.goto 4, 3) := by decide +kernel
theorem d5_9 : decode jdk_29_method_65_code 9 = .ok (.iload_n 1, 1) := by decide +kernel
theorem d5_10 : decode jdk_29_method_65_code 10 = .ok (.ireturn, 1) := by decide +kernel
theorem pd_5 : parseMethodDescriptor "(II)I" = some ⟨[.int, .int], some .int⟩ := by decide +kernel
abbrev Y6 : MethodName := ⟨"java/util/Arrays", "copyOf", "([BI)[B"⟩
theorem d6_0 : decode jdk_65_method_121_code 0 = .ok (.iload_n 1, 1) := by decide +kernel
theorem d6_1 : decode jdk_65_method_121_code 1 = .ok (.aload_n 0, 1) := by decide +kernel
theorem d6_2 : decode jdk_65_method_121_code 2 = .ok (.arraylength, 1) := by decide +kernel
theorem d6_3 : decode jdk_65_method_121_code 3 = .ok (.if_icmp .ne 11, 3) := by decide +kernel
theorem d6_14 : decode jdk_65_method_121_code 14 = .ok (.iload_n 1, 1) := by decide +kernel
theorem d6_15 : decode jdk_65_method_121_code 15 = .ok (.newarray .byte, 2) := by decide +kernel
theorem d6_17 : decode jdk_65_method_121_code 17 = .ok (.astore_n 2, 1) := by decide +kernel
theorem d6_18 : decode jdk_65_method_121_code 18 = .ok (.aload_n 0, 1) := by decide +kernel
theorem d6_19 : decode jdk_65_method_121_code 19 = .ok (.iconst 0, 1) := by decide +kernel
theorem d6_20 : decode jdk_65_method_121_code 20 = .ok (.aload_n 2, 1) := by decide +kernel
theorem d6_21 : decode jdk_65_method_121_code 21 = .ok (.iconst 0, 1) := by decide +kernel
theorem d6_22 : decode jdk_65_method_121_code 22 = .ok (.aload_n 0, 1) := by decide +kernel
theorem d6_23 : decode jdk_65_method_121_code 23 = .ok (.arraylength, 1) := by decide +kernel
theorem d6_24 : decode jdk_65_method_121_code 24 = .ok (.iload_n 1, 1) := by decide +kernel
theorem d6_25 : decode jdk_65_method_121_code 25 = .ok (.invokestatic 304, 3) := by decide +kernel
theorem d6_28 : decode jdk_65_method_121_code 28 = .ok (.invokestatic 150, 3) := by decide +kernel
theorem d6_31 : decode jdk_65_method_121_code 31 = .ok (.aload_n 2, 1) := by decide +kernel
theorem d6_32 : decode jdk_65_method_121_code 32 = .ok (.areturn, 1) := by decide +kernel
theorem pd_6 : parseMethodDescriptor "([BI)[B" = some ⟨[(.array .byte), .int], some (.array .byte)⟩ := by decide +kernel
abbrev Y7 : MethodName := ⟨"java/lang/Math", "min", "(II)I"⟩
theorem d7_0 : decode jdk_29_method_69_code 0 = .ok (.iload_n 0, 1) := by decide +kernel
theorem d7_1 : decode jdk_29_method_69_code 1 = .ok (.iload_n 1, 1) := by decide +kernel
theorem d7_2 : decode jdk_29_method_69_code 2 = .ok (.if_icmp .gt 7, 3) := by decide +kernel
theorem d7_5 : decode jdk_29_method_69_code 5 = .ok (.iload_n 0, 1) := by decide +kernel
theorem d7_6 : decode jdk_29_method_69_code 6 = .ok (.goto 4, 3) := by decide +kernel
theorem d7_9 : decode jdk_29_method_69_code 9 = .ok (.iload_n 1, 1) := by decide +kernel
theorem d7_10 : decode jdk_29_method_69_code 10 = .ok (.ireturn, 1) := by decide +kernel
theorem pd_7 : parseMethodDescriptor "(II)I" = some ⟨[.int, .int], some .int⟩ := by decide +kernel
abbrev Y8 : MethodName := ⟨"com/example/vestledger/vestledger/census/RowBytes", "writeByte", "(B)V"⟩
theorem d8_0 : decode prog_23_method_10_code 0 = .ok (.aload_n 0, 1) := by decide +kernel
theorem d8_1 : decode prog_23_method_10_code 1 = .ok (.iconst 1, 1) := by decide +kernel
theorem d8_2 : decode prog_23_method_10_code 2 = .ok (.invokevirtual 29, 3) := by decide +kernel
theorem d8_5 : decode prog_23_method_10_code 5 = .ok (.aload_n 0, 1) := by decide +kernel
theorem d8_6 : decode prog_23_method_10_code 6 = .ok (.getfield 7, 3) := by decide +kernel
theorem d8_9 : decode prog_23_method_10_code 9 = .ok (.aload_n 0, 1) := by decide +kernel
theorem d8_10 : decode prog_23_method_10_code 10 = .ok (.dup, 1) := by decide +kernel
theorem d8_11 : decode prog_23_method_10_code 11 = .ok (.getfield 13, 3) := by decide +kernel
theorem d8_14 : decode prog_23_method_10_code 14 = .ok (.dup_x1, 1) := by decide +kernel
theorem d8_15 : decode prog_23_method_10_code 15 = .ok (.iconst 1, 1) := by decide +kernel
theorem d8_16 : decode prog_23_method_10_code 16 = .ok (.iadd, 1) := by decide +kernel
theorem d8_17 : decode prog_23_method_10_code 17 = .ok (.putfield 13, 3) := by decide +kernel
theorem d8_20 : decode prog_23_method_10_code 20 = .ok (.iload_n 1, 1) := by decide +kernel
theorem d8_21 : decode prog_23_method_10_code 21 = .ok (.bastore, 1) := by decide +kernel
theorem d8_22 : decode prog_23_method_10_code 22 = .ok (.return_, 1) := by decide +kernel
theorem pd_8 : parseMethodDescriptor "(B)V" = some ⟨[.byte], none⟩ := by decide +kernel
abbrev Y9 : MethodName := ⟨"com/example/vestledger/vestledger/census/RowBytes", "readNumber", "()J"⟩
theorem d9_0 : decode prog_23_method_13_code 0 = .ok (.lconst 0, 1) := by decide +kernel
theorem d9_1 : decode prog_23_method_13_code 1 = .ok (.lstore_n 1, 1) := by decide +kernel
theorem d9_2 : decode prog_23_method_13_code 2 = .ok (.iconst 0, 1) := by decide +kernel
theorem d9_3 : decode prog_23_method_13_code 3 = .ok (.istore_n 3, 1) := by decide +kernel
theorem d9_4 : decode prog_23_method_13_code 4 = .ok (.aload_n 0, 1) := by decide +kernel
theorem d9_5 : decode prog_23_method_13_code 5 = .ok (.getfield 7, 3) := by decide +kernel
theorem d9_8 : decode prog_23_method_13_code 8 = .ok (.aload_n 0, 1) := by decide +kernel
theorem d9_9 : decode prog_23_method_13_code 9 = .ok (.dup, 1) := by decide +kernel
theorem d9_10 : decode prog_23_method_13_code 10 = .ok (.getfield 17, 3) := by decide +kernel
theorem d9_13 : decode prog_23_method_13_code 13 = .ok (.dup_x1, 1) := by decide +kernel
theorem d9_14 : decode prog_23_method_13_code 14 = .ok (.iconst 1, 1) := by decide +kernel
theorem d9_15 : decode prog_23_method_13_code 15 = .ok (.iadd, 1) := by decide +kernel
theorem d9_16 : decode prog_23_method_13_code 16 = .ok (.putfield 17, 3) := by decide +kernel
theorem d9_19 : decode prog_23_method_13_code 19 = .ok (.baload, 1) := by decide +kernel
theorem d9_20 : decode prog_23_method_13_code 20 = .ok (.istore 4, 2) := by decide +kernel
theorem d9_22 : decode prog_23_method_13_code 22 = .ok (.lload_n 1, 1) := by decide +kernel
theorem d9_23 : decode prog_23_method_13_code 23 = .ok (.iload 4, 2) := by decide +kernel
theorem d9_25 : decode prog_23_method_13_code 25 = .ok (.bipush 127, 2) := by decide +kernel
theorem d9_27 : decode prog_23_method_13_code 27 = .ok (.iand, 1) := by decide +kernel
theorem d9_28 : decode prog_23_method_13_code 28 = .ok (.i2l, 1) := by decide +kernel
theorem d9_29 : decode prog_23_method_13_code 29 = .ok (.iload_n 3, 1) := by decide +kernel
theorem d9_30 : decode prog_23_method_13_code 30 = .ok (.lshl, 1) := by decide +kernel
theorem d9_31 : decode prog_23_method_13_code 31 = .ok (.lor, 1) := by decide +kernel
theorem d9_32 : decode prog_23_method_13_code 32 = .ok (.lstore_n 1, 1) := by decide +kernel
theorem d9_33 : decode prog_23_method_13_code 33 = .ok (.iinc 3 7, 3) := by decide +kernel
theorem d9_36 : decode prog_23_method_13_code 36 = .ok (.iload 4, 2) := by decide +kernel
theorem d9_38 : decode prog_23_method_13_code 38 = .ok (.ifCond .lt (-34), 3) := by decide +kernel
theorem d9_41 : decode prog_23_method_13_code 41 = .ok (.lload_n 1, 1) := by decide +kernel
theorem d9_42 : decode prog_23_method_13_code 42 = .ok (.lreturn, 1) := by decide +kernel
theorem pd_9 : parseMethodDescriptor "()J" = some ⟨[], some .long⟩ := by decide +kernel
abbrev Y10 : MethodName := ⟨"com/example/vestledger/vestledger/census/RowBytes", "hasMore", "()Z"⟩
theorem d10_0 : decode prog_23_method_5_code 0 = .ok (.aload_n 0, 1) := by decide +kernel
theorem d10_1 : decode prog_23_method_5_code 1 = .ok (.getfield 17, 3) := by decide +kernel
theorem d10_4 : decode prog_23_method_5_code 4 = .ok (.aload_n 0, 1) := by decide +kernel
theorem d10_5 : decode prog_23_method_5_code 5 = .ok (.getfield 13, 3) := by decide +kernel
theorem d10_8 : decode prog_23_method_5_code 8 = .ok (.if_icmp .ge 7, 3) := by decide +kernel
theorem d10_11 : decode prog_23_method_5_code 11 = .ok (.iconst 1, 1) := by decide +kernel
theorem d10_12 : decode prog_23_method_5_code 12 = .ok (.goto 4, 3) := by decide +kernel
theorem d10_15 : decode prog_23_method_5_code 15 = .ok (.iconst 0, 1) := by decide +kernel
theorem d10_16 : decode prog_23_method_5_code 16 = .ok (.ireturn, 1) := by decide +kernel
theorem pd_10 : parseMethodDescriptor "()Z" = some ⟨[], some .boolean⟩ := by decide +kernel
theorem pl_0 : plainFor Y0 = true := plainFor_of_name (show plainName "com/example/vestledger/vestledger/census/RowBytesReadNumberPinLaw" = true by first | (simp [plainName, overriddenIn]; done) | decide +kernel)
theorem pl_1 : plainFor Y1 = true := plainFor_of_name (show plainName "com/example/vestledger/vestledger/census/RowBytes" = true by first | (simp [plainName, overriddenIn]; done) | decide +kernel)
theorem pl_3 : plainFor Y3 = true := plainFor_of_name (show plainName "com/example/vestledger/vestledger/census/RowBytes" = true by first | (simp [plainName, overriddenIn]; done) | decide +kernel)
theorem pl_4 : plainFor Y4 = true := plainFor_of_name (show plainName "com/example/vestledger/vestledger/census/RowBytes" = true by first | (simp [plainName, overriddenIn]; done) | decide +kernel)
theorem pl_5 : plainFor Y5 = true := Jvm.Free.JP.mathPlain rfl (by decide +kernel)
theorem pl_6 : plainFor Y6 = true := plainFor_of_name (show plainName "java/util/Arrays" = true by first | (simp [plainName, overriddenIn]; done) | decide +kernel)
theorem pl_7 : plainFor Y7 = true := Jvm.Free.JP.mathPlain rfl (by decide +kernel)
theorem pl_8 : plainFor Y8 = true := plainFor_of_name (show plainName "com/example/vestledger/vestledger/census/RowBytes" = true by first | (simp [plainName, overriddenIn]; done) | decide +kernel)
theorem pl_9 : plainFor Y9 = true := plainFor_of_name (show plainName "com/example/vestledger/vestledger/census/RowBytes" = true by first | (simp [plainName, overriddenIn]; done) | decide +kernel)
theorem pl_10 : plainFor Y10 = true := plainFor_of_name (show plainName "com/example/vestledger/vestledger/census/RowBytes" = true by first | (simp [plainName, overriddenIn]; done) | decide +kernel)
theorem ic_0 : Int32.ofInt (0) = (0 : Int32) := rfl
theorem ic_1 : Int32.ofInt (1) = (1 : Int32) := rfl
theorem ic_2 : Int32.ofInt (2) = (2 : Int32) := rfl
theorem bi_7 : (Int8.ofInt (7)).toInt32 = (7 : Int32) := by decide
theorem bi_8 : (Int8.ofInt (8)).toInt32 = (8 : Int32) := by decide
theorem bi_10 : (Int8.ofInt (10)).toInt32 = (10 : Int32) := by decide
theorem bi_32 : (Int8.ofInt (32)).toInt32 = (32 : Int32) := by decide
theorem bi_127 : (Int8.ofInt (127)).toInt32 = (127 : Int32) := by decide
/-- Object.<init>, called from a constructor -/
theorem goInitO {w : W} {l : Launch} {R : Room} {Z : State} {n0 : Nat} {y : MethodName} {code : ByteArray} {ml : Nat} {ret : Option FieldType} {pc : Nat} {Ls : List Slot} {st : List Value} {h : Heap} {cells slots : Nat} {a : Addr} {idx : Nat} {a0 : Array Value} (r : Go w l R Z n0 y code ml ret pc Ls (.ref a :: st) h cells slots) (pc' : Nat) (hd : decode code pc = .ok (.invokespecial idx, 3)) (hp : pc + 3 = pc') (w1 : (Jvm.Cond.methodLink y.cls idx Lib.objectInit).before a0 Z = true) (w2 : (Jvm.Cond.instanceMethod Lib.objectInit).before a0 Z = true) (w3 : (Jvm.Cond.code Lib.objectInit object_method_1_code 1 none).before a0 Z = true) (hLs : Ls.length = ml) (hf : 1 ≤ R.frames) (hl : wt st + 12 ≤ R.locals) : Go w l R Z n0 y code ml ret pc' Ls st h cells slots := by
  subst hp
  obtain ⟨S, T, locs, X, e, N, k⟩ := r
  obtain ⟨T', X', e', q⟩ := Jvm.RoadKit.initO X S.1 S.2.1 S.2.2.1 w1 w2 w3 e (g := mkF w.m pc Ls.toArray (.ref a :: st)) rfl (by rw [S.2.2.2.2.1]; simpa using hLs) rfl (hb S.2.2.2.1 hd) hf (W := wt st) (by show 2 * 0 + _ ≤ _; simp [wt]) hl
  exact ⟨S, T', locs, X', e', N, fun t z => k t (q t z)⟩
theorem sn_bytes_length {Z : State} {a0 : Array Value} (hw : Ws Z a0) : Jvm.RoadKit.slotOf Z "com/example/vestledger/vestledger/census/RowBytes" "bytes" "[B" ≠ Jvm.RoadKit.slotOf Z "com/example/vestledger/vestledger/census/RowBytes" "length" "I" := slot_ne (C := "com/example/vestledger/vestledger/census/RowBytes") (Or.inl (wd_12 hw)) (Or.inl (wd_23 hw)) (by decide) (t := (.array .byte)) (t' := .int) (by decide) (by decide)
theorem sn_bytes_position {Z : State} {a0 : Array Value} (hw : Ws Z a0) : Jvm.RoadKit.slotOf Z "com/example/vestledger/vestledger/census/RowBytes" "bytes" "[B" ≠ Jvm.RoadKit.slotOf Z "com/example/vestledger/vestledger/census/RowBytes" "position" "I" := slot_ne (C := "com/example/vestledger/vestledger/census/RowBytes") (Or.inl (wd_12 hw)) (Or.inl (wd_51 hw)) (by decide) (t := (.array .byte)) (t' := .int) (by decide) (by decide)
theorem sn_length_bytes {Z : State} {a0 : Array Value} (hw : Ws Z a0) : Jvm.RoadKit.slotOf Z "com/example/vestledger/vestledger/census/RowBytes" "length" "I" ≠ Jvm.RoadKit.slotOf Z "com/example/vestledger/vestledger/census/RowBytes" "bytes" "[B" := slot_ne (C := "com/example/vestledger/vestledger/census/RowBytes") (Or.inl (wd_23 hw)) (Or.inl (wd_12 hw)) (by decide) (t := .int) (t' := (.array .byte)) (by decide) (by decide)
theorem sn_length_position {Z : State} {a0 : Array Value} (hw : Ws Z a0) : Jvm.RoadKit.slotOf Z "com/example/vestledger/vestledger/census/RowBytes" "length" "I" ≠ Jvm.RoadKit.slotOf Z "com/example/vestledger/vestledger/census/RowBytes" "position" "I" := slot_ne (C := "com/example/vestledger/vestledger/census/RowBytes") (Or.inl (wd_23 hw)) (Or.inl (wd_51 hw)) (by decide) (t := .int) (t' := .int) (by decide) (by decide)
theorem sn_position_bytes {Z : State} {a0 : Array Value} (hw : Ws Z a0) : Jvm.RoadKit.slotOf Z "com/example/vestledger/vestledger/census/RowBytes" "position" "I" ≠ Jvm.RoadKit.slotOf Z "com/example/vestledger/vestledger/census/RowBytes" "bytes" "[B" := slot_ne (C := "com/example/vestledger/vestledger/census/RowBytes") (Or.inl (wd_51 hw)) (Or.inl (wd_12 hw)) (by decide) (t := .int) (t' := (.array .byte)) (by decide) (by decide)
theorem sn_position_length {Z : State} {a0 : Array Value} (hw : Ws Z a0) : Jvm.RoadKit.slotOf Z "com/example/vestledger/vestledger/census/RowBytes" "position" "I" ≠ Jvm.RoadKit.slotOf Z "com/example/vestledger/vestledger/census/RowBytes" "length" "I" := slot_ne (C := "com/example/vestledger/vestledger/census/RowBytes") (Or.inl (wd_51 hw)) (Or.inl (wd_23 hw)) (by decide) (t := .int) (t' := .int) (by decide) (by decide)

abbrev CL : String := "com/example/vestledger/vestledger/census/RowBytes"
def RB (n0 : Nat) (Z : State) (h : Heap) (r a : Addr) (n p : Nat) (vs : List Value) : Prop := Exa Z h r "com/example/vestledger/vestledger/census/RowBytes" ∧ Fld Z h r "com/example/vestledger/vestledger/census/RowBytes" "bytes" "[B" (.ref a) ∧ Fld Z h r "com/example/vestledger/vestledger/census/RowBytes" "length" "I" (.int (Int32.ofNat n)) ∧ Fld Z h r "com/example/vestledger/vestledger/census/RowBytes" "position" "I" (.int (Int32.ofNat p)) ∧ Ary Z h a .byte vs ∧ r ≠ a ∧ n0 ≤ r ∧ n0 ≤ a
def grow (vs : List Value) : List Value := if vs.length = 0 then List.replicate 32 (.int 0) else vs
theorem RB.len {n0 : Nat} {Z : State} {a0 : Array Value} (hw : Ws Z a0) {h h' : Heap} {r a : Addr} {n p m : Nat} {vs : List Value} (B : RB n0 Z h r a n p vs) (W : Wr h h' r (Jvm.RoadKit.slotOf Z "com/example/vestledger/vestledger/census/RowBytes" "length" "I") (.int (Int32.ofNat m))) : RB n0 Z h' r a m p vs := by
  obtain ⟨E, F1, F2, F3, A, ne, g1, g2⟩ := B
  exact ⟨E.wr W, F1.other W (Or.inr (sn_bytes_length hw)), F2.same W, F3.other W (Or.inr (sn_position_length hw)), A.other W (Ne.symm ne), ne, g1, g2⟩
theorem RB.pos {n0 : Nat} {Z : State} {a0 : Array Value} (hw : Ws Z a0) {h h' : Heap} {r a : Addr} {n p m : Nat} {vs : List Value} (B : RB n0 Z h r a n p vs) (W : Wr h h' r (Jvm.RoadKit.slotOf Z "com/example/vestledger/vestledger/census/RowBytes" "position" "I") (.int (Int32.ofNat m))) : RB n0 Z h' r a n m vs := by
  obtain ⟨E, F1, F2, F3, A, ne, g1, g2⟩ := B
  exact ⟨E.wr W, F1.other W (Or.inr (sn_bytes_position hw)), F2.other W (Or.inr (sn_length_position hw)), F3.same W, A.other W (Ne.symm ne), ne, g1, g2⟩
theorem RB.arr {n0 : Nat} {Z : State} {h h' : Heap} {r a : Addr} {n p j : Nat} {v : Value} {vs vs' : List Value} (B : RB n0 Z h r a n p vs) (W : Wr h h' a j v) (A' : Ary Z h' a .byte vs') : RB n0 Z h' r a n p vs' := by
  obtain ⟨E, F1, F2, F3, A, ne, g1, g2⟩ := B
  exact ⟨E.wr W, F1.other W (Or.inl ne), F2.other W (Or.inl ne), F3.other W (Or.inl ne), A', ne, g1, g2⟩
theorem grow_len (vs : List Value) (h : vs.length = 0 ∨ 32 ≤ vs.length) : 32 ≤ (grow vs).length := by
  unfold grow; split
  · simp
  · omega
theorem byte_twice (v : Int32) : v.toInt8.toInt32.toInt8.toInt32 = v.toInt8.toInt32 := by rw [Int8.toInt8_toInt32]

set_option maxRecDepth 65536 in
set_option maxHeartbeats 40000000 in
theorem init_met {l : Launch} {Z : State} {a0 : Array Value} (hw : Ws Z a0) (r0 : Addr) (h0 : Heap) (n0 : Nat) (g : n0 ≤ r0) (Z0 : n0 ≤ h0.size) (E : Exa Z h0 r0 "com/example/vestledger/vestledger/census/RowBytes") (F1 : Fld Z h0 r0 "com/example/vestledger/vestledger/census/RowBytes" "bytes" "[B" .null) (F2 : Fld Z h0 r0 "com/example/vestledger/vestledger/census/RowBytes" "length" "I" (.int 0)) (F3 : Fld Z h0 r0 "com/example/vestledger/vestledger/census/RowBytes" "position" "I" (.int 0)) : Met l Z Y1 prog_23_method_1_code 1 none ({ frames := 1, cells := 1, slots := 0, locals := 20 } : Room) [.ref r0] h0 n0 (Ret0 fun h => ∃ a, RB n0 Z h r0 a 0 0 []) := by
  refine Met.intro (Ls := [.val (.ref r0)]) pl_1 (fun m => by simp [entryFrame, mkF, argsToLocals, Value.category, maxLocals]) fun w r => ?_
  replace r := r.ald0 1 d1_0 rfl
  replace r := goInitO r 4 d1_1 rfl (wd_7 hw) (wd_8 hw) (wd_9 hw) rfl (Nat.le_of_ble_eq_true rfl) (Nat.le_of_ble_eq_true rfl)
  replace r := r.ald0 5 d1_4 rfl
  replace r := r.iconstV 6 d1_5 rfl (0 : Int32) ic_0
  obtain ⟨h1, a, z1, X1, A, r⟩ := r.newA (vs := []) 8 d1_6 rfl (wd_10 hw) (by decide) rfl 0 (by decide) (by decide) (by decide) (by decide)
  have ne : r0 ≠ a := by rw [z1]; exact Nat.ne_of_lt E.lt
  have ga : n0 ≤ a := by rw [z1]; exact Z0
  obtain ⟨h2, W2, r⟩ := r.putF 11 d1_8 rfl (wd_11 hw) (Or.inl (wd_12 hw)) (wd_2 hw) (E.ext X1) (F1.ext X1) (ty := (.array .byte)) (by decide) rfl rfl g
  exact r.retV d1_11 ⟨a, (E.ext X1).wr W2, (F1.ext X1).same W2, (F2.ext X1).other W2 (Or.inr (sn_length_bytes hw)), (F3.ext X1).other W2 (Or.inr (sn_position_bytes hw)), A.other W2 (Ne.symm ne), ne, g, ga⟩ (by decide) (by decide)
set_option maxRecDepth 65536 in
set_option maxHeartbeats 40000000 in
theorem max_met {l : Launch} {Z : State} {a0 : Array Value} (hw : Ws Z a0) (u v : Int32) (h0 : Heap) (n0 : Nat) : Met l Z Y5 jdk_29_method_65_code 2 (some .int) ({ frames := 0, cells := 0, slots := 0, locals := 0 } : Room) [.int u, .int v] h0 n0 (Ret fun z h => z = .int (if u < v then v else u) ∧ h = h0) := by
  refine Met.intro (Ls := [.val (.int u), .val (.int v)]) pl_5 (fun m => by simp [entryFrame, mkF, argsToLocals, Value.category, maxLocals]) fun w r => ?_
  replace r := r.ild0 1 d5_0 rfl
  replace r := r.ild1 2 d5_1 rfl
  rcases r.ic_lt 9 5 d5_2 (by decide) rfl with ⟨hc, r⟩ | ⟨hc, r⟩
  · replace r := r.ild1 10 d5_9 rfl
    exact r.retI d5_10 ⟨by rw [if_pos hc], rfl⟩ (by decide) (by decide)
  · replace r := r.ild0 6 d5_5 rfl
    replace r := r.goto 10 d5_6 (by decide)
    exact r.retI d5_10 ⟨by rw [if_neg hc], rfl⟩ (by decide) (by decide)
set_option maxRecDepth 65536 in
set_option maxHeartbeats 40000000 in
theorem min_met {l : Launch} {Z : State} {a0 : Array Value} (hw : Ws Z a0) (u v : Int32) (h0 : Heap) (n0 : Nat) : Met l Z Y7 jdk_29_method_69_code 2 (some .int) ({ frames := 0, cells := 0, slots := 0, locals := 0 } : Room) [.int u, .int v] h0 n0 (Ret fun z h => z = .int (if v < u then v else u) ∧ h = h0) := by
  refine Met.intro (Ls := [.val (.int u), .val (.int v)]) pl_7 (fun m => by simp [entryFrame, mkF, argsToLocals, Value.category, maxLocals]) fun w r => ?_
  replace r := r.ild0 1 d7_0 rfl
  replace r := r.ild1 2 d7_1 rfl
  rcases r.ic_gt 9 5 d7_2 (by decide) rfl with ⟨hc, r⟩ | ⟨hc, r⟩
  · replace r := r.ild1 10 d7_9 rfl
    exact r.retI d7_10 ⟨by rw [if_pos hc], rfl⟩ (by decide) (by decide)
  · replace r := r.ild0 6 d7_5 rfl
    replace r := r.goto 10 d7_6 (by decide)
    exact r.retI d7_10 ⟨by rw [if_neg hc], rfl⟩ (by decide) (by decide)
set_option maxRecDepth 65536 in
set_option maxHeartbeats 40000000 in
theorem copy_met {l : Launch} {Z : State} {a0 : Array Value} (hw : Ws Z a0) (a : Addr) (h0 : Heap) (n0 : Nat) (Z0 : n0 ≤ h0.size) (A : Ary Z h0 a .byte []) : Met l Z Y6 jdk_65_method_121_code 3 (some (.array .byte)) ({ frames := 1, cells := 1, slots := 32, locals := 44 } : Room) [.ref a, .int 32] h0 n0 (Ret fun v h => ∃ b, v = .ref b ∧ h0.size ≤ b ∧ Keep h0 h [] ∧ Ary Z h b .byte (List.replicate 32 (.int 0))) := by
  refine Met.intro (Ls := [.val (.ref a), .val (.int 32), .unset]) pl_6 (fun m => by simp [entryFrame, mkF, argsToLocals, Value.category, maxLocals]) fun w r => ?_
  replace r := r.ild1 1 d6_0 rfl
  replace r := r.ald0 2 d6_1 rfl
  replace r := r.alen 3 d6_2 rfl A 0 rfl
  replace r := r.ic_neT 14 d6_3 (by decide) (by decide)
  replace r := r.ild1 15 d6_14 rfl
  obtain ⟨h1, b, z1, X1, B, r⟩ := r.newA (vs := List.replicate 32 (.int 0)) 17 d6_15 rfl (wd_10 hw) (by decide) rfl 32 (by decide) (by decide) (by decide) (by decide)
  have ab : a ≠ b := by rw [z1]; exact Nat.ne_of_lt A.lt
  replace r := r.ast2 18 d6_17 rfl (One.of rfl)
  replace r := r.ald0 19 d6_18 rfl
  replace r := r.iconstV 20 d6_19 rfl (0 : Int32) ic_0
  replace r := r.ald2 21 d6_20 rfl
  replace r := r.iconstV 22 d6_21 rfl (0 : Int32) ic_0
  replace r := r.ald0 23 d6_22 rfl
  replace r := r.alen 24 d6_23 rfl (A.ext X1) 0 rfl
  replace r := r.ild1 25 d6_24 rfl
  obtain ⟨_, _, ⟨_, rfl, rfl, rfl⟩, r'⟩ := r.callS (rest := [.int 0, .ref b, .int 0, .ref a]) 28 d6_25 rfl (min_met hw 0 32 _ n0) (wd_32 hw) (wd_33 hw) (wd_26 hw) (wd_34 hw) pd_7 rfl rfl rfl (by decide) (Nat.le_of_ble_eq_true rfl) (Nat.le_of_ble_eq_true rfl) (Nat.le_of_ble_eq_true rfl) (Nat.le_of_ble_eq_true rfl)
  clear r; have r := r'; clear r'
  change Go w l _ Z n0 _ _ _ _ _ _ [.int 0, .int 0, .ref b, .int 0, .ref a] _ _ _ at r
  obtain ⟨h2, K, B2, r⟩ := r.acopy 31 d6_28 rfl (wd_35 hw) (wd_38 hw) (wd_36 hw) (wd_37 hw) (A.ext X1) B rfl (by decide) (by decide) (by decide) (by rw [z1]; exact Z0) rfl (by decide) (by decide)
  change Ary Z h2 b .byte (List.replicate 32 (.int 0)) at B2
  replace r := r.ald2 32 d6_31 rfl
  exact r.retA d6_32 rfl rfl ⟨b, rfl, Nat.le_of_eq z1.symm, ((Keep.refl h0 []).ext X1).trans K (fun x hx => by cases List.mem_singleton.mp hx; exact Or.inr (Nat.le_of_eq z1.symm)), B2⟩ (by decide) (by decide)
set_option maxRecDepth 65536 in
set_option maxHeartbeats 40000000 in
theorem mr_met {l : Launch} {Z : State} {a0 : Array Value} (hw : Ws Z a0) (r0 a : Addr) (n p k : Nat) (vs : List Value) (h0 : Heap) (n0 : Nat) (B : RB n0 Z h0 r0 a n p vs) (hv : (vs.length = 0 ∧ 0 < n + k ∧ n + k ≤ 32) ∨ (0 < vs.length ∧ n + k ≤ vs.length)) : Met l Z Y4 prog_23_method_17_code 4 none ({ frames := 2, cells := 1, slots := 32, locals := 60 } : Room) [.ref r0, .int (Int32.ofNat k)] h0 n0 (Ret0 fun h => ∃ a', RB n0 Z h r0 a' n p (grow vs)) := by
  have Bk := B
  obtain ⟨E, F1, F2, F3, A, ne, g1, g2⟩ := B
  have la := A.len
  refine Met.intro (Ls := [.val (.ref r0), .val (.int (Int32.ofNat k)), .unset, .unset]) pl_4 (fun m => by simp [entryFrame, mkF, argsToLocals, Value.category, maxLocals]) fun w r => ?_
  replace r := r.ald0 1 d4_0 rfl
  replace r := r.getF 4 d4_1 rfl (wd_22 hw) F2
  replace r := r.ild1 5 d4_4 rfl
  replace r := r.iadd 6 d4_5 rfl
  rw [nadd] at r
  replace r := r.ist2 7 d4_6 rfl (One.of rfl)
  replace r := r.ild2 8 d4_7 rfl
  replace r := r.ald0 9 d4_8 rfl
  replace r := r.getF 12 d4_9 rfl (wd_11 hw) F1
  replace r := r.alen 13 d4_12 rfl A _ rfl
  rcases hv with ⟨v1, v2, v3⟩ | ⟨v1, v2⟩
  · obtain rfl : vs = [] := List.length_eq_zero_iff.mp v1
    replace r := r.ic_leF 16 d4_13 rfl ((nlt (a := 0) (by omega) (by omega)).mpr v2)
    replace r := r.bipushV 18 d4_16 rfl (32 : Int32) bi_32
    replace r := r.ald0 19 d4_18 rfl
    replace r := r.getF 22 d4_19 rfl (wd_11 hw) F1
    replace r := r.alen 23 d4_22 rfl A 0 rfl
    replace r := r.iconstV 24 d4_23 rfl (2 : Int32) ic_2
    replace r := r.imul 25 d4_24 rfl
    obtain ⟨_, _, ⟨_, rfl, rfl, rfl⟩, r'⟩ := r.callS (rest := []) 28 d4_25 rfl (max_met hw 32 (0 * 2) _ n0) (wd_24 hw) (wd_25 hw) (wd_26 hw) (wd_27 hw) pd_5 rfl rfl rfl (by decide) (Nat.le_of_ble_eq_true rfl) (Nat.le_of_ble_eq_true rfl) (Nat.le_of_ble_eq_true rfl) (Nat.le_of_ble_eq_true rfl)
    clear r; have r := r'; clear r'
    change Go w l _ Z n0 _ _ _ _ _ _ [.int 32] _ _ _ at r
    replace r := r.ist3 29 d4_28 rfl (One.of rfl)
    replace r := r.ald0 30 d4_29 rfl
    replace r := r.ald0 31 d4_30 rfl
    replace r := r.getF 34 d4_31 rfl (wd_11 hw) F1
    replace r := r.ild2 35 d4_34 rfl
    replace r := r.ild3 36 d4_35 rfl
    obtain ⟨_, _, ⟨_, rfl, rfl, rfl⟩, r'⟩ := r.callS (rest := [.ref a, .ref r0]) 39 d4_36 rfl (max_met hw (Int32.ofNat (n + k)) 32 _ n0) (wd_24 hw) (wd_25 hw) (wd_26 hw) (wd_27 hw) pd_5 rfl rfl rfl (by decide) (Nat.le_of_ble_eq_true rfl) (Nat.le_of_ble_eq_true rfl) (Nat.le_of_ble_eq_true rfl) (Nat.le_of_ble_eq_true rfl)
    clear r; have r := r'; clear r'
    have e32 : (if Int32.ofNat (n + k) < (32 : Int32) then (32 : Int32) else Int32.ofNat (n + k)) = 32 := by
      by_cases q : Int32.ofNat (n + k) < 32
      · rw [if_pos q]
      · rw [if_neg q, show (32 : Int32) = Int32.ofNat 32 from rfl, neqn (by omega) (by decide)]
        rw [show (32 : Int32) = Int32.ofNat 32 from rfl, nlt (by omega) (by decide)] at q; omega
    rw [e32] at r
    change Go w l _ Z n0 _ _ _ _ _ _ [.int 32, .ref a, .ref r0] _ _ _ at r
    obtain ⟨_, h2, ⟨_, rfl, b, rfl, hb, K, B2⟩, r'⟩ := r.callS (rest := [.ref r0]) 42 d4_39 rfl (copy_met hw a _ n0 (Nat.le_trans g1 (Nat.le_of_lt E.lt)) A) (wd_28 hw) (wd_29 hw) (wd_30 hw) (wd_31 hw) pd_6 rfl rfl rfl (by decide) (Nat.le_of_ble_eq_true rfl) (Nat.le_of_ble_eq_true rfl) (Nat.le_of_ble_eq_true rfl) (Nat.le_of_ble_eq_true rfl)
    clear r; have r := r'; clear r'
    change Go w l _ Z n0 _ _ _ _ _ _ [.ref b, .ref r0] _ _ _ at r
    have ne2 : r0 ≠ b := Nat.ne_of_lt (Nat.lt_of_lt_of_le E.lt hb)
    obtain ⟨h3, W3, r⟩ := r.putF 45 d4_42 rfl (wd_11 hw) (Or.inl (wd_12 hw)) (wd_2 hw) (E.keep K) (F1.keep K nin0) (ty := (.array .byte)) (by decide) rfl rfl g1
    exact r.retV d4_45 ⟨b, (E.keep K).wr W3, (F1.keep K nin0).same W3, (F2.keep K nin0).other W3 (Or.inr (sn_length_bytes hw)), (F3.keep K nin0).other W3 (Or.inr (sn_position_bytes hw)), B2.other W3 (Ne.symm ne2), ne2, g1, Nat.le_trans (Nat.le_trans g1 (Nat.le_of_lt E.lt)) hb⟩ (by decide) (by decide)
  · replace r := r.ic_leT 45 d4_13 (by decide) (fun q => by rw [nlt la (by omega)] at q; omega)
    exact r.retV d4_45 ⟨a, by rw [show grow vs = vs from if_neg (by omega)]; exact Bk⟩ (by decide) (by decide)
set_option maxRecDepth 65536 in
set_option maxHeartbeats 40000000 in
theorem wb_met {l : Launch} {Z : State} {a0 : Array Value} (hw : Ws Z a0) (r0 a : Addr) (n p : Nat) (v : Int32) (vs : List Value) (h0 : Heap) (n0 : Nat) (B : RB n0 Z h0 r0 a n p vs) (hv : (vs.length = 0 ∧ n + 1 ≤ 32) ∨ (0 < vs.length ∧ n + 1 ≤ vs.length)) : Met l Z Y8 prog_23_method_10_code 2 none ({ frames := 3, cells := 1, slots := 32, locals := 80 } : Room) [.ref r0, .int v] h0 n0 (Ret0 fun h => ∃ a', RB n0 Z h r0 a' (n + 1) p ((grow vs).set n (.int v.toInt8.toInt32))) := by
  have E := B.1
  refine Met.intro (Ls := [.val (.ref r0), .val (.int v)]) pl_8 (fun m => by simp [entryFrame, mkF, argsToLocals, Value.category, maxLocals]) fun w r => ?_
  replace r := r.ald0 1 d8_0 rfl
  replace r := r.iconstV 2 d8_1 rfl (1 : Int32) ic_1
  obtain ⟨_, h1, ⟨rfl, a1, B1⟩, r'⟩ := r.callP (as := [.int (Int32.ofNat 1)]) (rest := []) 5 d8_2 rfl (mr_met hw r0 a n p 1 vs _ n0 B (by omega)) E (wd_18 hw) (wd_19 hw) (wd_20 hw) (wd_3 hw) (wd_2 hw) (wd_21 hw) pd_4 rfl rfl rfl (by decide) (Nat.le_of_ble_eq_true rfl) (Nat.le_of_ble_eq_true rfl) (Nat.le_of_ble_eq_true rfl) (Nat.le_of_ble_eq_true rfl)
  clear r; have r := r'; clear r'
  change Go w l _ Z n0 _ _ _ _ _ _ [] _ _ _ at r
  have hg : n < (grow vs).length := by
    unfold grow; split
    · simp; omega
    · omega
  have lg := B1.2.2.2.2.1.len
  replace r := r.ald0 6 d8_5 rfl
  replace r := r.getF 9 d8_6 rfl (wd_11 hw) B1.2.1
  replace r := r.ald0 10 d8_9 rfl
  replace r := r.dup 11 d8_10 rfl rfl
  replace r := r.getF 14 d8_11 rfl (wd_22 hw) B1.2.2.1
  replace r := r.dupX1 15 d8_14 rfl rfl rfl
  replace r := r.iconstV 16 d8_15 rfl (1 : Int32) ic_1
  replace r := r.iadd 17 d8_16 rfl
  rw [nadd1] at r
  obtain ⟨h2, W2, r⟩ := r.putF 20 d8_17 rfl (wd_22 hw) (Or.inl (wd_23 hw)) (wd_2 hw) B1.1 B1.2.2.1 (ty := .int) (by decide) rfl rfl B1.2.2.2.2.2.2.1
  have B2 := B1.len hw W2
  replace r := r.ild1 21 d8_20 rfl
  have kk : (Int32.ofNat n).toNatClampNeg = n := len_nat (by omega)
  obtain ⟨h3, W3, A3, r⟩ := r.bast 22 d8_21 rfl B2.2.2.2.2.1 (len_nn (by omega)) (by rw [kk]; exact hg) B2.2.2.2.2.2.2.2
  rw [kk] at A3 W3
  exact r.retV d8_22 ⟨a1, B2.arr W3 A3⟩ (by decide) (by decide)
set_option maxRecDepth 65536 in
set_option maxHeartbeats 40000000 in
theorem hm_met {l : Launch} {Z : State} {a0 : Array Value} (hw : Ws Z a0) (r0 a : Addr) (n p : Nat) (vs : List Value) (h0 : Heap) (n0 : Nat) (B : RB n0 Z h0 r0 a n p vs) (hn : n < 2 ^ 31) (hp : p < 2 ^ 31) : Met l Z Y10 prog_23_method_5_code 1 (some .boolean) ({ frames := 0, cells := 0, slots := 0, locals := 0 } : Room) [.ref r0] h0 n0 (Ret fun z h => z = .int (if p < n then 1 else 0) ∧ h = h0) := by
  refine Met.intro (Ls := [.val (.ref r0)]) pl_10 (fun m => by simp [entryFrame, mkF, argsToLocals, Value.category, maxLocals]) fun w r => ?_
  replace r := r.ald0 1 d10_0 rfl
  replace r := r.getF 4 d10_1 rfl (wd_50 hw) B.2.2.2.1
  replace r := r.ald0 5 d10_4 rfl
  replace r := r.getF 8 d10_5 rfl (wd_22 hw) B.2.2.1
  rcases r.ic_ge 15 11 d10_8 (by decide) rfl with ⟨hc, r⟩ | ⟨hc, r⟩
  · rw [nlt hp hn] at hc
    replace r := r.iconstV 16 d10_15 rfl (0 : Int32) ic_0
    exact r.retN d10_16 (Or.inl rfl) (z' := 0) rfl ⟨by rw [if_neg hc], rfl⟩ (by decide) (by decide)
  · rw [nlt hp hn] at hc
    replace r := r.iconstV 12 d10_11 rfl (1 : Int32) ic_1
    replace r := r.goto 16 d10_12 (by decide)
    exact r.retN d10_16 (Or.inl rfl) (z' := 1) rfl ⟨by rw [if_pos hc], rfl⟩ (by decide) (by decide)

def bv (c : Nat) : Int32 := (Int32.ofNat c).toInt8.toInt32
def enc : Nat → Nat → List Nat
  | 0, u => [u]
  | k + 1, u => if u < 128 then [u] else (u % 128 + 128) :: enc k (u / 128)
def wf : List Nat → Prop
  | [] => False
  | c :: cs => (cs = [] ∧ c < 128) ∨ (128 ≤ c ∧ c < 256 ∧ wf cs)
def val : List Nat → Nat
  | [] => 0
  | c :: cs => c % 128 + 128 * val cs
theorem enc_ok (k : Nat) : ∀ u, u < 128 ^ (k + 1) → wf (enc k u) ∧ val (enc k u) = u ∧ 0 < (enc k u).length ∧ (enc k u).length ≤ k + 1 := by
  induction k with
  | zero =>
    intro u hu
    have hu : u < 128 := by simpa using hu
    refine ⟨Or.inl ⟨rfl, hu⟩, ?_, by simp [enc], by simp [enc]⟩
    simp only [enc, val]; omega
  | succ k ih =>
    intro u hu
    by_cases h : u < 128
    · have e : enc (k + 1) u = [u] := if_pos h
      rw [e]
      refine ⟨Or.inl ⟨rfl, h⟩, ?_, by simp, by simp⟩
      simp only [val]; omega
    · have e : enc (k + 1) u = (u % 128 + 128) :: enc k (u / 128) := if_neg h
      have hq : u / 128 < 128 ^ (k + 1) := by
        apply Nat.div_lt_of_lt_mul
        rw [Nat.pow_succ] at hu; rw [Nat.mul_comm]; exact hu
      obtain ⟨h1, h2, h3, h4⟩ := ih _ hq
      rw [e]
      refine ⟨Or.inr ⟨by omega, by omega, h1⟩, ?_, by simp, by simp; omega⟩
      simp only [val, h2]; omega
theorem l_nat {n : Nat} (h : n < 2 ^ 63) : (Int64.ofNat n).toInt = n := Int64.toInt_ofNat_of_lt h
theorem store_eq (m : Nat) (hm : m < 2 ^ 63) : (Int64.ofNat m).toInt32.toInt8.toInt32 = bv (m % 256) := by
  have h1 := c_l2i (Int64.ofNat m)
  have h2 := c_i2b (Int64.ofNat m).toInt32
  have h3 := c_i2b (Int32.ofNat (m % 256))
  have h4 : (Int32.ofNat (m % 256)).toInt = ((m % 256 : Nat) : Int) := Int32.toInt_ofNat_small (by omega)
  rw [l_nat hm] at h1
  rw [h4] at h3
  rw [← Int32.toInt_inj]
  show _ = (Int32.ofNat (m % 256)).toInt8.toInt32.toInt
  omega
theorem or_ofNat (a b : Nat) : Int64.ofNat a ||| Int64.ofNat b = Int64.ofNat (a ||| b) := by
  apply Int64.toBitVec_inj.mp
  rw [Int64.toBitVec_or]
  show BitVec.ofNat 64 a ||| BitVec.ofNat 64 b = BitVec.ofNat 64 (a ||| b)
  exact BitVec.ofNat_or.symm
theorem or128 : ∀ m, m < 256 → (m ||| 128) = m % 128 + 128 := by decide +kernel
theorem or_mod (u : Nat) : (u ||| 128) % 256 = u % 128 + 128 := by
  rw [show (256 : Nat) = 2 ^ 8 from rfl, Nat.or_mod_two_pow]
  rw [show (128 % 2 ^ 8 : Nat) = 128 from rfl, or128 (u % 2 ^ 8) (Nat.mod_lt _ (by decide))]
  rw [show (2 ^ 8 : Nat) = 256 from rfl]; omega
theorem or_lt (u : Nat) (h : u < 2 ^ 63) : (u ||| 128) < 2 ^ 63 := Nat.or_lt_two_pow h (by decide)
theorem shr7 (u : Nat) (hu : u < 2 ^ 63) : ((Int64.ofNat u).toUInt64 >>> ((7 : Int32) &&& 0x3f).toInt64.toUInt64).toInt64 = Int64.ofNat (u / 128) := by
  have h := c_lushr (Int64.ofNat u) 7 7 (by decide) (by decide)
  rw [l_nat hu] at h
  rw [← Int64.toInt_inj, h, l_nat (by omega)]
  have : ((2 ^ 7 : Nat) : Int) = 128 := rfl
  rw [this]; omega
theorem lt128 (u : Nat) (hu : u < 2 ^ 63) : Int64.ofNat u < 128 ↔ u < 128 := by
  rw [Int64.lt_iff_toInt_lt, l_nat hu]
  have : (128 : Int64).toInt = 128 := rfl
  rw [this]; omega
theorem nn64 (u : Nat) (hu : u < 2 ^ 63) : ¬ Int64.ofNat u < 0 := by
  rw [Int64.lt_iff_toInt_lt, l_nat hu]
  have : (0 : Int64).toInt = 0 := rfl
  rw [this]; omega
theorem bv_facts : ∀ c, c < 256 → bv c &&& 127 = Int32.ofNat (c % 128) ∧ (bv c < 0 ↔ 128 ≤ c) := by unfold bv; decide +kernel
theorem i2l_nat (d : Nat) (hd : d < 128) : (Int32.ofNat d).toInt64 = Int64.ofNat d := by
  rw [← Int64.toInt_inj, c_i2l, l_nat (by omega)]
  exact Int32.toInt_ofNat_small (by omega)
theorem acc_step (acc d k : Nat) (hk : k < 64) (ha : acc < 2 ^ k) (hd : acc + d * 2 ^ k < 2 ^ 63) : (Int64.ofNat acc) ||| ((Int64.ofNat d) <<< ((Int32.ofNat k) &&& 0x3f).toInt64) = Int64.ofNat (acc + d * 2 ^ k) := by
  have hp : 0 < 2 ^ k := Nat.pow_pos (by decide)
  have hdl : d < 2 ^ 63 := Nat.lt_of_le_of_lt (Nat.le_mul_of_pos_right d hp) (by omega)
  have e1 : (Int64.ofNat d) <<< ((Int32.ofNat k) &&& 0x3f).toInt64 = Int64.ofNat (d * 2 ^ k) := by
    have h := c_lshl (Int64.ofNat d) (Int32.ofNat k) k (by show (BitVec.ofNat 32 k).toNat % 64 = k; simp [BitVec.toNat_ofNat]; omega)
    have hr := rng64 ((Int64.ofNat d) <<< ((Int32.ofNat k) &&& 0x3f).toInt64)
    rw [l_nat hdl] at h
    rw [← Int64.toInt_inj, l_nat (by omega)]
    have hc : (d : Int) * ((2 ^ k : Nat) : Int) = ((d * 2 ^ k : Nat) : Int) := by simp
    rw [hc] at h
    generalize d * 2 ^ k = t at h hd ⊢
    omega
  rw [e1, or_ofNat]
  congr 1
  rw [Nat.or_comm, ← Nat.shiftLeft_eq, ← Nat.shiftLeft_add_eq_or_of_lt ha, Nat.add_comm]

set_option maxRecDepth 65536 in
set_option maxHeartbeats 40000000 in
theorem wn_loop {l : Launch} {Z : State} {a0 : Array Value} (hw : Ws Z a0) {w : W} {R : Room} {n0 N p cells slots : Nat} {r0 a : Addr} {v : Int64} (hc0 : cells ≤ 1) (hs0 : slots ≤ 32) (k : Nat) : ∀ u n vs h, u < 128 ^ (k + 1) → u < 2 ^ 63 → vs.length = N → n + k + 1 ≤ N → N < 2 ^ 31 → RB n0 Z h r0 a n p vs → Go w l R Z n0 Y3 prog_23_method_7_code 5 none 28 [.val (.ref r0), .val (.long v), .second, .val (.long (Int64.ofNat u)), .second] [] h cells slots → Fini w n0 (Ret0 fun h => ∃ a' vs', vs'.length = N ∧ (∀ j, j < n → vs'[j]? = vs[j]?) ∧ (∀ i c, (enc k u)[i]? = some c → vs'[n + i]? = some (.int (bv c))) ∧ RB n0 Z h r0 a' (n + (enc k u).length) p vs') 1 32 := by
  induction k with
  | zero =>
    intro u n vs h hu hu2 hN hn hN31 B r
    have hu : u < 128 := by simpa using hu
    have henc : enc 0 u = [u] := rfl
    replace r := r.lld3 29 d3_28 rfl
    replace r := r.ldc2 32 d3_29 rfl (wd_39 hw)
    replace r := r.lcmp 33 d3_32 rfl
    replace r := r.if_ltT 67 d3_33 (by decide) ((lw_lt _ _).mpr ((lt128 u hu2).mpr hu))
    replace r := r.ald0 68 d3_67 rfl
    replace r := r.getF 71 d3_68 rfl (wd_11 hw) B.2.1
    replace r := r.ald0 72 d3_71 rfl
    replace r := r.dup 73 d3_72 rfl rfl
    replace r := r.getF 76 d3_73 rfl (wd_22 hw) B.2.2.1
    replace r := r.dupX1 77 d3_76 rfl rfl rfl
    replace r := r.iconstV 78 d3_77 rfl (1 : Int32) ic_1
    replace r := r.iadd 79 d3_78 rfl
    rw [nadd1] at r
    obtain ⟨h2, W2, r⟩ := r.putF 82 d3_79 rfl (wd_22 hw) (Or.inl (wd_23 hw)) (wd_2 hw) B.1 B.2.2.1 (ty := .int) (by decide) rfl rfl B.2.2.2.2.2.2.1
    have B2 := B.len hw W2
    replace r := r.lld3 83 d3_82 rfl
    replace r := r.l2i 84 d3_83 rfl
    replace r := r.i2b 85 d3_84 rfl
    have kk : (Int32.ofNat n).toNatClampNeg = n := len_nat (by omega)
    obtain ⟨h3, W3, A3, r⟩ := r.bast 86 d3_85 rfl B2.2.2.2.2.1 (len_nn (by omega)) (by rw [kk]; omega) B2.2.2.2.2.2.2.2
    rw [kk, byte_twice, store_eq u hu2, show u % 256 = u from by omega] at A3 W3
    have B3 := B2.arr W3 A3
    exact r.retV d3_86 ⟨a, vs.set n (.int (bv u)), by rw [List.length_set]; exact hN, fun j hj => List.getElem?_set_ne (by omega), fun i c hi => by
      rw [henc] at hi
      match i, hi with
      | 0, hi => cases hi; exact List.getElem?_set_self (by omega)
      | i + 1, hi => simp at hi, by rw [henc]; exact B3⟩ hc0 hs0
  | succ k ih =>
    intro u n vs h hu hu2 hN hn hN31 B r
    by_cases h128 : u < 128
    · have henc : enc (k + 1) u = [u] := if_pos h128
      replace r := r.lld3 29 d3_28 rfl
      replace r := r.ldc2 32 d3_29 rfl (wd_39 hw)
      replace r := r.lcmp 33 d3_32 rfl
      replace r := r.if_ltT 67 d3_33 (by decide) ((lw_lt _ _).mpr ((lt128 u hu2).mpr h128))
      replace r := r.ald0 68 d3_67 rfl
      replace r := r.getF 71 d3_68 rfl (wd_11 hw) B.2.1
      replace r := r.ald0 72 d3_71 rfl
      replace r := r.dup 73 d3_72 rfl rfl
      replace r := r.getF 76 d3_73 rfl (wd_22 hw) B.2.2.1
      replace r := r.dupX1 77 d3_76 rfl rfl rfl
      replace r := r.iconstV 78 d3_77 rfl (1 : Int32) ic_1
      replace r := r.iadd 79 d3_78 rfl
      rw [nadd1] at r
      obtain ⟨h2, W2, r⟩ := r.putF 82 d3_79 rfl (wd_22 hw) (Or.inl (wd_23 hw)) (wd_2 hw) B.1 B.2.2.1 (ty := .int) (by decide) rfl rfl B.2.2.2.2.2.2.1
      have B2 := B.len hw W2
      replace r := r.lld3 83 d3_82 rfl
      replace r := r.l2i 84 d3_83 rfl
      replace r := r.i2b 85 d3_84 rfl
      have kk : (Int32.ofNat n).toNatClampNeg = n := len_nat (by omega)
      obtain ⟨h3, W3, A3, r⟩ := r.bast 86 d3_85 rfl B2.2.2.2.2.1 (len_nn (by omega)) (by rw [kk]; omega) B2.2.2.2.2.2.2.2
      rw [kk, byte_twice, store_eq u hu2, show u % 256 = u from by omega] at A3 W3
      have B3 := B2.arr W3 A3
      exact r.retV d3_86 ⟨a, vs.set n (.int (bv u)), by rw [List.length_set]; exact hN, fun j hj => List.getElem?_set_ne (by omega), fun i c hi => by
        rw [henc] at hi
        match i, hi with
        | 0, hi => cases hi; exact List.getElem?_set_self (by omega)
        | i + 1, hi => simp at hi, by rw [henc]; exact B3⟩ hc0 hs0
    · have henc : enc (k + 1) u = (u % 128 + 128) :: enc k (u / 128) := if_neg h128
      have hq : u / 128 < 128 ^ (k + 1) := by
        apply Nat.div_lt_of_lt_mul
        rw [Nat.pow_succ] at hu; rw [Nat.mul_comm]; exact hu
      replace r := r.lld3 29 d3_28 rfl
      replace r := r.ldc2 32 d3_29 rfl (wd_39 hw)
      replace r := r.lcmp 33 d3_32 rfl
      replace r := r.if_ltF 36 d3_33 rfl (fun q => h128 ((lt128 u hu2).mp ((lw_lt _ _).mp q)))
      replace r := r.ald0 37 d3_36 rfl
      replace r := r.getF 40 d3_37 rfl (wd_11 hw) B.2.1
      replace r := r.ald0 41 d3_40 rfl
      replace r := r.dup 42 d3_41 rfl rfl
      replace r := r.getF 45 d3_42 rfl (wd_22 hw) B.2.2.1
      replace r := r.dupX1 46 d3_45 rfl rfl rfl
      replace r := r.iconstV 47 d3_46 rfl (1 : Int32) ic_1
      replace r := r.iadd 48 d3_47 rfl
      rw [nadd1] at r
      obtain ⟨h2, W2, r⟩ := r.putF 51 d3_48 rfl (wd_22 hw) (Or.inl (wd_23 hw)) (wd_2 hw) B.1 B.2.2.1 (ty := .int) (by decide) rfl rfl B.2.2.2.2.2.2.1
      have B2 := B.len hw W2
      replace r := r.lld3 52 d3_51 rfl
      replace r := r.ldc2 55 d3_52 rfl (wd_39 hw)
      replace r := r.lor 56 d3_55 rfl
      replace r := r.l2i 57 d3_56 rfl
      replace r := r.i2b 58 d3_57 rfl
      have kk : (Int32.ofNat n).toNatClampNeg = n := len_nat (by omega)
      obtain ⟨h3, W3, A3, r⟩ := r.bast 59 d3_58 rfl B2.2.2.2.2.1 (len_nn (by omega)) (by rw [kk]; omega) B2.2.2.2.2.2.2.2
      rw [kk, byte_twice, show (128 : Int64) = Int64.ofNat 128 from rfl, or_ofNat, store_eq _ (or_lt u hu2), or_mod] at A3 W3
      have B3 := B2.arr W3 A3
      replace r := r.lld3 60 d3_59 rfl
      replace r := r.bipushV 62 d3_60 rfl (7 : Int32) bi_7
      replace r := r.lushr 63 d3_62 rfl
      rw [shr7 u hu2] at r
      replace r := r.lst3 64 d3_63 rfl (Two.of rfl)
      replace r := r.goto 28 d3_64 (by decide)
      obtain ⟨s2, o, g1, g2, g3, v', L, g4, ⟨⟨g5, a', vs', y1, y2, y3, y4⟩, g6⟩, g7⟩ := ih (u / 128) (n + 1) _ h3 hq (by omega) (by rw [List.length_set]; exact hN) (by omega) hN31 B3 r
      refine ⟨s2, o, g1, g2, g3, v', L, g4, ⟨⟨g5, a', vs', y1, fun j hj => by rw [y2 j (by omega)]; exact List.getElem?_set_ne (by omega), fun i c hi => ?_, ?_⟩, g6⟩, g7⟩
      · rw [henc] at hi
        match i, hi with
        | 0, hi => cases hi; rw [Nat.add_zero, y2 n (by omega)]; exact List.getElem?_set_self (by omega)
        | i + 1, hi => rw [show n + (i + 1) = n + 1 + i from by omega]; exact y3 i c hi
      · rw [henc, List.length_cons, show n + ((enc k (u / 128)).length + 1) = n + 1 + (enc k (u / 128)).length from by omega]; exact y4
set_option maxRecDepth 65536 in
set_option maxHeartbeats 40000000 in
theorem wn_met {l : Launch} {Z : State} {a0 : Array Value} (hw : Ws Z a0) (r0 a : Addr) (n p u : Nat) (vs : List Value) (h0 : Heap) (n0 : Nat) (hu : u < 2 ^ 63) (B : RB n0 Z h0 r0 a n p vs) (hv : (vs.length = 0 ∧ n = 0) ∨ (vs.length = 32 ∧ n + 10 ≤ 32)) : Met l Z Y3 prog_23_method_7_code 5 none ({ frames := 3, cells := 1, slots := 32, locals := 80 } : Room) [.ref r0, .long (Int64.ofNat u)] h0 n0 (Ret0 fun h => ∃ a' vs', vs'.length = 32 ∧ (∀ j, j < n → vs'[j]? = (grow vs)[j]?) ∧ (∀ i c, (enc 8 u)[i]? = some c → vs'[n + i]? = some (.int (bv c))) ∧ RB n0 Z h r0 a' (n + (enc 8 u).length) p vs') := by
  have E := B.1
  refine Met.intro (Ls := [.val (.ref r0), .val (.long (Int64.ofNat u)), .second, .unset, .unset]) pl_3 (fun m => by simp [entryFrame, mkF, argsToLocals, Value.category, maxLocals]) fun w r => ?_
  replace r := r.lld1 1 d3_0 rfl
  replace r := r.lconstV 2 d3_1 rfl (0 : Int64) rfl
  replace r := r.lcmp 3 d3_2 rfl
  replace r := r.if_geT 20 d3_3 (by decide) (fun q => nn64 u hu ((lw_lt _ _).mp q))
  replace r := r.ald0 21 d3_20 rfl
  replace r := r.bipushV 23 d3_21 rfl (10 : Int32) bi_10
  obtain ⟨_, h1, ⟨rfl, a1, B1⟩, r'⟩ := r.callP (as := [.int (Int32.ofNat 10)]) (rest := []) 26 d3_23 rfl (mr_met hw r0 a n p 10 vs _ n0 B (by omega)) E (wd_18 hw) (wd_19 hw) (wd_20 hw) (wd_3 hw) (wd_2 hw) (wd_21 hw) pd_4 rfl rfl rfl (by decide) (Nat.le_of_ble_eq_true rfl) (Nat.le_of_ble_eq_true rfl) (Nat.le_of_ble_eq_true rfl) (Nat.le_of_ble_eq_true rfl)
  clear r; have r := r'; clear r'
  change Go w l _ Z n0 _ _ _ _ _ _ [] _ _ _ at r
  have hg : (grow vs).length = 32 := by
    unfold grow; split
    · simp
    · omega
  replace r := r.lld1 27 d3_26 rfl
  replace r := r.lst3 28 d3_27 rfl (Two.of rfl)
  exact wn_loop hw (N := 32) (by decide) (by decide) 8 u n _ h1 (by rw [show (128 ^ (8 + 1) : Nat) = 2 ^ 63 from by decide]; exact hu) hu hg (by omega) (by decide) B1 r
set_option maxRecDepth 65536 in
set_option maxHeartbeats 40000000 in
theorem rn_loop {l : Launch} {Z : State} {a0 : Array Value} (hw : Ws Z a0) {w : W} {R : Room} {n0 n : Nat} {r0 a : Addr} {vs : List Value} (hvl : vs.length < 2 ^ 31) (cs : List Nat) : ∀ acc j p h q4, wf cs → Jvm.RoadKit.One q4 → (∀ i c, cs[i]? = some c → vs[p + i]? = some (.int (bv c))) → acc < 2 ^ (7 * j) → acc + val cs * 2 ^ (7 * j) < 2 ^ 63 → j + cs.length ≤ 10 → RB n0 Z h r0 a n p vs → Go w l R Z n0 Y9 prog_23_method_13_code 5 (some .long) 4 [.val (.ref r0), .val (.long (Int64.ofNat acc)), .second, .val (.int (Int32.ofNat (7 * j))), q4] [] h 0 0 → Fini w n0 (Ret fun z h => z = .long (Int64.ofNat (acc + val cs * 2 ^ (7 * j))) ∧ RB n0 Z h r0 a n (p + cs.length) vs) 0 0 := by
  induction cs with
  | nil => intro acc j p h q4 hw0; exact hw0.elim
  | cons d cs ih =>
    intro acc j p h q4 hwf h1 hcs hacc htot hj B r
    have hd256 : d < 256 := by rcases hwf with ⟨-, q⟩ | ⟨-, q, -⟩ <;> omega
    obtain ⟨f1, f2⟩ := bv_facts d hd256
    have hvd := hcs 0 d rfl
    rw [Nat.add_zero] at hvd
    have hp := (List.getElem?_eq_some_iff.mp hvd).1
    rw [List.length_cons] at hj
    have hval : val (d :: cs) = d % 128 + 128 * val cs := rfl
    have hmul : (d % 128 + 128 * val cs) * 2 ^ (7 * j) = d % 128 * 2 ^ (7 * j) + val cs * (128 * 2 ^ (7 * j)) := by rw [Nat.add_mul, Nat.mul_comm 128 (val cs), Nat.mul_assoc]
    rw [hval, hmul] at htot
    have hpow : 2 ^ (7 * (j + 1)) = 128 * 2 ^ (7 * j) := by rw [show 7 * (j + 1) = 7 * j + 7 from by omega, Nat.pow_add, Nat.mul_comm]
    have hda : acc + d % 128 * 2 ^ (7 * j) < 2 ^ 63 := by omega
    replace r := r.ald0 5 d9_4 rfl
    replace r := r.getF 8 d9_5 rfl (wd_11 hw) B.2.1
    replace r := r.ald0 9 d9_8 rfl
    replace r := r.dup 10 d9_9 rfl rfl
    replace r := r.getF 13 d9_10 rfl (wd_50 hw) B.2.2.2.1
    replace r := r.dupX1 14 d9_13 rfl rfl rfl
    replace r := r.iconstV 15 d9_14 rfl (1 : Int32) ic_1
    replace r := r.iadd 16 d9_15 rfl
    rw [nadd1] at r
    obtain ⟨h2, W2, r⟩ := r.putF 19 d9_16 rfl (wd_50 hw) (Or.inl (wd_51 hw)) (wd_2 hw) B.1 B.2.2.2.1 (ty := .int) (by decide) rfl rfl B.2.2.2.2.2.2.1
    have B2 := B.pos hw W2
    replace r := r.bald 20 d9_19 rfl B2.2.2.2.2.1 (len_nn (by omega)) (by rw [len_nat (by omega)]; exact hvd)
    replace r := r.ist4 22 d9_20 rfl h1
    replace r := r.lld1 23 d9_22 rfl
    replace r := r.ild4 25 d9_23 rfl
    replace r := r.bipushV 27 d9_25 rfl (127 : Int32) bi_127
    replace r := r.iand 28 d9_27 rfl
    rw [f1] at r
    replace r := r.i2l 29 d9_28 rfl
    rw [i2l_nat _ (Nat.mod_lt _ (by decide))] at r
    replace r := r.ild3 30 d9_29 rfl
    replace r := r.lshl 31 d9_30 rfl
    replace r := r.lor 32 d9_31 rfl
    rw [acc_step acc (d % 128) (7 * j) (by omega) hacc hda] at r
    replace r := r.lst1 33 d9_32 rfl (Two.of rfl)
    replace r := r.inc3 36 d9_33 rfl (d := 7) rfl
    rw [show Int32.ofNat (7 * j) + (7 : Int32) = Int32.ofNat (7 * (j + 1)) from nadd _ _] at r
    replace r := r.ild4 38 d9_36 rfl
    rcases r.if_lt 4 41 d9_38 (by decide) rfl with ⟨hc, r⟩ | ⟨hc, r⟩
    · rw [f2] at hc
      have hwf2 : wf cs := by
        rcases hwf with ⟨-, q⟩ | ⟨-, -, q⟩
        · omega
        · exact q
      obtain ⟨s2, o, g1, g2, g3, v', L, g4, ⟨⟨z', g5, g5', g5''⟩, g6⟩, g7⟩ := ih (acc + d % 128 * 2 ^ (7 * j)) (j + 1) (p + 1) h2 (.val (.int (bv d))) hwf2 (One.val rfl) (fun i c hi => by rw [show p + 1 + i = p + (i + 1) from by omega]; exact hcs (i + 1) c hi) (by rw [hpow]; have := Nat.mod_lt d (show 0 < 128 by decide); have h5 : d % 128 * 2 ^ (7 * j) ≤ 127 * 2 ^ (7 * j) := Nat.mul_le_mul_right _ (by omega); omega) (by rw [hpow]; omega) (by omega) B2 r
      refine ⟨s2, o, g1, g2, g3, v', L, g4, ⟨⟨z', g5, ?_, ?_⟩, g6⟩, g7⟩
      · rw [g5', hpow, hval, hmul, Nat.add_assoc]
      · rw [List.length_cons, show p + (cs.length + 1) = p + 1 + cs.length from by omega]; exact g5''
    · rw [f2] at hc
      have hcs0 : cs = [] := by
        rcases hwf with ⟨q, -⟩ | ⟨q, -, -⟩
        · exact q
        · omega
      subst hcs0
      replace r := r.lld1 42 d9_41 rfl
      exact r.retL d9_42 ⟨by rw [hval, show val [] = 0 from rfl, Nat.mul_zero, Nat.add_zero], B2⟩ (by decide) (by decide)
set_option maxRecDepth 65536 in
set_option maxHeartbeats 40000000 in
theorem rn_met {l : Launch} {Z : State} {a0 : Array Value} (hw : Ws Z a0) (r0 a : Addr) (n p : Nat) (vs : List Value) (cs : List Nat) (h0 : Heap) (n0 : Nat) (B : RB n0 Z h0 r0 a n p vs) (hwf : wf cs) (hl : cs.length ≤ 10) (hv : val cs < 2 ^ 63) (hcs : ∀ i c, cs[i]? = some c → vs[p + i]? = some (.int (bv c))) : Met l Z Y9 prog_23_method_13_code 5 (some .long) ({ frames := 0, cells := 0, slots := 0, locals := 0 } : Room) [.ref r0] h0 n0 (Ret fun z h => z = .long (Int64.ofNat (val cs)) ∧ RB n0 Z h r0 a n (p + cs.length) vs) := by
  refine Met.intro (Ls := [.val (.ref r0), .unset, .unset, .unset, .unset]) pl_9 (fun m => by simp [entryFrame, mkF, argsToLocals, Value.category, maxLocals]) fun w r => ?_
  replace r := r.lconstV 1 d9_0 rfl (0 : Int64) rfl
  replace r := r.lst1 2 d9_1 rfl (Two.of rfl)
  replace r := r.iconstV 3 d9_2 rfl (0 : Int32) ic_0
  replace r := r.ist3 4 d9_3 rfl (One.of rfl)
  have h := rn_loop hw B.2.2.2.2.1.len cs 0 0 p h0 .unset hwf One.u hcs (by decide) (by rw [Nat.zero_add, Nat.mul_zero, Nat.pow_zero, Nat.mul_one]; exact hv) (by omega) B r
  rw [Nat.zero_add, Nat.mul_zero, Nat.pow_zero, Nat.mul_one] at h
  exact h

theorem mask63 (x : Int64) : ∃ A : Nat, A < 2 ^ 63 ∧ x &&& 9223372036854775807 = Int64.ofNat A := by
  have h := c_maskL x 9223372036854775807 63 (by decide) (by decide)
  have h1 : 0 ≤ x.toInt % (2 ^ 63 : Nat) := Int.emod_nonneg _ (by decide)
  have h2 : x.toInt % (2 ^ 63 : Nat) < (2 ^ 63 : Nat) := Int.emod_lt_of_pos _ (by decide)
  rw [← h] at h1 h2
  refine ⟨(x &&& 9223372036854775807).toInt.toNat, by omega, ?_⟩
  rw [← Int64.toInt_inj, l_nat (by omega)]; omega
theorem byte_code (y : Int32) : ∃ d : Nat, d < 256 ∧ y.toInt8.toInt32 = bv d := by
  have h2 := c_i2b y
  have h3 := c_i2b (Int32.ofNat (y.toInt % 256).toNat)
  have h4 : (Int32.ofNat (y.toInt % 256).toNat).toInt = (((y.toInt % 256).toNat : Nat) : Int) := Int32.toInt_ofNat_small (by omega)
  refine ⟨(y.toInt % 256).toNat, by omega, ?_⟩
  rw [← Int32.toInt_inj]
  show _ = (Int32.ofNat (y.toInt % 256).toNat).toInt8.toInt32.toInt
  rw [h4] at h3
  omega
theorem and127 (y : Int32) : ∃ d : Nat, d < 128 ∧ y &&& 127 = Int32.ofNat d := by
  have h := c_mask y 127 7 (by decide) (by decide)
  have h1 : 0 ≤ y.toInt % (2 ^ 7 : Nat) := Int.emod_nonneg _ (by decide)
  have h2 : y.toInt % (2 ^ 7 : Nat) < (2 ^ 7 : Nat) := Int.emod_lt_of_pos _ (by decide)
  rw [← h] at h1 h2
  have e4 : ((2 ^ 7 : Nat) : Int) = 128 := rfl
  rw [e4] at h2
  refine ⟨(y &&& 127).toInt.toNat, by omega, ?_⟩
  rw [← Int32.toInt_inj, Int32.toInt_ofNat_small (by omega)]; omega
theorem bv_small : ∀ d, d < 128 → (bv d).toInt64 = Int64.ofNat d ∧ bv d = Int32.ofNat d := by unfold bv; decide +kernel
theorem bv_byte (d : Nat) : (bv d).toInt8.toInt32 = bv d := byte_twice _

set_option maxRecDepth 65536 in
set_option maxHeartbeats 40000000 in
theorem law_met {l : Launch} {Z : State} {a0 : Array Value} (hw : Ws Z a0) (x y : Int64) (c' : Int32) (h0 : Heap) (n0 : Nat) (hn : n0 ≤ h0.size) : Met l Z Y0 code maxLocals ret room_1 [.long x, .long y, .int c'] h0 n0 (Ret fun v h => v = .int 1) := by
  refine Met.intro (Ls := [.val (.long x), .second, .val (.long y), .second, .val (.int c'), .unset, .unset, .unset, .unset, .unset, .unset, .unset, .unset, .unset, .unset, .unset, .unset, .unset, .unset, .unset, .unset, .unset]) pl_0 (fun m => by simp [entryFrame, mkF, argsToLocals, Value.category, maxLocals]) fun w r => ?_
  obtain ⟨A, hA, eA⟩ := mask63 x
  obtain ⟨B0, hB, eB⟩ := mask63 y
  obtain ⟨d0, hd0, ed0⟩ := byte_code c'
  obtain ⟨d1, hd1, ed1⟩ := and127 (c' >>> ((8 : Int32) &&& 31))
  replace r := r.lld0 1 at_0 rfl
  replace r := r.ldc2 4 at_1 rfl (wd_0 hw)
  replace r := r.land 5 at_4 rfl
  rw [eA] at r
  replace r := r.lst5 7 at_5 rfl (Two.of rfl)
  replace r := r.lld2 8 at_7 rfl
  replace r := r.ldc2 11 at_8 rfl (wd_0 hw)
  replace r := r.land 12 at_11 rfl
  rw [eB] at r
  replace r := r.lst7 14 at_12 rfl (Two.of rfl)
  replace r := r.ild4 16 at_14 rfl
  replace r := r.i2b 17 at_16 rfl
  rw [ed0] at r
  replace r := r.ist9 19 at_17 rfl (One.of rfl)
  replace r := r.ild4 21 at_19 rfl
  replace r := r.bipushV 23 at_21 rfl (8 : Int32) bi_8
  replace r := r.ishr 24 at_23 rfl
  replace r := r.bipushV 26 at_24 rfl (127 : Int32) bi_127
  replace r := r.iand 27 at_26 rfl
  rw [ed1] at r
  replace r := r.i2b 28 at_27 rfl
  change Go w l _ Z n0 _ _ _ _ _ _ [.int (bv d1)] _ _ _ at r
  replace r := r.ist10 30 at_28 rfl (One.of rfl)
  obtain ⟨h1, r0, z1, X1, E1, D1, r⟩ := r.newO 33 at_30 rfl (wd_1 hw) (wd_2 hw) (wd_3 hw) (by decide) (by decide)
  have g1 : n0 ≤ r0 := by rw [z1]; exact hn
  replace r := r.dup 34 at_33 rfl rfl
  obtain ⟨_, hp1, ⟨rfl, a1, B⟩, r'⟩ := r.callI (as := []) (rest := [.ref r0]) 37 at_34 rfl (init_met hw r0 _ n0 g1 (Nat.le_trans hn X1.1) E1 (D1 (Or.inl (wd_12 hw)) (ty := (.array .byte)) (by decide)) (D1 (Or.inl (wd_23 hw)) (ty := .int) (by decide)) (D1 (Or.inl (wd_51 hw)) (ty := .int) (by decide))) rfl (wd_4 hw) (wd_5 hw) (wd_3 hw) (wd_6 hw) pd_1 rfl rfl rfl (by decide) (Nat.le_of_ble_eq_true rfl) (Nat.le_of_ble_eq_true rfl) (Nat.le_of_ble_eq_true rfl) (Nat.le_of_ble_eq_true rfl)
  clear r; have r := r'; clear r'
  change Go w l _ Z n0 _ _ _ _ _ _ [.ref r0] _ _ _ at r
  obtain ⟨wA, vA, lA0, lA⟩ := enc_ok 8 A (by rw [show (128 ^ (8 + 1) : Nat) = 2 ^ 63 from by decide]; exact hA)
  obtain ⟨wB, vB, lB0, lB⟩ := enc_ok 8 B0 (by rw [show (128 ^ (8 + 1) : Nat) = 2 ^ 63 from by decide]; exact hB)
  replace r := r.ast11 39 at_37 rfl (One.of rfl)
  replace r := r.ald11 41 at_39 rfl
  replace r := r.lld5 43 at_41 rfl
  obtain ⟨_, hp2, ⟨rfl, a2, v1, y1, -, y3, B'⟩, r'⟩ := r.callV (as := [.long (Int64.ofNat A)]) (rest := []) 46 at_43 rfl (wn_met hw r0 a1 0 0 A _ _ n0 hA B (Or.inl ⟨rfl, rfl⟩)) B.1 (wd_13 hw) (wd_14 hw) (wd_15 hw) (wd_16 hw) (wd_3 hw) (wd_17 hw) pd_3 rfl rfl rfl (by decide) (Nat.le_of_ble_eq_true rfl) (Nat.le_of_ble_eq_true rfl) (Nat.le_of_ble_eq_true rfl) (Nat.le_of_ble_eq_true rfl)
  clear r; have r := r'; clear r'
  change Go w l _ Z n0 _ _ _ _ _ _ [] _ _ _ at r
  clear B; have B := B'; clear B'
  rw [Nat.zero_add] at B
  obtain ⟨n1, en1⟩ : ∃ n1 : Nat, n1 = (enc 8 A).length := ⟨_, rfl⟩
  obtain ⟨n2, en2⟩ : ∃ n2 : Nat, n2 = (enc 8 B0).length := ⟨_, rfl⟩
  rw [← en1] at B lA lA0
  rw [← en2] at lB lB0
  have gr : ∀ vs : List Value, vs.length = 32 → grow vs = vs := fun vs h => if_neg (by omega)
  replace r := r.ald11 48 at_46 rfl
  replace r := r.lld7 50 at_48 rfl
  obtain ⟨_, hp3, ⟨rfl, a3, v2, x1, x2, x3, B'⟩, r'⟩ := r.callV (as := [.long (Int64.ofNat B0)]) (rest := []) 53 at_50 rfl (wn_met hw r0 a2 n1 0 B0 v1 _ n0 hB B (Or.inr ⟨y1, by omega⟩)) B.1 (wd_13 hw) (wd_14 hw) (wd_15 hw) (wd_16 hw) (wd_3 hw) (wd_17 hw) pd_3 rfl rfl rfl (by decide) (Nat.le_of_ble_eq_true rfl) (Nat.le_of_ble_eq_true rfl) (Nat.le_of_ble_eq_true rfl) (Nat.le_of_ble_eq_true rfl)
  clear r; have r := r'; clear r'
  change Go w l _ Z n0 _ _ _ _ _ _ [] _ _ _ at r
  clear B; have B := B'; clear B'
  rw [← en2] at B
  rw [gr v1 y1] at x2
  replace r := r.ald11 55 at_53 rfl
  replace r := r.ild9 57 at_55 rfl
  obtain ⟨_, hp4, ⟨rfl, a4, B'⟩, r'⟩ := r.callV (as := [.int (bv d0)]) (rest := []) 60 at_57 rfl (wb_met hw r0 a3 (n1 + n2) 0 (bv d0) v2 _ n0 B (Or.inr ⟨by omega, by omega⟩)) B.1 (wd_40 hw) (wd_41 hw) (wd_42 hw) (wd_43 hw) (wd_3 hw) (wd_44 hw) pd_8 rfl rfl rfl (by decide) (Nat.le_of_ble_eq_true rfl) (Nat.le_of_ble_eq_true rfl) (Nat.le_of_ble_eq_true rfl) (Nat.le_of_ble_eq_true rfl)
  clear r; have r := r'; clear r'
  change Go w l _ Z n0 _ _ _ _ _ _ [] _ _ _ at r
  clear B; have B := B'; clear B'
  rw [gr v2 x1, bv_byte] at B
  replace r := r.ald11 62 at_60 rfl
  replace r := r.ild10 64 at_62 rfl
  have l3 : (v2.set (n1 + n2) (.int (bv d0))).length = 32 := by rw [List.length_set]; exact x1
  obtain ⟨_, hp5, ⟨rfl, a5, B'⟩, r'⟩ := r.callV (as := [.int (bv d1)]) (rest := []) 67 at_64 rfl (wb_met hw r0 a4 (n1 + n2 + 1) 0 (bv d1) _ _ n0 B (Or.inr ⟨by omega, by omega⟩)) B.1 (wd_40 hw) (wd_41 hw) (wd_42 hw) (wd_43 hw) (wd_3 hw) (wd_44 hw) pd_8 rfl rfl rfl (by decide) (Nat.le_of_ble_eq_true rfl) (Nat.le_of_ble_eq_true rfl) (Nat.le_of_ble_eq_true rfl) (Nat.le_of_ble_eq_true rfl)
  clear r; have r := r'; clear r'
  change Go w l _ Z n0 _ _ _ _ _ _ [] _ _ _ at r
  clear B; have B := B'; clear B'
  rw [gr _ l3, bv_byte] at B
  have kp : ∀ j, j < n1 + n2 → ((v2.set (n1 + n2) (.int (bv d0))).set (n1 + n2 + 1) (.int (bv d1)))[j]? = v2[j]? := fun j hj => by rw [List.getElem?_set_ne (by omega), List.getElem?_set_ne (by omega)]
  have H1 : ∀ i c, (enc 8 A)[i]? = some c → ((v2.set (n1 + n2) (.int (bv d0))).set (n1 + n2 + 1) (.int (bv d1)))[0 + i]? = some (.int (bv c)) := fun i c hi => by
    have hl := (List.getElem?_eq_some_iff.mp hi).1
    rw [← en1] at hl
    rw [kp _ (by omega), x2 _ (by omega)]; exact y3 i c hi
  have H2 : ∀ i c, (enc 8 B0)[i]? = some c → ((v2.set (n1 + n2) (.int (bv d0))).set (n1 + n2 + 1) (.int (bv d1)))[n1 + i]? = some (.int (bv c)) := fun i c hi => by
    have hl := (List.getElem?_eq_some_iff.mp hi).1
    rw [← en2] at hl
    rw [kp _ (by omega)]; exact x3 i c hi
  have e0 : ((v2.set (n1 + n2) (.int (bv d0))).set (n1 + n2 + 1) (.int (bv d1)))[n1 + n2]? = some (.int (bv d0)) := by rw [List.getElem?_set_ne (by omega)]; exact List.getElem?_set_self (by omega)
  have e1 : ((v2.set (n1 + n2) (.int (bv d0))).set (n1 + n2 + 1) (.int (bv d1)))[n1 + n2 + 1]? = some (.int (bv d1)) := List.getElem?_set_self (by omega)
  obtain ⟨vf, evf⟩ : ∃ vf, vf = (v2.set (n1 + n2) (.int (bv d0))).set (n1 + n2 + 1) (.int (bv d1)) := ⟨_, rfl⟩
  rw [← evf] at B H1 H2 e0 e1
  replace r := r.ald11 69 at_67 rfl
  obtain ⟨_, hp6, ⟨_, rfl, rfl, B'⟩, r'⟩ := r.callV (as := []) (rest := []) 72 at_69 rfl (rn_met hw r0 a5 _ 0 vf (enc 8 A) _ n0 B wA (by omega) (by rw [vA]; exact hA) H1) B.1 (wd_45 hw) (wd_46 hw) (wd_47 hw) (wd_48 hw) (wd_3 hw) (wd_49 hw) pd_9 rfl rfl rfl (by decide) (Nat.le_of_ble_eq_true rfl) (Nat.le_of_ble_eq_true rfl) (Nat.le_of_ble_eq_true rfl) (Nat.le_of_ble_eq_true rfl)
  clear r; have r := r'; clear r'
  change Go w l _ Z n0 _ _ _ _ _ _ [.long _] _ _ _ at r
  clear B; have B := B'; clear B'
  rw [vA] at r
  rw [← en1, Nat.zero_add] at B
  replace r := r.lst12 74 at_72 rfl (Two.of rfl)
  replace r := r.ald11 76 at_74 rfl
  obtain ⟨_, hp7, ⟨_, rfl, rfl, B'⟩, r'⟩ := r.callV (as := []) (rest := []) 79 at_76 rfl (rn_met hw r0 a5 _ n1 vf (enc 8 B0) _ n0 B wB (by omega) (by rw [vB]; exact hB) H2) B.1 (wd_45 hw) (wd_46 hw) (wd_47 hw) (wd_48 hw) (wd_3 hw) (wd_49 hw) pd_9 rfl rfl rfl (by decide) (Nat.le_of_ble_eq_true rfl) (Nat.le_of_ble_eq_true rfl) (Nat.le_of_ble_eq_true rfl) (Nat.le_of_ble_eq_true rfl)
  clear r; have r := r'; clear r'
  change Go w l _ Z n0 _ _ _ _ _ _ [.long _] _ _ _ at r
  clear B; have B := B'; clear B'
  rw [vB] at r
  rw [← en2] at B
  replace r := r.lst14 81 at_79 rfl (Two.of rfl)
  replace r := r.ald11 83 at_81 rfl
  obtain ⟨f1, f2⟩ := bv_facts d0 hd0
  obtain ⟨s1, s2⟩ := bv_small d1 hd1
  by_cases hb : d0 < 128
  · have hw3 : wf [d0] := Or.inl ⟨rfl, hb⟩
    have hv3 : val [d0] = d0 := by simp only [val]; omega
    have H3 : ∀ i c, [d0][i]? = some c → vf[n1 + n2 + i]? = some (.int (bv c)) := fun i c hi => by
      match i, hi with
      | 0, hi => cases hi; exact e0
      | i + 1, hi => simp at hi
    obtain ⟨_, hp8, ⟨_, rfl, rfl, B'⟩, r'⟩ := r.callV (as := []) (rest := []) 86 at_83 rfl (rn_met hw r0 a5 _ (n1 + n2) vf [d0] _ n0 B hw3 (by simp) (by rw [hv3]; omega) H3) B.1 (wd_45 hw) (wd_46 hw) (wd_47 hw) (wd_48 hw) (wd_3 hw) (wd_49 hw) pd_9 rfl rfl rfl (by decide) (Nat.le_of_ble_eq_true rfl) (Nat.le_of_ble_eq_true rfl) (Nat.le_of_ble_eq_true rfl) (Nat.le_of_ble_eq_true rfl)
    clear r; have r := r'; clear r'
    change Go w l _ Z n0 _ _ _ _ _ _ [.long _] _ _ _ at r
    clear B; have B := B'; clear B'
    rw [hv3] at r
    replace r := r.lst16 88 at_86 rfl (Two.of rfl)
    replace r := r.ald11 90 at_88 rfl
    obtain ⟨_, _, ⟨_, rfl, rfl, hh⟩, r'⟩ := r.callV (as := []) (rest := []) 93 at_90 rfl (hm_met hw r0 a5 _ (n1 + n2 + [d0].length) vf _ n0 B (by omega) (by simp; omega)) B.1 (wd_52 hw) (wd_53 hw) (wd_54 hw) (wd_55 hw) (wd_3 hw) (wd_56 hw) pd_10 rfl rfl rfl (by decide) (Nat.le_of_ble_eq_true rfl) (Nat.le_of_ble_eq_true rfl) (Nat.le_of_ble_eq_true rfl) (Nat.le_of_ble_eq_true rfl)
    clear r; have r := r'; clear r'
    rw [if_pos (by simp)] at r
    change Go w l _ Z n0 _ _ _ _ _ _ [.int _] _ _ _ at r
    replace r := r.ist18 95 at_93 rfl (One.of rfl)
    replace r := r.ild9 97 at_95 rfl
    replace r := r.if_ltF 100 at_97 rfl (fun q => by rw [f2] at q; omega)
    replace r := r.iconstV 101 at_100 rfl (1 : Int32) ic_1
    replace r := r.goto 105 at_101 (by decide)
    replace r := r.ist19 107 at_105 rfl (One.of rfl)
    replace r := r.ild19 109 at_107 rfl
    replace r := r.if_eqF 112 at_109 rfl (by decide)
    replace r := r.ild9 114 at_112 rfl
    replace r := r.i2l 115 at_114 rfl
    rw [(bv_small d0 hb).1] at r
    replace r := r.lst20 117 at_115 rfl (Two.of rfl)
    replace r := r.goto 135 at_117 (by decide)
    replace r := r.lld12 137 at_135 rfl
    replace r := r.lld5 139 at_137 rfl
    replace r := r.lcmp 140 at_139 rfl
    replace r := r.if_neF 143 at_140 rfl ((lw_eq _ _).mpr rfl)
    replace r := r.lld14 145 at_143 rfl
    replace r := r.lld7 147 at_145 rfl
    replace r := r.lcmp 148 at_147 rfl
    replace r := r.if_neF 151 at_148 rfl ((lw_eq _ _).mpr rfl)
    replace r := r.lld16 153 at_151 rfl
    replace r := r.lld20 155 at_153 rfl
    replace r := r.lcmp 156 at_155 rfl
    replace r := r.if_neF 159 at_156 rfl ((lw_eq _ _).mpr rfl)
    replace r := r.ild18 161 at_159 rfl
    replace r := r.ild19 163 at_161 rfl
    replace r := r.ic_neF 166 at_163 rfl rfl
    replace r := r.iconstV 167 at_166 rfl (1 : Int32) ic_1
    replace r := r.goto 171 at_167 (by decide)
    exact r.retN at_171 (Or.inl rfl) (z' := 1) rfl (by rfl) (by decide) (by decide)
  · have hw3 : wf [d0, d1] := Or.inr ⟨by omega, hd0, Or.inl ⟨rfl, hd1⟩⟩
    have hv3 : val [d0, d1] = d0 % 128 + d1 * 2 ^ 7 := by simp only [val]; omega
    have H3 : ∀ i c, [d0, d1][i]? = some c → vf[n1 + n2 + i]? = some (.int (bv c)) := fun i c hi => by
      match i, hi with
      | 0, hi => cases hi; exact e0
      | 1, hi => cases hi; exact e1
      | i + 2, hi => simp at hi
    obtain ⟨_, hp8, ⟨_, rfl, rfl, B'⟩, r'⟩ := r.callV (as := []) (rest := []) 86 at_83 rfl (rn_met hw r0 a5 _ (n1 + n2) vf [d0, d1] _ n0 B hw3 (by simp) (by rw [hv3]; omega) H3) B.1 (wd_45 hw) (wd_46 hw) (wd_47 hw) (wd_48 hw) (wd_3 hw) (wd_49 hw) pd_9 rfl rfl rfl (by decide) (Nat.le_of_ble_eq_true rfl) (Nat.le_of_ble_eq_true rfl) (Nat.le_of_ble_eq_true rfl) (Nat.le_of_ble_eq_true rfl)
    clear r; have r := r'; clear r'
    change Go w l _ Z n0 _ _ _ _ _ _ [.long _] _ _ _ at r
    clear B; have B := B'; clear B'
    rw [hv3] at r
    replace r := r.lst16 88 at_86 rfl (Two.of rfl)
    replace r := r.ald11 90 at_88 rfl
    obtain ⟨_, _, ⟨_, rfl, rfl, hh⟩, r'⟩ := r.callV (as := []) (rest := []) 93 at_90 rfl (hm_met hw r0 a5 _ (n1 + n2 + [d0, d1].length) vf _ n0 B (by omega) (by simp; omega)) B.1 (wd_52 hw) (wd_53 hw) (wd_54 hw) (wd_55 hw) (wd_3 hw) (wd_56 hw) pd_10 rfl rfl rfl (by decide) (Nat.le_of_ble_eq_true rfl) (Nat.le_of_ble_eq_true rfl) (Nat.le_of_ble_eq_true rfl) (Nat.le_of_ble_eq_true rfl)
    clear r; have r := r'; clear r'
    rw [if_neg (by simp)] at r
    change Go w l _ Z n0 _ _ _ _ _ _ [.int _] _ _ _ at r
    replace r := r.ist18 95 at_93 rfl (One.of rfl)
    replace r := r.ild9 97 at_95 rfl
    replace r := r.if_ltT 104 at_97 (by decide) (f2.mpr (by omega))
    replace r := r.iconstV 105 at_104 rfl (0 : Int32) ic_0
    replace r := r.ist19 107 at_105 rfl (One.of rfl)
    replace r := r.ild19 109 at_107 rfl
    replace r := r.if_eqT 120 at_109 (by decide) rfl
    replace r := r.ild9 122 at_120 rfl
    replace r := r.bipushV 124 at_122 rfl (127 : Int32) bi_127
    replace r := r.iand 125 at_124 rfl
    rw [f1] at r
    replace r := r.i2l 126 at_125 rfl
    rw [i2l_nat _ (Nat.mod_lt _ (by decide))] at r
    replace r := r.ild10 128 at_126 rfl
    replace r := r.i2l 129 at_128 rfl
    rw [s1] at r
    replace r := r.bipushV 131 at_129 rfl (7 : Int32) bi_7
    replace r := r.lshl 132 at_131 rfl
    replace r := r.lor 133 at_132 rfl
    rw [show Int64.ofNat (d0 % 128) ||| (Int64.ofNat d1 <<< ((7 : Int32) &&& 0x3f).toInt64) = Int64.ofNat (d0 % 128 + d1 * 2 ^ 7) from acc_step (d0 % 128) d1 7 (by decide) (by omega) (by omega)] at r
    replace r := r.lst20 135 at_133 rfl (Two.of rfl)
    replace r := r.lld12 137 at_135 rfl
    replace r := r.lld5 139 at_137 rfl
    replace r := r.lcmp 140 at_139 rfl
    replace r := r.if_neF 143 at_140 rfl ((lw_eq _ _).mpr rfl)
    replace r := r.lld14 145 at_143 rfl
    replace r := r.lld7 147 at_145 rfl
    replace r := r.lcmp 148 at_147 rfl
    replace r := r.if_neF 151 at_148 rfl ((lw_eq _ _).mpr rfl)
    replace r := r.lld16 153 at_151 rfl
    replace r := r.lld20 155 at_153 rfl
    replace r := r.lcmp 156 at_155 rfl
    replace r := r.if_neF 159 at_156 rfl ((lw_eq _ _).mpr rfl)
    replace r := r.ild18 161 at_159 rfl
    replace r := r.ild19 163 at_161 rfl
    replace r := r.ic_neF 166 at_163 rfl rfl
    replace r := r.iconstV 167 at_166 rfl (1 : Int32) ic_1
    replace r := r.goto 171 at_167 (by decide)
    exact r.retN at_171 (Or.inl rfl) (z' := 1) rfl (by rfl) (by decide) (by decide)
set_option maxRecDepth 65536 in
set_option maxHeartbeats 40000000 in
theorem comes_1 {Post : Tables → Env → Array Value → State → Outcome → State → Prop} (hpost : ∀ tb e args s v u, (limb_1_1.after args s (.returned v) u = true ∧ limb_1_2.after args s (.returned v) u = true ∧ True) → FrameEnd s (.returned v) u (Jvm.fieldLocs frame_1_writes args s ++ Jvm.arrayLocs frame_1_arrays args s ++ Jvm.staticLocs frame_1_statics s) 16 192 → Post tb e args s (.returned v) u) :
    ArmFor flags0 classFile x code maxLocals ret World_1 tables_1 room_1 Calls_1 rest_1 Pre_1 Post := by
  intro l hfl _ _ p e ha hc hk s m args below hf hA hF happ hP
  obtain ⟨hcalls, hrest, hpre⟩ := hP
  obtain ⟨-, -, -, hnamed, -, -, -, hat⟩ := (Spec.applies_iff hf).mp happ
  obtain ⟨hg, hn⟩ := and_e (Cond.before_iff.mp (show (Jvm.Cond.and given_1 narrow_1).before args s = true from hpre))
  obtain ⟨g1, g2⟩ := and_e hg
  obtain ⟨g3, g4⟩ := and_e g2
  obtain ⟨g5, g6⟩ := and_e g4
  obtain ⟨w0, w1, w2, rfl⟩ : ∃ w0 w1 w2 : Value, args = #[w0, w1, w2] := by
    have hs : args.size = 3 := by simpa [Cond.value, given_1] using g1
    obtain ⟨L⟩ := args
    match L, hs with
    | [w0, w1, w2], _ => exact ⟨w0, w1, w2, rfl⟩
  have hw : Ws s _ := fun d (hd : d ∈ tables_1) => atoms_spec (ws := Jvm.Cond.code x code maxLocals ret :: tables_1) hat d (List.mem_cons_of_mem _ hd)
  obtain ⟨i0, ei0⟩ := isL_v g3
  obtain rfl : w0 = (.long i0) := Option.some.inj ei0
  obtain ⟨i1, ei1⟩ := isL_v g5
  obtain rfl : w1 = (.long i1) := Option.some.inj ei1
  obtain ⟨i2, ei2⟩ := is_v g6
  obtain rfl : w2 = (.int i2) := Option.some.inj ei2
  obtain ⟨n, o, h1, h2, h3, _, L, rfl, ⟨⟨_, rfl, rfl⟩, N⟩, hq⟩ := law_met (l := l) hw i0 i1 i2 s.heap s.heap.size (Nat.le_refl _) tables_1 p e ha hc hk s m _ below hf ((Spec.applies_iff_loose hf).mp happ).1 ⟨rfl, State.Warmed39.refl s, rfl⟩ trivial
  refine ⟨n, _, h1, h2, h3, hpost _ _ _ _ _ _ ⟨Cond.after_iff.mpr rfl, Cond.after_iff.mpr (eq_i res_at (Term.int_eval (1)) rfl), trivial⟩ ⟨hq.1, hq.2.1, (hq.2.2.sift fun y hy => Or.inr (N y hy)).mono (by decide) (by decide)⟩⟩
theorem main_1_1 : Claimed_1_1 := comes_1 fun _ _ _ _ _ _ h hF => ⟨h.1, hF⟩
theorem main_1_2 : Claimed_1_2 := comes_1 fun _ _ _ _ _ _ h hF => ⟨h.2.1, hF⟩
end Jvm.Pilot.@@N@@
namespace Jvm.Pilot.@@N@@
open Jvm Jvm.ClassFile Sem Op Lib Jvm.Free Jvm.Stand Jvm.Pilot.@@N@@.Jvm.D
/-! MADE BY PROGRAM (witnessworld.py) out of the Statement's table words and the real class files: 12 classes; the members and pool entries that the words name. The judged class is class 1, her method 1. -/
namespace start1
open Jvm.ClassFile
def u (s : String) : CpInfo := .utf8 (stringToUtf16 s)
/-- a pool by its gaps: so many unusable entries, then the entry; so many at the end -/
def gap : Nat → List CpInfo → List CpInfo
  | 0, r => r
  | n + 1, r => .unusable :: gap n r
def poolList (es : List (Nat × CpInfo)) (last : Nat) : List CpInfo := es.foldr (fun e r => gap e.1 (e.2 :: r)) (gap last [])
def pool (es : List (Nat × CpInfo)) (last : Nat) : Array CpInfo := ⟨poolList es last⟩
def fileOf (pool : Array CpInfo) (this : Nat) (attrs : Array Attribute := #[]) (ms : Array MethodInfo := #[]) (fl : Nat := 33) (sup : Nat := 0) (ifs : Array Nat := #[]) (fds : Array FieldInfo := #[]) : ClassFile where
  minorVersion := 0
  majorVersion := 65
  constantPool := pool
  accessFlags := fl
  thisClass := this
  superClass := sup
  interfaces := ifs
  fields := fds
  methods := ms
  attributes := attrs
def plain (name : String) (sup : Option ClassId) : Class where
  name := name
  kind := .ordinary
  loader := none
  accessFlags := 33
  super := sup
  interfaces := #[]
  cf := none
  fields := #[]
  methods := #[]
  instanceTypes := #[]
  staticTypes := #[]
  resolved := #[]
  callSites := []
  init := .initialized
  statics := none
  mirror := none

def pool0 : Array CpInfo := pool [(5, u "<init>"), (0, u "()V"), (1, .class_ 10), (1, u "java/lang/Object")] 113

def k0c0 : Code := { maxStack := 0, maxLocals := 1, code := object_method_1_code, exceptionTable := #[], attributes := #[] }
def k0m0 : Method := { name := "<init>", desc := "()V", sig := { parameters := [], returnType := none }, accessFlags := 1, code := some k0c0 }
/-- java/lang/Object -/
def k0 : Class := { plain "java/lang/Object" none with
  accessFlags := 33
  interfaces := #[]
  cf := some (fileOf pool0 8 #[] #[{ accessFlags := 1, nameIndex := 5, descriptorIndex := 6, attributes := #[] }] 33 0 #[] #[])
  fields := #[]
  methods := #[k0m0]
  instanceTypes := #[]
  staticTypes := #[]
  resolved := Array.replicate 124 none
  statics := none }

def pool1 : Array CpInfo := pool [(2, .class_ 4), (0, .nameAndType 5 6), (0, u "java/lang/Object"), (0, u "<init>"), (0, u "()V"), (2, .long 9223372036854775807), (1, .class_ 12), (0, u "com/example/vestledger/vestledger/census/RowBytes"), (0, .methodref 11 3), (0, .methodref 11 15), (0, .nameAndType 16 17), (0, u "writeNumber"), (0, u "(J)V"), (0, .methodref 11 19), (0, .nameAndType 20 21), (0, u "writeByte"), (0, u "(B)V"), (0, .methodref 11 23), (0, .nameAndType 24 25), (0, u "readNumber"), (0, u "()J"), (0, .methodref 11 27), (0, .nameAndType 28 29), (0, u "hasMore"), (0, u "()Z"), (0, .class_ 31), (0, u "com/example/vestledger/vestledger/census/RowBytesReadNumberPinLaw"), (2, u "law"), (0, u "(JJI)Z")] 3

def k1m0 : Method := { name := "<init>", desc := "()V", sig := { parameters := [], returnType := none }, accessFlags := 1, code := none }
def k1c1 : Code := { maxStack := 5, maxLocals := 22, code := code, exceptionTable := #[], attributes := #[] }
def k1m1 : Method := { name := "law", desc := "(JJI)Z", sig := { parameters := [.long, .long, .int], returnType := some .boolean }, accessFlags := 9, code := some k1c1 }
/-- com/example/vestledger/vestledger/census/RowBytesReadNumberPinLaw -/
def k1 : Class := { plain "com/example/vestledger/vestledger/census/RowBytesReadNumberPinLaw" (some 0) with
  accessFlags := 49
  interfaces := #[]
  cf := some (fileOf pool1 30 #[] #[{ accessFlags := 1, nameIndex := 5, descriptorIndex := 6, attributes := #[] }, { accessFlags := 9, nameIndex := 34, descriptorIndex := 35, attributes := #[] }] 49 2 #[] #[])
  fields := #[]
  methods := #[k1m0, k1m1]
  instanceTypes := #[]
  staticTypes := #[]
  resolved := Array.replicate 39 none
  statics := none }

def pool2 : Array CpInfo := pool [(1, .methodref 2 3), (0, .class_ 4), (0, .nameAndType 5 6), (0, u "java/lang/Object"), (0, u "<init>"), (0, u "()V"), (0, .fieldref 8 9), (0, .class_ 10), (0, .nameAndType 11 12), (0, u "com/example/vestledger/vestledger/census/RowBytes"), (0, u "bytes"), (0, u "[B"), (0, .fieldref 8 14), (0, .nameAndType 15 16), (0, u "length"), (0, u "I"), (0, .fieldref 8 18), (0, .nameAndType 19 16), (0, u "position"), (9, .methodref 8 30), (0, .nameAndType 31 32), (0, u "makeRoom"), (0, u "(I)V"), (0, .long 128), (3, u "writeNumber"), (0, u "(J)V"), (5, u "()J"), (17, u "readNumber"), (7, .methodref 71 72), (0, .class_ 73), (0, .nameAndType 74 75), (0, u "java/lang/Math"), (0, u "max"), (0, u "(II)I"), (0, .methodref 77 78), (0, .class_ 79), (0, .nameAndType 80 81), (0, u "java/util/Arrays"), (0, u "copyOf"), (0, u "([BI)[B"), (0, u "FIRST_CAPACITY"), (8, u "hasMore"), (0, u "()Z"), (4, u "writeByte"), (0, u "(B)V")] 24

def k2c0 : Code := { maxStack := 2, maxLocals := 1, code := prog_23_method_1_code, exceptionTable := #[], attributes := #[] }
def k2m0 : Method := { name := "<init>", desc := "()V", sig := { parameters := [], returnType := none }, accessFlags := 1, code := some k2c0 }
def k2c1 : Code := { maxStack := 2, maxLocals := 1, code := prog_23_method_5_code, exceptionTable := #[], attributes := #[] }
def k2m1 : Method := { name := "hasMore", desc := "()Z", sig := { parameters := [], returnType := some .boolean }, accessFlags := 1, code := some k2c1 }
def k2c2 : Code := { maxStack := 6, maxLocals := 5, code := prog_23_method_7_code, exceptionTable := #[], attributes := #[] }
def k2m2 : Method := { name := "writeNumber", desc := "(J)V", sig := { parameters := [.long], returnType := none }, accessFlags := 1, code := some k2c2 }
def k2c3 : Code := { maxStack := 5, maxLocals := 2, code := prog_23_method_10_code, exceptionTable := #[], attributes := #[] }
def k2m3 : Method := { name := "writeByte", desc := "(B)V", sig := { parameters := [.byte], returnType := none }, accessFlags := 0, code := some k2c3 }
def k2c4 : Code := { maxStack := 5, maxLocals := 5, code := prog_23_method_13_code, exceptionTable := #[], attributes := #[] }
def k2m4 : Method := { name := "readNumber", desc := "()J", sig := { parameters := [], returnType := some .long }, accessFlags := 1, code := some k2c4 }
def k2c5 : Code := { maxStack := 4, maxLocals := 4, code := prog_23_method_17_code, exceptionTable := #[], attributes := #[] }
def k2m5 : Method := { name := "makeRoom", desc := "(I)V", sig := { parameters := [.int], returnType := none }, accessFlags := 2, code := some k2c5 }
/-- com/example/vestledger/vestledger/census/RowBytes -/
def k2 : Class := { plain "com/example/vestledger/vestledger/census/RowBytes" (some 0) with
  accessFlags := 33
  interfaces := #[]
  cf := some (fileOf pool2 8 #[] #[{ accessFlags := 1, nameIndex := 5, descriptorIndex := 6, attributes := #[] }, { accessFlags := 1, nameIndex := 91, descriptorIndex := 92, attributes := #[] }, { accessFlags := 1, nameIndex := 37, descriptorIndex := 38, attributes := #[] }, { accessFlags := 0, nameIndex := 97, descriptorIndex := 98, attributes := #[] }, { accessFlags := 1, nameIndex := 62, descriptorIndex := 44, attributes := #[] }, { accessFlags := 2, nameIndex := 31, descriptorIndex := 32, attributes := #[] }] 33 2 #[] #[{ accessFlags := 26, nameIndex := 82, descriptorIndex := 16, attributes := #[] }, { accessFlags := 2, nameIndex := 11, descriptorIndex := 12, attributes := #[] }, { accessFlags := 2, nameIndex := 15, descriptorIndex := 16, attributes := #[] }, { accessFlags := 2, nameIndex := 19, descriptorIndex := 16, attributes := #[] }])
  fields := #[{ name := "FIRST_CAPACITY", type := .int, accessFlags := 26, slot := 0, constantValue := 0 }, { name := "bytes", type := (.array .byte), accessFlags := 2, slot := 0, constantValue := 0 }, { name := "length", type := .int, accessFlags := 2, slot := 1, constantValue := 0 }, { name := "position", type := .int, accessFlags := 2, slot := 2, constantValue := 0 }]
  methods := #[k2m0, k2m1, k2m2, k2m3, k2m4, k2m5]
  instanceTypes := #[(.array .byte), .int, .int]
  staticTypes := #[.int]
  resolved := Array.replicate 123 none
  statics := none }

def pool3 : Array CpInfo := pool [(1, .class_ 2), (0, u "java/lang/Math"), (1, .class_ 6), (1, u "java/lang/Object"), (0, u "<init>"), (0, u "()V"), (89, .class_ 100), (1, u "java/lang/Math$RandomNumberGeneratorHolder"), (71, u "negativeZeroFloatBits"), (0, u "J"), (2, u "negativeZeroDoubleBits"), (21, u "max"), (2, u "min"), (43, u "$assertionsDisabled"), (0, u "Z"), (88, u "(II)I"), (2, u "twoToTheDoubleScaleDown"), (0, u "D"), (4, u "twoToTheDoubleScaleUp"), (9, u "E"), (3, u "PI"), (2, u "TAU"), (2, u "DEGREES_TO_RADIANS"), (0, u "RADIANS_TO_DEGREES")] 94

def k3m0 : Method := { name := "<init>", desc := "()V", sig := { parameters := [], returnType := none }, accessFlags := 2, code := none }
def k3c1 : Code := { maxStack := 2, maxLocals := 2, code := jdk_29_method_65_code, exceptionTable := #[], attributes := #[] }
def k3m1 : Method := { name := "max", desc := "(II)I", sig := { parameters := [.int, .int], returnType := some .int }, accessFlags := 9, code := some k3c1 }
def k3c2 : Code := { maxStack := 2, maxLocals := 2, code := jdk_29_method_69_code, exceptionTable := #[], attributes := #[] }
def k3m2 : Method := { name := "min", desc := "(II)I", sig := { parameters := [.int, .int], returnType := some .int }, accessFlags := 9, code := some k3c2 }
/-- java/lang/Math -/
def k3 : Class := { plain "java/lang/Math" (some 0) with
  accessFlags := 49
  interfaces := #[]
  cf := some (fileOf pool3 1 #[.nestMembers #[98]] #[{ accessFlags := 2, nameIndex := 7, descriptorIndex := 8, attributes := #[] }, { accessFlags := 9, nameIndex := 198, descriptorIndex := 335, attributes := #[] }, { accessFlags := 9, nameIndex := 201, descriptorIndex := 335, attributes := #[] }] 49 4 #[] #[{ accessFlags := 25, nameIndex := 354, descriptorIndex := 339, attributes := #[] }, { accessFlags := 25, nameIndex := 358, descriptorIndex := 339, attributes := #[] }, { accessFlags := 25, nameIndex := 361, descriptorIndex := 339, attributes := #[] }, { accessFlags := 26, nameIndex := 364, descriptorIndex := 339, attributes := #[] }, { accessFlags := 26, nameIndex := 365, descriptorIndex := 339, attributes := #[] }, { accessFlags := 26, nameIndex := 172, descriptorIndex := 173, attributes := #[] }, { accessFlags := 26, nameIndex := 176, descriptorIndex := 173, attributes := #[] }, { accessFlags := 8, nameIndex := 344, descriptorIndex := 339, attributes := #[] }, { accessFlags := 8, nameIndex := 338, descriptorIndex := 339, attributes := #[] }, { accessFlags := 4120, nameIndex := 245, descriptorIndex := 246, attributes := #[] }])
  fields := #[{ name := "E", type := .double, accessFlags := 25, slot := 0, constantValue := 0 }, { name := "PI", type := .double, accessFlags := 25, slot := 1, constantValue := 0 }, { name := "TAU", type := .double, accessFlags := 25, slot := 2, constantValue := 0 }, { name := "DEGREES_TO_RADIANS", type := .double, accessFlags := 26, slot := 3, constantValue := 0 }, { name := "RADIANS_TO_DEGREES", type := .double, accessFlags := 26, slot := 4, constantValue := 0 }, { name := "negativeZeroFloatBits", type := .long, accessFlags := 26, slot := 5, constantValue := 0 }, { name := "negativeZeroDoubleBits", type := .long, accessFlags := 26, slot := 6, constantValue := 0 }, { name := "twoToTheDoubleScaleUp", type := .double, accessFlags := 8, slot := 7, constantValue := 0 }, { name := "twoToTheDoubleScaleDown", type := .double, accessFlags := 8, slot := 8, constantValue := 0 }, { name := "$assertionsDisabled", type := .boolean, accessFlags := 4120, slot := 9, constantValue := 0 }]
  methods := #[k3m0, k3m1, k3m2]
  instanceTypes := #[]
  staticTypes := #[.double, .double, .double, .double, .double, .long, .long, .double, .double, .boolean]
  resolved := Array.replicate 460 none
  statics := none }

def pool4 : Array CpInfo := pool [(2, .class_ 4), (1, u "java/lang/Object"), (0, u "<init>"), (0, u "()V"), (7, .class_ 16), (1, u "java/util/Arrays"), (57, .class_ 76), (1, u "java/util/Arrays$NaturalOrder"), (36, .class_ 115), (1, u "java/util/Arrays$LegacyMergeSort"), (1, u "Z"), (32, .methodref 151 152), (0, .class_ 153), (0, .nameAndType 154 155), (0, u "java/lang/System"), (0, u "arraycopy"), (0, u "(Ljava/lang/Object;ILjava/lang/Object;II)V"), (146, u "copyOf"), (1, .methodref 305 306), (0, .class_ 307), (0, .nameAndType 308 309), (0, u "java/lang/Math"), (0, u "min"), (0, u "(II)I"), (65, .class_ 376), (0, u "java/util/Arrays$ArrayList"), (68, u "$assertionsDisabled"), (269, u "MIN_ARRAY_SORT_GRAN"), (0, u "I"), (2, u "INSERTIONSORT_THRESHOLD"), (149, u "([BI)[B"), (105, .class_ 976), (0, u "java/util/Arrays$ArrayItr")] 52

def k4m0 : Method := { name := "<init>", desc := "()V", sig := { parameters := [], returnType := none }, accessFlags := 2, code := none }
def k4c1 : Code := { maxStack := 6, maxLocals := 3, code := jdk_65_method_121_code, exceptionTable := #[], attributes := #[] }
def k4m1 : Method := { name := "copyOf", desc := "([BI)[B", sig := { parameters := [(.array .byte), .int], returnType := some (.array .byte) }, accessFlags := 9, code := some k4c1 }
/-- java/util/Arrays -/
def k4 : Class := { plain "java/util/Arrays" (some 0) with
  accessFlags := 49
  interfaces := #[]
  cf := some (fileOf pool4 14 #[.nestMembers #[975, 375, 113, 74]] #[{ accessFlags := 2, nameIndex := 5, descriptorIndex := 6, attributes := #[] }, { accessFlags := 9, nameIndex := 302, descriptorIndex := 869, attributes := #[] }] 49 2 #[] #[{ accessFlags := 26, nameIndex := 715, descriptorIndex := 716, attributes := #[] }, { accessFlags := 26, nameIndex := 719, descriptorIndex := 716, attributes := #[] }, { accessFlags := 4120, nameIndex := 445, descriptorIndex := 117, attributes := #[] }])
  fields := #[{ name := "MIN_ARRAY_SORT_GRAN", type := .int, accessFlags := 26, slot := 0, constantValue := 0 }, { name := "INSERTIONSORT_THRESHOLD", type := .int, accessFlags := 26, slot := 1, constantValue := 0 }, { name := "$assertionsDisabled", type := .boolean, accessFlags := 4120, slot := 2, constantValue := 0 }]
  methods := #[k4m0, k4m1]
  instanceTypes := #[]
  staticTypes := #[.int, .int, .boolean]
  resolved := Array.replicate 1029 none
  statics := none }

def pool5 : Array CpInfo := pool [(2, .class_ 4), (1, u "java/lang/Object"), (0, u "<init>"), (0, u "()V"), (1, .class_ 10), (1, u "java/lang/System"), (0, u "allowSecurityManager"), (0, u "I"), (16, u "cons"), (0, u "Ljava/io/Console;"), (77, .class_ 110), (1, u "java/lang/System$CallersHolder"), (43, u "initialErrStream"), (0, u "Ljava/io/PrintStream;"), (19, u "security"), (0, u "Ljava/lang/SecurityManager;"), (31, .class_ 209), (0, u "java/lang/System$1"), (7, u "props"), (0, u "Ljava/util/Properties;"), (2, u "lineSeparator"), (0, u "Ljava/lang/String;"), (96, .class_ 321), (1, u "java/lang/System$LoggerFinder"), (5, .class_ 328), (0, u "java/lang/System$Logger"), (67, u "err"), (2, u "out"), (91, u "notSupportedJnuEncoding"), (15, u "in"), (17, u "initialIn"), (0, u "Ljava/io/InputStream;"), (35, u "bootLayer"), (0, u "Ljava/lang/ModuleLayer;"), (99, .class_ 664), (0, u "java/lang/System$2"), (9, u "NEVER"), (2, u "MAYBE"), (49, u "arraycopy"), (0, u "(Ljava/lang/Object;ILjava/lang/Object;II)V"), (72, .class_ 802), (0, u "java/lang/System$Logger$Level")] 31

def k5m0 : Method := { name := "<init>", desc := "()V", sig := { parameters := [], returnType := none }, accessFlags := 2, code := none }
def k5m1 : Method := { name := "arraycopy", desc := "(Ljava/lang/Object;ILjava/lang/Object;II)V", sig := { parameters := [(.object "java/lang/Object"), .int, (.object "java/lang/Object"), .int, .int], returnType := none }, accessFlags := 265, code := none }
/-- java/lang/System -/
def k5 : Class := { plain "java/lang/System" (some 0) with
  accessFlags := 49
  interfaces := #[]
  cf := some (fileOf pool5 8 #[.nestMembers #[319, 327, 801, 108, 663, 208]] #[{ accessFlags := 2, nameIndex := 5, descriptorIndex := 6, attributes := #[] }, { accessFlags := 265, nameIndex := 727, descriptorIndex := 728, attributes := #[] }] 49 2 #[] #[{ accessFlags := 25, nameIndex := 507, descriptorIndex := 526, attributes := #[] }, { accessFlags := 25, nameIndex := 399, descriptorIndex := 155, attributes := #[] }, { accessFlags := 25, nameIndex := 396, descriptorIndex := 155, attributes := #[] }, { accessFlags := 10, nameIndex := 525, descriptorIndex := 526, attributes := #[] }, { accessFlags := 26, nameIndex := 674, descriptorIndex := 12, attributes := #[] }, { accessFlags := 26, nameIndex := 677, descriptorIndex := 12, attributes := #[] }, { accessFlags := 10, nameIndex := 11, descriptorIndex := 12, attributes := #[] }, { accessFlags := 74, nameIndex := 175, descriptorIndex := 176, attributes := #[] }, { accessFlags := 10, nameIndex := 491, descriptorIndex := 222, attributes := #[] }, { accessFlags := 74, nameIndex := 29, descriptorIndex := 30, attributes := #[] }, { accessFlags := 74, nameIndex := 154, descriptorIndex := 155, attributes := #[] }, { accessFlags := 10, nameIndex := 217, descriptorIndex := 218, attributes := #[] }, { accessFlags := 10, nameIndex := 221, descriptorIndex := 222, attributes := #[] }, { accessFlags := 8, nameIndex := 562, descriptorIndex := 563, attributes := #[] }])
  fields := #[{ name := "in", type := (.object "java/io/InputStream"), accessFlags := 25, slot := 0, constantValue := 0 }, { name := "out", type := (.object "java/io/PrintStream"), accessFlags := 25, slot := 1, constantValue := 0 }, { name := "err", type := (.object "java/io/PrintStream"), accessFlags := 25, slot := 2, constantValue := 0 }, { name := "initialIn", type := (.object "java/io/InputStream"), accessFlags := 10, slot := 3, constantValue := 0 }, { name := "NEVER", type := .int, accessFlags := 26, slot := 4, constantValue := 0 }, { name := "MAYBE", type := .int, accessFlags := 26, slot := 5, constantValue := 0 }, { name := "allowSecurityManager", type := .int, accessFlags := 10, slot := 6, constantValue := 0 }, { name := "security", type := (.object "java/lang/SecurityManager"), accessFlags := 74, slot := 7, constantValue := 0 }, { name := "notSupportedJnuEncoding", type := (.object "java/lang/String"), accessFlags := 10, slot := 8, constantValue := 0 }, { name := "cons", type := (.object "java/io/Console"), accessFlags := 74, slot := 9, constantValue := 0 }, { name := "initialErrStream", type := (.object "java/io/PrintStream"), accessFlags := 74, slot := 10, constantValue := 0 }, { name := "props", type := (.object "java/util/Properties"), accessFlags := 10, slot := 11, constantValue := 0 }, { name := "lineSeparator", type := (.object "java/lang/String"), accessFlags := 10, slot := 12, constantValue := 0 }, { name := "bootLayer", type := (.object "java/lang/ModuleLayer"), accessFlags := 8, slot := 13, constantValue := 0 }]
  methods := #[k5m0, k5m1]
  instanceTypes := #[]
  staticTypes := #[(.object "java/io/InputStream"), (.object "java/io/PrintStream"), (.object "java/io/PrintStream"), (.object "java/io/InputStream"), .int, .int, .int, (.object "java/lang/SecurityManager"), (.object "java/lang/String"), (.object "java/io/Console"), (.object "java/io/PrintStream"), (.object "java/util/Properties"), (.object "java/lang/String"), (.object "java/lang/ModuleLayer")]
  resolved := Array.replicate 834 none
  statics := none }

def pool6 : Array CpInfo := pool [(1, u "java/lang/Cloneable"), (0, .class_ 1), (0, u "java/lang/Object"), (0, .class_ 3)] 3

/-- java/lang/Cloneable -/
def k6 : Class := { plain "java/lang/Cloneable" (some 0) with
  accessFlags := 1537
  interfaces := #[]
  cf := some (fileOf pool6 2 #[] #[] 1537 4 #[] #[])
  fields := #[]
  methods := #[]
  instanceTypes := #[]
  staticTypes := #[]
  resolved := Array.replicate 8 none
  statics := none }

def pool7 : Array CpInfo := pool [(1, u "java/io/Serializable"), (0, .class_ 1), (0, u "java/lang/Object"), (0, .class_ 3)] 3

/-- java/io/Serializable -/
def k7 : Class := { plain "java/io/Serializable" (some 0) with
  accessFlags := 1537
  interfaces := #[]
  cf := some (fileOf pool7 2 #[] #[] 1537 4 #[] #[])
  fields := #[]
  methods := #[]
  instanceTypes := #[]
  staticTypes := #[]
  resolved := Array.replicate 8 none
  statics := none }

/-- the primitive byte -/
def k8 : Class := { plain "byte" none with kind := .primitive 'B', accessFlags := 0x411 }
/-- [B -/
def k9 : Class := { plain "[B" (some 0) with kind := .array 8 .byte, interfaces := #[6, 7], accessFlags := 1041 }

/-- the primitive int -/
def k10 : Class := { plain "int" none with kind := .primitive 'I', accessFlags := 0x411 }
/-- [I -/
def k11 : Class := { plain "[I" (some 0) with kind := .array 10 .int, interfaces := #[6, 7], accessFlags := 1041 }

def heap : Heap := #[]
def classes : Array Class := #[k0, k1, k2, k3, k4, k5, k6, k7, k8, k9, k10, k11]
def interned : List (Array UInt16 × Addr) := []
def slotsUsed : Nat := 0
def theMethod : MethodId := ⟨1, 1⟩
def args0 : Array Value := #[.long 300, .long 7, .int 900]
def aboutOver (below : List Frame) : State where
  vm := { classes := classes, interned := interned.toArray }
  heap := heap
  slotsUsed := slotsUsed
  threads := #[{ frames := .invoking theMethod args0 :: below }]
def below0 : List Frame := [.native { method := ⟨0, 0⟩, args := #[] }]
def about1 : State := aboutOver below0
def p0 : Program := .bare "" "" ""
def e0 : Env := launch0.env 0 0 0
theorem w_frames : about1.frames = Frame.invoking theMethod args0 :: below0 := rfl
set_option maxRecDepth 65536 in
theorem w_args : argsFit about1.vm theMethod args0 = true := by decide +kernel
set_option maxRecDepth 65536 in
theorem w_heap : heapFits about1 = true := by decide +kernel
set_option maxRecDepth 65536 in
theorem w_runnable : about1.curStatus? = some .runnable := by decide +kernel
set_option maxRecDepth 65536 in
theorem w_alone : about1.alone = true := by decide +kernel
set_option maxRecDepth 65536 in
theorem w_named : about1.methodNamed? x = some theMethod := by decide +kernel
set_option maxRecDepth 65536 in
theorem w_hears : about1.hears theMethod below0 = true := by decide +kernel
set_option maxRecDepth 65536 in
theorem w_ripe : about1.ripe theMethod args0 below0 = true := by decide +kernel
theorem w_running : about1.status = .running := rfl
set_option maxRecDepth 65536 in
theorem w_room : about1.hasRoom e0.platform room_1 = true :=
  launch0.hasRoom_least _ room_1 (by decide +kernel) (by decide +kernel) (by decide +kernel) (by decide +kernel) (by decide +kernel) (by decide +kernel)
theorem allAtoms_all (ts : List Jvm.Cond) (a : Array Jvm.Value) (st : Jvm.State) : (allAtoms ts).before a st = ts.all (fun c => c.before a st) := by
  induction ts with
  | nil => rfl
  | cons c t ih =>
    show (Jvm.Cond.and c (allAtoms t)).before a st = _
    rw [Jvm.Cond.before_and, ih, List.all_cons]
def words1 : List Jvm.Cond := Jvm.Cond.code x code maxLocals ret :: tables_1
/-- a 'code' word, met by the world's own term for the bytes: nothing is compared byte by byte -/
theorem code_word {y : MethodName} {bytes : ByteArray} {mx : Nat} {rt : Option FieldType} {a : Array Value} {s : State} {m : MethodId} {meth : Method} {c : Code} (h1 : s.methodNamed? y = some m) (h2 : s.vm.method? m = some meth) (h3 : meth.code = some c) (h4 : c.code = bytes)
    (h5 : (c.maxLocals == mx && c.exceptionTable.isEmpty && decide (c.maxStack ≤ mostOperands) && decide (meth.sig.returnType = rt) && !meth.locks && decide (parseMethodDescriptor y.desc = some meth.sig)) = true) : (Jvm.Cond.code y bytes mx rt).before a s = true := by
  simp only [Bool.and_eq_true, beq_iff_eq, Bool.not_eq_true', decide_eq_true_eq] at h5
  obtain ⟨⟨⟨⟨⟨g1, g2⟩, g3⟩, g4⟩, g5⟩, g6⟩ := h5
  simp [Cond.before, Cond.holds, Cond.value, h1, h2, h3, h4, g1, g2, g3, g4, g5, g6]
def isCode : Jvm.Cond → Bool
  | .code _ _ _ _ => true
  | _ => false
theorem all_split {L : List Jvm.Cond} {P : Jvm.Cond → Bool} (h1 : L.all (fun c => isCode c || P c) = true) (h2 : ∀ c ∈ L.filter isCode, P c = true) : L.all P = true := by
  refine List.all_eq_true.mpr fun c hc => ?_
  have h := List.all_eq_true.mp h1 c hc
  rcases Bool.eq_false_or_eq_true (isCode c) with hi | hi
  · exact h2 c (List.mem_filter.mpr ⟨hc, hi⟩)
  · simpa [hi] using h
set_option maxRecDepth 65536 in
theorem w_c0 : (Jvm.Cond.code x code maxLocals ret).before args0 about1 = true := code_word (m := ⟨1, 1⟩) (meth := k1m1) (c := k1c1) (by decide +kernel) rfl rfl rfl (by decide +kernel)
set_option maxRecDepth 65536 in
theorem w_c1 : (Jvm.Cond.code ({ cls := "com/example/vestledger/vestledger/census/RowBytes", name := "<init>", desc := "()V" } : Jvm.MethodName) prog_23_method_1_code (1 : Nat) (Option.none : Option Jvm.ClassFile.FieldType)).before args0 about1 = true := code_word (m := ⟨2, 0⟩) (meth := k2m0) (c := k2c0) (by decide +kernel) rfl rfl rfl (by decide +kernel)
set_option maxRecDepth 65536 in
theorem w_c2 : (Jvm.Cond.code ({ cls := "java/lang/Object", name := "<init>", desc := "()V" } : Jvm.MethodName) object_method_1_code (1 : Nat) (Option.none : Option Jvm.ClassFile.FieldType)).before args0 about1 = true := code_word (m := ⟨0, 0⟩) (meth := k0m0) (c := k0c0) (by decide +kernel) rfl rfl rfl (by decide +kernel)
set_option maxRecDepth 65536 in
theorem w_c3 : (Jvm.Cond.code ({ cls := "com/example/vestledger/vestledger/census/RowBytes", name := "writeNumber", desc := "(J)V" } : Jvm.MethodName) prog_23_method_7_code (5 : Nat) (Option.none : Option Jvm.ClassFile.FieldType)).before args0 about1 = true := code_word (m := ⟨2, 2⟩) (meth := k2m2) (c := k2c2) (by decide +kernel) rfl rfl rfl (by decide +kernel)
set_option maxRecDepth 65536 in
theorem w_c4 : (Jvm.Cond.code ({ cls := "com/example/vestledger/vestledger/census/RowBytes", name := "makeRoom", desc := "(I)V" } : Jvm.MethodName) prog_23_method_17_code (4 : Nat) (Option.none : Option Jvm.ClassFile.FieldType)).before args0 about1 = true := code_word (m := ⟨2, 5⟩) (meth := k2m5) (c := k2c5) (by decide +kernel) rfl rfl rfl (by decide +kernel)
set_option maxRecDepth 65536 in
theorem w_c5 : (Jvm.Cond.code ({ cls := "java/lang/Math", name := "max", desc := "(II)I" } : Jvm.MethodName) jdk_29_method_65_code (2 : Nat) (Option.some Jvm.ClassFile.FieldType.int)).before args0 about1 = true := code_word (m := ⟨3, 1⟩) (meth := k3m1) (c := k3c1) (by decide +kernel) rfl rfl rfl (by decide +kernel)
set_option maxRecDepth 65536 in
theorem w_c6 : (Jvm.Cond.code ({ cls := "java/util/Arrays", name := "copyOf", desc := "([BI)[B" } : Jvm.MethodName) jdk_65_method_121_code (3 : Nat) (Option.some (Jvm.ClassFile.FieldType.array Jvm.ClassFile.FieldType.byte))).before args0 about1 = true := code_word (m := ⟨4, 1⟩) (meth := k4m1) (c := k4c1) (by decide +kernel) rfl rfl rfl (by decide +kernel)
set_option maxRecDepth 65536 in
theorem w_c7 : (Jvm.Cond.code ({ cls := "java/lang/Math", name := "min", desc := "(II)I" } : Jvm.MethodName) jdk_29_method_69_code (2 : Nat) (Option.some Jvm.ClassFile.FieldType.int)).before args0 about1 = true := code_word (m := ⟨3, 2⟩) (meth := k3m2) (c := k3c2) (by decide +kernel) rfl rfl rfl (by decide +kernel)
set_option maxRecDepth 65536 in
theorem w_c8 : (Jvm.Cond.code ({ cls := "com/example/vestledger/vestledger/census/RowBytes", name := "writeByte", desc := "(B)V" } : Jvm.MethodName) prog_23_method_10_code (2 : Nat) (Option.none : Option Jvm.ClassFile.FieldType)).before args0 about1 = true := code_word (m := ⟨2, 3⟩) (meth := k2m3) (c := k2c3) (by decide +kernel) rfl rfl rfl (by decide +kernel)
set_option maxRecDepth 65536 in
theorem w_c9 : (Jvm.Cond.code ({ cls := "com/example/vestledger/vestledger/census/RowBytes", name := "readNumber", desc := "()J" } : Jvm.MethodName) prog_23_method_13_code (5 : Nat) (Option.some Jvm.ClassFile.FieldType.long)).before args0 about1 = true := code_word (m := ⟨2, 4⟩) (meth := k2m4) (c := k2c4) (by decide +kernel) rfl rfl rfl (by decide +kernel)
set_option maxRecDepth 65536 in
theorem w_c10 : (Jvm.Cond.code ({ cls := "com/example/vestledger/vestledger/census/RowBytes", name := "hasMore", desc := "()Z" } : Jvm.MethodName) prog_23_method_5_code (1 : Nat) (Option.some Jvm.ClassFile.FieldType.boolean)).before args0 about1 = true := code_word (m := ⟨2, 1⟩) (meth := k2m1) (c := k2c1) (by decide +kernel) rfl rfl rfl (by decide +kernel)
def codes1 : List Jvm.Cond := [Jvm.Cond.code x code maxLocals ret, Jvm.Cond.code ({ cls := "com/example/vestledger/vestledger/census/RowBytes", name := "<init>", desc := "()V" } : Jvm.MethodName) prog_23_method_1_code (1 : Nat) (Option.none : Option Jvm.ClassFile.FieldType), Jvm.Cond.code ({ cls := "java/lang/Object", name := "<init>", desc := "()V" } : Jvm.MethodName) object_method_1_code (1 : Nat) (Option.none : Option Jvm.ClassFile.FieldType), Jvm.Cond.code ({ cls := "com/example/vestledger/vestledger/census/RowBytes", name := "writeNumber", desc := "(J)V" } : Jvm.MethodName) prog_23_method_7_code (5 : Nat) (Option.none : Option Jvm.ClassFile.FieldType), Jvm.Cond.code ({ cls := "com/example/vestledger/vestledger/census/RowBytes", name := "makeRoom", desc := "(I)V" } : Jvm.MethodName) prog_23_method_17_code (4 : Nat) (Option.none : Option Jvm.ClassFile.FieldType), Jvm.Cond.code ({ cls := "java/lang/Math", name := "max", desc := "(II)I" } : Jvm.MethodName) jdk_29_method_65_code (2 : Nat) (Option.some Jvm.ClassFile.FieldType.int), Jvm.Cond.code ({ cls := "java/util/Arrays", name := "copyOf", desc := "([BI)[B" } : Jvm.MethodName) jdk_65_method_121_code (3 : Nat) (Option.some (Jvm.ClassFile.FieldType.array Jvm.ClassFile.FieldType.byte)), Jvm.Cond.code ({ cls := "java/lang/Math", name := "min", desc := "(II)I" } : Jvm.MethodName) jdk_29_method_69_code (2 : Nat) (Option.some Jvm.ClassFile.FieldType.int), Jvm.Cond.code ({ cls := "com/example/vestledger/vestledger/census/RowBytes", name := "writeByte", desc := "(B)V" } : Jvm.MethodName) prog_23_method_10_code (2 : Nat) (Option.none : Option Jvm.ClassFile.FieldType), Jvm.Cond.code ({ cls := "com/example/vestledger/vestledger/census/RowBytes", name := "readNumber", desc := "()J" } : Jvm.MethodName) prog_23_method_13_code (5 : Nat) (Option.some Jvm.ClassFile.FieldType.long), Jvm.Cond.code ({ cls := "com/example/vestledger/vestledger/census/RowBytes", name := "hasMore", desc := "()Z" } : Jvm.MethodName) prog_23_method_5_code (1 : Nat) (Option.some Jvm.ClassFile.FieldType.boolean)]
set_option maxRecDepth 65536 in
theorem codes_eq : words1.filter isCode = codes1 := rfl
theorem w_codes : ∀ c ∈ words1.filter isCode, c.before args0 about1 = true := by
  rw [codes_eq]
  intro c hc
  simp only [codes1, List.mem_cons, List.not_mem_nil, or_false] at hc
  rcases hc with rfl | rfl | rfl | rfl | rfl | rfl | rfl | rfl | rfl | rfl | rfl
  · exact w_c0
  · exact w_c1
  · exact w_c2
  · exact w_c3
  · exact w_c4
  · exact w_c5
  · exact w_c6
  · exact w_c7
  · exact w_c8
  · exact w_c9
  · exact w_c10
set_option maxRecDepth 65536 in
theorem w_t1 : (words1.take 24).all (fun c => isCode c || c.before args0 about1) = true := by decide +kernel
set_option maxRecDepth 65536 in
theorem w_t2 : ((words1.drop 24).take 24).all (fun c => isCode c || c.before args0 about1) = true := by decide +kernel
set_option maxRecDepth 65536 in
theorem w_t3 : ((words1.drop 24).drop 24).all (fun c => isCode c || c.before args0 about1) = true := by decide +kernel
theorem w_tables : (allAtoms (Jvm.Cond.code x code maxLocals ret :: tables_1)).before args0 about1 = true := by
  rw [allAtoms_all]
  show words1.all (fun c => c.before args0 about1) = true
  refine all_split ?_ w_codes
  rw [← List.take_append_drop 24 words1, List.all_append, w_t1, ← List.take_append_drop 24 (words1.drop 24), List.all_append, w_t2, w_t3]
  rfl
set_option maxRecDepth 65536 in
theorem w_case : (Jvm.Cond.and given_1 narrow_1).before args0 about1 = true := by decide +kernel
theorem w_applies : (headSpec (Jvm.Cond.code x code maxLocals ret :: tables_1) room_1).applies x e0.platform about1 = true :=
  (Spec.applies_iff w_frames).mpr ⟨w_running, w_runnable, w_alone, w_named, w_hears, w_ripe, w_room, w_tables⟩
theorem atStart : AtStart classFile x code maxLocals ret World_1 tables_1 room_1 Calls_1 rest_1 Pre_1 launch0 p0 e0 about1 theMethod args0 below0 :=
  ⟨lists_1, trivial, launch0.admits_env _ _ _, launch0.least_env, fairChoices_fair.cas, fairChoices_fair.clock, w_frames, w_args, w_heap, w_applies, trivial, trivial, w_case⟩
end start1
theorem witness_1 : WitnessClaimed_1 := ⟨start1.p0, start1.e0, start1.about1, start1.theMethod, start1.args0, start1.below0, start1.atStart⟩
end Jvm.Pilot.@@N@@
