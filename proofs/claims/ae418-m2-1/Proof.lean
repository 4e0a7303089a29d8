import JvmDerived
import JvmDerived.Pilot.@@N@@Statement
import JvmDerived.Pilot.@@N@@Code
set_option linter.unusedVariables false
set_option linter.unusedSimpArgs false
namespace Jvm.OwnKit
open Sem ClassFile Op Lib Jvm.Stand Jvm.Free Jvm.LawKit Jvm.RoadKit
/-! The walk told forwards: 'Go .. pc Ls st h cells slots' says that the run of a body has come to pc with these locals, this stack and this heap. One theorem an instruction carries it on. -/
abbrev W : Type := Program × Env × State × MethodId × Array Value × List Frame × Method × Code × State
abbrev W.p (w : W) : Program := w.1
abbrev W.e (w : W) : Env := w.2.1
abbrev W.s (w : W) : State := w.2.2.1
abbrev W.m (w : W) : MethodId := w.2.2.2.1
abbrev W.args (w : W) : Array Value := w.2.2.2.2.1
abbrev W.below (w : W) : List Frame := w.2.2.2.2.2.1
abbrev W.meth (w : W) : Method := w.2.2.2.2.2.2.1
abbrev W.c (w : W) : Code := w.2.2.2.2.2.2.2.1
abbrev W.S0 (w : W) : State := w.2.2.2.2.2.2.2.2
def Sure (w : W) (Z : State) (y : MethodName) (code : ByteArray) (ml : Nat) (ret : Option FieldType) : Prop :=
  w.p.tables.exec = Jvm.exec ∧ Z.Warmed39 w.s.vm ∧ w.s.vm.findClass y.cls = some w.m.cls ∧ w.c.code = code ∧ w.c.maxLocals = ml ∧ w.meth.sig.returnType = ret ∧ w.meth.locks = false ∧ w.meth.name = y.name
def Go (w : W) (l : Launch) (R : Room) (Z : State) (n0 : Nat) (y : MethodName) (code : ByteArray) (ml : Nat) (ret : Option FieldType) (pc : Nat) (Ls : List Slot) (st : List Value) (h : Heap) (cells slots : Nat) : Prop :=
  Sure w Z y code ml ret ∧ ∃ T locs, Stand w.p l w.e R w.s w.m w.args w.below w.meth w.c T locs cells slots ∧ T.heap = h ∧ Fr n0 locs ∧
    ∀ t, Steps w.p.tables w.e w.below (T.setTop (mkF w.m pc Ls.toArray st)) t → Steps w.p.tables w.e w.below w.S0 t
def Fini (w : W) (n0 : Nat) (Q : Option Value → Heap → Prop) (C S : Nat) : Prop :=
  ∃ s₂ o, Steps w.p.tables w.e w.below w.S0 s₂ ∧ s₂.status = .running ∧ Ended s₂ w.below o ∧ ∃ v L, o = .returned v ∧ (Q v s₂.heap ∧ Fr n0 L) ∧ FrameEnd w.s o s₂ L C S
def Met (l : Launch) (Z : State) (y : MethodName) (code : ByteArray) (ml : Nat) (ret : Option FieldType) (rm : Room) (as : List Value) (h0 : Heap) (n0 : Nat) (Q : Option Value → Heap → Prop) : Prop :=
  ∀ ws, MetFree l y (head1 (Cond.code y code ml ret :: ws) rm) (fun a U => a = as.toArray ∧ Z.Warmed39 U.vm ∧ U.heap = h0) (fun _ _ _ _ _ => True) (fun _ U o U' => ∃ v L, o = .returned v ∧ (Q v U'.heap ∧ Fr n0 L) ∧ FrameEnd U o U' L rm.cells rm.slots)
def Ret (Q : Value → Heap → Prop) : Option Value → Heap → Prop := fun v h => ∃ u, v = some u ∧ Q u h
def Ret0 (Q : Heap → Prop) : Option Value → Heap → Prop := fun v h => v = none ∧ Q h
section Walk
variable {w : W} {l : Launch} {R : Room} {Z : State} {n0 : Nat} {y : MethodName} {code : ByteArray} {ml : Nat} {ret : Option FieldType} {pc : Nat} {Ls : List Slot} {st : List Value} {h : Heap} {cells slots : Nat}
theorem Met.intro {rm : Room} {as : List Value} {Q : Option Value → Heap → Prop} (hp : plainFor y = true) (hf : ∀ m, entryFrame m as.toArray ml = mkF m 0 Ls.toArray [])
    (body : ∀ w : W, Go w l rm Z n0 y code ml ret 0 Ls [] h 0 0 → Fini w n0 Q rm.cells rm.slots) : Met l Z y code ml ret rm as h n0 Q := by
  intro ws
  refine MetFree.of_bodySF hp hisR ?_
  intro p e s m args below meth c s₁ Bd hml0 hP hK
  obtain ⟨rfl, hZ, hh⟩ := hP
  have hown : s.vm.findClass y.cls = some m.cls := findClass_of_methodNamed Bd.named
  have hnm := (name_of_methodNamed Bd.named Bd.method).1
  have X0 : Stand p l e rm s m as.toArray below meth c s₁ [] 0 0 := Stand.of_body Bd
  have e0 : s₁.heap = h := by rw [← hh, Bd.state]; rfl
  exact body (p, e, s, m, as.toArray, below, meth, c, s₁.setTop (entryFrame m as.toArray ml)) ⟨⟨Bd.exec, hZ, hown, Bd.bytes, hml0, Bd.returns, BodyLoose.notSynchronized Bd, hnm⟩, s₁, [], X0, e0, Fr.nil n0, fun t k => castTop (hf m) k⟩
theorem Go.more (r : Go w l R Z n0 y code ml ret pc Ls st h cells slots) {cells' slots' : Nat} (h1 : cells ≤ cells') (h2 : slots ≤ slots') : Go w l R Z n0 y code ml ret pc Ls st h cells' slots' := by
  obtain ⟨S, T, locs, X, e, N, k⟩ := r
  exact ⟨S, T, locs, X.more h1 h2, e, N, k⟩
/-- one step that leaves the heap -/
theorem Go.step (r : Go w l R Z n0 y code ml ret pc Ls st h cells slots) {pc' : Nat} {Ls' : List Slot} {st' : List Value}
    (f : ∀ T t, At T w.m w.c w.below → w.p.tables.exec = Jvm.exec → w.c.code = code → Steps w.p.tables w.e w.below (T.setTop (mkF w.m pc' Ls'.toArray st')) t → Steps w.p.tables w.e w.below (T.setTop (mkF w.m pc Ls.toArray st)) t) :
    Go w l R Z n0 y code ml ret pc' Ls' st' h cells slots := by
  obtain ⟨S, T, locs, X, e, N, k⟩ := r
  exact ⟨S, T, locs, X, e, N, fun t q => k t (f T t X.here S.1 S.2.2.2.1 q)⟩
def oneB : Slot → Bool
  | .unset => true
  | .val v => v.category == 1
  | .second => false
theorem One.of {o : Slot} (h : oneB o = true) : One o := by
  cases o with
  | unset => exact One.u
  | val v => exact One.val (by simpa [oneB] using h)
  | second => cases h
theorem Go.iconst {i : Int} (r : Go w l R Z n0 y code ml ret pc Ls st h cells slots) (pc' : Nat) (hd : decode code pc = .ok (.iconst i, 1)) (hp : pc + 1 = pc') : Go w l R Z n0 y code ml ret pc' Ls (.int (Int32.ofInt i) :: st) h cells slots := by
  subst hp; exact r.step fun T t a x b k => XS.iconst a x rfl (hb b hd) k
theorem Go.bipush {i : Int} (r : Go w l R Z n0 y code ml ret pc Ls st h cells slots) (pc' : Nat) (hd : decode code pc = .ok (.bipush i, 2)) (hp : pc + 2 = pc') : Go w l R Z n0 y code ml ret pc' Ls (.int (Int8.ofInt i).toInt32 :: st) h cells slots := by
  subst hp; exact r.step fun T t a x b k => XS.bipush a x rfl (hb b hd) k
theorem Go.sipush {i : Int} (r : Go w l R Z n0 y code ml ret pc Ls st h cells slots) (pc' : Nat) (hd : decode code pc = .ok (.sipush i, 3)) (hp : pc + 3 = pc') : Go w l R Z n0 y code ml ret pc' Ls (.int (Int16.ofInt i).toInt32 :: st) h cells slots := by
  subst hp; exact r.step fun T t a x b k => XS.sipush a x rfl (hb b hd) k
theorem Go.iconstV {i : Int} (r : Go w l R Z n0 y code ml ret pc Ls st h cells slots) (pc' : Nat) (hd : decode code pc = .ok (.iconst i, 1)) (hp : pc + 1 = pc') (v : Int32) (hv : Int32.ofInt i = v) : Go w l R Z n0 y code ml ret pc' Ls (.int v :: st) h cells slots := by
  subst hp; exact r.step fun T t a x b k => XS.iconst a x rfl (hb b hd) (by rw [hv]; exact k)
theorem Go.bipushV {i : Int} (r : Go w l R Z n0 y code ml ret pc Ls st h cells slots) (pc' : Nat) (hd : decode code pc = .ok (.bipush i, 2)) (hp : pc + 2 = pc') (v : Int32) (hv : (Int8.ofInt i).toInt32 = v) : Go w l R Z n0 y code ml ret pc' Ls (.int v :: st) h cells slots := by
  subst hp; exact r.step fun T t a x b k => XS.bipush a x rfl (hb b hd) (by rw [hv]; exact k)
theorem Go.sipushV {i : Int} (r : Go w l R Z n0 y code ml ret pc Ls st h cells slots) (pc' : Nat) (hd : decode code pc = .ok (.sipush i, 3)) (hp : pc + 3 = pc') (v : Int32) (hv : (Int16.ofInt i).toInt32 = v) : Go w l R Z n0 y code ml ret pc' Ls (.int v :: st) h cells slots := by
  subst hp; exact r.step fun T t a x b k => XS.sipush a x rfl (hb b hd) (by rw [hv]; exact k)
theorem Go.lconstV {i : Fin 2} (r : Go w l R Z n0 y code ml ret pc Ls st h cells slots) (pc' : Nat) (hd : decode code pc = .ok (.lconst i, 1)) (hp : pc + 1 = pc') (v : Int64) (hv : Int64.ofNat i = v) : Go w l R Z n0 y code ml ret pc' Ls (.long v :: st) h cells slots := by
  subst hp; exact r.step fun T t a x b k => XS.lconst a x rfl (hb b hd) (by rw [hv]; exact k)
theorem Go.iadd {u v : Int32} (r : Go w l R Z n0 y code ml ret pc Ls (.int v :: .int u :: st) h cells slots) (pc' : Nat) (hd : decode code pc = .ok (.iadd, 1)) (hp : pc + 1 = pc') : Go w l R Z n0 y code ml ret pc' Ls (.int (u + v) :: st) h cells slots := by
  subst hp; exact r.step fun T t a x b k => XS.iadd a x rfl (hb b hd) rfl k
theorem Go.isub {u v : Int32} (r : Go w l R Z n0 y code ml ret pc Ls (.int v :: .int u :: st) h cells slots) (pc' : Nat) (hd : decode code pc = .ok (.isub, 1)) (hp : pc + 1 = pc') : Go w l R Z n0 y code ml ret pc' Ls (.int (u - v) :: st) h cells slots := by
  subst hp; exact r.step fun T t a x b k => XS.isub a x rfl (hb b hd) rfl k
theorem Go.imul {u v : Int32} (r : Go w l R Z n0 y code ml ret pc Ls (.int v :: .int u :: st) h cells slots) (pc' : Nat) (hd : decode code pc = .ok (.imul, 1)) (hp : pc + 1 = pc') : Go w l R Z n0 y code ml ret pc' Ls (.int (u * v) :: st) h cells slots := by
  subst hp; exact r.step fun T t a x b k => XS.imul a x rfl (hb b hd) rfl k
theorem Go.iand {u v : Int32} (r : Go w l R Z n0 y code ml ret pc Ls (.int v :: .int u :: st) h cells slots) (pc' : Nat) (hd : decode code pc = .ok (.iand, 1)) (hp : pc + 1 = pc') : Go w l R Z n0 y code ml ret pc' Ls (.int (u &&& v) :: st) h cells slots := by
  subst hp; exact r.step fun T t a x b k => XS.iand a x rfl (hb b hd) rfl k
theorem Go.ior {u v : Int32} (r : Go w l R Z n0 y code ml ret pc Ls (.int v :: .int u :: st) h cells slots) (pc' : Nat) (hd : decode code pc = .ok (.ior, 1)) (hp : pc + 1 = pc') : Go w l R Z n0 y code ml ret pc' Ls (.int (u ||| v) :: st) h cells slots := by
  subst hp; exact r.step fun T t a x b k => XS.ior a x rfl (hb b hd) rfl k
theorem Go.ixor {u v : Int32} (r : Go w l R Z n0 y code ml ret pc Ls (.int v :: .int u :: st) h cells slots) (pc' : Nat) (hd : decode code pc = .ok (.ixor, 1)) (hp : pc + 1 = pc') : Go w l R Z n0 y code ml ret pc' Ls (.int (u ^^^ v) :: st) h cells slots := by
  subst hp; exact r.step fun T t a x b k => XS.ixor a x rfl (hb b hd) rfl k
theorem Go.ladd {u v : Int64} (r : Go w l R Z n0 y code ml ret pc Ls (.long v :: .long u :: st) h cells slots) (pc' : Nat) (hd : decode code pc = .ok (.ladd, 1)) (hp : pc + 1 = pc') : Go w l R Z n0 y code ml ret pc' Ls (.long (u + v) :: st) h cells slots := by
  subst hp; exact r.step fun T t a x b k => XS.ladd a x rfl (hb b hd) rfl k
theorem Go.lsub {u v : Int64} (r : Go w l R Z n0 y code ml ret pc Ls (.long v :: .long u :: st) h cells slots) (pc' : Nat) (hd : decode code pc = .ok (.lsub, 1)) (hp : pc + 1 = pc') : Go w l R Z n0 y code ml ret pc' Ls (.long (u - v) :: st) h cells slots := by
  subst hp; exact r.step fun T t a x b k => XS.lsub a x rfl (hb b hd) rfl k
theorem Go.lmul {u v : Int64} (r : Go w l R Z n0 y code ml ret pc Ls (.long v :: .long u :: st) h cells slots) (pc' : Nat) (hd : decode code pc = .ok (.lmul, 1)) (hp : pc + 1 = pc') : Go w l R Z n0 y code ml ret pc' Ls (.long (u * v) :: st) h cells slots := by
  subst hp; exact r.step fun T t a x b k => XS.lmul a x rfl (hb b hd) rfl k
theorem Go.land {u v : Int64} (r : Go w l R Z n0 y code ml ret pc Ls (.long v :: .long u :: st) h cells slots) (pc' : Nat) (hd : decode code pc = .ok (.land, 1)) (hp : pc + 1 = pc') : Go w l R Z n0 y code ml ret pc' Ls (.long (u &&& v) :: st) h cells slots := by
  subst hp; exact r.step fun T t a x b k => XS.land a x rfl (hb b hd) rfl k
theorem Go.lor {u v : Int64} (r : Go w l R Z n0 y code ml ret pc Ls (.long v :: .long u :: st) h cells slots) (pc' : Nat) (hd : decode code pc = .ok (.lor, 1)) (hp : pc + 1 = pc') : Go w l R Z n0 y code ml ret pc' Ls (.long (u ||| v) :: st) h cells slots := by
  subst hp; exact r.step fun T t a x b k => XS.lor a x rfl (hb b hd) rfl k
theorem Go.lxor {u v : Int64} (r : Go w l R Z n0 y code ml ret pc Ls (.long v :: .long u :: st) h cells slots) (pc' : Nat) (hd : decode code pc = .ok (.lxor, 1)) (hp : pc + 1 = pc') : Go w l R Z n0 y code ml ret pc' Ls (.long (u ^^^ v) :: st) h cells slots := by
  subst hp; exact r.step fun T t a x b k => XS.lxor a x rfl (hb b hd) rfl k
theorem Go.idiv {u v : Int32} (r : Go w l R Z n0 y code ml ret pc Ls (.int v :: .int u :: st) h cells slots) (pc' : Nat) (hd : decode code pc = .ok (.idiv, 1)) (hp : pc + 1 = pc') (hv : v ≠ 0) : Go w l R Z n0 y code ml ret pc' Ls (.int (u / v) :: st) h cells slots := by
  subst hp; exact r.step fun T t a x b k => XS.idiv a x rfl (hb b hd) rfl hv k
theorem Go.irem {u v : Int32} (r : Go w l R Z n0 y code ml ret pc Ls (.int v :: .int u :: st) h cells slots) (pc' : Nat) (hd : decode code pc = .ok (.irem, 1)) (hp : pc + 1 = pc') (hv : v ≠ 0) : Go w l R Z n0 y code ml ret pc' Ls (.int (u % v) :: st) h cells slots := by
  subst hp; exact r.step fun T t a x b k => XS.irem a x rfl (hb b hd) rfl hv (by rw [irem_eq_mod]; exact k)
theorem Go.ishl {u v : Int32} (r : Go w l R Z n0 y code ml ret pc Ls (.int v :: .int u :: st) h cells slots) (pc' : Nat) (hd : decode code pc = .ok (.ishl, 1)) (hp : pc + 1 = pc') : Go w l R Z n0 y code ml ret pc' Ls (.int (u <<< (v &&& 31)) :: st) h cells slots := by
  subst hp; exact r.step fun T t a x b k => XS.ishl a x rfl (hb b hd) rfl k
theorem Go.ishr {u v : Int32} (r : Go w l R Z n0 y code ml ret pc Ls (.int v :: .int u :: st) h cells slots) (pc' : Nat) (hd : decode code pc = .ok (.ishr, 1)) (hp : pc + 1 = pc') : Go w l R Z n0 y code ml ret pc' Ls (.int (u >>> (v &&& 31)) :: st) h cells slots := by
  subst hp; exact r.step fun T t a x b k => XS.ishr a x rfl (hb b hd) rfl k
theorem Go.iushr {u v : Int32} (r : Go w l R Z n0 y code ml ret pc Ls (.int v :: .int u :: st) h cells slots) (pc' : Nat) (hd : decode code pc = .ok (.iushr, 1)) (hp : pc + 1 = pc') : Go w l R Z n0 y code ml ret pc' Ls (.int ((u.toUInt32 >>> (v &&& 31).toUInt32).toInt32) :: st) h cells slots := by
  subst hp; exact r.step fun T t a x b k => XS.iushr a x rfl (hb b hd) rfl k
theorem Go.lshl {u : Int64} {v : Int32} (r : Go w l R Z n0 y code ml ret pc Ls (.int v :: .long u :: st) h cells slots) (pc' : Nat) (hd : decode code pc = .ok (.lshl, 1)) (hp : pc + 1 = pc') : Go w l R Z n0 y code ml ret pc' Ls (.long (u <<< (v &&& 0x3f).toInt64) :: st) h cells slots := by
  subst hp; exact r.step fun T t a x b k => XS.lshl a x rfl (hb b hd) rfl k
theorem Go.lshr {u : Int64} {v : Int32} (r : Go w l R Z n0 y code ml ret pc Ls (.int v :: .long u :: st) h cells slots) (pc' : Nat) (hd : decode code pc = .ok (.lshr, 1)) (hp : pc + 1 = pc') : Go w l R Z n0 y code ml ret pc' Ls (.long (u >>> (v &&& 0x3f).toInt64) :: st) h cells slots := by
  subst hp; exact r.step fun T t a x b k => XS.lshr a x rfl (hb b hd) rfl k
theorem Go.lushr {u : Int64} {v : Int32} (r : Go w l R Z n0 y code ml ret pc Ls (.int v :: .long u :: st) h cells slots) (pc' : Nat) (hd : decode code pc = .ok (.lushr, 1)) (hp : pc + 1 = pc') : Go w l R Z n0 y code ml ret pc' Ls (.long ((u.toUInt64 >>> (v &&& 0x3f).toInt64.toUInt64).toInt64) :: st) h cells slots := by
  subst hp; exact r.step fun T t a x b k => XS.lushr a x rfl (hb b hd) rfl k
theorem Go.lcmp {u v : Int64} (r : Go w l R Z n0 y code ml ret pc Ls (.long v :: .long u :: st) h cells slots) (pc' : Nat) (hd : decode code pc = .ok (.lcmp, 1)) (hp : pc + 1 = pc') : Go w l R Z n0 y code ml ret pc' Ls (.int (lcmpW u v) :: st) h cells slots := by
  subst hp; exact r.step fun T t a x b k => XS.lcmp a x rfl (hb b hd) rfl k
theorem Go.i2l {u : Int32} (r : Go w l R Z n0 y code ml ret pc Ls (.int u :: st) h cells slots) (pc' : Nat) (hd : decode code pc = .ok (.i2l, 1)) (hp : pc + 1 = pc') : Go w l R Z n0 y code ml ret pc' Ls (.long u.toInt64 :: st) h cells slots := by
  subst hp; exact r.step fun T t a x b k => XS.i2l a x rfl (hb b hd) rfl k
theorem Go.l2i {u : Int64} (r : Go w l R Z n0 y code ml ret pc Ls (.long u :: st) h cells slots) (pc' : Nat) (hd : decode code pc = .ok (.l2i, 1)) (hp : pc + 1 = pc') : Go w l R Z n0 y code ml ret pc' Ls (.int u.toInt32 :: st) h cells slots := by
  subst hp; exact r.step fun T t a x b k => XS.l2i a x rfl (hb b hd) rfl k
theorem Go.i2b {u : Int32} (r : Go w l R Z n0 y code ml ret pc Ls (.int u :: st) h cells slots) (pc' : Nat) (hd : decode code pc = .ok (.i2b, 1)) (hp : pc + 1 = pc') : Go w l R Z n0 y code ml ret pc' Ls (.int u.toInt8.toInt32 :: st) h cells slots := by
  subst hp; exact r.step fun T t a x b k => XS.i2b a x rfl (hb b hd) rfl k
theorem Go.dup {v : Value} (r : Go w l R Z n0 y code ml ret pc Ls (v :: st) h cells slots) (pc' : Nat) (hd : decode code pc = .ok (.dup, 1)) (hp : pc + 1 = pc') (hv : v.category = 1) : Go w l R Z n0 y code ml ret pc' Ls (v :: v :: st) h cells slots := by
  subst hp; exact r.step fun T t a x b k => XS.dup a x rfl (hb b hd) rfl hv k
theorem Go.pop {v : Value} (r : Go w l R Z n0 y code ml ret pc Ls (v :: st) h cells slots) (pc' : Nat) (hd : decode code pc = .ok (.pop, 1)) (hp : pc + 1 = pc') (hv : v.category = 1) : Go w l R Z n0 y code ml ret pc' Ls st h cells slots := by
  subst hp; exact r.step fun T t a x b k => XS.pop a x rfl (hb b hd) rfl hv k
theorem Go.dupX1 {u v : Value} (r : Go w l R Z n0 y code ml ret pc Ls (v :: u :: st) h cells slots) (pc' : Nat) (hd : decode code pc = .ok (.dup_x1, 1)) (hp : pc + 1 = pc') (hv : v.category = 1) (hu : u.category = 1) : Go w l R Z n0 y code ml ret pc' Ls (v :: u :: v :: st) h cells slots := by
  subst hp; exact r.step fun T t a x b k => XS.dupX1 a x rfl (hb b hd) rfl hv hu k
theorem Go.dup2 {u v : Value} (r : Go w l R Z n0 y code ml ret pc Ls (v :: u :: st) h cells slots) (pc' : Nat) (hd : decode code pc = .ok (.dup2, 1)) (hp : pc + 1 = pc') (hv : v.category = 1) (hu : u.category = 1) : Go w l R Z n0 y code ml ret pc' Ls (v :: u :: v :: u :: st) h cells slots := by
  subst hp; exact r.step fun T t a x b k => XT.dup2 a x rfl (hb b hd) rfl hv hu k
theorem Go.iloadG {v : Int32} {k : Nat} (r : Go w l R Z n0 y code ml ret pc Ls st h cells slots) (pc' : Nat) (hd : decode code pc = .ok (.iload k, 2)) (hp : pc + 2 = pc') (hl : Ls[k]? = some (.val (.int v))) : Go w l R Z n0 y code ml ret pc' Ls ((.int v) :: st) h cells slots := by
  subst hp; exact r.step fun T t a x b k => XS.iload a x rfl (hb b hd) (show Ls.toArray[_]? = _ by rw [List.getElem?_toArray]; exact hl) k
theorem Go.iloadNG {v : Int32} {k : Fin 4} (r : Go w l R Z n0 y code ml ret pc Ls st h cells slots) (pc' : Nat) (hd : decode code pc = .ok (.iload_n k, 1)) (hp : pc + 1 = pc') (hl : Ls[k.val]? = some (.val (.int v))) : Go w l R Z n0 y code ml ret pc' Ls ((.int v) :: st) h cells slots := by
  subst hp; exact r.step fun T t a x b k => XS.iloadN a x rfl (hb b hd) (show Ls.toArray[_]? = _ by rw [List.getElem?_toArray]; exact hl) k
theorem Go.lloadG {v : Int64} {k : Nat} (r : Go w l R Z n0 y code ml ret pc Ls st h cells slots) (pc' : Nat) (hd : decode code pc = .ok (.lload k, 2)) (hp : pc + 2 = pc') (hl : Ls[k]? = some (.val (.long v))) : Go w l R Z n0 y code ml ret pc' Ls ((.long v) :: st) h cells slots := by
  subst hp; exact r.step fun T t a x b k => XS.lload a x rfl (hb b hd) (show Ls.toArray[_]? = _ by rw [List.getElem?_toArray]; exact hl) k
theorem Go.lloadNG {v : Int64} {k : Fin 4} (r : Go w l R Z n0 y code ml ret pc Ls st h cells slots) (pc' : Nat) (hd : decode code pc = .ok (.lload_n k, 1)) (hp : pc + 1 = pc') (hl : Ls[k.val]? = some (.val (.long v))) : Go w l R Z n0 y code ml ret pc' Ls ((.long v) :: st) h cells slots := by
  subst hp; exact r.step fun T t a x b k => XS.lloadN a x rfl (hb b hd) (show Ls.toArray[_]? = _ by rw [List.getElem?_toArray]; exact hl) k
theorem Go.aloadG {v : Value} {k : Nat} (r : Go w l R Z n0 y code ml ret pc Ls st h cells slots) (pc' : Nat) (hd : decode code pc = .ok (.aload k, 2)) (hp : pc + 2 = pc') (hl : Ls[k]? = some (.val v)) (hv : v.isRef = true) : Go w l R Z n0 y code ml ret pc' Ls (v :: st) h cells slots := by
  subst hp; exact r.step fun T t a x b k => XS.aload a x rfl (hb b hd) (show Ls.toArray[_]? = _ by rw [List.getElem?_toArray]; exact hl) hv k
theorem Go.aloadNG {v : Value} {k : Fin 4} (r : Go w l R Z n0 y code ml ret pc Ls st h cells slots) (pc' : Nat) (hd : decode code pc = .ok (.aload_n k, 1)) (hp : pc + 1 = pc') (hl : Ls[k.val]? = some (.val v)) (hv : v.isRef = true) : Go w l R Z n0 y code ml ret pc' Ls (v :: st) h cells slots := by
  subst hp; exact r.step fun T t a x b k => XS.aloadN a x rfl (hb b hd) (show Ls.toArray[_]? = _ by rw [List.getElem?_toArray]; exact hl) hv k
theorem storeL {Ls Ls' : List Slot} {i : Nat} {v : Value} {o : Slot} (ho : Ls[i]? = some o) (h1 : One o) (hv : v.category = 1) (he : Ls.set i (.val v) = Ls') : storeLocals Ls.toArray i v = some Ls'.toArray := by
  subst he
  rw [XS.store1 (o := o) (by rw [List.getElem?_toArray]; exact ho) h1 hv]
  simp
/-- a long over two slots -/
def Two (o p : Slot) : Prop := (o = .unset ∧ p = .unset) ∨ (∃ v, o = .val (.long v) ∧ p = .second) ∨ (o = .unset ∧ ∃ v : Value, p = .val v ∧ v.category = 1) ∨ (∃ v : Value, o = .val v ∧ v.category = 1 ∧ (p = .unset ∨ ∃ u : Value, p = .val u ∧ u.category = 1))
def twoB : Slot → Slot → Bool
  | .unset, .unset => true
  | .unset, .val v => v.category == 1
  | .val (.long _), .second => true
  | .val v, .unset => v.category == 1
  | .val v, .val u => v.category == 1 && u.category == 1
  | _, _ => false
theorem Two.of {o p : Slot} (h : twoB o p = true) : Two o p := by
  cases o with
  | unset => cases p with
    | unset => exact Or.inl ⟨rfl, rfl⟩
    | val v => exact Or.inr (Or.inr (Or.inl ⟨rfl, v, rfl, by simpa [twoB] using h⟩))
    | second => cases h
  | second => cases h
  | val v => cases p with
    | unset => exact Or.inr (Or.inr (Or.inr ⟨v, rfl, by cases v <;> simpa [twoB] using h, Or.inl rfl⟩))
    | val u => exact Or.inr (Or.inr (Or.inr ⟨v, rfl, by cases v <;> simp_all [twoB], Or.inr ⟨u, rfl, by cases v <;> simp_all [twoB]⟩⟩))
    | second => cases v with
      | long z => exact Or.inr (Or.inl ⟨z, rfl, rfl⟩)
      | _ => simp [twoB] at h
theorem storeL2 {Ls Ls' : List Slot} {i : Nat} {v : Int64} {o q : Slot} (ho : Ls[i]? = some o) (hq : Ls[i + 1]? = some q) (h2 : Two o q) (he : (Ls.set i (.val (.long v))).set (i + 1) .second = Ls') : storeLocals Ls.toArray i (.long v) = some Ls'.toArray := by
  subst he
  obtain ⟨h3, h4⟩ := List.getElem?_eq_some_iff.mp ho
  obtain ⟨h5, h6⟩ := List.getElem?_eq_some_iff.mp hq
  have a1 : ∀ p q : Slot, ((Ls.set i p)[i + 1]? = some q) ↔ q = Ls[i + 1] := fun p q => by rw [List.getElem?_set_ne (by omega), hq, h6]; constructor <;> (intro z; simp_all)
  rcases h2 with ⟨rfl, rfl⟩ | ⟨u, rfl, rfl⟩ | ⟨rfl, u, rfl, hu⟩ | ⟨u, rfl, hu, rfl | ⟨u', rfl, hu'⟩⟩ <;>
    simp [storeLocals, storeSelf, Jvm.setAt, Value.category, ho, hq, h3, h5, List.getElem?_set_ne, List.set_comm, *] <;> (try simp_all [Value.category])
theorem Go.istoreG {u : Int32} {k : Nat} {o : Slot} {Ls' : List Slot} (r : Go w l R Z n0 y code ml ret pc Ls ((.int u) :: st) h cells slots) (pc' : Nat) (hd : decode code pc = .ok (.istore k, 2)) (hp : pc + 2 = pc') (ho : Ls[k]? = some o) (h1 : One o) (he : Ls.set k (.val (.int u)) = Ls') : Go w l R Z n0 y code ml ret pc' Ls' st h cells slots := by
  subst hp; exact r.step fun T t a x b k => XS.istore a x rfl (hb b hd) rfl (storeL ho h1 rfl he) k
theorem Go.istoreNG {u : Int32} {k : Fin 4} {o : Slot} {Ls' : List Slot} (r : Go w l R Z n0 y code ml ret pc Ls ((.int u) :: st) h cells slots) (pc' : Nat) (hd : decode code pc = .ok (.istore_n k, 1)) (hp : pc + 1 = pc') (ho : Ls[k.val]? = some o) (h1 : One o) (he : Ls.set k.val (.val (.int u)) = Ls') : Go w l R Z n0 y code ml ret pc' Ls' st h cells slots := by
  subst hp; exact r.step fun T t a x b k => XS.istoreN a x rfl (hb b hd) rfl (storeL ho h1 rfl he) k
theorem Go.astoreG {u : Value} {k : Nat} {o : Slot} {Ls' : List Slot} (r : Go w l R Z n0 y code ml ret pc Ls (u :: st) h cells slots) (pc' : Nat) (hd : decode code pc = .ok (.astore k, 2)) (hp : pc + 2 = pc') (hv : u.isRef = true) (hc : u.category = 1) (ho : Ls[k]? = some o) (h1 : One o) (he : Ls.set k (.val u) = Ls') : Go w l R Z n0 y code ml ret pc' Ls' st h cells slots := by
  subst hp; exact r.step fun T t a x b k => XS.astore a x rfl (hb b hd) rfl hv (storeL ho h1 hc he) k
theorem Go.astoreNG {u : Value} {k : Fin 4} {o : Slot} {Ls' : List Slot} (r : Go w l R Z n0 y code ml ret pc Ls (u :: st) h cells slots) (pc' : Nat) (hd : decode code pc = .ok (.astore_n k, 1)) (hp : pc + 1 = pc') (hv : u.isRef = true) (hc : u.category = 1) (ho : Ls[k.val]? = some o) (h1 : One o) (he : Ls.set k.val (.val u) = Ls') : Go w l R Z n0 y code ml ret pc' Ls' st h cells slots := by
  subst hp; exact r.step fun T t a x b k => XS.astoreN a x rfl (hb b hd) rfl hv (storeL ho h1 hc he) k
theorem Go.lstoreG {u : Int64} {k : Nat} {o q : Slot} {Ls' : List Slot} (r : Go w l R Z n0 y code ml ret pc Ls (.long u :: st) h cells slots) (pc' : Nat) (hd : decode code pc = .ok (.lstore k, 2)) (hp : pc + 2 = pc') (ho : Ls[k]? = some o) (hq : Ls[k + 1]? = some q) (h2 : Two o q) (he : (Ls.set k (.val (.long u))).set (k + 1) .second = Ls') : Go w l R Z n0 y code ml ret pc' Ls' st h cells slots := by
  subst hp; exact r.step fun T t a x b k => XS.lstore a x rfl (hb b hd) rfl (storeL2 ho hq h2 he) k
theorem Go.lstoreNG {u : Int64} {k : Fin 4} {o q : Slot} {Ls' : List Slot} (r : Go w l R Z n0 y code ml ret pc Ls (.long u :: st) h cells slots) (pc' : Nat) (hd : decode code pc = .ok (.lstore_n k, 1)) (hp : pc + 1 = pc') (ho : Ls[k.val]? = some o) (hq : Ls[k.val + 1]? = some q) (h2 : Two o q) (he : (Ls.set k.val (.val (.long u))).set (k.val + 1) .second = Ls') : Go w l R Z n0 y code ml ret pc' Ls' st h cells slots := by
  subst hp; exact r.step fun T t a x b k => XS.lstoreN a x rfl (hb b hd) rfl (storeL2 ho hq h2 he) k
theorem Go.iincG {u : Int32} {k : Nat} {i : Int} {Ls' : List Slot} (r : Go w l R Z n0 y code ml ret pc Ls st h cells slots) (pc' : Nat) (hd : decode code pc = .ok (.iinc k i, 3)) (hp : pc + 3 = pc') (hl : Ls[k]? = some (.val (.int u))) (he : Ls.set k (.val (.int (u + Int32.ofInt i))) = Ls') : Go w l R Z n0 y code ml ret pc' Ls' st h cells slots := by
  subst hp; exact r.step fun T t a x b k => XS.iinc a x rfl (hb b hd) (show Ls.toArray[_]? = _ by rw [List.getElem?_toArray]; exact hl) (storeL hl (One.val rfl) rfl he) k
theorem get_s {α : Type} {a : α} {L : List α} {k : Nat} {v : α} (h : L[k]? = some v) : (a :: L)[k + 1]? = some v := h
theorem get_z {α : Type} {L : List α} {v : α} : (v :: L)[0]? = some v := rfl
theorem set_s {α : Type} {a v : α} {L L' : List α} {k : Nat} (h : L.set k v = L') : (a :: L).set (k + 1) v = a :: L' := by subst h; rfl
theorem set_z {α : Type} {a v : α} {L : List α} : (a :: L).set 0 v = v :: L := rfl
theorem Go.ald0 {v : Addr} {q : List Slot} (r : Go w l R Z n0 y code ml ret pc (.val (.ref v) :: q) st h cells slots) (pc' : Nat) (hd : decode code pc = .ok (.aload_n 0, 1)) (hp : pc + 1 = pc') : Go w l R Z n0 y code ml ret pc' (.val (.ref v) :: q) ((.ref v) :: st) h cells slots := r.aloadNG pc' hd hp get_z rfl
theorem Go.ald18 {v : Addr} {a0 a1 a2 a3 a4 a5 a6 a7 a8 a9 a10 a11 a12 a13 a14 a15 a16 a17 : Slot} {q : List Slot} (r : Go w l R Z n0 y code ml ret pc (a0 :: a1 :: a2 :: a3 :: a4 :: a5 :: a6 :: a7 :: a8 :: a9 :: a10 :: a11 :: a12 :: a13 :: a14 :: a15 :: a16 :: a17 :: .val (.ref v) :: q) st h cells slots) (pc' : Nat) (hd : decode code pc = .ok (.aload 18, 2)) (hp : pc + 2 = pc') : Go w l R Z n0 y code ml ret pc' (a0 :: a1 :: a2 :: a3 :: a4 :: a5 :: a6 :: a7 :: a8 :: a9 :: a10 :: a11 :: a12 :: a13 :: a14 :: a15 :: a16 :: a17 :: .val (.ref v) :: q) ((.ref v) :: st) h cells slots := r.aloadG pc' hd hp (get_s (get_s (get_s (get_s (get_s (get_s (get_s (get_s (get_s (get_s (get_s (get_s (get_s (get_s (get_s (get_s (get_s (get_s get_z)))))))))))))))))) rfl
theorem Go.ast18 {v : Addr} {o : Slot} {a0 a1 a2 a3 a4 a5 a6 a7 a8 a9 a10 a11 a12 a13 a14 a15 a16 a17 : Slot} {q : List Slot} (r : Go w l R Z n0 y code ml ret pc (a0 :: a1 :: a2 :: a3 :: a4 :: a5 :: a6 :: a7 :: a8 :: a9 :: a10 :: a11 :: a12 :: a13 :: a14 :: a15 :: a16 :: a17 :: o :: q) ((.ref v) :: st) h cells slots) (pc' : Nat) (hd : decode code pc = .ok (.astore 18, 2)) (hp : pc + 2 = pc') (ho : One o) : Go w l R Z n0 y code ml ret pc' (a0 :: a1 :: a2 :: a3 :: a4 :: a5 :: a6 :: a7 :: a8 :: a9 :: a10 :: a11 :: a12 :: a13 :: a14 :: a15 :: a16 :: a17 :: .val (.ref v) :: q) st h cells slots := r.astoreG pc' hd hp rfl rfl (get_s (get_s (get_s (get_s (get_s (get_s (get_s (get_s (get_s (get_s (get_s (get_s (get_s (get_s (get_s (get_s (get_s (get_s get_z)))))))))))))))))) ho (set_s (set_s (set_s (set_s (set_s (set_s (set_s (set_s (set_s (set_s (set_s (set_s (set_s (set_s (set_s (set_s (set_s (set_s set_z))))))))))))))))))
theorem Go.ild0 {v : Int32} {q : List Slot} (r : Go w l R Z n0 y code ml ret pc (.val (.int v) :: q) st h cells slots) (pc' : Nat) (hd : decode code pc = .ok (.iload_n 0, 1)) (hp : pc + 1 = pc') : Go w l R Z n0 y code ml ret pc' (.val (.int v) :: q) ((.int v) :: st) h cells slots := r.iloadNG pc' hd hp get_z
theorem Go.ild1 {v : Int32} {a0 : Slot} {q : List Slot} (r : Go w l R Z n0 y code ml ret pc (a0 :: .val (.int v) :: q) st h cells slots) (pc' : Nat) (hd : decode code pc = .ok (.iload_n 1, 1)) (hp : pc + 1 = pc') : Go w l R Z n0 y code ml ret pc' (a0 :: .val (.int v) :: q) ((.int v) :: st) h cells slots := r.iloadNG pc' hd hp (get_s get_z)
theorem Go.ild2 {v : Int32} {a0 a1 : Slot} {q : List Slot} (r : Go w l R Z n0 y code ml ret pc (a0 :: a1 :: .val (.int v) :: q) st h cells slots) (pc' : Nat) (hd : decode code pc = .ok (.iload_n 2, 1)) (hp : pc + 1 = pc') : Go w l R Z n0 y code ml ret pc' (a0 :: a1 :: .val (.int v) :: q) ((.int v) :: st) h cells slots := r.iloadNG pc' hd hp (get_s (get_s get_z))
theorem Go.ild3 {v : Int32} {a0 a1 a2 : Slot} {q : List Slot} (r : Go w l R Z n0 y code ml ret pc (a0 :: a1 :: a2 :: .val (.int v) :: q) st h cells slots) (pc' : Nat) (hd : decode code pc = .ok (.iload_n 3, 1)) (hp : pc + 1 = pc') : Go w l R Z n0 y code ml ret pc' (a0 :: a1 :: a2 :: .val (.int v) :: q) ((.int v) :: st) h cells slots := r.iloadNG pc' hd hp (get_s (get_s (get_s get_z)))
theorem Go.ild10 {v : Int32} {a0 a1 a2 a3 a4 a5 a6 a7 a8 a9 : Slot} {q : List Slot} (r : Go w l R Z n0 y code ml ret pc (a0 :: a1 :: a2 :: a3 :: a4 :: a5 :: a6 :: a7 :: a8 :: a9 :: .val (.int v) :: q) st h cells slots) (pc' : Nat) (hd : decode code pc = .ok (.iload 10, 2)) (hp : pc + 2 = pc') : Go w l R Z n0 y code ml ret pc' (a0 :: a1 :: a2 :: a3 :: a4 :: a5 :: a6 :: a7 :: a8 :: a9 :: .val (.int v) :: q) ((.int v) :: st) h cells slots := r.iloadG pc' hd hp (get_s (get_s (get_s (get_s (get_s (get_s (get_s (get_s (get_s (get_s get_z))))))))))
theorem Go.ild11 {v : Int32} {a0 a1 a2 a3 a4 a5 a6 a7 a8 a9 a10 : Slot} {q : List Slot} (r : Go w l R Z n0 y code ml ret pc (a0 :: a1 :: a2 :: a3 :: a4 :: a5 :: a6 :: a7 :: a8 :: a9 :: a10 :: .val (.int v) :: q) st h cells slots) (pc' : Nat) (hd : decode code pc = .ok (.iload 11, 2)) (hp : pc + 2 = pc') : Go w l R Z n0 y code ml ret pc' (a0 :: a1 :: a2 :: a3 :: a4 :: a5 :: a6 :: a7 :: a8 :: a9 :: a10 :: .val (.int v) :: q) ((.int v) :: st) h cells slots := r.iloadG pc' hd hp (get_s (get_s (get_s (get_s (get_s (get_s (get_s (get_s (get_s (get_s (get_s get_z)))))))))))
theorem Go.ild12 {v : Int32} {a0 a1 a2 a3 a4 a5 a6 a7 a8 a9 a10 a11 : Slot} {q : List Slot} (r : Go w l R Z n0 y code ml ret pc (a0 :: a1 :: a2 :: a3 :: a4 :: a5 :: a6 :: a7 :: a8 :: a9 :: a10 :: a11 :: .val (.int v) :: q) st h cells slots) (pc' : Nat) (hd : decode code pc = .ok (.iload 12, 2)) (hp : pc + 2 = pc') : Go w l R Z n0 y code ml ret pc' (a0 :: a1 :: a2 :: a3 :: a4 :: a5 :: a6 :: a7 :: a8 :: a9 :: a10 :: a11 :: .val (.int v) :: q) ((.int v) :: st) h cells slots := r.iloadG pc' hd hp (get_s (get_s (get_s (get_s (get_s (get_s (get_s (get_s (get_s (get_s (get_s (get_s get_z))))))))))))
theorem Go.ild13 {v : Int32} {a0 a1 a2 a3 a4 a5 a6 a7 a8 a9 a10 a11 a12 : Slot} {q : List Slot} (r : Go w l R Z n0 y code ml ret pc (a0 :: a1 :: a2 :: a3 :: a4 :: a5 :: a6 :: a7 :: a8 :: a9 :: a10 :: a11 :: a12 :: .val (.int v) :: q) st h cells slots) (pc' : Nat) (hd : decode code pc = .ok (.iload 13, 2)) (hp : pc + 2 = pc') : Go w l R Z n0 y code ml ret pc' (a0 :: a1 :: a2 :: a3 :: a4 :: a5 :: a6 :: a7 :: a8 :: a9 :: a10 :: a11 :: a12 :: .val (.int v) :: q) ((.int v) :: st) h cells slots := r.iloadG pc' hd hp (get_s (get_s (get_s (get_s (get_s (get_s (get_s (get_s (get_s (get_s (get_s (get_s (get_s get_z)))))))))))))
theorem Go.ild14 {v : Int32} {a0 a1 a2 a3 a4 a5 a6 a7 a8 a9 a10 a11 a12 a13 : Slot} {q : List Slot} (r : Go w l R Z n0 y code ml ret pc (a0 :: a1 :: a2 :: a3 :: a4 :: a5 :: a6 :: a7 :: a8 :: a9 :: a10 :: a11 :: a12 :: a13 :: .val (.int v) :: q) st h cells slots) (pc' : Nat) (hd : decode code pc = .ok (.iload 14, 2)) (hp : pc + 2 = pc') : Go w l R Z n0 y code ml ret pc' (a0 :: a1 :: a2 :: a3 :: a4 :: a5 :: a6 :: a7 :: a8 :: a9 :: a10 :: a11 :: a12 :: a13 :: .val (.int v) :: q) ((.int v) :: st) h cells slots := r.iloadG pc' hd hp (get_s (get_s (get_s (get_s (get_s (get_s (get_s (get_s (get_s (get_s (get_s (get_s (get_s (get_s get_z))))))))))))))
theorem Go.ild15 {v : Int32} {a0 a1 a2 a3 a4 a5 a6 a7 a8 a9 a10 a11 a12 a13 a14 : Slot} {q : List Slot} (r : Go w l R Z n0 y code ml ret pc (a0 :: a1 :: a2 :: a3 :: a4 :: a5 :: a6 :: a7 :: a8 :: a9 :: a10 :: a11 :: a12 :: a13 :: a14 :: .val (.int v) :: q) st h cells slots) (pc' : Nat) (hd : decode code pc = .ok (.iload 15, 2)) (hp : pc + 2 = pc') : Go w l R Z n0 y code ml ret pc' (a0 :: a1 :: a2 :: a3 :: a4 :: a5 :: a6 :: a7 :: a8 :: a9 :: a10 :: a11 :: a12 :: a13 :: a14 :: .val (.int v) :: q) ((.int v) :: st) h cells slots := r.iloadG pc' hd hp (get_s (get_s (get_s (get_s (get_s (get_s (get_s (get_s (get_s (get_s (get_s (get_s (get_s (get_s (get_s get_z)))))))))))))))
theorem Go.ild16 {v : Int32} {a0 a1 a2 a3 a4 a5 a6 a7 a8 a9 a10 a11 a12 a13 a14 a15 : Slot} {q : List Slot} (r : Go w l R Z n0 y code ml ret pc (a0 :: a1 :: a2 :: a3 :: a4 :: a5 :: a6 :: a7 :: a8 :: a9 :: a10 :: a11 :: a12 :: a13 :: a14 :: a15 :: .val (.int v) :: q) st h cells slots) (pc' : Nat) (hd : decode code pc = .ok (.iload 16, 2)) (hp : pc + 2 = pc') : Go w l R Z n0 y code ml ret pc' (a0 :: a1 :: a2 :: a3 :: a4 :: a5 :: a6 :: a7 :: a8 :: a9 :: a10 :: a11 :: a12 :: a13 :: a14 :: a15 :: .val (.int v) :: q) ((.int v) :: st) h cells slots := r.iloadG pc' hd hp (get_s (get_s (get_s (get_s (get_s (get_s (get_s (get_s (get_s (get_s (get_s (get_s (get_s (get_s (get_s (get_s get_z))))))))))))))))
theorem Go.ild17 {v : Int32} {a0 a1 a2 a3 a4 a5 a6 a7 a8 a9 a10 a11 a12 a13 a14 a15 a16 : Slot} {q : List Slot} (r : Go w l R Z n0 y code ml ret pc (a0 :: a1 :: a2 :: a3 :: a4 :: a5 :: a6 :: a7 :: a8 :: a9 :: a10 :: a11 :: a12 :: a13 :: a14 :: a15 :: a16 :: .val (.int v) :: q) st h cells slots) (pc' : Nat) (hd : decode code pc = .ok (.iload 17, 2)) (hp : pc + 2 = pc') : Go w l R Z n0 y code ml ret pc' (a0 :: a1 :: a2 :: a3 :: a4 :: a5 :: a6 :: a7 :: a8 :: a9 :: a10 :: a11 :: a12 :: a13 :: a14 :: a15 :: a16 :: .val (.int v) :: q) ((.int v) :: st) h cells slots := r.iloadG pc' hd hp (get_s (get_s (get_s (get_s (get_s (get_s (get_s (get_s (get_s (get_s (get_s (get_s (get_s (get_s (get_s (get_s (get_s get_z)))))))))))))))))
theorem Go.ild19 {v : Int32} {a0 a1 a2 a3 a4 a5 a6 a7 a8 a9 a10 a11 a12 a13 a14 a15 a16 a17 a18 : Slot} {q : List Slot} (r : Go w l R Z n0 y code ml ret pc (a0 :: a1 :: a2 :: a3 :: a4 :: a5 :: a6 :: a7 :: a8 :: a9 :: a10 :: a11 :: a12 :: a13 :: a14 :: a15 :: a16 :: a17 :: a18 :: .val (.int v) :: q) st h cells slots) (pc' : Nat) (hd : decode code pc = .ok (.iload 19, 2)) (hp : pc + 2 = pc') : Go w l R Z n0 y code ml ret pc' (a0 :: a1 :: a2 :: a3 :: a4 :: a5 :: a6 :: a7 :: a8 :: a9 :: a10 :: a11 :: a12 :: a13 :: a14 :: a15 :: a16 :: a17 :: a18 :: .val (.int v) :: q) ((.int v) :: st) h cells slots := r.iloadG pc' hd hp (get_s (get_s (get_s (get_s (get_s (get_s (get_s (get_s (get_s (get_s (get_s (get_s (get_s (get_s (get_s (get_s (get_s (get_s (get_s get_z)))))))))))))))))))
theorem Go.ild24 {v : Int32} {a0 a1 a2 a3 a4 a5 a6 a7 a8 a9 a10 a11 a12 a13 a14 a15 a16 a17 a18 a19 a20 a21 a22 a23 : Slot} {q : List Slot} (r : Go w l R Z n0 y code ml ret pc (a0 :: a1 :: a2 :: a3 :: a4 :: a5 :: a6 :: a7 :: a8 :: a9 :: a10 :: a11 :: a12 :: a13 :: a14 :: a15 :: a16 :: a17 :: a18 :: a19 :: a20 :: a21 :: a22 :: a23 :: .val (.int v) :: q) st h cells slots) (pc' : Nat) (hd : decode code pc = .ok (.iload 24, 2)) (hp : pc + 2 = pc') : Go w l R Z n0 y code ml ret pc' (a0 :: a1 :: a2 :: a3 :: a4 :: a5 :: a6 :: a7 :: a8 :: a9 :: a10 :: a11 :: a12 :: a13 :: a14 :: a15 :: a16 :: a17 :: a18 :: a19 :: a20 :: a21 :: a22 :: a23 :: .val (.int v) :: q) ((.int v) :: st) h cells slots := r.iloadG pc' hd hp (get_s (get_s (get_s (get_s (get_s (get_s (get_s (get_s (get_s (get_s (get_s (get_s (get_s (get_s (get_s (get_s (get_s (get_s (get_s (get_s (get_s (get_s (get_s (get_s get_z))))))))))))))))))))))))
theorem Go.ild25 {v : Int32} {a0 a1 a2 a3 a4 a5 a6 a7 a8 a9 a10 a11 a12 a13 a14 a15 a16 a17 a18 a19 a20 a21 a22 a23 a24 : Slot} {q : List Slot} (r : Go w l R Z n0 y code ml ret pc (a0 :: a1 :: a2 :: a3 :: a4 :: a5 :: a6 :: a7 :: a8 :: a9 :: a10 :: a11 :: a12 :: a13 :: a14 :: a15 :: a16 :: a17 :: a18 :: a19 :: a20 :: a21 :: a22 :: a23 :: a24 :: .val (.int v) :: q) st h cells slots) (pc' : Nat) (hd : decode code pc = .ok (.iload 25, 2)) (hp : pc + 2 = pc') : Go w l R Z n0 y code ml ret pc' (a0 :: a1 :: a2 :: a3 :: a4 :: a5 :: a6 :: a7 :: a8 :: a9 :: a10 :: a11 :: a12 :: a13 :: a14 :: a15 :: a16 :: a17 :: a18 :: a19 :: a20 :: a21 :: a22 :: a23 :: a24 :: .val (.int v) :: q) ((.int v) :: st) h cells slots := r.iloadG pc' hd hp (get_s (get_s (get_s (get_s (get_s (get_s (get_s (get_s (get_s (get_s (get_s (get_s (get_s (get_s (get_s (get_s (get_s (get_s (get_s (get_s (get_s (get_s (get_s (get_s (get_s get_z)))))))))))))))))))))))))
theorem Go.ild28 {v : Int32} {a0 a1 a2 a3 a4 a5 a6 a7 a8 a9 a10 a11 a12 a13 a14 a15 a16 a17 a18 a19 a20 a21 a22 a23 a24 a25 a26 a27 : Slot} {q : List Slot} (r : Go w l R Z n0 y code ml ret pc (a0 :: a1 :: a2 :: a3 :: a4 :: a5 :: a6 :: a7 :: a8 :: a9 :: a10 :: a11 :: a12 :: a13 :: a14 :: a15 :: a16 :: a17 :: a18 :: a19 :: a20 :: a21 :: a22 :: a23 :: a24 :: a25 :: a26 :: a27 :: .val (.int v) :: q) st h cells slots) (pc' : Nat) (hd : decode code pc = .ok (.iload 28, 2)) (hp : pc + 2 = pc') : Go w l R Z n0 y code ml ret pc' (a0 :: a1 :: a2 :: a3 :: a4 :: a5 :: a6 :: a7 :: a8 :: a9 :: a10 :: a11 :: a12 :: a13 :: a14 :: a15 :: a16 :: a17 :: a18 :: a19 :: a20 :: a21 :: a22 :: a23 :: a24 :: a25 :: a26 :: a27 :: .val (.int v) :: q) ((.int v) :: st) h cells slots := r.iloadG pc' hd hp (get_s (get_s (get_s (get_s (get_s (get_s (get_s (get_s (get_s (get_s (get_s (get_s (get_s (get_s (get_s (get_s (get_s (get_s (get_s (get_s (get_s (get_s (get_s (get_s (get_s (get_s (get_s (get_s get_z))))))))))))))))))))))))))))
theorem Go.ist2 {v : Int32} {o : Slot} {a0 a1 : Slot} {q : List Slot} (r : Go w l R Z n0 y code ml ret pc (a0 :: a1 :: o :: q) ((.int v) :: st) h cells slots) (pc' : Nat) (hd : decode code pc = .ok (.istore_n 2, 1)) (hp : pc + 1 = pc') (ho : One o) : Go w l R Z n0 y code ml ret pc' (a0 :: a1 :: .val (.int v) :: q) st h cells slots := r.istoreNG pc' hd hp (get_s (get_s get_z)) ho (set_s (set_s set_z))
theorem Go.ist3 {v : Int32} {o : Slot} {a0 a1 a2 : Slot} {q : List Slot} (r : Go w l R Z n0 y code ml ret pc (a0 :: a1 :: a2 :: o :: q) ((.int v) :: st) h cells slots) (pc' : Nat) (hd : decode code pc = .ok (.istore_n 3, 1)) (hp : pc + 1 = pc') (ho : One o) : Go w l R Z n0 y code ml ret pc' (a0 :: a1 :: a2 :: .val (.int v) :: q) st h cells slots := r.istoreNG pc' hd hp (get_s (get_s (get_s get_z))) ho (set_s (set_s (set_s set_z)))
theorem Go.ist11 {v : Int32} {o : Slot} {a0 a1 a2 a3 a4 a5 a6 a7 a8 a9 a10 : Slot} {q : List Slot} (r : Go w l R Z n0 y code ml ret pc (a0 :: a1 :: a2 :: a3 :: a4 :: a5 :: a6 :: a7 :: a8 :: a9 :: a10 :: o :: q) ((.int v) :: st) h cells slots) (pc' : Nat) (hd : decode code pc = .ok (.istore 11, 2)) (hp : pc + 2 = pc') (ho : One o) : Go w l R Z n0 y code ml ret pc' (a0 :: a1 :: a2 :: a3 :: a4 :: a5 :: a6 :: a7 :: a8 :: a9 :: a10 :: .val (.int v) :: q) st h cells slots := r.istoreG pc' hd hp (get_s (get_s (get_s (get_s (get_s (get_s (get_s (get_s (get_s (get_s (get_s get_z))))))))))) ho (set_s (set_s (set_s (set_s (set_s (set_s (set_s (set_s (set_s (set_s (set_s set_z)))))))))))
theorem Go.ist12 {v : Int32} {o : Slot} {a0 a1 a2 a3 a4 a5 a6 a7 a8 a9 a10 a11 : Slot} {q : List Slot} (r : Go w l R Z n0 y code ml ret pc (a0 :: a1 :: a2 :: a3 :: a4 :: a5 :: a6 :: a7 :: a8 :: a9 :: a10 :: a11 :: o :: q) ((.int v) :: st) h cells slots) (pc' : Nat) (hd : decode code pc = .ok (.istore 12, 2)) (hp : pc + 2 = pc') (ho : One o) : Go w l R Z n0 y code ml ret pc' (a0 :: a1 :: a2 :: a3 :: a4 :: a5 :: a6 :: a7 :: a8 :: a9 :: a10 :: a11 :: .val (.int v) :: q) st h cells slots := r.istoreG pc' hd hp (get_s (get_s (get_s (get_s (get_s (get_s (get_s (get_s (get_s (get_s (get_s (get_s get_z)))))))))))) ho (set_s (set_s (set_s (set_s (set_s (set_s (set_s (set_s (set_s (set_s (set_s (set_s set_z))))))))))))
theorem Go.ist13 {v : Int32} {o : Slot} {a0 a1 a2 a3 a4 a5 a6 a7 a8 a9 a10 a11 a12 : Slot} {q : List Slot} (r : Go w l R Z n0 y code ml ret pc (a0 :: a1 :: a2 :: a3 :: a4 :: a5 :: a6 :: a7 :: a8 :: a9 :: a10 :: a11 :: a12 :: o :: q) ((.int v) :: st) h cells slots) (pc' : Nat) (hd : decode code pc = .ok (.istore 13, 2)) (hp : pc + 2 = pc') (ho : One o) : Go w l R Z n0 y code ml ret pc' (a0 :: a1 :: a2 :: a3 :: a4 :: a5 :: a6 :: a7 :: a8 :: a9 :: a10 :: a11 :: a12 :: .val (.int v) :: q) st h cells slots := r.istoreG pc' hd hp (get_s (get_s (get_s (get_s (get_s (get_s (get_s (get_s (get_s (get_s (get_s (get_s (get_s get_z))))))))))))) ho (set_s (set_s (set_s (set_s (set_s (set_s (set_s (set_s (set_s (set_s (set_s (set_s (set_s set_z)))))))))))))
theorem Go.ist14 {v : Int32} {o : Slot} {a0 a1 a2 a3 a4 a5 a6 a7 a8 a9 a10 a11 a12 a13 : Slot} {q : List Slot} (r : Go w l R Z n0 y code ml ret pc (a0 :: a1 :: a2 :: a3 :: a4 :: a5 :: a6 :: a7 :: a8 :: a9 :: a10 :: a11 :: a12 :: a13 :: o :: q) ((.int v) :: st) h cells slots) (pc' : Nat) (hd : decode code pc = .ok (.istore 14, 2)) (hp : pc + 2 = pc') (ho : One o) : Go w l R Z n0 y code ml ret pc' (a0 :: a1 :: a2 :: a3 :: a4 :: a5 :: a6 :: a7 :: a8 :: a9 :: a10 :: a11 :: a12 :: a13 :: .val (.int v) :: q) st h cells slots := r.istoreG pc' hd hp (get_s (get_s (get_s (get_s (get_s (get_s (get_s (get_s (get_s (get_s (get_s (get_s (get_s (get_s get_z)))))))))))))) ho (set_s (set_s (set_s (set_s (set_s (set_s (set_s (set_s (set_s (set_s (set_s (set_s (set_s (set_s set_z))))))))))))))
theorem Go.ist15 {v : Int32} {o : Slot} {a0 a1 a2 a3 a4 a5 a6 a7 a8 a9 a10 a11 a12 a13 a14 : Slot} {q : List Slot} (r : Go w l R Z n0 y code ml ret pc (a0 :: a1 :: a2 :: a3 :: a4 :: a5 :: a6 :: a7 :: a8 :: a9 :: a10 :: a11 :: a12 :: a13 :: a14 :: o :: q) ((.int v) :: st) h cells slots) (pc' : Nat) (hd : decode code pc = .ok (.istore 15, 2)) (hp : pc + 2 = pc') (ho : One o) : Go w l R Z n0 y code ml ret pc' (a0 :: a1 :: a2 :: a3 :: a4 :: a5 :: a6 :: a7 :: a8 :: a9 :: a10 :: a11 :: a12 :: a13 :: a14 :: .val (.int v) :: q) st h cells slots := r.istoreG pc' hd hp (get_s (get_s (get_s (get_s (get_s (get_s (get_s (get_s (get_s (get_s (get_s (get_s (get_s (get_s (get_s get_z))))))))))))))) ho (set_s (set_s (set_s (set_s (set_s (set_s (set_s (set_s (set_s (set_s (set_s (set_s (set_s (set_s (set_s set_z)))))))))))))))
theorem Go.ist16 {v : Int32} {o : Slot} {a0 a1 a2 a3 a4 a5 a6 a7 a8 a9 a10 a11 a12 a13 a14 a15 : Slot} {q : List Slot} (r : Go w l R Z n0 y code ml ret pc (a0 :: a1 :: a2 :: a3 :: a4 :: a5 :: a6 :: a7 :: a8 :: a9 :: a10 :: a11 :: a12 :: a13 :: a14 :: a15 :: o :: q) ((.int v) :: st) h cells slots) (pc' : Nat) (hd : decode code pc = .ok (.istore 16, 2)) (hp : pc + 2 = pc') (ho : One o) : Go w l R Z n0 y code ml ret pc' (a0 :: a1 :: a2 :: a3 :: a4 :: a5 :: a6 :: a7 :: a8 :: a9 :: a10 :: a11 :: a12 :: a13 :: a14 :: a15 :: .val (.int v) :: q) st h cells slots := r.istoreG pc' hd hp (get_s (get_s (get_s (get_s (get_s (get_s (get_s (get_s (get_s (get_s (get_s (get_s (get_s (get_s (get_s (get_s get_z)))))))))))))))) ho (set_s (set_s (set_s (set_s (set_s (set_s (set_s (set_s (set_s (set_s (set_s (set_s (set_s (set_s (set_s (set_s set_z))))))))))))))))
theorem Go.ist17 {v : Int32} {o : Slot} {a0 a1 a2 a3 a4 a5 a6 a7 a8 a9 a10 a11 a12 a13 a14 a15 a16 : Slot} {q : List Slot} (r : Go w l R Z n0 y code ml ret pc (a0 :: a1 :: a2 :: a3 :: a4 :: a5 :: a6 :: a7 :: a8 :: a9 :: a10 :: a11 :: a12 :: a13 :: a14 :: a15 :: a16 :: o :: q) ((.int v) :: st) h cells slots) (pc' : Nat) (hd : decode code pc = .ok (.istore 17, 2)) (hp : pc + 2 = pc') (ho : One o) : Go w l R Z n0 y code ml ret pc' (a0 :: a1 :: a2 :: a3 :: a4 :: a5 :: a6 :: a7 :: a8 :: a9 :: a10 :: a11 :: a12 :: a13 :: a14 :: a15 :: a16 :: .val (.int v) :: q) st h cells slots := r.istoreG pc' hd hp (get_s (get_s (get_s (get_s (get_s (get_s (get_s (get_s (get_s (get_s (get_s (get_s (get_s (get_s (get_s (get_s (get_s get_z))))))))))))))))) ho (set_s (set_s (set_s (set_s (set_s (set_s (set_s (set_s (set_s (set_s (set_s (set_s (set_s (set_s (set_s (set_s (set_s set_z)))))))))))))))))
theorem Go.ist19 {v : Int32} {o : Slot} {a0 a1 a2 a3 a4 a5 a6 a7 a8 a9 a10 a11 a12 a13 a14 a15 a16 a17 a18 : Slot} {q : List Slot} (r : Go w l R Z n0 y code ml ret pc (a0 :: a1 :: a2 :: a3 :: a4 :: a5 :: a6 :: a7 :: a8 :: a9 :: a10 :: a11 :: a12 :: a13 :: a14 :: a15 :: a16 :: a17 :: a18 :: o :: q) ((.int v) :: st) h cells slots) (pc' : Nat) (hd : decode code pc = .ok (.istore 19, 2)) (hp : pc + 2 = pc') (ho : One o) : Go w l R Z n0 y code ml ret pc' (a0 :: a1 :: a2 :: a3 :: a4 :: a5 :: a6 :: a7 :: a8 :: a9 :: a10 :: a11 :: a12 :: a13 :: a14 :: a15 :: a16 :: a17 :: a18 :: .val (.int v) :: q) st h cells slots := r.istoreG pc' hd hp (get_s (get_s (get_s (get_s (get_s (get_s (get_s (get_s (get_s (get_s (get_s (get_s (get_s (get_s (get_s (get_s (get_s (get_s (get_s get_z))))))))))))))))))) ho (set_s (set_s (set_s (set_s (set_s (set_s (set_s (set_s (set_s (set_s (set_s (set_s (set_s (set_s (set_s (set_s (set_s (set_s (set_s set_z)))))))))))))))))))
theorem Go.ist24 {v : Int32} {o : Slot} {a0 a1 a2 a3 a4 a5 a6 a7 a8 a9 a10 a11 a12 a13 a14 a15 a16 a17 a18 a19 a20 a21 a22 a23 : Slot} {q : List Slot} (r : Go w l R Z n0 y code ml ret pc (a0 :: a1 :: a2 :: a3 :: a4 :: a5 :: a6 :: a7 :: a8 :: a9 :: a10 :: a11 :: a12 :: a13 :: a14 :: a15 :: a16 :: a17 :: a18 :: a19 :: a20 :: a21 :: a22 :: a23 :: o :: q) ((.int v) :: st) h cells slots) (pc' : Nat) (hd : decode code pc = .ok (.istore 24, 2)) (hp : pc + 2 = pc') (ho : One o) : Go w l R Z n0 y code ml ret pc' (a0 :: a1 :: a2 :: a3 :: a4 :: a5 :: a6 :: a7 :: a8 :: a9 :: a10 :: a11 :: a12 :: a13 :: a14 :: a15 :: a16 :: a17 :: a18 :: a19 :: a20 :: a21 :: a22 :: a23 :: .val (.int v) :: q) st h cells slots := r.istoreG pc' hd hp (get_s (get_s (get_s (get_s (get_s (get_s (get_s (get_s (get_s (get_s (get_s (get_s (get_s (get_s (get_s (get_s (get_s (get_s (get_s (get_s (get_s (get_s (get_s (get_s get_z)))))))))))))))))))))))) ho (set_s (set_s (set_s (set_s (set_s (set_s (set_s (set_s (set_s (set_s (set_s (set_s (set_s (set_s (set_s (set_s (set_s (set_s (set_s (set_s (set_s (set_s (set_s (set_s set_z))))))))))))))))))))))))
theorem Go.ist25 {v : Int32} {o : Slot} {a0 a1 a2 a3 a4 a5 a6 a7 a8 a9 a10 a11 a12 a13 a14 a15 a16 a17 a18 a19 a20 a21 a22 a23 a24 : Slot} {q : List Slot} (r : Go w l R Z n0 y code ml ret pc (a0 :: a1 :: a2 :: a3 :: a4 :: a5 :: a6 :: a7 :: a8 :: a9 :: a10 :: a11 :: a12 :: a13 :: a14 :: a15 :: a16 :: a17 :: a18 :: a19 :: a20 :: a21 :: a22 :: a23 :: a24 :: o :: q) ((.int v) :: st) h cells slots) (pc' : Nat) (hd : decode code pc = .ok (.istore 25, 2)) (hp : pc + 2 = pc') (ho : One o) : Go w l R Z n0 y code ml ret pc' (a0 :: a1 :: a2 :: a3 :: a4 :: a5 :: a6 :: a7 :: a8 :: a9 :: a10 :: a11 :: a12 :: a13 :: a14 :: a15 :: a16 :: a17 :: a18 :: a19 :: a20 :: a21 :: a22 :: a23 :: a24 :: .val (.int v) :: q) st h cells slots := r.istoreG pc' hd hp (get_s (get_s (get_s (get_s (get_s (get_s (get_s (get_s (get_s (get_s (get_s (get_s (get_s (get_s (get_s (get_s (get_s (get_s (get_s (get_s (get_s (get_s (get_s (get_s (get_s get_z))))))))))))))))))))))))) ho (set_s (set_s (set_s (set_s (set_s (set_s (set_s (set_s (set_s (set_s (set_s (set_s (set_s (set_s (set_s (set_s (set_s (set_s (set_s (set_s (set_s (set_s (set_s (set_s (set_s set_z)))))))))))))))))))))))))
theorem Go.ist28 {v : Int32} {o : Slot} {a0 a1 a2 a3 a4 a5 a6 a7 a8 a9 a10 a11 a12 a13 a14 a15 a16 a17 a18 a19 a20 a21 a22 a23 a24 a25 a26 a27 : Slot} {q : List Slot} (r : Go w l R Z n0 y code ml ret pc (a0 :: a1 :: a2 :: a3 :: a4 :: a5 :: a6 :: a7 :: a8 :: a9 :: a10 :: a11 :: a12 :: a13 :: a14 :: a15 :: a16 :: a17 :: a18 :: a19 :: a20 :: a21 :: a22 :: a23 :: a24 :: a25 :: a26 :: a27 :: o :: q) ((.int v) :: st) h cells slots) (pc' : Nat) (hd : decode code pc = .ok (.istore 28, 2)) (hp : pc + 2 = pc') (ho : One o) : Go w l R Z n0 y code ml ret pc' (a0 :: a1 :: a2 :: a3 :: a4 :: a5 :: a6 :: a7 :: a8 :: a9 :: a10 :: a11 :: a12 :: a13 :: a14 :: a15 :: a16 :: a17 :: a18 :: a19 :: a20 :: a21 :: a22 :: a23 :: a24 :: a25 :: a26 :: a27 :: .val (.int v) :: q) st h cells slots := r.istoreG pc' hd hp (get_s (get_s (get_s (get_s (get_s (get_s (get_s (get_s (get_s (get_s (get_s (get_s (get_s (get_s (get_s (get_s (get_s (get_s (get_s (get_s (get_s (get_s (get_s (get_s (get_s (get_s (get_s (get_s get_z)))))))))))))))))))))))))))) ho (set_s (set_s (set_s (set_s (set_s (set_s (set_s (set_s (set_s (set_s (set_s (set_s (set_s (set_s (set_s (set_s (set_s (set_s (set_s (set_s (set_s (set_s (set_s (set_s (set_s (set_s (set_s (set_s set_z))))))))))))))))))))))))))))
theorem Go.lld0 {v : Int64} {q : List Slot} (r : Go w l R Z n0 y code ml ret pc (.val (.long v) :: q) st h cells slots) (pc' : Nat) (hd : decode code pc = .ok (.lload_n 0, 1)) (hp : pc + 1 = pc') : Go w l R Z n0 y code ml ret pc' (.val (.long v) :: q) ((.long v) :: st) h cells slots := r.lloadNG pc' hd hp get_z
theorem Go.lld1 {v : Int64} {a0 : Slot} {q : List Slot} (r : Go w l R Z n0 y code ml ret pc (a0 :: .val (.long v) :: q) st h cells slots) (pc' : Nat) (hd : decode code pc = .ok (.lload_n 1, 1)) (hp : pc + 1 = pc') : Go w l R Z n0 y code ml ret pc' (a0 :: .val (.long v) :: q) ((.long v) :: st) h cells slots := r.lloadNG pc' hd hp (get_s get_z)
theorem Go.lld2 {v : Int64} {a0 a1 : Slot} {q : List Slot} (r : Go w l R Z n0 y code ml ret pc (a0 :: a1 :: .val (.long v) :: q) st h cells slots) (pc' : Nat) (hd : decode code pc = .ok (.lload_n 2, 1)) (hp : pc + 1 = pc') : Go w l R Z n0 y code ml ret pc' (a0 :: a1 :: .val (.long v) :: q) ((.long v) :: st) h cells slots := r.lloadNG pc' hd hp (get_s (get_s get_z))
theorem Go.lld3 {v : Int64} {a0 a1 a2 : Slot} {q : List Slot} (r : Go w l R Z n0 y code ml ret pc (a0 :: a1 :: a2 :: .val (.long v) :: q) st h cells slots) (pc' : Nat) (hd : decode code pc = .ok (.lload_n 3, 1)) (hp : pc + 1 = pc') : Go w l R Z n0 y code ml ret pc' (a0 :: a1 :: a2 :: .val (.long v) :: q) ((.long v) :: st) h cells slots := r.lloadNG pc' hd hp (get_s (get_s (get_s get_z)))
theorem Go.lld4 {v : Int64} {a0 a1 a2 a3 : Slot} {q : List Slot} (r : Go w l R Z n0 y code ml ret pc (a0 :: a1 :: a2 :: a3 :: .val (.long v) :: q) st h cells slots) (pc' : Nat) (hd : decode code pc = .ok (.lload 4, 2)) (hp : pc + 2 = pc') : Go w l R Z n0 y code ml ret pc' (a0 :: a1 :: a2 :: a3 :: .val (.long v) :: q) ((.long v) :: st) h cells slots := r.lloadG pc' hd hp (get_s (get_s (get_s (get_s get_z))))
theorem Go.lld5 {v : Int64} {a0 a1 a2 a3 a4 : Slot} {q : List Slot} (r : Go w l R Z n0 y code ml ret pc (a0 :: a1 :: a2 :: a3 :: a4 :: .val (.long v) :: q) st h cells slots) (pc' : Nat) (hd : decode code pc = .ok (.lload 5, 2)) (hp : pc + 2 = pc') : Go w l R Z n0 y code ml ret pc' (a0 :: a1 :: a2 :: a3 :: a4 :: .val (.long v) :: q) ((.long v) :: st) h cells slots := r.lloadG pc' hd hp (get_s (get_s (get_s (get_s (get_s get_z)))))
theorem Go.lld6 {v : Int64} {a0 a1 a2 a3 a4 a5 : Slot} {q : List Slot} (r : Go w l R Z n0 y code ml ret pc (a0 :: a1 :: a2 :: a3 :: a4 :: a5 :: .val (.long v) :: q) st h cells slots) (pc' : Nat) (hd : decode code pc = .ok (.lload 6, 2)) (hp : pc + 2 = pc') : Go w l R Z n0 y code ml ret pc' (a0 :: a1 :: a2 :: a3 :: a4 :: a5 :: .val (.long v) :: q) ((.long v) :: st) h cells slots := r.lloadG pc' hd hp (get_s (get_s (get_s (get_s (get_s (get_s get_z))))))
theorem Go.lld8 {v : Int64} {a0 a1 a2 a3 a4 a5 a6 a7 : Slot} {q : List Slot} (r : Go w l R Z n0 y code ml ret pc (a0 :: a1 :: a2 :: a3 :: a4 :: a5 :: a6 :: a7 :: .val (.long v) :: q) st h cells slots) (pc' : Nat) (hd : decode code pc = .ok (.lload 8, 2)) (hp : pc + 2 = pc') : Go w l R Z n0 y code ml ret pc' (a0 :: a1 :: a2 :: a3 :: a4 :: a5 :: a6 :: a7 :: .val (.long v) :: q) ((.long v) :: st) h cells slots := r.lloadG pc' hd hp (get_s (get_s (get_s (get_s (get_s (get_s (get_s (get_s get_z))))))))
theorem Go.lld20 {v : Int64} {a0 a1 a2 a3 a4 a5 a6 a7 a8 a9 a10 a11 a12 a13 a14 a15 a16 a17 a18 a19 : Slot} {q : List Slot} (r : Go w l R Z n0 y code ml ret pc (a0 :: a1 :: a2 :: a3 :: a4 :: a5 :: a6 :: a7 :: a8 :: a9 :: a10 :: a11 :: a12 :: a13 :: a14 :: a15 :: a16 :: a17 :: a18 :: a19 :: .val (.long v) :: q) st h cells slots) (pc' : Nat) (hd : decode code pc = .ok (.lload 20, 2)) (hp : pc + 2 = pc') : Go w l R Z n0 y code ml ret pc' (a0 :: a1 :: a2 :: a3 :: a4 :: a5 :: a6 :: a7 :: a8 :: a9 :: a10 :: a11 :: a12 :: a13 :: a14 :: a15 :: a16 :: a17 :: a18 :: a19 :: .val (.long v) :: q) ((.long v) :: st) h cells slots := r.lloadG pc' hd hp (get_s (get_s (get_s (get_s (get_s (get_s (get_s (get_s (get_s (get_s (get_s (get_s (get_s (get_s (get_s (get_s (get_s (get_s (get_s (get_s get_z))))))))))))))))))))
theorem Go.lld22 {v : Int64} {a0 a1 a2 a3 a4 a5 a6 a7 a8 a9 a10 a11 a12 a13 a14 a15 a16 a17 a18 a19 a20 a21 : Slot} {q : List Slot} (r : Go w l R Z n0 y code ml ret pc (a0 :: a1 :: a2 :: a3 :: a4 :: a5 :: a6 :: a7 :: a8 :: a9 :: a10 :: a11 :: a12 :: a13 :: a14 :: a15 :: a16 :: a17 :: a18 :: a19 :: a20 :: a21 :: .val (.long v) :: q) st h cells slots) (pc' : Nat) (hd : decode code pc = .ok (.lload 22, 2)) (hp : pc + 2 = pc') : Go w l R Z n0 y code ml ret pc' (a0 :: a1 :: a2 :: a3 :: a4 :: a5 :: a6 :: a7 :: a8 :: a9 :: a10 :: a11 :: a12 :: a13 :: a14 :: a15 :: a16 :: a17 :: a18 :: a19 :: a20 :: a21 :: .val (.long v) :: q) ((.long v) :: st) h cells slots := r.lloadG pc' hd hp (get_s (get_s (get_s (get_s (get_s (get_s (get_s (get_s (get_s (get_s (get_s (get_s (get_s (get_s (get_s (get_s (get_s (get_s (get_s (get_s (get_s (get_s get_z))))))))))))))))))))))
theorem Go.lld26 {v : Int64} {a0 a1 a2 a3 a4 a5 a6 a7 a8 a9 a10 a11 a12 a13 a14 a15 a16 a17 a18 a19 a20 a21 a22 a23 a24 a25 : Slot} {q : List Slot} (r : Go w l R Z n0 y code ml ret pc (a0 :: a1 :: a2 :: a3 :: a4 :: a5 :: a6 :: a7 :: a8 :: a9 :: a10 :: a11 :: a12 :: a13 :: a14 :: a15 :: a16 :: a17 :: a18 :: a19 :: a20 :: a21 :: a22 :: a23 :: a24 :: a25 :: .val (.long v) :: q) st h cells slots) (pc' : Nat) (hd : decode code pc = .ok (.lload 26, 2)) (hp : pc + 2 = pc') : Go w l R Z n0 y code ml ret pc' (a0 :: a1 :: a2 :: a3 :: a4 :: a5 :: a6 :: a7 :: a8 :: a9 :: a10 :: a11 :: a12 :: a13 :: a14 :: a15 :: a16 :: a17 :: a18 :: a19 :: a20 :: a21 :: a22 :: a23 :: a24 :: a25 :: .val (.long v) :: q) ((.long v) :: st) h cells slots := r.lloadG pc' hd hp (get_s (get_s (get_s (get_s (get_s (get_s (get_s (get_s (get_s (get_s (get_s (get_s (get_s (get_s (get_s (get_s (get_s (get_s (get_s (get_s (get_s (get_s (get_s (get_s (get_s (get_s get_z))))))))))))))))))))))))))
theorem Go.lst5 {v : Int64} {o o' : Slot} {a0 a1 a2 a3 a4 : Slot} {q : List Slot} (r : Go w l R Z n0 y code ml ret pc (a0 :: a1 :: a2 :: a3 :: a4 :: o :: o' :: q) (.long v :: st) h cells slots) (pc' : Nat) (hd : decode code pc = .ok (.lstore 5, 2)) (hp : pc + 2 = pc') (ho : Two o o') : Go w l R Z n0 y code ml ret pc' (a0 :: a1 :: a2 :: a3 :: a4 :: .val (.long v) :: .second :: q) st h cells slots := r.lstoreG pc' hd hp (get_s (get_s (get_s (get_s (get_s get_z))))) (get_s (get_s (get_s (get_s (get_s (get_s get_z)))))) ho (by show ((a0 :: a1 :: a2 :: a3 :: a4 :: o :: o' :: q).set 5 (.val (.long v))).set (5 + 1) .second = _; rw [show (a0 :: a1 :: a2 :: a3 :: a4 :: o :: o' :: q).set 5 (.val (.long v)) = (a0 :: a1 :: a2 :: a3 :: a4 :: .val (.long v) :: o' :: q) from (set_s (set_s (set_s (set_s (set_s set_z)))))]; exact (set_s (set_s (set_s (set_s (set_s (set_s set_z)))))))
theorem Go.lst20 {v : Int64} {o o' : Slot} {a0 a1 a2 a3 a4 a5 a6 a7 a8 a9 a10 a11 a12 a13 a14 a15 a16 a17 a18 a19 : Slot} {q : List Slot} (r : Go w l R Z n0 y code ml ret pc (a0 :: a1 :: a2 :: a3 :: a4 :: a5 :: a6 :: a7 :: a8 :: a9 :: a10 :: a11 :: a12 :: a13 :: a14 :: a15 :: a16 :: a17 :: a18 :: a19 :: o :: o' :: q) (.long v :: st) h cells slots) (pc' : Nat) (hd : decode code pc = .ok (.lstore 20, 2)) (hp : pc + 2 = pc') (ho : Two o o') : Go w l R Z n0 y code ml ret pc' (a0 :: a1 :: a2 :: a3 :: a4 :: a5 :: a6 :: a7 :: a8 :: a9 :: a10 :: a11 :: a12 :: a13 :: a14 :: a15 :: a16 :: a17 :: a18 :: a19 :: .val (.long v) :: .second :: q) st h cells slots := r.lstoreG pc' hd hp (get_s (get_s (get_s (get_s (get_s (get_s (get_s (get_s (get_s (get_s (get_s (get_s (get_s (get_s (get_s (get_s (get_s (get_s (get_s (get_s get_z)))))))))))))))))))) (get_s (get_s (get_s (get_s (get_s (get_s (get_s (get_s (get_s (get_s (get_s (get_s (get_s (get_s (get_s (get_s (get_s (get_s (get_s (get_s (get_s get_z))))))))))))))))))))) ho (by show ((a0 :: a1 :: a2 :: a3 :: a4 :: a5 :: a6 :: a7 :: a8 :: a9 :: a10 :: a11 :: a12 :: a13 :: a14 :: a15 :: a16 :: a17 :: a18 :: a19 :: o :: o' :: q).set 20 (.val (.long v))).set (20 + 1) .second = _; rw [show (a0 :: a1 :: a2 :: a3 :: a4 :: a5 :: a6 :: a7 :: a8 :: a9 :: a10 :: a11 :: a12 :: a13 :: a14 :: a15 :: a16 :: a17 :: a18 :: a19 :: o :: o' :: q).set 20 (.val (.long v)) = (a0 :: a1 :: a2 :: a3 :: a4 :: a5 :: a6 :: a7 :: a8 :: a9 :: a10 :: a11 :: a12 :: a13 :: a14 :: a15 :: a16 :: a17 :: a18 :: a19 :: .val (.long v) :: o' :: q) from (set_s (set_s (set_s (set_s (set_s (set_s (set_s (set_s (set_s (set_s (set_s (set_s (set_s (set_s (set_s (set_s (set_s (set_s (set_s (set_s set_z))))))))))))))))))))]; exact (set_s (set_s (set_s (set_s (set_s (set_s (set_s (set_s (set_s (set_s (set_s (set_s (set_s (set_s (set_s (set_s (set_s (set_s (set_s (set_s (set_s set_z))))))))))))))))))))))
theorem Go.lst22 {v : Int64} {o o' : Slot} {a0 a1 a2 a3 a4 a5 a6 a7 a8 a9 a10 a11 a12 a13 a14 a15 a16 a17 a18 a19 a20 a21 : Slot} {q : List Slot} (r : Go w l R Z n0 y code ml ret pc (a0 :: a1 :: a2 :: a3 :: a4 :: a5 :: a6 :: a7 :: a8 :: a9 :: a10 :: a11 :: a12 :: a13 :: a14 :: a15 :: a16 :: a17 :: a18 :: a19 :: a20 :: a21 :: o :: o' :: q) (.long v :: st) h cells slots) (pc' : Nat) (hd : decode code pc = .ok (.lstore 22, 2)) (hp : pc + 2 = pc') (ho : Two o o') : Go w l R Z n0 y code ml ret pc' (a0 :: a1 :: a2 :: a3 :: a4 :: a5 :: a6 :: a7 :: a8 :: a9 :: a10 :: a11 :: a12 :: a13 :: a14 :: a15 :: a16 :: a17 :: a18 :: a19 :: a20 :: a21 :: .val (.long v) :: .second :: q) st h cells slots := r.lstoreG pc' hd hp (get_s (get_s (get_s (get_s (get_s (get_s (get_s (get_s (get_s (get_s (get_s (get_s (get_s (get_s (get_s (get_s (get_s (get_s (get_s (get_s (get_s (get_s get_z)))))))))))))))))))))) (get_s (get_s (get_s (get_s (get_s (get_s (get_s (get_s (get_s (get_s (get_s (get_s (get_s (get_s (get_s (get_s (get_s (get_s (get_s (get_s (get_s (get_s (get_s get_z))))))))))))))))))))))) ho (by show ((a0 :: a1 :: a2 :: a3 :: a4 :: a5 :: a6 :: a7 :: a8 :: a9 :: a10 :: a11 :: a12 :: a13 :: a14 :: a15 :: a16 :: a17 :: a18 :: a19 :: a20 :: a21 :: o :: o' :: q).set 22 (.val (.long v))).set (22 + 1) .second = _; rw [show (a0 :: a1 :: a2 :: a3 :: a4 :: a5 :: a6 :: a7 :: a8 :: a9 :: a10 :: a11 :: a12 :: a13 :: a14 :: a15 :: a16 :: a17 :: a18 :: a19 :: a20 :: a21 :: o :: o' :: q).set 22 (.val (.long v)) = (a0 :: a1 :: a2 :: a3 :: a4 :: a5 :: a6 :: a7 :: a8 :: a9 :: a10 :: a11 :: a12 :: a13 :: a14 :: a15 :: a16 :: a17 :: a18 :: a19 :: a20 :: a21 :: .val (.long v) :: o' :: q) from (set_s (set_s (set_s (set_s (set_s (set_s (set_s (set_s (set_s (set_s (set_s (set_s (set_s (set_s (set_s (set_s (set_s (set_s (set_s (set_s (set_s (set_s set_z))))))))))))))))))))))]; exact (set_s (set_s (set_s (set_s (set_s (set_s (set_s (set_s (set_s (set_s (set_s (set_s (set_s (set_s (set_s (set_s (set_s (set_s (set_s (set_s (set_s (set_s (set_s set_z))))))))))))))))))))))))
theorem Go.lst26 {v : Int64} {o o' : Slot} {a0 a1 a2 a3 a4 a5 a6 a7 a8 a9 a10 a11 a12 a13 a14 a15 a16 a17 a18 a19 a20 a21 a22 a23 a24 a25 : Slot} {q : List Slot} (r : Go w l R Z n0 y code ml ret pc (a0 :: a1 :: a2 :: a3 :: a4 :: a5 :: a6 :: a7 :: a8 :: a9 :: a10 :: a11 :: a12 :: a13 :: a14 :: a15 :: a16 :: a17 :: a18 :: a19 :: a20 :: a21 :: a22 :: a23 :: a24 :: a25 :: o :: o' :: q) (.long v :: st) h cells slots) (pc' : Nat) (hd : decode code pc = .ok (.lstore 26, 2)) (hp : pc + 2 = pc') (ho : Two o o') : Go w l R Z n0 y code ml ret pc' (a0 :: a1 :: a2 :: a3 :: a4 :: a5 :: a6 :: a7 :: a8 :: a9 :: a10 :: a11 :: a12 :: a13 :: a14 :: a15 :: a16 :: a17 :: a18 :: a19 :: a20 :: a21 :: a22 :: a23 :: a24 :: a25 :: .val (.long v) :: .second :: q) st h cells slots := r.lstoreG pc' hd hp (get_s (get_s (get_s (get_s (get_s (get_s (get_s (get_s (get_s (get_s (get_s (get_s (get_s (get_s (get_s (get_s (get_s (get_s (get_s (get_s (get_s (get_s (get_s (get_s (get_s (get_s get_z)))))))))))))))))))))))))) (get_s (get_s (get_s (get_s (get_s (get_s (get_s (get_s (get_s (get_s (get_s (get_s (get_s (get_s (get_s (get_s (get_s (get_s (get_s (get_s (get_s (get_s (get_s (get_s (get_s (get_s (get_s get_z))))))))))))))))))))))))))) ho (by show ((a0 :: a1 :: a2 :: a3 :: a4 :: a5 :: a6 :: a7 :: a8 :: a9 :: a10 :: a11 :: a12 :: a13 :: a14 :: a15 :: a16 :: a17 :: a18 :: a19 :: a20 :: a21 :: a22 :: a23 :: a24 :: a25 :: o :: o' :: q).set 26 (.val (.long v))).set (26 + 1) .second = _; rw [show (a0 :: a1 :: a2 :: a3 :: a4 :: a5 :: a6 :: a7 :: a8 :: a9 :: a10 :: a11 :: a12 :: a13 :: a14 :: a15 :: a16 :: a17 :: a18 :: a19 :: a20 :: a21 :: a22 :: a23 :: a24 :: a25 :: o :: o' :: q).set 26 (.val (.long v)) = (a0 :: a1 :: a2 :: a3 :: a4 :: a5 :: a6 :: a7 :: a8 :: a9 :: a10 :: a11 :: a12 :: a13 :: a14 :: a15 :: a16 :: a17 :: a18 :: a19 :: a20 :: a21 :: a22 :: a23 :: a24 :: a25 :: .val (.long v) :: o' :: q) from (set_s (set_s (set_s (set_s (set_s (set_s (set_s (set_s (set_s (set_s (set_s (set_s (set_s (set_s (set_s (set_s (set_s (set_s (set_s (set_s (set_s (set_s (set_s (set_s (set_s (set_s set_z))))))))))))))))))))))))))]; exact (set_s (set_s (set_s (set_s (set_s (set_s (set_s (set_s (set_s (set_s (set_s (set_s (set_s (set_s (set_s (set_s (set_s (set_s (set_s (set_s (set_s (set_s (set_s (set_s (set_s (set_s (set_s set_z))))))))))))))))))))))))))))
theorem Go.goto {o : Int} (r : Go w l R Z n0 y code ml ret pc Ls st h cells slots) (pc' : Nat) (hd : decode code pc = .ok (.goto o, 3)) (hp : (pc : Int) + o = pc') : Go w l R Z n0 y code ml ret pc' Ls st h cells slots :=
  r.step fun T t a x b k => XS.goto a x rfl (pc0 := pc) (pc' := pc') rfl (hb b hd) (by rw [hp]; exact Int.natCast_nonneg _) (by rw [hp]; exact Int.toNat_natCast _) k
theorem Go.ifT {o : Int} {cd : ClassFile.Cond} {u : Int32} (r : Go w l R Z n0 y code ml ret pc Ls (.int u :: st) h cells slots) (pc' : Nat) (hd : decode code pc = .ok (.ifCond cd o, 3)) (hp : (pc : Int) + o = pc') (hc : ifCond.holds cd u = true) : Go w l R Z n0 y code ml ret pc' Ls st h cells slots :=
  r.step fun T t a x b k => XS.ifYes a x rfl (pc0 := pc) (pc' := pc') rfl (hb b hd) rfl hc (by rw [hp]; exact Int.natCast_nonneg _) (by rw [hp]; exact Int.toNat_natCast _) k
theorem Go.ifF {o : Int} {cd : ClassFile.Cond} {u : Int32} (r : Go w l R Z n0 y code ml ret pc Ls (.int u :: st) h cells slots) (pc' : Nat) (hd : decode code pc = .ok (.ifCond cd o, 3)) (hp : pc + 3 = pc') (hc : ifCond.holds cd u = false) : Go w l R Z n0 y code ml ret pc' Ls st h cells slots := by
  subst hp; exact r.step fun T t a x b k => XS.ifNo a x rfl (hb b hd) rfl hc k
theorem Go.icT {o : Int} {cd : ClassFile.Cond} {u v : Int32} (r : Go w l R Z n0 y code ml ret pc Ls (.int v :: .int u :: st) h cells slots) (pc' : Nat) (hd : decode code pc = .ok (.if_icmp cd o, 3)) (hp : (pc : Int) + o = pc') (hc : if_icmp.holds cd u v = true) : Go w l R Z n0 y code ml ret pc' Ls st h cells slots :=
  r.step fun T t a x b k => XS.icmpYes a x rfl (pc0 := pc) (pc' := pc') rfl (hb b hd) rfl hc (by rw [hp]; exact Int.natCast_nonneg _) (by rw [hp]; exact Int.toNat_natCast _) k
theorem Go.icF {o : Int} {cd : ClassFile.Cond} {u v : Int32} (r : Go w l R Z n0 y code ml ret pc Ls (.int v :: .int u :: st) h cells slots) (pc' : Nat) (hd : decode code pc = .ok (.if_icmp cd o, 3)) (hp : pc + 3 = pc') (hc : if_icmp.holds cd u v = false) : Go w l R Z n0 y code ml ret pc' Ls st h cells slots := by
  subst hp; exact r.step fun T t a x b k => XS.icmpNo a x rfl (hb b hd) rfl hc k
theorem Go.if_eqT {o : Int} {u : Int32} (r : Go w l R Z n0 y code ml ret pc Ls (.int u :: st) h cells slots) (pc' : Nat) (hd : decode code pc = .ok (.ifCond .eq o, 3)) (hp : (pc : Int) + o = pc') (hc : u = 0) : Go w l R Z n0 y code ml ret pc' Ls st h cells slots := r.ifT pc' hd hp ((if0 _ _).trans (teq hc).1)
theorem Go.if_eqF {o : Int} {u : Int32} (r : Go w l R Z n0 y code ml ret pc Ls (.int u :: st) h cells slots) (pc' : Nat) (hd : decode code pc = .ok (.ifCond .eq o, 3)) (hp : pc + 3 = pc') (hc : ¬ u = 0) : Go w l R Z n0 y code ml ret pc' Ls st h cells slots := r.ifF pc' hd hp ((if0 _ _).trans (feq hc).1)
theorem Go.if_eq {o : Int} {u : Int32} (r : Go w l R Z n0 y code ml ret pc Ls (.int u :: st) h cells slots) (pcT pcF : Nat) (hd : decode code pc = .ok (.ifCond .eq o, 3)) (hp : (pc : Int) + o = pcT) (hq : pc + 3 = pcF) : ((u = 0) ∧ Go w l R Z n0 y code ml ret pcT Ls st h cells slots) ∨ ((¬ u = 0) ∧ Go w l R Z n0 y code ml ret pcF Ls st h cells slots) := by
  by_cases hc : u = 0
  · exact Or.inl ⟨hc, r.if_eqT pcT hd hp hc⟩
  · exact Or.inr ⟨hc, r.if_eqF pcF hd hq hc⟩
theorem Go.ic_eqT {o : Int} {u v : Int32} (r : Go w l R Z n0 y code ml ret pc Ls (.int v :: .int u :: st) h cells slots) (pc' : Nat) (hd : decode code pc = .ok (.if_icmp .eq o, 3)) (hp : (pc : Int) + o = pc') (hc : u = v) : Go w l R Z n0 y code ml ret pc' Ls st h cells slots := r.icT pc' hd hp (teq hc).1
theorem Go.ic_eqF {o : Int} {u v : Int32} (r : Go w l R Z n0 y code ml ret pc Ls (.int v :: .int u :: st) h cells slots) (pc' : Nat) (hd : decode code pc = .ok (.if_icmp .eq o, 3)) (hp : pc + 3 = pc') (hc : ¬ u = v) : Go w l R Z n0 y code ml ret pc' Ls st h cells slots := r.icF pc' hd hp (feq hc).1
theorem Go.ic_eq {o : Int} {u v : Int32} (r : Go w l R Z n0 y code ml ret pc Ls (.int v :: .int u :: st) h cells slots) (pcT pcF : Nat) (hd : decode code pc = .ok (.if_icmp .eq o, 3)) (hp : (pc : Int) + o = pcT) (hq : pc + 3 = pcF) : ((u = v) ∧ Go w l R Z n0 y code ml ret pcT Ls st h cells slots) ∨ ((¬ u = v) ∧ Go w l R Z n0 y code ml ret pcF Ls st h cells slots) := by
  by_cases hc : u = v
  · exact Or.inl ⟨hc, r.ic_eqT pcT hd hp hc⟩
  · exact Or.inr ⟨hc, r.ic_eqF pcF hd hq hc⟩
theorem Go.if_neT {o : Int} {u : Int32} (r : Go w l R Z n0 y code ml ret pc Ls (.int u :: st) h cells slots) (pc' : Nat) (hd : decode code pc = .ok (.ifCond .ne o, 3)) (hp : (pc : Int) + o = pc') (hc : ¬ u = 0) : Go w l R Z n0 y code ml ret pc' Ls st h cells slots := r.ifT pc' hd hp ((if0 _ _).trans (feq hc).2)
theorem Go.if_neF {o : Int} {u : Int32} (r : Go w l R Z n0 y code ml ret pc Ls (.int u :: st) h cells slots) (pc' : Nat) (hd : decode code pc = .ok (.ifCond .ne o, 3)) (hp : pc + 3 = pc') (hc : u = 0) : Go w l R Z n0 y code ml ret pc' Ls st h cells slots := r.ifF pc' hd hp ((if0 _ _).trans (teq hc).2)
theorem Go.if_ne {o : Int} {u : Int32} (r : Go w l R Z n0 y code ml ret pc Ls (.int u :: st) h cells slots) (pcT pcF : Nat) (hd : decode code pc = .ok (.ifCond .ne o, 3)) (hp : (pc : Int) + o = pcT) (hq : pc + 3 = pcF) : ((¬ u = 0) ∧ Go w l R Z n0 y code ml ret pcT Ls st h cells slots) ∨ ((u = 0) ∧ Go w l R Z n0 y code ml ret pcF Ls st h cells slots) := by
  by_cases hc : ¬ u = 0
  · exact Or.inl ⟨hc, r.if_neT pcT hd hp hc⟩
  · exact Or.inr ⟨Classical.not_not.mp hc, r.if_neF pcF hd hq (Classical.not_not.mp hc)⟩
theorem Go.ic_neT {o : Int} {u v : Int32} (r : Go w l R Z n0 y code ml ret pc Ls (.int v :: .int u :: st) h cells slots) (pc' : Nat) (hd : decode code pc = .ok (.if_icmp .ne o, 3)) (hp : (pc : Int) + o = pc') (hc : ¬ u = v) : Go w l R Z n0 y code ml ret pc' Ls st h cells slots := r.icT pc' hd hp (feq hc).2
theorem Go.ic_neF {o : Int} {u v : Int32} (r : Go w l R Z n0 y code ml ret pc Ls (.int v :: .int u :: st) h cells slots) (pc' : Nat) (hd : decode code pc = .ok (.if_icmp .ne o, 3)) (hp : pc + 3 = pc') (hc : u = v) : Go w l R Z n0 y code ml ret pc' Ls st h cells slots := r.icF pc' hd hp (teq hc).2
theorem Go.ic_ne {o : Int} {u v : Int32} (r : Go w l R Z n0 y code ml ret pc Ls (.int v :: .int u :: st) h cells slots) (pcT pcF : Nat) (hd : decode code pc = .ok (.if_icmp .ne o, 3)) (hp : (pc : Int) + o = pcT) (hq : pc + 3 = pcF) : ((¬ u = v) ∧ Go w l R Z n0 y code ml ret pcT Ls st h cells slots) ∨ ((u = v) ∧ Go w l R Z n0 y code ml ret pcF Ls st h cells slots) := by
  by_cases hc : ¬ u = v
  · exact Or.inl ⟨hc, r.ic_neT pcT hd hp hc⟩
  · exact Or.inr ⟨Classical.not_not.mp hc, r.ic_neF pcF hd hq (Classical.not_not.mp hc)⟩
theorem Go.if_ltT {o : Int} {u : Int32} (r : Go w l R Z n0 y code ml ret pc Ls (.int u :: st) h cells slots) (pc' : Nat) (hd : decode code pc = .ok (.ifCond .lt o, 3)) (hp : (pc : Int) + o = pc') (hc : u < 0) : Go w l R Z n0 y code ml ret pc' Ls st h cells slots := r.ifT pc' hd hp ((if0 _ _).trans (tlt hc).1)
theorem Go.if_ltF {o : Int} {u : Int32} (r : Go w l R Z n0 y code ml ret pc Ls (.int u :: st) h cells slots) (pc' : Nat) (hd : decode code pc = .ok (.ifCond .lt o, 3)) (hp : pc + 3 = pc') (hc : ¬ u < 0) : Go w l R Z n0 y code ml ret pc' Ls st h cells slots := r.ifF pc' hd hp ((if0 _ _).trans (flt hc).1)
theorem Go.if_lt {o : Int} {u : Int32} (r : Go w l R Z n0 y code ml ret pc Ls (.int u :: st) h cells slots) (pcT pcF : Nat) (hd : decode code pc = .ok (.ifCond .lt o, 3)) (hp : (pc : Int) + o = pcT) (hq : pc + 3 = pcF) : ((u < 0) ∧ Go w l R Z n0 y code ml ret pcT Ls st h cells slots) ∨ ((¬ u < 0) ∧ Go w l R Z n0 y code ml ret pcF Ls st h cells slots) := by
  by_cases hc : u < 0
  · exact Or.inl ⟨hc, r.if_ltT pcT hd hp hc⟩
  · exact Or.inr ⟨hc, r.if_ltF pcF hd hq hc⟩
theorem Go.ic_ltT {o : Int} {u v : Int32} (r : Go w l R Z n0 y code ml ret pc Ls (.int v :: .int u :: st) h cells slots) (pc' : Nat) (hd : decode code pc = .ok (.if_icmp .lt o, 3)) (hp : (pc : Int) + o = pc') (hc : u < v) : Go w l R Z n0 y code ml ret pc' Ls st h cells slots := r.icT pc' hd hp (tlt hc).1
theorem Go.ic_ltF {o : Int} {u v : Int32} (r : Go w l R Z n0 y code ml ret pc Ls (.int v :: .int u :: st) h cells slots) (pc' : Nat) (hd : decode code pc = .ok (.if_icmp .lt o, 3)) (hp : pc + 3 = pc') (hc : ¬ u < v) : Go w l R Z n0 y code ml ret pc' Ls st h cells slots := r.icF pc' hd hp (flt hc).1
theorem Go.ic_lt {o : Int} {u v : Int32} (r : Go w l R Z n0 y code ml ret pc Ls (.int v :: .int u :: st) h cells slots) (pcT pcF : Nat) (hd : decode code pc = .ok (.if_icmp .lt o, 3)) (hp : (pc : Int) + o = pcT) (hq : pc + 3 = pcF) : ((u < v) ∧ Go w l R Z n0 y code ml ret pcT Ls st h cells slots) ∨ ((¬ u < v) ∧ Go w l R Z n0 y code ml ret pcF Ls st h cells slots) := by
  by_cases hc : u < v
  · exact Or.inl ⟨hc, r.ic_ltT pcT hd hp hc⟩
  · exact Or.inr ⟨hc, r.ic_ltF pcF hd hq hc⟩
theorem Go.if_geT {o : Int} {u : Int32} (r : Go w l R Z n0 y code ml ret pc Ls (.int u :: st) h cells slots) (pc' : Nat) (hd : decode code pc = .ok (.ifCond .ge o, 3)) (hp : (pc : Int) + o = pc') (hc : ¬ u < 0) : Go w l R Z n0 y code ml ret pc' Ls st h cells slots := r.ifT pc' hd hp ((if0 _ _).trans (flt hc).2.1)
theorem Go.if_geF {o : Int} {u : Int32} (r : Go w l R Z n0 y code ml ret pc Ls (.int u :: st) h cells slots) (pc' : Nat) (hd : decode code pc = .ok (.ifCond .ge o, 3)) (hp : pc + 3 = pc') (hc : u < 0) : Go w l R Z n0 y code ml ret pc' Ls st h cells slots := r.ifF pc' hd hp ((if0 _ _).trans (tlt hc).2.1)
theorem Go.if_ge {o : Int} {u : Int32} (r : Go w l R Z n0 y code ml ret pc Ls (.int u :: st) h cells slots) (pcT pcF : Nat) (hd : decode code pc = .ok (.ifCond .ge o, 3)) (hp : (pc : Int) + o = pcT) (hq : pc + 3 = pcF) : ((¬ u < 0) ∧ Go w l R Z n0 y code ml ret pcT Ls st h cells slots) ∨ ((u < 0) ∧ Go w l R Z n0 y code ml ret pcF Ls st h cells slots) := by
  by_cases hc : ¬ u < 0
  · exact Or.inl ⟨hc, r.if_geT pcT hd hp hc⟩
  · exact Or.inr ⟨Classical.not_not.mp hc, r.if_geF pcF hd hq (Classical.not_not.mp hc)⟩
theorem Go.ic_geT {o : Int} {u v : Int32} (r : Go w l R Z n0 y code ml ret pc Ls (.int v :: .int u :: st) h cells slots) (pc' : Nat) (hd : decode code pc = .ok (.if_icmp .ge o, 3)) (hp : (pc : Int) + o = pc') (hc : ¬ u < v) : Go w l R Z n0 y code ml ret pc' Ls st h cells slots := r.icT pc' hd hp (flt hc).2.1
theorem Go.ic_geF {o : Int} {u v : Int32} (r : Go w l R Z n0 y code ml ret pc Ls (.int v :: .int u :: st) h cells slots) (pc' : Nat) (hd : decode code pc = .ok (.if_icmp .ge o, 3)) (hp : pc + 3 = pc') (hc : u < v) : Go w l R Z n0 y code ml ret pc' Ls st h cells slots := r.icF pc' hd hp (tlt hc).2.1
theorem Go.ic_ge {o : Int} {u v : Int32} (r : Go w l R Z n0 y code ml ret pc Ls (.int v :: .int u :: st) h cells slots) (pcT pcF : Nat) (hd : decode code pc = .ok (.if_icmp .ge o, 3)) (hp : (pc : Int) + o = pcT) (hq : pc + 3 = pcF) : ((¬ u < v) ∧ Go w l R Z n0 y code ml ret pcT Ls st h cells slots) ∨ ((u < v) ∧ Go w l R Z n0 y code ml ret pcF Ls st h cells slots) := by
  by_cases hc : ¬ u < v
  · exact Or.inl ⟨hc, r.ic_geT pcT hd hp hc⟩
  · exact Or.inr ⟨Classical.not_not.mp hc, r.ic_geF pcF hd hq (Classical.not_not.mp hc)⟩
theorem Go.if_gtT {o : Int} {u : Int32} (r : Go w l R Z n0 y code ml ret pc Ls (.int u :: st) h cells slots) (pc' : Nat) (hd : decode code pc = .ok (.ifCond .gt o, 3)) (hp : (pc : Int) + o = pc') (hc : 0 < u) : Go w l R Z n0 y code ml ret pc' Ls st h cells slots := r.ifT pc' hd hp ((if0 _ _).trans (tlt hc).2.2.1)
theorem Go.if_gtF {o : Int} {u : Int32} (r : Go w l R Z n0 y code ml ret pc Ls (.int u :: st) h cells slots) (pc' : Nat) (hd : decode code pc = .ok (.ifCond .gt o, 3)) (hp : pc + 3 = pc') (hc : ¬ 0 < u) : Go w l R Z n0 y code ml ret pc' Ls st h cells slots := r.ifF pc' hd hp ((if0 _ _).trans (flt hc).2.2.1)
theorem Go.if_gt {o : Int} {u : Int32} (r : Go w l R Z n0 y code ml ret pc Ls (.int u :: st) h cells slots) (pcT pcF : Nat) (hd : decode code pc = .ok (.ifCond .gt o, 3)) (hp : (pc : Int) + o = pcT) (hq : pc + 3 = pcF) : ((0 < u) ∧ Go w l R Z n0 y code ml ret pcT Ls st h cells slots) ∨ ((¬ 0 < u) ∧ Go w l R Z n0 y code ml ret pcF Ls st h cells slots) := by
  by_cases hc : 0 < u
  · exact Or.inl ⟨hc, r.if_gtT pcT hd hp hc⟩
  · exact Or.inr ⟨hc, r.if_gtF pcF hd hq hc⟩
theorem Go.ic_gtT {o : Int} {u v : Int32} (r : Go w l R Z n0 y code ml ret pc Ls (.int v :: .int u :: st) h cells slots) (pc' : Nat) (hd : decode code pc = .ok (.if_icmp .gt o, 3)) (hp : (pc : Int) + o = pc') (hc : v < u) : Go w l R Z n0 y code ml ret pc' Ls st h cells slots := r.icT pc' hd hp (tlt hc).2.2.1
theorem Go.ic_gtF {o : Int} {u v : Int32} (r : Go w l R Z n0 y code ml ret pc Ls (.int v :: .int u :: st) h cells slots) (pc' : Nat) (hd : decode code pc = .ok (.if_icmp .gt o, 3)) (hp : pc + 3 = pc') (hc : ¬ v < u) : Go w l R Z n0 y code ml ret pc' Ls st h cells slots := r.icF pc' hd hp (flt hc).2.2.1
theorem Go.ic_gt {o : Int} {u v : Int32} (r : Go w l R Z n0 y code ml ret pc Ls (.int v :: .int u :: st) h cells slots) (pcT pcF : Nat) (hd : decode code pc = .ok (.if_icmp .gt o, 3)) (hp : (pc : Int) + o = pcT) (hq : pc + 3 = pcF) : ((v < u) ∧ Go w l R Z n0 y code ml ret pcT Ls st h cells slots) ∨ ((¬ v < u) ∧ Go w l R Z n0 y code ml ret pcF Ls st h cells slots) := by
  by_cases hc : v < u
  · exact Or.inl ⟨hc, r.ic_gtT pcT hd hp hc⟩
  · exact Or.inr ⟨hc, r.ic_gtF pcF hd hq hc⟩
theorem Go.if_leT {o : Int} {u : Int32} (r : Go w l R Z n0 y code ml ret pc Ls (.int u :: st) h cells slots) (pc' : Nat) (hd : decode code pc = .ok (.ifCond .le o, 3)) (hp : (pc : Int) + o = pc') (hc : ¬ 0 < u) : Go w l R Z n0 y code ml ret pc' Ls st h cells slots := r.ifT pc' hd hp ((if0 _ _).trans (flt hc).2.2.2)
theorem Go.if_leF {o : Int} {u : Int32} (r : Go w l R Z n0 y code ml ret pc Ls (.int u :: st) h cells slots) (pc' : Nat) (hd : decode code pc = .ok (.ifCond .le o, 3)) (hp : pc + 3 = pc') (hc : 0 < u) : Go w l R Z n0 y code ml ret pc' Ls st h cells slots := r.ifF pc' hd hp ((if0 _ _).trans (tlt hc).2.2.2)
theorem Go.if_le {o : Int} {u : Int32} (r : Go w l R Z n0 y code ml ret pc Ls (.int u :: st) h cells slots) (pcT pcF : Nat) (hd : decode code pc = .ok (.ifCond .le o, 3)) (hp : (pc : Int) + o = pcT) (hq : pc + 3 = pcF) : ((¬ 0 < u) ∧ Go w l R Z n0 y code ml ret pcT Ls st h cells slots) ∨ ((0 < u) ∧ Go w l R Z n0 y code ml ret pcF Ls st h cells slots) := by
  by_cases hc : ¬ 0 < u
  · exact Or.inl ⟨hc, r.if_leT pcT hd hp hc⟩
  · exact Or.inr ⟨Classical.not_not.mp hc, r.if_leF pcF hd hq (Classical.not_not.mp hc)⟩
theorem Go.ic_leT {o : Int} {u v : Int32} (r : Go w l R Z n0 y code ml ret pc Ls (.int v :: .int u :: st) h cells slots) (pc' : Nat) (hd : decode code pc = .ok (.if_icmp .le o, 3)) (hp : (pc : Int) + o = pc') (hc : ¬ v < u) : Go w l R Z n0 y code ml ret pc' Ls st h cells slots := r.icT pc' hd hp (flt hc).2.2.2
theorem Go.ic_leF {o : Int} {u v : Int32} (r : Go w l R Z n0 y code ml ret pc Ls (.int v :: .int u :: st) h cells slots) (pc' : Nat) (hd : decode code pc = .ok (.if_icmp .le o, 3)) (hp : pc + 3 = pc') (hc : v < u) : Go w l R Z n0 y code ml ret pc' Ls st h cells slots := r.icF pc' hd hp (tlt hc).2.2.2
theorem Go.ic_le {o : Int} {u v : Int32} (r : Go w l R Z n0 y code ml ret pc Ls (.int v :: .int u :: st) h cells slots) (pcT pcF : Nat) (hd : decode code pc = .ok (.if_icmp .le o, 3)) (hp : (pc : Int) + o = pcT) (hq : pc + 3 = pcF) : ((¬ v < u) ∧ Go w l R Z n0 y code ml ret pcT Ls st h cells slots) ∨ ((v < u) ∧ Go w l R Z n0 y code ml ret pcF Ls st h cells slots) := by
  by_cases hc : ¬ v < u
  · exact Or.inl ⟨hc, r.ic_leT pcT hd hp hc⟩
  · exact Or.inr ⟨Classical.not_not.mp hc, r.ic_leF pcF hd hq (Classical.not_not.mp hc)⟩
/-! constants of the pool -/
theorem Go.ldcI {idx : Nat} {v : Int32} {a0 : Array Value} (r : Go w l R Z n0 y code ml ret pc Ls st h cells slots) (pc' : Nat) (hd : decode code pc = .ok (.ldc idx, 2)) (hp : pc + 2 = pc') (wc : (Cond.constant y.cls idx v).before a0 Z = true) : Go w l R Z n0 y code ml ret pc' Ls (.int v :: st) h cells slots := by
  subst hp
  obtain ⟨S, T, locs, X, e, N, k⟩ := r
  exact ⟨S, T, locs, X, e, N, fun t q => k t (X.ldcInt S.1 S.2.2.1 (mvT S.2.1 wc) (g := mkF w.m pc Ls.toArray st) rfl (hb S.2.2.2.1 hd) t q)⟩
theorem Go.ldc2 {idx : Nat} {v : Int64} {a0 : Array Value} (r : Go w l R Z n0 y code ml ret pc Ls st h cells slots) (pc' : Nat) (hd : decode code pc = .ok (.ldc2_w idx, 3)) (hp : pc + 3 = pc') (wc : (Cond.constantLong y.cls idx v).before a0 Z = true) : Go w l R Z n0 y code ml ret pc' Ls (.long v :: st) h cells slots := by
  subst hp
  obtain ⟨S, T, locs, X, e, N, k⟩ := r
  exact ⟨S, T, locs, X, e, N, fun t q => k t (X.ldc2Long S.1 S.2.2.1 (mvT S.2.1 wc) (g := mkF w.m pc Ls.toArray st) rfl (hb S.2.2.2.1 hd) t q)⟩
/-! fields -/
theorem Go.getF {idx : Nat} {O n d : String} {v : Value} {a : Addr} {a0 : Array Value} (r : Go w l R Z n0 y code ml ret pc Ls (.ref a :: st) h cells slots) (pc' : Nat) (hd : decode code pc = .ok (.getfield idx, 3)) (hp : pc + 3 = pc') (wf : (Cond.fieldLink y.cls idx O n d).before a0 Z = true) (F : Fld Z h a O n d v) : Go w l R Z n0 y code ml ret pc' Ls (v :: st) h cells slots := by
  subst hp
  obtain ⟨S, T, locs, X, e, N, k⟩ := r
  obtain ⟨T', X', e', q⟩ := Jvm.RoadKit.getF X S.1 S.2.1 S.2.2.1 (host := "") (Or.inl wf) Via.refl e F (g := mkF w.m pc Ls.toArray (.ref a :: st)) rfl rfl (hb S.2.2.2.1 hd)
  exact ⟨S, T', locs, X', e', N, fun t z => k t (q t z)⟩
/-- a field's place in an object of class C that may be written here: 'lays', or 'laysFinal' in a constructor of its own class -/
def Wry (Z : State) (a0 : Array Value) (y : MethodName) (C O n d : String) : Prop := (Cond.lays C O n d).before a0 Z = true ∨ ((Cond.laysFinal C O n d).before a0 Z = true ∧ y.cls = O ∧ y.name = "<init>")
theorem Go.putF {idx kk : Nat} {C O n d : String} {v old : Value} {a : Addr} {a0 : Array Value} (r : Go w l R Z n0 y code ml ret pc Ls (v :: .ref a :: st) h cells slots) (pc' : Nat) (hd : decode code pc = .ok (.putfield idx, 3)) (hp : pc + 3 = pc') (wf : (Cond.fieldLink y.cls idx O n d).before a0 Z = true) (wl : Wry Z a0 y C O n d) (wi : (Cond.instantiable C kk).before a0 Z = true) (E : Exa Z h a C) (F : Fld Z h a O n d old) {ty : FieldType} (hty : parseFieldDescriptor d = some ty) (hn : narrow ty v = v) (hf : fits ty v = true) (g0 : n0 ≤ a) :
    ∃ h', Wr h h' a (Jvm.RoadKit.slotOf Z O n d) v ∧ Go w l R Z n0 y code ml ret pc' Ls st h' cells slots := by
  subst hp
  obtain ⟨S, T, locs, X, e, N, k⟩ := r
  obtain ⟨T', h', X', e', Wq, q⟩ := Jvm.RoadKit.putF X S.1 S.2.1 S.2.2.1 (host := "") (Or.inl wf) Via.refl e F E (wl.imp id fun z => ⟨z.1, z.2.1, S.2.2.2.2.2.2.2.trans z.2.2⟩) wi hty hn hf (g := mkF w.m pc Ls.toArray (v :: .ref a :: st)) rfl rfl (hb S.2.2.2.1 hd)
  exact ⟨h', Wq, S, T', _, X', e', Fr.snoc X' N g0, fun t z => k t (q t z)⟩
theorem Go.putFN {idx kk : Nat} {C O n d : String} {v v' old : Value} {a : Addr} {a0 : Array Value} (r : Go w l R Z n0 y code ml ret pc Ls (v :: .ref a :: st) h cells slots) (pc' : Nat) (hd : decode code pc = .ok (.putfield idx, 3)) (hp : pc + 3 = pc') (wf : (Cond.fieldLink y.cls idx O n d).before a0 Z = true) (wl : Wry Z a0 y C O n d) (wi : (Cond.instantiable C kk).before a0 Z = true) (E : Exa Z h a C) (F : Fld Z h a O n d old) {ty : FieldType} (hty : parseFieldDescriptor d = some ty) (hn : narrow ty v = v') (hf : fits ty v' = true) (g0 : n0 ≤ a) :
    ∃ h', Wr h h' a (Jvm.RoadKit.slotOf Z O n d) v' ∧ Go w l R Z n0 y code ml ret pc' Ls st h' cells slots := by
  subst hp
  obtain ⟨S, T, locs, X, e, N, k⟩ := r
  obtain ⟨T', h', X', e', Wq, q⟩ := Jvm.RoadKit.putFN X S.1 S.2.1 S.2.2.1 wf Via.refl e F E (wl.imp id fun z => ⟨z.1, z.2.1, S.2.2.2.2.2.2.2.trans z.2.2⟩) wi hty hn hf (g := mkF w.m pc Ls.toArray (v :: .ref a :: st)) rfl rfl (hb S.2.2.2.1 hd)
  exact ⟨h', Wq, S, T', _, X', e', Fr.snoc X' N g0, fun t z => k t (q t z)⟩
/-! making -/
theorem Go.newO {idx n : Nat} {C : String} {a0 : Array Value} (r : Go w l R Z n0 y code ml ret pc Ls st h cells slots) (pc' : Nat) (hd : decode code pc = .ok (.new idx, 3)) (hp : pc + 3 = pc') (w1 : (Cond.classLink y.cls idx C).before a0 Z = true) (w2 : (Cond.instantiable C n).before a0 Z = true) (w3 : (Cond.initialized C).before a0 Z = true) (hc : cells + 1 ≤ R.cells) (hs : slots + n ≤ R.slots) :
    ∃ h' a, a = h.size ∧ Ext h h' ∧ Exa Z h' a C ∧ (∀ {O nm d : String} {ty : FieldType}, Laid Z a0 C O nm d → parseFieldDescriptor d = some ty → Fld Z h' a O nm d (defaultValue ty)) ∧ Go w l R Z n0 y code ml ret pc' Ls (.ref a :: st) h' (cells + 1) (slots + n) := by
  subst hp
  obtain ⟨S, T, locs, X, e, N, k⟩ := r
  obtain ⟨T', h', X', e', E, A, D, -, q⟩ := Jvm.RoadKit.newO X S.1 S.2.1 S.2.2.1 w1 w2 w3 e (g := mkF w.m pc Ls.toArray st) rfl (hb S.2.2.2.1 hd) hc hs
  exact ⟨h', h.size, rfl, E, A, D, S, T', locs, X', e', N, fun t z => k t (q t z)⟩
/-- an array with all its components -/
def Ary (Z : State) (h : Heap) (a : Addr) (ty : FieldType) (vs : List Value) : Prop := ∃ k d, Arv Z h a k ty (Int32.ofNat vs.length) vs d ∧ vs.length < 2 ^ 31
theorem len_nat {n : Nat} (h : n < 2 ^ 31) : (Int32.ofNat n).toNatClampNeg = n := by
  have := Int32.toInt_ofNat_small h
  simp only [Int32.toNatClampNeg]; omega
theorem len_nn {n : Nat} (h : n < 2 ^ 31) : ¬ Int32.ofNat n < 0 := by
  rw [Int32.lt_iff_toInt_lt, Int32.toInt_ofNat_small h]; have : (0 : Int32).toInt = 0 := rfl; omega
theorem nn_back {n : Int32} (h : ¬ n < 0) : Int32.ofNat n.toNatClampNeg = n := by
  have h1 := (back32 h).1
  simpa using h1
variable {a b : Addr} {ty : FieldType} {vs : List Value} {h' : Heap}
theorem Ary.lt (A : Ary Z h a ty vs) : a < h.size := by obtain ⟨k, d, V, -⟩ := A; exact V.lt
theorem Ary.ext (A : Ary Z h a ty vs) (E : Ext h h') : Ary Z h' a ty vs := by obtain ⟨k, d, V, q⟩ := A; exact ⟨k, d, V.ext E, q⟩
theorem Ary.other {v : Value} {sl : Nat} (A : Ary Z h b ty vs) (Wq : Wr h h' a sl v) (q : b ≠ a) : Ary Z h' b ty vs := by obtain ⟨k, d, V, z⟩ := A; exact ⟨k, d, V.other Wq q, z⟩
theorem Ary.keep {ws : List Addr} (A : Ary Z h a ty vs) (K : Keep h h' ws) (q : a ∉ ws) : Ary Z h' a ty vs := by obtain ⟨k, d, V, z⟩ := A; exact ⟨k, d, V.keep K q, z⟩
theorem Ary.len (A : Ary Z h a ty vs) : vs.length < 2 ^ 31 := by obtain ⟨k, d, V, z⟩ := A; exact z
theorem Ary.unf (A : Ary Z h a ty vs) : ∃ c : Cell, Arr Z h a c ty ∧ c.slots.size = vs.length ∧ (∀ i : Nat, i < vs.length → c.slots[i]? = vs[i]?) ∧ c.slots.size.toInt32 = Int32.ofNat vs.length := by
  obtain ⟨k, d, ⟨c, A1, A2, A3, A4, A5, A6⟩, z⟩ := A
  have e := len_nat z
  rw [e] at A3
  refine ⟨c, A1, A3, fun i hi => ?_, by rw [A3]⟩
  rw [A5 i (by omega), List.getD_eq_getElem?_getD, List.getElem?_eq_getElem hi]; rfl
theorem Ary.set {v : Value} {j : Int32} (A : Ary Z h a ty vs) (Wq : Wr h h' a j.toNatClampNeg v) (hf : fits ty v = true) (hj : j.toNatClampNeg < vs.length) : Ary Z h' a ty (vs.set j.toNatClampNeg v) := by
  obtain ⟨k, d, ⟨c, A1, A2, A3, A4, A5, A6⟩, z⟩ := A
  refine ⟨k, d, ?_, by simpa using z⟩
  have := Arv.set A1 A2 A3 A4 A5 A6 hf Wq _ rfl hj
  simpa using this
theorem Go.newA {aty : ArrayType} {n : Int32} {vs : List Value} {a0 : Array Value} (r : Go w l R Z n0 y code ml ret pc Ls (.int n :: st) h cells slots) (pc' : Nat) (hd : decode code pc = .ok (.newarray aty, 2)) (hp : pc + 2 = pc') (w1 : (Cond.arrayClass (newarray.typeOf aty)).before a0 Z = true) (hn : ¬ n < 0) (hv : List.replicate n.toNatClampNeg (defaultValue (newarray.typeOf aty)) = vs) (cap : Nat) (hcap : n.toNatClampNeg ≤ cap) (hb8 : cap * 8 ≤ 536870912) (hc : cells + 1 ≤ R.cells) (hs : slots + cap ≤ R.slots) :
    ∃ h' a, a = h.size ∧ Ext h h' ∧ Ary Z h' a (newarray.typeOf aty) vs ∧ Go w l R Z n0 y code ml ret pc' Ls (.ref a :: st) h' (cells + 1) (slots + cap) := by
  subst hp
  obtain ⟨S, T, locs, X, e, N, k⟩ := r
  obtain ⟨T', h', kA, X', e', E, A, q⟩ := Jvm.RoadKit.newP X S.1 S.2.1 w1 e (g := mkF w.m pc Ls.toArray (.int n :: st)) rfl (hb S.2.2.2.1 hd) rfl hn hcap hb8 hc hs
  refine ⟨h', h.size, rfl, E, ?_, S, T', locs, X', e', N, fun t z => k t (q t z)⟩
  have hl : vs.length = n.toNatClampNeg := by rw [← hv]; simp
  refine ⟨kA, defaultValue (newarray.typeOf aty), ?_, by rw [hl]; exact (back32 hn).2⟩
  rw [hl, nn_back hn, ← hv]
  exact (Arv.new A hn).pad (by simpa using pad_rep [] (defaultValue (newarray.typeOf aty)) n.toNatClampNeg)
/-! arrays -/
theorem inb {j : Int32} {n : Nat} (h0 : ¬ j < 0) (hj : j.toNatClampNeg < n) : ¬ (j < 0 ∨ n ≤ j.toNatClampNeg) := fun q => q.elim h0 (Nat.not_le.mpr hj)
theorem Go.alen (r : Go w l R Z n0 y code ml ret pc Ls (.ref a :: st) h cells slots) (pc' : Nat) (hd : decode code pc = .ok (.arraylength, 1)) (hp : pc + 1 = pc') (A : Ary Z h a ty vs) (n : Int32) (hn : Int32.ofNat vs.length = n) : Go w l R Z n0 y code ml ret pc' Ls (.int n :: st) h cells slots := by
  subst hp hn
  obtain ⟨S, T, locs, X, e, N, k⟩ := r
  obtain ⟨c, A1, A2, A3, A4⟩ := A.unf
  exact ⟨S, T, locs, X, e, N, fun t q => k t (X.arraylength S.1 (by rw [e]; exact A1.1) (State.isArrayOf_alike S.2.1.alike A1.2.1) (g := mkF w.m pc Ls.toArray (.ref a :: st)) rfl rfl (hb S.2.2.2.1 hd) t (by rw [A4]; exact q))⟩
theorem Go.iald {j : Int32} {v : Value} (r : Go w l R Z n0 y code ml ret pc Ls (.int j :: .ref a :: st) h cells slots) (pc' : Nat) (hd : decode code pc = .ok (.iaload, 1)) (hp : pc + 1 = pc') (A : Ary Z h a .int vs) (h0 : ¬ j < 0) (hv : vs[j.toNatClampNeg]? = some v) : Go w l R Z n0 y code ml ret pc' Ls (v :: st) h cells slots := by
  subst hp
  obtain ⟨S, T, locs, X, e, N, k⟩ := r
  obtain ⟨c, A1, A2, A3, A4⟩ := A.unf
  have hj := (List.getElem?_eq_some_iff.mp hv).1
  exact ⟨S, T, locs, X, e, N, fun t q => k t (X.iaload S.1 (by rw [e]; exact A1.1) (State.isArrayOf_alike S.2.1.alike A1.2.1) A1.2.2 (by rw [A2]; exact inb h0 hj) ((A3 _ hj).trans hv) (g := mkF w.m pc Ls.toArray (.int j :: .ref a :: st)) rfl rfl (hb S.2.2.2.1 hd) t q)⟩
theorem Go.lald {j : Int32} {v : Value} (r : Go w l R Z n0 y code ml ret pc Ls (.int j :: .ref a :: st) h cells slots) (pc' : Nat) (hd : decode code pc = .ok (.laload, 1)) (hp : pc + 1 = pc') (A : Ary Z h a .long vs) (h0 : ¬ j < 0) (hv : vs[j.toNatClampNeg]? = some v) : Go w l R Z n0 y code ml ret pc' Ls (v :: st) h cells slots := by
  subst hp
  obtain ⟨S, T, locs, X, e, N, k⟩ := r
  obtain ⟨c, A1, A2, A3, A4⟩ := A.unf
  have hj := (List.getElem?_eq_some_iff.mp hv).1
  exact ⟨S, T, locs, X, e, N, fun t q => k t (X.laload S.1 (by rw [e]; exact A1.1) (State.isArrayOf_alike S.2.1.alike A1.2.1) A1.2.2 (by rw [A2]; exact inb h0 hj) ((A3 _ hj).trans hv) (g := mkF w.m pc Ls.toArray (.int j :: .ref a :: st)) rfl rfl (hb S.2.2.2.1 hd) t q)⟩
theorem Go.bald {j : Int32} {v : Value} (r : Go w l R Z n0 y code ml ret pc Ls (.int j :: .ref a :: st) h cells slots) (pc' : Nat) (hd : decode code pc = .ok (.baload, 1)) (hp : pc + 1 = pc') (A : Ary Z h a .byte vs) (h0 : ¬ j < 0) (hv : vs[j.toNatClampNeg]? = some v) : Go w l R Z n0 y code ml ret pc' Ls (v :: st) h cells slots := by
  subst hp
  obtain ⟨S, T, locs, X, e, N, k⟩ := r
  obtain ⟨c, A1, A2, A3, A4⟩ := A.unf
  have hj := (List.getElem?_eq_some_iff.mp hv).1
  exact ⟨S, T, locs, X, e, N, fun t q => k t (X.baloadBytes S.1 (by rw [e]; exact A1.1) (State.isArrayOf_alike S.2.1.alike A1.2.1) A1.2.2 (by rw [A2]; exact inb h0 hj) ((A3 _ hj).trans hv) (g := mkF w.m pc Ls.toArray (.int j :: .ref a :: st)) rfl rfl (hb S.2.2.2.1 hd) t q)⟩
theorem Go.zald {j : Int32} {v : Value} (r : Go w l R Z n0 y code ml ret pc Ls (.int j :: .ref a :: st) h cells slots) (pc' : Nat) (hd : decode code pc = .ok (.baload, 1)) (hp : pc + 1 = pc') (A : Ary Z h a .boolean vs) (h0 : ¬ j < 0) (hv : vs[j.toNatClampNeg]? = some v) : Go w l R Z n0 y code ml ret pc' Ls (v :: st) h cells slots := by
  subst hp
  obtain ⟨S, T, locs, X, e, N, k⟩ := r
  obtain ⟨c, A1, A2, A3, A4⟩ := A.unf
  have hj := (List.getElem?_eq_some_iff.mp hv).1
  exact ⟨S, T, locs, X, e, N, fun t q => k t (X.baloadBooleans S.1 (by rw [e]; exact A1.1) (State.isArrayOf_alike S.2.1.alike A1.2.1) A1.2.2 (by rw [A2]; exact inb h0 hj) ((A3 _ hj).trans hv) (g := mkF w.m pc Ls.toArray (.int j :: .ref a :: st)) rfl rfl (hb S.2.2.2.1 hd) t q)⟩
theorem Go.iast {j x : Int32} (r : Go w l R Z n0 y code ml ret pc Ls (.int x :: .int j :: .ref a :: st) h cells slots) (pc' : Nat) (hd : decode code pc = .ok (.iastore, 1)) (hp : pc + 1 = pc') (A : Ary Z h a .int vs) (h0 : ¬ j < 0) (hj : j.toNatClampNeg < vs.length) (g0 : n0 ≤ a) :
    ∃ h', Wr h h' a j.toNatClampNeg (.int x) ∧ Ary Z h' a .int (vs.set j.toNatClampNeg (.int x)) ∧ Go w l R Z n0 y code ml ret pc' Ls st h' cells slots := by
  subst hp
  obtain ⟨S, T, locs, X, e, N, k⟩ := r
  obtain ⟨c, A1, A2, A3, A4⟩ := A.unf
  obtain ⟨T', h', X', e', Wq, q⟩ := stI X S.1 S.2.1 e A1 (j := j) (by rw [A2]; exact inb h0 hj) (g := mkF w.m pc Ls.toArray (.int x :: .int j :: .ref a :: st)) rfl rfl (hb S.2.2.2.1 hd)
  exact ⟨h', Wq, A.set Wq rfl hj, S, T', _, X', e', Fr.snoc X' N g0, fun t z => k t (q t z)⟩
theorem Go.last {j : Int32} {x : Int64} (r : Go w l R Z n0 y code ml ret pc Ls (.long x :: .int j :: .ref a :: st) h cells slots) (pc' : Nat) (hd : decode code pc = .ok (.lastore, 1)) (hp : pc + 1 = pc') (A : Ary Z h a .long vs) (h0 : ¬ j < 0) (hj : j.toNatClampNeg < vs.length) (g0 : n0 ≤ a) :
    ∃ h', Wr h h' a j.toNatClampNeg (.long x) ∧ Ary Z h' a .long (vs.set j.toNatClampNeg (.long x)) ∧ Go w l R Z n0 y code ml ret pc' Ls st h' cells slots := by
  subst hp
  obtain ⟨S, T, locs, X, e, N, k⟩ := r
  obtain ⟨c, A1, A2, A3, A4⟩ := A.unf
  obtain ⟨T', h', X', e', Wq, q⟩ := stJ X S.1 S.2.1 e A1 (j := j) (by rw [A2]; exact inb h0 hj) (g := mkF w.m pc Ls.toArray (.long x :: .int j :: .ref a :: st)) rfl rfl (hb S.2.2.2.1 hd)
  exact ⟨h', Wq, A.set Wq rfl hj, S, T', _, X', e', Fr.snoc X' N g0, fun t z => k t (q t z)⟩
theorem Go.bast {j x : Int32} (r : Go w l R Z n0 y code ml ret pc Ls (.int x :: .int j :: .ref a :: st) h cells slots) (pc' : Nat) (hd : decode code pc = .ok (.bastore, 1)) (hp : pc + 1 = pc') (A : Ary Z h a .byte vs) (h0 : ¬ j < 0) (hj : j.toNatClampNeg < vs.length) (g0 : n0 ≤ a) :
    ∃ h', Wr h h' a j.toNatClampNeg (.int x.toInt8.toInt32) ∧ Ary Z h' a .byte (vs.set j.toNatClampNeg (.int x.toInt8.toInt32)) ∧ Go w l R Z n0 y code ml ret pc' Ls st h' cells slots := by
  subst hp
  obtain ⟨S, T, locs, X, e, N, k⟩ := r
  obtain ⟨c, A1, A2, A3, A4⟩ := A.unf
  obtain ⟨T', h', X', e', Wq, q⟩ := stB X S.1 S.2.1 e A1 (j := j) (by rw [A2]; exact inb h0 hj) (g := mkF w.m pc Ls.toArray (.int x :: .int j :: .ref a :: st)) rfl rfl (hb S.2.2.2.1 hd)
  exact ⟨h', Wq, A.set Wq (fits_nar_byte _) hj, S, T', _, X', e', Fr.snoc X' N g0, fun t z => k t (q t z)⟩
theorem Go.zast {j x : Int32} (r : Go w l R Z n0 y code ml ret pc Ls (.int x :: .int j :: .ref a :: st) h cells slots) (pc' : Nat) (hd : decode code pc = .ok (.bastore, 1)) (hp : pc + 1 = pc') (A : Ary Z h a .boolean vs) (h0 : ¬ j < 0) (hj : j.toNatClampNeg < vs.length) (g0 : n0 ≤ a) :
    ∃ h', Wr h h' a j.toNatClampNeg (.int (x &&& 1)) ∧ Ary Z h' a .boolean (vs.set j.toNatClampNeg (.int (x &&& 1))) ∧ Go w l R Z n0 y code ml ret pc' Ls st h' cells slots := by
  subst hp
  obtain ⟨S, T, locs, X, e, N, k⟩ := r
  obtain ⟨c, A1, A2, A3, A4⟩ := A.unf
  obtain ⟨T', h', X', e', Wq, q⟩ := stZ X S.1 S.2.1 e A1 (j := j) (by rw [A2]; exact inb h0 hj) (g := mkF w.m pc Ls.toArray (.int x :: .int j :: .ref a :: st)) rfl rfl (hb S.2.2.2.1 hd)
  exact ⟨h', Wq, A.set Wq (fits_nar_bool _) hj, S, T', _, X', e', Fr.snoc X' N g0, fun t z => k t (q t z)⟩
/-! calls -/
def wt (st : List Value) : Nat := (st.map fun v => v.category).sum
variable {y' : MethodName} {code' : ByteArray} {ml' : Nat} {ret' : Option FieldType} {rm : Room} {as rest : List Value} {Q : Option Value → Heap → Prop} {ps : List FieldType} {rt : Option FieldType} {a0 : Array Value} {idx : Nat}
theorem Go.callS (r : Go w l R Z n0 y code ml ret pc Ls st h cells slots) (pc' : Nat) (hd : decode code pc = .ok (.invokestatic idx, 3)) (hp : pc + 3 = pc') (M : Met l Z y' code' ml' ret' rm as h n0 Q) (w1 : (Cond.methodLink y.cls idx y').before a0 Z = true) (w2 : (Cond.static y').before a0 Z = true) (w3 : (Cond.initialized y'.cls).before a0 Z = true) (w4 : (Cond.code y' code' ml' ret').before a0 Z = true)
    (hpd : parseMethodDescriptor y'.desc = some ⟨ps, rt⟩) (hlen : as.length = ps.length) (hst : st = as.reverse ++ rest) (hLs : Ls.length = ml) (hy : y'.cls ≠ "java/lang/invoke/MethodHandle" ∧ y'.cls ≠ "java/lang/invoke/VarHandle") (hf : rm.frames + 1 ≤ R.frames) (hl : wt rest + (ml' + 11) + rm.locals ≤ R.locals) (hc : cells + rm.cells ≤ R.cells) (hs : slots + rm.slots ≤ R.slots) :
    ∃ v h', Q v h' ∧ Go w l R Z n0 y code ml ret pc' Ls (v.toList ++ rest) h' (cells + rm.cells) (slots + rm.slots) := by
  subst hp hst
  obtain ⟨S, T, locs, X, e, N, k⟩ := r
  obtain ⟨v, _, ⟨T', L', k', n'⟩, -, X', ⟨Lc, hQ, l', y2, z2⟩, q⟩ := Jvm.LawKit.callS X S.1 (y := y') S.2.2.1 (mvT S.2.1 w1) (mvT S.2.1 w2) (mvT S.2.1 w3) (mvT S.2.1 w4) hy (backOf (W := wt rest) (Q := fun v h L => Q v h ∧ Fr n0 L) (M []) S.2.1 w4 w3 hf hl) (g := mkF w.m pc Ls.toArray (as.reverse ++ rest)) rfl (by rw [S.2.2.2.2.1]; simpa using hLs) (argsL := as) (rest := rest) (lenOf hpd hlen) rfl (by show 2 * 0 + _ ≤ _; simp [wt]) (hb S.2.2.2.1 hd) (fun _ _ => ⟨rfl, e, hc, hs⟩)
  dsimp only [Pt.U, Pt.locs, Pt.cells, Pt.slots] at X' l' y2 z2 q hQ
  subst l' y2 z2
  exact ⟨v, T'.heap, hQ.1, S, T', _, X', rfl, N.app hQ.2, fun t z => k t (q t z)⟩
theorem Go.callI (r : Go w l R Z n0 y code ml ret pc Ls st h cells slots) (pc' : Nat) (hd : decode code pc = .ok (.invokespecial idx, 3)) (hp : pc + 3 = pc') (M : Met l Z y' code' ml' none rm (.ref a :: as) h n0 Q) (hin : y'.name = "<init>") (w1 : (Cond.methodLink y.cls idx y').before a0 Z = true) (w2 : (Cond.instanceMethod y').before a0 Z = true) (w3 : (Cond.initialized y'.cls).before a0 Z = true) (w4 : (Cond.code y' code' ml' none).before a0 Z = true)
    (hpd : parseMethodDescriptor y'.desc = some ⟨ps, rt⟩) (hlen : as.length = ps.length) (hst : st = as.reverse ++ .ref a :: rest) (hLs : Ls.length = ml) (hy : y'.cls ≠ "java/lang/invoke/MethodHandle" ∧ y'.cls ≠ "java/lang/invoke/VarHandle") (hf : rm.frames + 1 ≤ R.frames) (hl : wt rest + (ml' + 11) + rm.locals ≤ R.locals) (hc : cells + rm.cells ≤ R.cells) (hs : slots + rm.slots ≤ R.slots) :
    ∃ v h', Q v h' ∧ Go w l R Z n0 y code ml ret pc' Ls (v.toList ++ rest) h' (cells + rm.cells) (slots + rm.slots) := by
  subst hp hst
  obtain ⟨S, T, locs, X, e, N, k⟩ := r
  obtain ⟨v, _, ⟨T', L', k', n'⟩, -, X', ⟨Lc, hQ, l', y2, z2⟩, q⟩ := X.specialBack S.1 (y := y') hin S.2.2.1 (mvT S.2.1 w1) (mvT S.2.1 w2) (mvT S.2.1 w4) hy (backOf (W := wt rest) (Q := fun v h L => Q v h ∧ Fr n0 L) (M []) S.2.1 w4 w3 hf hl) (g := mkF w.m pc Ls.toArray (as.reverse ++ .ref a :: rest)) rfl (by rw [S.2.2.2.2.1]; simpa using hLs) (Steps.refl _) (a := a) (argsL := as) (rest := rest) (lenOf hpd hlen) rfl (by show 2 * 0 + _ ≤ _; simp [wt]) (hb S.2.2.2.1 hd) (fun _ _ => ⟨rfl, e, hc, hs⟩)
  dsimp only [Pt.U, Pt.locs, Pt.cells, Pt.slots] at X' l' y2 z2 q hQ
  subst l' y2 z2
  exact ⟨v, T'.heap, hQ.1, S, T', _, X', rfl, N.app hQ.2, fun t z => k t (q.trans z)⟩
theorem Go.callV (r : Go w l R Z n0 y code ml ret pc Ls st h cells slots) (pc' : Nat) (hd : decode code pc = .ok (.invokevirtual idx, 3)) (hp : pc + 3 = pc') (M : Met l Z y' code' ml' ret' rm (.ref a :: as) h n0 Q) (E : Exa Z h a y'.cls) (w1 : (Cond.methodLink y.cls idx y').before a0 Z = true) (wd : (Cond.declares y').before a0 Z = true) (w2 : (Cond.instanceMethod y').before a0 Z = true) (ws : (Cond.selects y'.cls y' y').before a0 Z = true) (w3 : (Cond.initialized y'.cls).before a0 Z = true) (w4 : (Cond.code y' code' ml' ret').before a0 Z = true)
    (hpd : parseMethodDescriptor y'.desc = some ⟨ps, rt⟩) (hlen : as.length = ps.length) (hst : st = as.reverse ++ .ref a :: rest) (hLs : Ls.length = ml) (hy : y'.cls ≠ "java/lang/invoke/MethodHandle" ∧ y'.cls ≠ "java/lang/invoke/VarHandle") (hf : rm.frames + 1 ≤ R.frames) (hl : wt rest + (ml' + 11) + rm.locals ≤ R.locals) (hc : cells + rm.cells ≤ R.cells) (hs : slots + rm.slots ≤ R.slots) :
    ∃ v h', Q v h' ∧ Go w l R Z n0 y code ml ret pc' Ls (v.toList ++ rest) h' (cells + rm.cells) (slots + rm.slots) := by
  subst hp hst
  obtain ⟨S, T, locs, X, e, N, k⟩ := r
  obtain ⟨cq, kq, qa, qb, qc⟩ := isOf S.2.1 e E
  obtain ⟨v, _, ⟨T', L', k', n'⟩, -, X', ⟨Lc, hQ, l', y2, z2⟩, q⟩ := X.virtualBack S.1 (y := y') (z := y') S.2.2.1 (mvT S.2.1 w1) (mvT S.2.1 wd) (notFace_of_selects (args := #[]) (mvT S.2.1 ws)) (mvT S.2.1 ws) (mvT S.2.1 w2) hy (backOf (W := wt rest) (Q := fun v h L => Q v h ∧ Fr n0 L) (M []) S.2.1 w4 w3 hf hl) qa qc (g := mkF w.m pc Ls.toArray (as.reverse ++ .ref a :: rest)) rfl (by rw [S.2.2.2.2.1]; simpa using hLs) (Steps.refl _) (argsL := as) (rest := rest) (lenOf hpd hlen) rfl (by show 2 * 0 + _ ≤ _; simp [wt]) (hb S.2.2.2.1 hd) (fun _ _ => ⟨rfl, e, hc, hs⟩)
  dsimp only [Pt.U, Pt.locs, Pt.cells, Pt.slots] at X' l' y2 z2 q hQ
  subst l' y2 z2
  exact ⟨v, T'.heap, hQ.1, S, T', _, X', rfl, N.app hQ.2, fun t z => k t (q.trans z)⟩
theorem Go.callP {kk : Nat} (r : Go w l R Z n0 y code ml ret pc Ls st h cells slots) (pc' : Nat) (hd : decode code pc = .ok (.invokevirtual idx, 3)) (hp : pc + 3 = pc') (M : Met l Z y' code' ml' ret' rm (.ref a :: as) h n0 Q) (E : Exa Z h a y'.cls) (w1 : (Cond.methodLink y.cls idx y').before a0 Z = true) (w2 : (Cond.instanceMethod y').before a0 Z = true) (wp : (Cond.privateMethod y').before a0 Z = true) (w3 : (Cond.initialized y'.cls).before a0 Z = true) (wi : (Cond.instantiable y'.cls kk).before a0 Z = true) (w4 : (Cond.code y' code' ml' ret').before a0 Z = true)
    (hpd : parseMethodDescriptor y'.desc = some ⟨ps, rt⟩) (hlen : as.length = ps.length) (hst : st = as.reverse ++ .ref a :: rest) (hLs : Ls.length = ml) (hy : y'.cls ≠ "java/lang/invoke/MethodHandle" ∧ y'.cls ≠ "java/lang/invoke/VarHandle") (hf : rm.frames + 1 ≤ R.frames) (hl : wt rest + (ml' + 11) + rm.locals ≤ R.locals) (hc : cells + rm.cells ≤ R.cells) (hs : slots + rm.slots ≤ R.slots) :
    ∃ v h', Q v h' ∧ Go w l R Z n0 y code ml ret pc' Ls (v.toList ++ rest) h' (cells + rm.cells) (slots + rm.slots) := by
  subst hp hst
  obtain ⟨S, T, locs, X, e, N, k⟩ := r
  obtain ⟨cq, q1, q2⟩ := E.cell
  obtain ⟨c1, k1, b1, b2, -, b3, -, -⟩ := Cond.instantiable_spec (show (Cond.instantiable y'.cls kk).before w.args w.s = true from mvT S.2.1 wi)
  have hsel : (Cond.selects y'.cls y' y').before w.args w.s = true := selects_self_of_private b1 b2 (Bool.or_eq_false_iff.mp b3).1 (Cond.privateMethod_at (mvP S.2.1 wp (args := w.args))) (mvT S.2.1 w2) hy
  obtain ⟨v, _, ⟨T', L', k', n'⟩, -, X', ⟨Lc, hQ, l', y2, z2⟩, q⟩ := X.privateBack S.1 (y := y') S.2.2.1 (mvT S.2.1 w1) (mvT S.2.1 w2) hsel (Cond.privateMethod_at (mvP S.2.1 wp (args := w.args))) (mvT S.2.1 w4) hy (backOf (W := wt rest) (Q := fun v h L => Q v h ∧ Fr n0 L) (M []) S.2.1 w4 w3 hf hl) (g := mkF w.m pc Ls.toArray (as.reverse ++ .ref a :: rest)) rfl (by rw [S.2.2.2.2.1]; simpa using hLs) (Steps.refl _) (a := a) (by rw [e]; exact q1) q2 (argsL := as) (rest := rest) (lenOf hpd hlen) rfl (by show 2 * 0 + _ ≤ _; simp [wt]) (hb S.2.2.2.1 hd) (fun _ _ => ⟨rfl, e, hc, hs⟩)
  dsimp only [Pt.U, Pt.locs, Pt.cells, Pt.slots] at X' l' y2 z2 q hQ
  subst l' y2 z2
  exact ⟨v, T'.heap, hQ.1, S, T', _, X', rfl, N.app hQ.2, fun t z => k t (q.trans z)⟩
/-- System.arraycopy between two arrays of one primitive kind, from the first place of both -/
theorem Go.acopy {nn : Int32} {vd : List Value} (r : Go w l R Z n0 y code ml ret pc Ls (.int nn :: .int 0 :: .ref b :: .int 0 :: .ref a :: st) h cells slots) (pc' : Nat) (hd : decode code pc = .ok (.invokestatic idx, 3)) (hp : pc + 3 = pc') (w1 : (Cond.methodLink y.cls idx Jvm.Stand.acN).before a0 Z = true) (w2 : (Cond.native Jvm.Stand.acN).before a0 Z = true) (w3 : (Cond.static Jvm.Stand.acN).before a0 Z = true) (w4 : (Cond.initialized "java/lang/System").before a0 Z = true)
    (A : Ary Z h a ty vs) (B : Ary Z h b ty vd) (hty : refKind ty = false) (hn : ¬ nn < 0) (h4 : nn.toNatClampNeg ≤ vs.length) (h5 : nn.toNatClampNeg ≤ vd.length) (g0 : n0 ≤ b) (hLs : Ls.length = ml) (hf : 1 ≤ R.frames) (hl : wt st + (nativeFrameWords "java/lang/System" "arraycopy" 5 + 11) ≤ R.locals) :
    ∃ h', Keep h h' [b] ∧ Ary Z h' b ty (vs.take nn.toNatClampNeg ++ vd.drop nn.toNatClampNeg) ∧ Go w l R Z n0 y code ml ret pc' Ls st h' cells slots := by
  subst hp
  obtain ⟨S, T, locs, X, e, N, k⟩ := r
  obtain ⟨ka, da, Va, za⟩ := A
  obtain ⟨kb, db, Vb, zb⟩ := B
  have z0 : (0 : Int32).toNatClampNeg = 0 := rfl
  obtain ⟨T', h', L, X', e', N', K, V, q⟩ := cpA X S.1 S.2.1 S.2.2.1 w1 w2 w3 w4 e (us := vs.take nn.toNatClampNeg) Va Vb (Or.inl ⟨rfl, hty⟩) (sp := 0) (dp := 0) (nn := nn) (by decide) (by decide) hn (by rw [len_nat za, z0]; omega) (by rw [len_nat zb, z0]; omega)
    (by
      rw [z0]
      apply List.ext_getElem?
      intro i
      by_cases hi : i < nn.toNatClampNeg
      · rw [List.getElem?_take_of_lt hi, List.getElem?_map, List.getElem?_range hi]
        simp only [Option.map_some, Nat.zero_add, List.getD_eq_getElem?_getD]
        rw [List.getElem?_eq_getElem (by omega)]; rfl
      · rw [List.getElem?_eq_none (by simp; omega), List.getElem?_eq_none (by simp; omega)])
    (by rw [z0]; omega) N g0 (g := mkF w.m pc Ls.toArray (.int nn :: .int 0 :: .ref b :: .int 0 :: .ref a :: st)) rfl (by rw [S.2.2.2.2.1]; simpa using hLs) rfl (hb S.2.2.2.1 hd) hf (W := wt st) (by show 2 * 0 + _ ≤ _; simp [wt]) hl
  refine ⟨h', K, ⟨kb, db, ?_, ?_⟩, S, T', L, X', e', N', fun t z => k t (q t z)⟩
  · have hlen : (vs.take nn.toNatClampNeg ++ vd.drop nn.toNatClampNeg).length = vd.length := by simp; omega
    rw [hlen]
    rw [z0] at V
    simpa using V
  · have hlen : (vs.take nn.toNatClampNeg ++ vd.drop nn.toNatClampNeg).length = vd.length := by simp; omega
    rw [hlen]; exact zb
/-! returning -/
theorem Go.retV (r : Go w l R Z n0 y code ml none pc Ls [] h cells slots) (hd : decode code pc = .ok (.return_, 1)) {Q : Heap → Prop} (q : Q h) {C S : Nat} (hc : cells ≤ C) (hs : slots ≤ S) : Fini w n0 (Ret0 Q) C S := by
  obtain ⟨S, T, locs, X, e, N, k⟩ := r
  obtain ⟨fs, hr, hrun, hended, hW, hsame⟩ := X.leave (v := none) (fun _ => rfl) S.2.2.2.2.2.2.1
  exact ⟨_, _, k _ (X.returnOut S.1 S.2.2.2.2.2.1 (hb S.2.2.2.1 hd) hr), hrun, hended, _, _, rfl, ⟨⟨rfl, by show Q T.heap; rw [e]; exact q⟩, N⟩, ⟨_, rfl⟩, hW, hsame.mono hc hs⟩
theorem Go.retI {z : Int32} (r : Go w l R Z n0 y code ml (some .int) pc Ls (.int z :: st) h cells slots) (hd : decode code pc = .ok (.ireturn, 1)) {Q : Value → Heap → Prop} (q : Q (.int z) h) {C S : Nat} (hc : cells ≤ C) (hs : slots ≤ S) : Fini w n0 (Ret Q) C S := by
  obtain ⟨S, T, locs, X, e, N, k⟩ := r
  obtain ⟨fs, hr, hrun, hended, hW, hsame⟩ := X.leave (v := some (.int z)) (fun h => by rw [S.2.2.2.2.2.1] at h; cases h) S.2.2.2.2.2.2.1
  exact ⟨_, _, k _ (retOut X S.1 S.2.2.2.2.2.1 rfl (Or.inl ⟨rfl, Or.inl rfl, z, rfl⟩) (hb S.2.2.2.1 hd) hr), hrun, hended, _, _, rfl, ⟨⟨_, rfl, by show Q _ T.heap; rw [e]; exact q⟩, N⟩, ⟨_, rfl⟩, hW, hsame.mono hc hs⟩
theorem Go.retN {t : FieldType} {z z' : Int32} (r : Go w l R Z n0 y code ml (some t) pc Ls (.int z :: st) h cells slots) (hd : decode code pc = .ok (.ireturn, 1)) (ht : t = .boolean ∨ t = .byte ∨ t = .char ∨ t = .short) (hz : nar t z = z') {Q : Value → Heap → Prop} (q : Q (.int z') h) {C S : Nat} (hc : cells ≤ C) (hs : slots ≤ S) : Fini w n0 (Ret Q) C S := by
  subst hz
  obtain ⟨S, T, locs, X, e, N, k⟩ := r
  obtain ⟨fs, hr, hrun, hended, hW, hsame⟩ := X.leave (v := some (.int (nar t z))) (fun h => by rw [S.2.2.2.2.2.1] at h; cases h) S.2.2.2.2.2.2.1
  exact ⟨_, _, k _ (Jvm.RoadKit.retN X S.1 S.2.2.2.2.2.1 ht (hb S.2.2.2.1 hd) hr), hrun, hended, _, _, rfl, ⟨⟨_, rfl, by show Q _ T.heap; rw [e]; exact q⟩, N⟩, ⟨_, rfl⟩, hW, hsame.mono hc hs⟩
theorem Go.retL {z : Int64} (r : Go w l R Z n0 y code ml (some .long) pc Ls (.long z :: st) h cells slots) (hd : decode code pc = .ok (.lreturn, 1)) {Q : Value → Heap → Prop} (q : Q (.long z) h) {C S : Nat} (hc : cells ≤ C) (hs : slots ≤ S) : Fini w n0 (Ret Q) C S := by
  obtain ⟨S, T, locs, X, e, N, k⟩ := r
  obtain ⟨fs, hr, hrun, hended, hW, hsame⟩ := X.leave (v := some (.long z)) (fun h => by rw [S.2.2.2.2.2.1] at h; cases h) S.2.2.2.2.2.2.1
  exact ⟨_, _, k _ (retOut X S.1 S.2.2.2.2.2.1 rfl (Or.inr (Or.inl ⟨rfl, rfl, z, rfl⟩)) (hb S.2.2.2.1 hd) hr), hrun, hended, _, _, rfl, ⟨⟨_, rfl, by show Q _ T.heap; rw [e]; exact q⟩, N⟩, ⟨_, rfl⟩, hW, hsame.mono hc hs⟩
theorem Go.retA {t : FieldType} (r : Go w l R Z n0 y code ml (some t) pc Ls (.ref a :: st) h cells slots) (hd : decode code pc = .ok (.areturn, 1)) (ht : t.isReference = true) (hn : narrow t (.ref a) = .ref a) {Q : Value → Heap → Prop} (q : Q (.ref a) h) {C S : Nat} (hc : cells ≤ C) (hs : slots ≤ S) : Fini w n0 (Ret Q) C S := by
  obtain ⟨S, T, locs, X, e, N, k⟩ := r
  obtain ⟨fs, hr, hrun, hended, hW, hsame⟩ := X.leave (v := some (.ref a)) (fun h => by rw [S.2.2.2.2.2.1] at h; cases h) S.2.2.2.2.2.2.1
  exact ⟨_, _, k _ (retOut X S.1 S.2.2.2.2.2.1 hn (Or.inr (Or.inr (Or.inr (Or.inr ⟨rfl, ht, rfl⟩)))) (hb S.2.2.2.1 hd) hr), hrun, hended, _, _, rfl, ⟨⟨_, rfl, by show Q _ T.heap; rw [e]; exact q⟩, N⟩, ⟨_, rfl⟩, hW, hsame.mono hc hs⟩
/-! small numbers -/
theorem nlt {a b : Nat} (ha : a < 2 ^ 31) (hb : b < 2 ^ 31) : Int32.ofNat a < Int32.ofNat b ↔ a < b := by
  rw [Int32.lt_iff_toInt_lt, Int32.toInt_ofNat_small ha, Int32.toInt_ofNat_small hb]; omega
theorem nadd (a b : Nat) : Int32.ofNat a + Int32.ofNat b = Int32.ofNat (a + b) := (Int32.ofNat_add a b).symm
theorem nadd1 (a : Nat) : Int32.ofNat a + 1 = Int32.ofNat (a + 1) := nadd a 1
theorem nsub {a b : Nat} (h : b ≤ a) : Int32.ofNat a - Int32.ofNat b = Int32.ofNat (a - b) := (Int32.ofNat_sub a b h).symm
theorem neqn {a b : Nat} (ha : a < 2 ^ 31) (hb : b < 2 ^ 31) : Int32.ofNat a = Int32.ofNat b ↔ a = b := by
  rw [← Int32.toInt_inj, Int32.toInt_ofNat_small ha, Int32.toInt_ofNat_small hb]; omega
theorem get_long {os : List Int64} {j : Nat} (hj : j < os.length) : (os.map Value.long)[j]? = some (.long (os.getD j 0)) := by
  rw [List.getElem?_map, List.getD_eq_getElem?_getD, List.getElem?_eq_getElem hj]; rfl
theorem get_int {os : List Int32} {j : Nat} (hj : j < os.length) : (os.map Value.int)[j]? = some (.int (os.getD j 0)) := by
  rw [List.getElem?_map, List.getD_eq_getElem?_getD, List.getElem?_eq_getElem hj]; rfl
end Walk
end Jvm.OwnKit
namespace Jvm.Pilot.@@N@@
open Jvm Jvm.ClassFile Sem Op Lib Jvm.Free Jvm.Stand Jvm.LawKit Jvm.RoadKit Bundle Jvm.OwnKit Jvm.Pilot.@@N@@.Jvm.D
abbrev Ws (Z : State) (a0 : Array Value) : Prop := ∀ d ∈ tables_1, d.before a0 Z = true
theorem wd_0 {Z : State} {a0 : Array Value} (hw : Ws Z a0) : (Jvm.Cond.classLink "com/example/orderly_ranges/orderlyranges/daemon/ArrivalsPausePinLaw" (7 : Nat) "com/example/orderly_ranges/orderlyranges/daemon/Arrivals").before a0 Z = true := hw _ (List.mem_of_getElem? (i := 0) rfl)
theorem wd_1 {Z : State} {a0 : Array Value} (hw : Ws Z a0) : (Jvm.Cond.instantiable "com/example/orderly_ranges/orderlyranges/daemon/Arrivals" (6 : Nat)).before a0 Z = true := hw _ (List.mem_of_getElem? (i := 1) rfl)
theorem wd_2 {Z : State} {a0 : Array Value} (hw : Ws Z a0) : (Jvm.Cond.initialized "com/example/orderly_ranges/orderlyranges/daemon/Arrivals").before a0 Z = true := hw _ (List.mem_of_getElem? (i := 2) rfl)
theorem wd_3 {Z : State} {a0 : Array Value} (hw : Ws Z a0) : (Jvm.Cond.methodLink "com/example/orderly_ranges/orderlyranges/daemon/ArrivalsPausePinLaw" (9 : Nat) ({ cls := "com/example/orderly_ranges/orderlyranges/daemon/Arrivals", name := "<init>", desc := "()V" } : Jvm.MethodName)).before a0 Z = true := hw _ (List.mem_of_getElem? (i := 3) rfl)
theorem wd_4 {Z : State} {a0 : Array Value} (hw : Ws Z a0) : (Jvm.Cond.instanceMethod ({ cls := "com/example/orderly_ranges/orderlyranges/daemon/Arrivals", name := "<init>", desc := "()V" } : Jvm.MethodName)).before a0 Z = true := hw _ (List.mem_of_getElem? (i := 4) rfl)
theorem wd_5 {Z : State} {a0 : Array Value} (hw : Ws Z a0) : (Jvm.Cond.code ({ cls := "com/example/orderly_ranges/orderlyranges/daemon/Arrivals", name := "<init>", desc := "()V" } : Jvm.MethodName) prog_1_method_1_code (1 : Nat) (Option.none : Option Jvm.ClassFile.FieldType)).before a0 Z = true := hw _ (List.mem_of_getElem? (i := 5) rfl)
theorem wd_6 {Z : State} {a0 : Array Value} (hw : Ws Z a0) : (Jvm.Cond.methodLink "com/example/orderly_ranges/orderlyranges/daemon/Arrivals" (1 : Nat) ({ cls := "java/lang/Object", name := "<init>", desc := "()V" } : Jvm.MethodName)).before a0 Z = true := hw _ (List.mem_of_getElem? (i := 6) rfl)
theorem wd_7 {Z : State} {a0 : Array Value} (hw : Ws Z a0) : (Jvm.Cond.instanceMethod ({ cls := "java/lang/Object", name := "<init>", desc := "()V" } : Jvm.MethodName)).before a0 Z = true := hw _ (List.mem_of_getElem? (i := 7) rfl)
theorem wd_8 {Z : State} {a0 : Array Value} (hw : Ws Z a0) : (Jvm.Cond.code ({ cls := "java/lang/Object", name := "<init>", desc := "()V" } : Jvm.MethodName) object_method_1_code (1 : Nat) (Option.none : Option Jvm.ClassFile.FieldType)).before a0 Z = true := hw _ (List.mem_of_getElem? (i := 8) rfl)
theorem wd_9 {Z : State} {a0 : Array Value} (hw : Ws Z a0) : (Jvm.Cond.arrayClass Jvm.ClassFile.FieldType.int).before a0 Z = true := hw _ (List.mem_of_getElem? (i := 9) rfl)
theorem wd_10 {Z : State} {a0 : Array Value} (hw : Ws Z a0) : (Jvm.Cond.fieldLink "com/example/orderly_ranges/orderlyranges/daemon/Arrivals" (9 : Nat) "com/example/orderly_ranges/orderlyranges/daemon/Arrivals" "sizes" "[I").before a0 Z = true := hw _ (List.mem_of_getElem? (i := 10) rfl)
theorem wd_11 {Z : State} {a0 : Array Value} (hw : Ws Z a0) : (Jvm.Cond.laysFinal "com/example/orderly_ranges/orderlyranges/daemon/Arrivals" "com/example/orderly_ranges/orderlyranges/daemon/Arrivals" "sizes" "[I").before a0 Z = true := hw _ (List.mem_of_getElem? (i := 11) rfl)
theorem wd_12 {Z : State} {a0 : Array Value} (hw : Ws Z a0) : (Jvm.Cond.arrayClass Jvm.ClassFile.FieldType.long).before a0 Z = true := hw _ (List.mem_of_getElem? (i := 12) rfl)
theorem wd_13 {Z : State} {a0 : Array Value} (hw : Ws Z a0) : (Jvm.Cond.fieldLink "com/example/orderly_ranges/orderlyranges/daemon/Arrivals" (13 : Nat) "com/example/orderly_ranges/orderlyranges/daemon/Arrivals" "times" "[J").before a0 Z = true := hw _ (List.mem_of_getElem? (i := 13) rfl)
theorem wd_14 {Z : State} {a0 : Array Value} (hw : Ws Z a0) : (Jvm.Cond.laysFinal "com/example/orderly_ranges/orderlyranges/daemon/Arrivals" "com/example/orderly_ranges/orderlyranges/daemon/Arrivals" "times" "[J").before a0 Z = true := hw _ (List.mem_of_getElem? (i := 14) rfl)
theorem wd_15 {Z : State} {a0 : Array Value} (hw : Ws Z a0) : (Jvm.Cond.methodLink "com/example/orderly_ranges/orderlyranges/daemon/ArrivalsPausePinLaw" (10 : Nat) ({ cls := "com/example/orderly_ranges/orderlyranges/daemon/Arrivals", name := "pause", desc := "(J)V" } : Jvm.MethodName)).before a0 Z = true := hw _ (List.mem_of_getElem? (i := 15) rfl)
theorem wd_16 {Z : State} {a0 : Array Value} (hw : Ws Z a0) : (Jvm.Cond.declares ({ cls := "com/example/orderly_ranges/orderlyranges/daemon/Arrivals", name := "pause", desc := "(J)V" } : Jvm.MethodName)).before a0 Z = true := hw _ (List.mem_of_getElem? (i := 16) rfl)
theorem wd_17 {Z : State} {a0 : Array Value} (hw : Ws Z a0) : (Jvm.Cond.instanceMethod ({ cls := "com/example/orderly_ranges/orderlyranges/daemon/Arrivals", name := "pause", desc := "(J)V" } : Jvm.MethodName)).before a0 Z = true := hw _ (List.mem_of_getElem? (i := 17) rfl)
theorem wd_18 {Z : State} {a0 : Array Value} (hw : Ws Z a0) : (Jvm.Cond.selects "com/example/orderly_ranges/orderlyranges/daemon/Arrivals" ({ cls := "com/example/orderly_ranges/orderlyranges/daemon/Arrivals", name := "pause", desc := "(J)V" } : Jvm.MethodName) ({ cls := "com/example/orderly_ranges/orderlyranges/daemon/Arrivals", name := "pause", desc := "(J)V" } : Jvm.MethodName)).before a0 Z = true := hw _ (List.mem_of_getElem? (i := 18) rfl)
theorem wd_19 {Z : State} {a0 : Array Value} (hw : Ws Z a0) : (Jvm.Cond.code ({ cls := "com/example/orderly_ranges/orderlyranges/daemon/Arrivals", name := "pause", desc := "(J)V" } : Jvm.MethodName) prog_1_method_2_code (3 : Nat) (Option.none : Option Jvm.ClassFile.FieldType)).before a0 Z = true := hw _ (List.mem_of_getElem? (i := 19) rfl)
theorem wd_20 {Z : State} {a0 : Array Value} (hw : Ws Z a0) : (Jvm.Cond.fieldLink "com/example/orderly_ranges/orderlyranges/daemon/Arrivals" (17 : Nat) "com/example/orderly_ranges/orderlyranges/daemon/Arrivals" "paused" "Z").before a0 Z = true := hw _ (List.mem_of_getElem? (i := 20) rfl)
theorem wd_21 {Z : State} {a0 : Array Value} (hw : Ws Z a0) : (Jvm.Cond.lays "com/example/orderly_ranges/orderlyranges/daemon/Arrivals" "com/example/orderly_ranges/orderlyranges/daemon/Arrivals" "paused" "Z").before a0 Z = true := hw _ (List.mem_of_getElem? (i := 21) rfl)
theorem wd_22 {Z : State} {a0 : Array Value} (hw : Ws Z a0) : (Jvm.Cond.fieldLink "com/example/orderly_ranges/orderlyranges/daemon/Arrivals" (21 : Nat) "com/example/orderly_ranges/orderlyranges/daemon/Arrivals" "pausedAt" "J").before a0 Z = true := hw _ (List.mem_of_getElem? (i := 22) rfl)
theorem wd_23 {Z : State} {a0 : Array Value} (hw : Ws Z a0) : (Jvm.Cond.lays "com/example/orderly_ranges/orderlyranges/daemon/Arrivals" "com/example/orderly_ranges/orderlyranges/daemon/Arrivals" "pausedAt" "J").before a0 Z = true := hw _ (List.mem_of_getElem? (i := 23) rfl)
theorem wd_24 {Z : State} {a0 : Array Value} (hw : Ws Z a0) : (Jvm.Cond.methodLink "com/example/orderly_ranges/orderlyranges/daemon/ArrivalsPausePinLaw" (14 : Nat) ({ cls := "com/example/orderly_ranges/orderlyranges/daemon/Arrivals", name := "read", desc := "(IZJ)V" } : Jvm.MethodName)).before a0 Z = true := hw _ (List.mem_of_getElem? (i := 24) rfl)
theorem wd_25 {Z : State} {a0 : Array Value} (hw : Ws Z a0) : (Jvm.Cond.declares ({ cls := "com/example/orderly_ranges/orderlyranges/daemon/Arrivals", name := "read", desc := "(IZJ)V" } : Jvm.MethodName)).before a0 Z = true := hw _ (List.mem_of_getElem? (i := 25) rfl)
theorem wd_26 {Z : State} {a0 : Array Value} (hw : Ws Z a0) : (Jvm.Cond.instanceMethod ({ cls := "com/example/orderly_ranges/orderlyranges/daemon/Arrivals", name := "read", desc := "(IZJ)V" } : Jvm.MethodName)).before a0 Z = true := hw _ (List.mem_of_getElem? (i := 26) rfl)
theorem wd_27 {Z : State} {a0 : Array Value} (hw : Ws Z a0) : (Jvm.Cond.selects "com/example/orderly_ranges/orderlyranges/daemon/Arrivals" ({ cls := "com/example/orderly_ranges/orderlyranges/daemon/Arrivals", name := "read", desc := "(IZJ)V" } : Jvm.MethodName) ({ cls := "com/example/orderly_ranges/orderlyranges/daemon/Arrivals", name := "read", desc := "(IZJ)V" } : Jvm.MethodName)).before a0 Z = true := hw _ (List.mem_of_getElem? (i := 27) rfl)
theorem wd_28 {Z : State} {a0 : Array Value} (hw : Ws Z a0) : (Jvm.Cond.code ({ cls := "com/example/orderly_ranges/orderlyranges/daemon/Arrivals", name := "read", desc := "(IZJ)V" } : Jvm.MethodName) prog_1_method_3_code (7 : Nat) (Option.none : Option Jvm.ClassFile.FieldType)).before a0 Z = true := hw _ (List.mem_of_getElem? (i := 28) rfl)
theorem wd_29 {Z : State} {a0 : Array Value} (hw : Ws Z a0) : (Jvm.Cond.fieldLink "com/example/orderly_ranges/orderlyranges/daemon/Arrivals" (25 : Nat) "com/example/orderly_ranges/orderlyranges/daemon/Arrivals" "count" "I").before a0 Z = true := hw _ (List.mem_of_getElem? (i := 29) rfl)
theorem wd_30 {Z : State} {a0 : Array Value} (hw : Ws Z a0) : (Jvm.Cond.lays "com/example/orderly_ranges/orderlyranges/daemon/Arrivals" "com/example/orderly_ranges/orderlyranges/daemon/Arrivals" "count" "I").before a0 Z = true := hw _ (List.mem_of_getElem? (i := 30) rfl)
theorem wd_31 {Z : State} {a0 : Array Value} (hw : Ws Z a0) : (Jvm.Cond.methodLink "com/example/orderly_ranges/orderlyranges/daemon/Arrivals" (29 : Nat) ({ cls := "com/example/orderly_ranges/orderlyranges/daemon/Arrivals", name := "slot", desc := "(I)I" } : Jvm.MethodName)).before a0 Z = true := hw _ (List.mem_of_getElem? (i := 31) rfl)
theorem wd_32 {Z : State} {a0 : Array Value} (hw : Ws Z a0) : (Jvm.Cond.instanceMethod ({ cls := "com/example/orderly_ranges/orderlyranges/daemon/Arrivals", name := "slot", desc := "(I)I" } : Jvm.MethodName)).before a0 Z = true := hw _ (List.mem_of_getElem? (i := 32) rfl)
theorem wd_33 {Z : State} {a0 : Array Value} (hw : Ws Z a0) : (Jvm.Cond.privateMethod ({ cls := "com/example/orderly_ranges/orderlyranges/daemon/Arrivals", name := "slot", desc := "(I)I" } : Jvm.MethodName)).before a0 Z = true := hw _ (List.mem_of_getElem? (i := 33) rfl)
theorem wd_34 {Z : State} {a0 : Array Value} (hw : Ws Z a0) : (Jvm.Cond.code ({ cls := "com/example/orderly_ranges/orderlyranges/daemon/Arrivals", name := "slot", desc := "(I)I" } : Jvm.MethodName) prog_1_method_6_code (2 : Nat) (Option.some Jvm.ClassFile.FieldType.int)).before a0 Z = true := hw _ (List.mem_of_getElem? (i := 34) rfl)
theorem wd_35 {Z : State} {a0 : Array Value} (hw : Ws Z a0) : (Jvm.Cond.fieldLink "com/example/orderly_ranges/orderlyranges/daemon/Arrivals" (42 : Nat) "com/example/orderly_ranges/orderlyranges/daemon/Arrivals" "first" "I").before a0 Z = true := hw _ (List.mem_of_getElem? (i := 35) rfl)
theorem wd_36 {Z : State} {a0 : Array Value} (hw : Ws Z a0) : (Jvm.Cond.lays "com/example/orderly_ranges/orderlyranges/daemon/Arrivals" "com/example/orderly_ranges/orderlyranges/daemon/Arrivals" "first" "I").before a0 Z = true := hw _ (List.mem_of_getElem? (i := 36) rfl)
theorem wd_37 {Z : State} {a0 : Array Value} (hw : Ws Z a0) : (Jvm.Cond.methodLink "com/example/orderly_ranges/orderlyranges/daemon/ArrivalsPausePinLaw" (18 : Nat) ({ cls := "com/example/orderly_ranges/orderlyranges/daemon/Arrivals", name := "first", desc := "()J" } : Jvm.MethodName)).before a0 Z = true := hw _ (List.mem_of_getElem? (i := 37) rfl)
theorem wd_38 {Z : State} {a0 : Array Value} (hw : Ws Z a0) : (Jvm.Cond.declares ({ cls := "com/example/orderly_ranges/orderlyranges/daemon/Arrivals", name := "first", desc := "()J" } : Jvm.MethodName)).before a0 Z = true := hw _ (List.mem_of_getElem? (i := 38) rfl)
theorem wd_39 {Z : State} {a0 : Array Value} (hw : Ws Z a0) : (Jvm.Cond.instanceMethod ({ cls := "com/example/orderly_ranges/orderlyranges/daemon/Arrivals", name := "first", desc := "()J" } : Jvm.MethodName)).before a0 Z = true := hw _ (List.mem_of_getElem? (i := 39) rfl)
theorem wd_40 {Z : State} {a0 : Array Value} (hw : Ws Z a0) : (Jvm.Cond.selects "com/example/orderly_ranges/orderlyranges/daemon/Arrivals" ({ cls := "com/example/orderly_ranges/orderlyranges/daemon/Arrivals", name := "first", desc := "()J" } : Jvm.MethodName) ({ cls := "com/example/orderly_ranges/orderlyranges/daemon/Arrivals", name := "first", desc := "()J" } : Jvm.MethodName)).before a0 Z = true := hw _ (List.mem_of_getElem? (i := 40) rfl)
theorem wd_41 {Z : State} {a0 : Array Value} (hw : Ws Z a0) : (Jvm.Cond.code ({ cls := "com/example/orderly_ranges/orderlyranges/daemon/Arrivals", name := "first", desc := "()J" } : Jvm.MethodName) prog_1_method_5_code (1 : Nat) (Option.some Jvm.ClassFile.FieldType.long)).before a0 Z = true := hw _ (List.mem_of_getElem? (i := 41) rfl)
theorem wd_42 {Z : State} {a0 : Array Value} (hw : Ws Z a0) : (Jvm.Cond.methodLink "com/example/orderly_ranges/orderlyranges/daemon/ArrivalsPausePinLaw" (22 : Nat) ({ cls := "com/example/orderly_ranges/orderlyranges/daemon/Arrivals", name := "consume", desc := "(I)V" } : Jvm.MethodName)).before a0 Z = true := hw _ (List.mem_of_getElem? (i := 42) rfl)
theorem wd_43 {Z : State} {a0 : Array Value} (hw : Ws Z a0) : (Jvm.Cond.declares ({ cls := "com/example/orderly_ranges/orderlyranges/daemon/Arrivals", name := "consume", desc := "(I)V" } : Jvm.MethodName)).before a0 Z = true := hw _ (List.mem_of_getElem? (i := 43) rfl)
theorem wd_44 {Z : State} {a0 : Array Value} (hw : Ws Z a0) : (Jvm.Cond.instanceMethod ({ cls := "com/example/orderly_ranges/orderlyranges/daemon/Arrivals", name := "consume", desc := "(I)V" } : Jvm.MethodName)).before a0 Z = true := hw _ (List.mem_of_getElem? (i := 44) rfl)
theorem wd_45 {Z : State} {a0 : Array Value} (hw : Ws Z a0) : (Jvm.Cond.selects "com/example/orderly_ranges/orderlyranges/daemon/Arrivals" ({ cls := "com/example/orderly_ranges/orderlyranges/daemon/Arrivals", name := "consume", desc := "(I)V" } : Jvm.MethodName) ({ cls := "com/example/orderly_ranges/orderlyranges/daemon/Arrivals", name := "consume", desc := "(I)V" } : Jvm.MethodName)).before a0 Z = true := hw _ (List.mem_of_getElem? (i := 45) rfl)
theorem wd_46 {Z : State} {a0 : Array Value} (hw : Ws Z a0) : (Jvm.Cond.code ({ cls := "com/example/orderly_ranges/orderlyranges/daemon/Arrivals", name := "consume", desc := "(I)V" } : Jvm.MethodName) prog_1_method_4_code (4 : Nat) (Option.none : Option Jvm.ClassFile.FieldType)).before a0 Z = true := hw _ (List.mem_of_getElem? (i := 46) rfl)
theorem wd_47 {Z : State} {a0 : Array Value} (hw : Ws Z a0) : (Jvm.Cond.methodLink "com/example/orderly_ranges/orderlyranges/daemon/Arrivals" (45 : Nat) ({ cls := "java/lang/Math", name := "min", desc := "(II)I" } : Jvm.MethodName)).before a0 Z = true := hw _ (List.mem_of_getElem? (i := 47) rfl)
theorem wd_48 {Z : State} {a0 : Array Value} (hw : Ws Z a0) : (Jvm.Cond.static ({ cls := "java/lang/Math", name := "min", desc := "(II)I" } : Jvm.MethodName)).before a0 Z = true := hw _ (List.mem_of_getElem? (i := 48) rfl)
theorem wd_49 {Z : State} {a0 : Array Value} (hw : Ws Z a0) : (Jvm.Cond.initialized "java/lang/Math").before a0 Z = true := hw _ (List.mem_of_getElem? (i := 49) rfl)
theorem wd_50 {Z : State} {a0 : Array Value} (hw : Ws Z a0) : (Jvm.Cond.code ({ cls := "java/lang/Math", name := "min", desc := "(II)I" } : Jvm.MethodName) jdk_29_method_69_code (2 : Nat) (Option.some Jvm.ClassFile.FieldType.int)).before a0 Z = true := hw _ (List.mem_of_getElem? (i := 50) rfl)
abbrev Y0 : MethodName := x
abbrev Y1 : MethodName := ⟨"com/example/orderly_ranges/orderlyranges/daemon/Arrivals", "<init>", "()V"⟩
theorem d1_0 : decode prog_1_method_1_code 0 = .ok (.aload_n 0, 1) := by decide +kernel
theorem d1_1 : decode prog_1_method_1_code 1 = .ok (.invokespecial 1, 3) := by decide +kernel
theorem d1_4 : decode prog_1_method_1_code 4 = .ok (.aload_n 0, 1) := by decide +kernel
theorem d1_5 : decode prog_1_method_1_code 5 = .ok (.bipush 16, 2) := by decide +kernel
theorem d1_7 : decode prog_1_method_1_code 7 = .ok (.newarray .int, 2) := by decide +kernel
theorem d1_9 : decode prog_1_method_1_code 9 = .ok (.putfield 9, 3) := by decide +kernel
theorem d1_12 : decode prog_1_method_1_code 12 = .ok (.aload_n 0, 1) := by decide +kernel
theorem d1_13 : decode prog_1_method_1_code 13 = .ok (.bipush 16, 2) := by decide +kernel
theorem d1_15 : decode prog_1_method_1_code 15 = .ok (.newarray .long, 2) := by decide +kernel
theorem d1_17 : decode prog_1_method_1_code 17 = .ok (.putfield 13, 3) := by decide +kernel
theorem d1_20 : decode prog_1_method_1_code 20 = .ok (.return_, 1) := by decide +kernel
theorem pd_1 : parseMethodDescriptor "()V" = some ⟨[], none⟩ := by decide +kernel
abbrev Y2 : MethodName := ⟨"java/lang/Object", "<init>", "()V"⟩
abbrev Y3 : MethodName := ⟨"com/example/orderly_ranges/orderlyranges/daemon/Arrivals", "pause", "(J)V"⟩
theorem d3_0 : decode prog_1_method_2_code 0 = .ok (.aload_n 0, 1) := by decide +kernel
theorem d3_1 : decode prog_1_method_2_code 1 = .ok (.getfield 17, 3) := by decide +kernel
theorem d3_4 : decode prog_1_method_2_code 4 = .ok (.ifCond .eq 4, 3) := by decide +kernel
theorem d3_7 : decode prog_1_method_2_code 7 = .ok (.return_, 1) := by decide +kernel
theorem d3_8 : decode prog_1_method_2_code 8 = .ok (.aload_n 0, 1) := by decide +kernel
theorem d3_9 : decode prog_1_method_2_code 9 = .ok (.iconst 1, 1) := by decide +kernel
theorem d3_10 : decode prog_1_method_2_code 10 = .ok (.putfield 17, 3) := by decide +kernel
theorem d3_13 : decode prog_1_method_2_code 13 = .ok (.aload_n 0, 1) := by decide +kernel
theorem d3_14 : decode prog_1_method_2_code 14 = .ok (.lload_n 1, 1) := by decide +kernel
theorem d3_15 : decode prog_1_method_2_code 15 = .ok (.putfield 21, 3) := by decide +kernel
theorem d3_18 : decode prog_1_method_2_code 18 = .ok (.return_, 1) := by decide +kernel
theorem pd_3 : parseMethodDescriptor "(J)V" = some ⟨[.long], none⟩ := by decide +kernel
abbrev Y4 : MethodName := ⟨"com/example/orderly_ranges/orderlyranges/daemon/Arrivals", "read", "(IZJ)V"⟩
theorem d4_0 : decode prog_1_method_3_code 0 = .ok (.aload_n 0, 1) := by decide +kernel
theorem d4_1 : decode prog_1_method_3_code 1 = .ok (.getfield 17, 3) := by decide +kernel
theorem d4_4 : decode prog_1_method_3_code 4 = .ok (.ifCond .eq 10, 3) := by decide +kernel
theorem d4_7 : decode prog_1_method_3_code 7 = .ok (.aload_n 0, 1) := by decide +kernel
theorem d4_8 : decode prog_1_method_3_code 8 = .ok (.getfield 21, 3) := by decide +kernel
theorem d4_11 : decode prog_1_method_3_code 11 = .ok (.goto 4, 3) := by decide +kernel
theorem d4_14 : decode prog_1_method_3_code 14 = .ok (.lload_n 3, 1) := by decide +kernel
theorem d4_15 : decode prog_1_method_3_code 15 = .ok (.lstore 5, 2) := by decide +kernel
theorem d4_17 : decode prog_1_method_3_code 17 = .ok (.aload_n 0, 1) := by decide +kernel
theorem d4_18 : decode prog_1_method_3_code 18 = .ok (.dup, 1) := by decide +kernel
theorem d4_19 : decode prog_1_method_3_code 19 = .ok (.getfield 17, 3) := by decide +kernel
theorem d4_22 : decode prog_1_method_3_code 22 = .ok (.iload_n 2, 1) := by decide +kernel
theorem d4_23 : decode prog_1_method_3_code 23 = .ok (.iand, 1) := by decide +kernel
theorem d4_24 : decode prog_1_method_3_code 24 = .ok (.putfield 17, 3) := by decide +kernel
theorem d4_27 : decode prog_1_method_3_code 27 = .ok (.iload_n 1, 1) := by decide +kernel
theorem d4_28 : decode prog_1_method_3_code 28 = .ok (.ifCond .gt 4, 3) := by decide +kernel
theorem d4_32 : decode prog_1_method_3_code 32 = .ok (.aload_n 0, 1) := by decide +kernel
theorem d4_33 : decode prog_1_method_3_code 33 = .ok (.getfield 25, 3) := by decide +kernel
theorem d4_36 : decode prog_1_method_3_code 36 = .ok (.bipush 16, 2) := by decide +kernel
theorem d4_38 : decode prog_1_method_3_code 38 = .ok (.if_icmp .ne 19, 3) := by decide +kernel
theorem d4_57 : decode prog_1_method_3_code 57 = .ok (.aload_n 0, 1) := by decide +kernel
theorem d4_58 : decode prog_1_method_3_code 58 = .ok (.getfield 9, 3) := by decide +kernel
theorem d4_61 : decode prog_1_method_3_code 61 = .ok (.aload_n 0, 1) := by decide +kernel
theorem d4_62 : decode prog_1_method_3_code 62 = .ok (.aload_n 0, 1) := by decide +kernel
theorem d4_63 : decode prog_1_method_3_code 63 = .ok (.getfield 25, 3) := by decide +kernel
theorem d4_66 : decode prog_1_method_3_code 66 = .ok (.invokevirtual 29, 3) := by decide +kernel
theorem d4_69 : decode prog_1_method_3_code 69 = .ok (.iload_n 1, 1) := by decide +kernel
theorem d4_70 : decode prog_1_method_3_code 70 = .ok (.iastore, 1) := by decide +kernel
theorem d4_71 : decode prog_1_method_3_code 71 = .ok (.aload_n 0, 1) := by decide +kernel
theorem d4_72 : decode prog_1_method_3_code 72 = .ok (.getfield 13, 3) := by decide +kernel
theorem d4_75 : decode prog_1_method_3_code 75 = .ok (.aload_n 0, 1) := by decide +kernel
theorem d4_76 : decode prog_1_method_3_code 76 = .ok (.aload_n 0, 1) := by decide +kernel
theorem d4_77 : decode prog_1_method_3_code 77 = .ok (.getfield 25, 3) := by decide +kernel
theorem d4_80 : decode prog_1_method_3_code 80 = .ok (.invokevirtual 29, 3) := by decide +kernel
theorem d4_83 : decode prog_1_method_3_code 83 = .ok (.lload 5, 2) := by decide +kernel
theorem d4_85 : decode prog_1_method_3_code 85 = .ok (.lastore, 1) := by decide +kernel
theorem d4_86 : decode prog_1_method_3_code 86 = .ok (.aload_n 0, 1) := by decide +kernel
theorem d4_87 : decode prog_1_method_3_code 87 = .ok (.dup, 1) := by decide +kernel
theorem d4_88 : decode prog_1_method_3_code 88 = .ok (.getfield 25, 3) := by decide +kernel
theorem d4_91 : decode prog_1_method_3_code 91 = .ok (.iconst 1, 1) := by decide +kernel
theorem d4_92 : decode prog_1_method_3_code 92 = .ok (.iadd, 1) := by decide +kernel
theorem d4_93 : decode prog_1_method_3_code 93 = .ok (.putfield 25, 3) := by decide +kernel
theorem d4_96 : decode prog_1_method_3_code 96 = .ok (.return_, 1) := by decide +kernel
theorem pd_4 : parseMethodDescriptor "(IZJ)V" = some ⟨[.int, .boolean, .long], none⟩ := by decide +kernel
abbrev Y5 : MethodName := ⟨"com/example/orderly_ranges/orderlyranges/daemon/Arrivals", "slot", "(I)I"⟩
theorem d5_0 : decode prog_1_method_6_code 0 = .ok (.aload_n 0, 1) := by decide +kernel
theorem d5_1 : decode prog_1_method_6_code 1 = .ok (.getfield 42, 3) := by decide +kernel
theorem d5_4 : decode prog_1_method_6_code 4 = .ok (.iload_n 1, 1) := by decide +kernel
theorem d5_5 : decode prog_1_method_6_code 5 = .ok (.iadd, 1) := by decide +kernel
theorem d5_6 : decode prog_1_method_6_code 6 = .ok (.bipush 16, 2) := by decide +kernel
theorem d5_8 : decode prog_1_method_6_code 8 = .ok (.irem, 1) := by decide +kernel
theorem d5_9 : decode prog_1_method_6_code 9 = .ok (.ireturn, 1) := by decide +kernel
theorem pd_5 : parseMethodDescriptor "(I)I" = some ⟨[.int], some .int⟩ := by decide +kernel
abbrev Y6 : MethodName := ⟨"com/example/orderly_ranges/orderlyranges/daemon/Arrivals", "first", "()J"⟩
theorem d6_0 : decode prog_1_method_5_code 0 = .ok (.aload_n 0, 1) := by decide +kernel
theorem d6_1 : decode prog_1_method_5_code 1 = .ok (.getfield 25, 3) := by decide +kernel
theorem d6_4 : decode prog_1_method_5_code 4 = .ok (.ifCond .ne 13, 3) := by decide +kernel
theorem d6_17 : decode prog_1_method_5_code 17 = .ok (.aload_n 0, 1) := by decide +kernel
theorem d6_18 : decode prog_1_method_5_code 18 = .ok (.getfield 13, 3) := by decide +kernel
theorem d6_21 : decode prog_1_method_5_code 21 = .ok (.aload_n 0, 1) := by decide +kernel
theorem d6_22 : decode prog_1_method_5_code 22 = .ok (.getfield 42, 3) := by decide +kernel
theorem d6_25 : decode prog_1_method_5_code 25 = .ok (.laload, 1) := by decide +kernel
theorem d6_26 : decode prog_1_method_5_code 26 = .ok (.lreturn, 1) := by decide +kernel
theorem pd_6 : parseMethodDescriptor "()J" = some ⟨[], some .long⟩ := by decide +kernel
abbrev Y7 : MethodName := ⟨"com/example/orderly_ranges/orderlyranges/daemon/Arrivals", "consume", "(I)V"⟩
theorem d7_0 : decode prog_1_method_4_code 0 = .ok (.iload_n 1, 1) := by decide +kernel
theorem d7_1 : decode prog_1_method_4_code 1 = .ok (.istore_n 2, 1) := by decide +kernel
theorem d7_2 : decode prog_1_method_4_code 2 = .ok (.iload_n 2, 1) := by decide +kernel
theorem d7_3 : decode prog_1_method_4_code 3 = .ok (.ifCond .le 90, 3) := by decide +kernel
theorem d7_6 : decode prog_1_method_4_code 6 = .ok (.aload_n 0, 1) := by decide +kernel
theorem d7_7 : decode prog_1_method_4_code 7 = .ok (.getfield 25, 3) := by decide +kernel
theorem d7_10 : decode prog_1_method_4_code 10 = .ok (.ifCond .ne 18, 3) := by decide +kernel
theorem d7_28 : decode prog_1_method_4_code 28 = .ok (.iload_n 2, 1) := by decide +kernel
theorem d7_29 : decode prog_1_method_4_code 29 = .ok (.aload_n 0, 1) := by decide +kernel
theorem d7_30 : decode prog_1_method_4_code 30 = .ok (.getfield 9, 3) := by decide +kernel
theorem d7_33 : decode prog_1_method_4_code 33 = .ok (.aload_n 0, 1) := by decide +kernel
theorem d7_34 : decode prog_1_method_4_code 34 = .ok (.getfield 42, 3) := by decide +kernel
theorem d7_37 : decode prog_1_method_4_code 37 = .ok (.iaload, 1) := by decide +kernel
theorem d7_38 : decode prog_1_method_4_code 38 = .ok (.invokestatic 45, 3) := by decide +kernel
theorem d7_41 : decode prog_1_method_4_code 41 = .ok (.istore_n 3, 1) := by decide +kernel
theorem d7_42 : decode prog_1_method_4_code 42 = .ok (.aload_n 0, 1) := by decide +kernel
theorem d7_43 : decode prog_1_method_4_code 43 = .ok (.getfield 9, 3) := by decide +kernel
theorem d7_46 : decode prog_1_method_4_code 46 = .ok (.aload_n 0, 1) := by decide +kernel
theorem d7_47 : decode prog_1_method_4_code 47 = .ok (.getfield 42, 3) := by decide +kernel
theorem d7_50 : decode prog_1_method_4_code 50 = .ok (.dup2, 1) := by decide +kernel
theorem d7_51 : decode prog_1_method_4_code 51 = .ok (.iaload, 1) := by decide +kernel
theorem d7_52 : decode prog_1_method_4_code 52 = .ok (.iload_n 3, 1) := by decide +kernel
theorem d7_53 : decode prog_1_method_4_code 53 = .ok (.isub, 1) := by decide +kernel
theorem d7_54 : decode prog_1_method_4_code 54 = .ok (.iastore, 1) := by decide +kernel
theorem d7_55 : decode prog_1_method_4_code 55 = .ok (.iload_n 2, 1) := by decide +kernel
theorem d7_56 : decode prog_1_method_4_code 56 = .ok (.iload_n 3, 1) := by decide +kernel
theorem d7_57 : decode prog_1_method_4_code 57 = .ok (.isub, 1) := by decide +kernel
theorem d7_58 : decode prog_1_method_4_code 58 = .ok (.istore_n 2, 1) := by decide +kernel
theorem d7_59 : decode prog_1_method_4_code 59 = .ok (.aload_n 0, 1) := by decide +kernel
theorem d7_60 : decode prog_1_method_4_code 60 = .ok (.getfield 9, 3) := by decide +kernel
theorem d7_63 : decode prog_1_method_4_code 63 = .ok (.aload_n 0, 1) := by decide +kernel
theorem d7_64 : decode prog_1_method_4_code 64 = .ok (.getfield 42, 3) := by decide +kernel
theorem d7_67 : decode prog_1_method_4_code 67 = .ok (.iaload, 1) := by decide +kernel
theorem d7_68 : decode prog_1_method_4_code 68 = .ok (.ifCond .ne 22, 3) := by decide +kernel
theorem d7_71 : decode prog_1_method_4_code 71 = .ok (.aload_n 0, 1) := by decide +kernel
theorem d7_72 : decode prog_1_method_4_code 72 = .ok (.aload_n 0, 1) := by decide +kernel
theorem d7_73 : decode prog_1_method_4_code 73 = .ok (.iconst 1, 1) := by decide +kernel
theorem d7_74 : decode prog_1_method_4_code 74 = .ok (.invokevirtual 29, 3) := by decide +kernel
theorem d7_77 : decode prog_1_method_4_code 77 = .ok (.putfield 42, 3) := by decide +kernel
theorem d7_80 : decode prog_1_method_4_code 80 = .ok (.aload_n 0, 1) := by decide +kernel
theorem d7_81 : decode prog_1_method_4_code 81 = .ok (.dup, 1) := by decide +kernel
theorem d7_82 : decode prog_1_method_4_code 82 = .ok (.getfield 25, 3) := by decide +kernel
theorem d7_85 : decode prog_1_method_4_code 85 = .ok (.iconst 1, 1) := by decide +kernel
theorem d7_86 : decode prog_1_method_4_code 86 = .ok (.isub, 1) := by decide +kernel
theorem d7_87 : decode prog_1_method_4_code 87 = .ok (.putfield 25, 3) := by decide +kernel
theorem d7_90 : decode prog_1_method_4_code 90 = .ok (.goto (-88), 3) := by decide +kernel
theorem d7_93 : decode prog_1_method_4_code 93 = .ok (.return_, 1) := by decide +kernel
theorem pd_7 : parseMethodDescriptor "(I)V" = some ⟨[.int], none⟩ := by decide +kernel
abbrev Y8 : MethodName := ⟨"java/lang/Math", "min", "(II)I"⟩
theorem d8_0 : decode jdk_29_method_69_code 0 = .ok (.iload_n 0, 1) := by decide +kernel
theorem d8_1 : decode jdk_29_method_69_code 1 = .ok (.iload_n 1, 1) := by decide +kernel
theorem d8_2 : decode jdk_29_method_69_code 2 = .ok (.if_icmp .gt 7, 3) := by decide +kernel
theorem d8_5 : decode jdk_29_method_69_code 5 = .ok (.iload_n 0, 1) := by decide +kernel
theorem d8_6 : decode jdk_29_method_69_code 6 = .ok (.goto 4, 3) := by decide +kernel
theorem d8_9 : decode jdk_29_method_69_code 9 = .ok (.iload_n 1, 1) := by decide +kernel
theorem d8_10 : decode jdk_29_method_69_code 10 = .ok (.ireturn, 1) := by decide +kernel
theorem pd_8 : parseMethodDescriptor "(II)I" = some ⟨[.int, .int], some .int⟩ := by decide +kernel
theorem pl_0 : plainFor Y0 = true := plainFor_of_name (show plainName "com/example/orderly_ranges/orderlyranges/daemon/ArrivalsPausePinLaw" = true by first | (simp [plainName, overriddenIn]; done) | decide +kernel)
theorem pl_1 : plainFor Y1 = true := plainFor_of_name (show plainName "com/example/orderly_ranges/orderlyranges/daemon/Arrivals" = true by first | (simp [plainName, overriddenIn]; done) | decide +kernel)
theorem pl_3 : plainFor Y3 = true := plainFor_of_name (show plainName "com/example/orderly_ranges/orderlyranges/daemon/Arrivals" = true by first | (simp [plainName, overriddenIn]; done) | decide +kernel)
theorem pl_4 : plainFor Y4 = true := plainFor_of_name (show plainName "com/example/orderly_ranges/orderlyranges/daemon/Arrivals" = true by first | (simp [plainName, overriddenIn]; done) | decide +kernel)
theorem pl_5 : plainFor Y5 = true := plainFor_of_name (show plainName "com/example/orderly_ranges/orderlyranges/daemon/Arrivals" = true by first | (simp [plainName, overriddenIn]; done) | decide +kernel)
theorem pl_6 : plainFor Y6 = true := plainFor_of_name (show plainName "com/example/orderly_ranges/orderlyranges/daemon/Arrivals" = true by first | (simp [plainName, overriddenIn]; done) | decide +kernel)
theorem pl_7 : plainFor Y7 = true := plainFor_of_name (show plainName "com/example/orderly_ranges/orderlyranges/daemon/Arrivals" = true by first | (simp [plainName, overriddenIn]; done) | decide +kernel)
theorem pl_8 : plainFor Y8 = true := Jvm.Free.JP.mathPlain rfl (by decide +kernel)
theorem ic_0 : Int32.ofInt (0) = (0 : Int32) := rfl
theorem ic_1 : Int32.ofInt (1) = (1 : Int32) := rfl
theorem ic_2 : Int32.ofInt (2) = (2 : Int32) := rfl
theorem ic_4 : Int32.ofInt (4) = (4 : Int32) := rfl
theorem ic_5 : Int32.ofInt (5) = (5 : Int32) := rfl
theorem bi_8 : (Int8.ofInt (8)).toInt32 = (8 : Int32) := by decide
theorem bi_13 : (Int8.ofInt (13)).toInt32 = (13 : Int32) := by decide
theorem bi_16 : (Int8.ofInt (16)).toInt32 = (16 : Int32) := by decide
theorem si_255 : (Int16.ofInt (255)).toInt32 = (255 : Int32) := by decide
/-- Object.<init>, called from a constructor -/
theorem goInitO {w : W} {l : Launch} {R : Room} {Z : State} {n0 : Nat} {y : MethodName} {code : ByteArray} {ml : Nat} {ret : Option FieldType} {pc : Nat} {Ls : List Slot} {st : List Value} {h : Heap} {cells slots : Nat} {a : Addr} {idx : Nat} {a0 : Array Value} (r : Go w l R Z n0 y code ml ret pc Ls (.ref a :: st) h cells slots) (pc' : Nat) (hd : decode code pc = .ok (.invokespecial idx, 3)) (hp : pc + 3 = pc') (w1 : (Jvm.Cond.methodLink y.cls idx Lib.objectInit).before a0 Z = true) (w2 : (Jvm.Cond.instanceMethod Lib.objectInit).before a0 Z = true) (w3 : (Jvm.Cond.code Lib.objectInit object_method_1_code 1 none).before a0 Z = true) (hLs : Ls.length = ml) (hf : 1 ≤ R.frames) (hl : wt st + 12 ≤ R.locals) : Go w l R Z n0 y code ml ret pc' Ls st h cells slots := by
  subst hp
  obtain ⟨S, T, locs, X, e, N, k⟩ := r
  obtain ⟨T', X', e', q⟩ := Jvm.RoadKit.initO X S.1 S.2.1 S.2.2.1 w1 w2 w3 e (g := mkF w.m pc Ls.toArray (.ref a :: st)) rfl (by rw [S.2.2.2.2.1]; simpa using hLs) rfl (hb S.2.2.2.1 hd) hf (W := wt st) (by show 2 * 0 + _ ≤ _; simp [wt]) hl
  exact ⟨S, T', locs, X', e', N, fun t z => k t (q t z)⟩
theorem sn_sizes_times {Z : State} {a0 : Array Value} (hw : Ws Z a0) : Jvm.RoadKit.slotOf Z "com/example/orderly_ranges/orderlyranges/daemon/Arrivals" "sizes" "[I" ≠ Jvm.RoadKit.slotOf Z "com/example/orderly_ranges/orderlyranges/daemon/Arrivals" "times" "[J" := slot_ne (C := "com/example/orderly_ranges/orderlyranges/daemon/Arrivals") (Or.inr (wd_11 hw)) (Or.inr (wd_14 hw)) (by decide) (t := (.array .int)) (t' := (.array .long)) (by decide) (by decide)
theorem sn_sizes_paused {Z : State} {a0 : Array Value} (hw : Ws Z a0) : Jvm.RoadKit.slotOf Z "com/example/orderly_ranges/orderlyranges/daemon/Arrivals" "sizes" "[I" ≠ Jvm.RoadKit.slotOf Z "com/example/orderly_ranges/orderlyranges/daemon/Arrivals" "paused" "Z" := slot_ne (C := "com/example/orderly_ranges/orderlyranges/daemon/Arrivals") (Or.inr (wd_11 hw)) (Or.inl (wd_21 hw)) (by decide) (t := (.array .int)) (t' := .boolean) (by decide) (by decide)
theorem sn_sizes_pausedAt {Z : State} {a0 : Array Value} (hw : Ws Z a0) : Jvm.RoadKit.slotOf Z "com/example/orderly_ranges/orderlyranges/daemon/Arrivals" "sizes" "[I" ≠ Jvm.RoadKit.slotOf Z "com/example/orderly_ranges/orderlyranges/daemon/Arrivals" "pausedAt" "J" := slot_ne (C := "com/example/orderly_ranges/orderlyranges/daemon/Arrivals") (Or.inr (wd_11 hw)) (Or.inl (wd_23 hw)) (by decide) (t := (.array .int)) (t' := .long) (by decide) (by decide)
theorem sn_sizes_count {Z : State} {a0 : Array Value} (hw : Ws Z a0) : Jvm.RoadKit.slotOf Z "com/example/orderly_ranges/orderlyranges/daemon/Arrivals" "sizes" "[I" ≠ Jvm.RoadKit.slotOf Z "com/example/orderly_ranges/orderlyranges/daemon/Arrivals" "count" "I" := slot_ne (C := "com/example/orderly_ranges/orderlyranges/daemon/Arrivals") (Or.inr (wd_11 hw)) (Or.inl (wd_30 hw)) (by decide) (t := (.array .int)) (t' := .int) (by decide) (by decide)
theorem sn_sizes_first {Z : State} {a0 : Array Value} (hw : Ws Z a0) : Jvm.RoadKit.slotOf Z "com/example/orderly_ranges/orderlyranges/daemon/Arrivals" "sizes" "[I" ≠ Jvm.RoadKit.slotOf Z "com/example/orderly_ranges/orderlyranges/daemon/Arrivals" "first" "I" := slot_ne (C := "com/example/orderly_ranges/orderlyranges/daemon/Arrivals") (Or.inr (wd_11 hw)) (Or.inl (wd_36 hw)) (by decide) (t := (.array .int)) (t' := .int) (by decide) (by decide)
theorem sn_times_sizes {Z : State} {a0 : Array Value} (hw : Ws Z a0) : Jvm.RoadKit.slotOf Z "com/example/orderly_ranges/orderlyranges/daemon/Arrivals" "times" "[J" ≠ Jvm.RoadKit.slotOf Z "com/example/orderly_ranges/orderlyranges/daemon/Arrivals" "sizes" "[I" := slot_ne (C := "com/example/orderly_ranges/orderlyranges/daemon/Arrivals") (Or.inr (wd_14 hw)) (Or.inr (wd_11 hw)) (by decide) (t := (.array .long)) (t' := (.array .int)) (by decide) (by decide)
theorem sn_times_paused {Z : State} {a0 : Array Value} (hw : Ws Z a0) : Jvm.RoadKit.slotOf Z "com/example/orderly_ranges/orderlyranges/daemon/Arrivals" "times" "[J" ≠ Jvm.RoadKit.slotOf Z "com/example/orderly_ranges/orderlyranges/daemon/Arrivals" "paused" "Z" := slot_ne (C := "com/example/orderly_ranges/orderlyranges/daemon/Arrivals") (Or.inr (wd_14 hw)) (Or.inl (wd_21 hw)) (by decide) (t := (.array .long)) (t' := .boolean) (by decide) (by decide)
theorem sn_times_pausedAt {Z : State} {a0 : Array Value} (hw : Ws Z a0) : Jvm.RoadKit.slotOf Z "com/example/orderly_ranges/orderlyranges/daemon/Arrivals" "times" "[J" ≠ Jvm.RoadKit.slotOf Z "com/example/orderly_ranges/orderlyranges/daemon/Arrivals" "pausedAt" "J" := slot_ne (C := "com/example/orderly_ranges/orderlyranges/daemon/Arrivals") (Or.inr (wd_14 hw)) (Or.inl (wd_23 hw)) (by decide) (t := (.array .long)) (t' := .long) (by decide) (by decide)
theorem sn_times_count {Z : State} {a0 : Array Value} (hw : Ws Z a0) : Jvm.RoadKit.slotOf Z "com/example/orderly_ranges/orderlyranges/daemon/Arrivals" "times" "[J" ≠ Jvm.RoadKit.slotOf Z "com/example/orderly_ranges/orderlyranges/daemon/Arrivals" "count" "I" := slot_ne (C := "com/example/orderly_ranges/orderlyranges/daemon/Arrivals") (Or.inr (wd_14 hw)) (Or.inl (wd_30 hw)) (by decide) (t := (.array .long)) (t' := .int) (by decide) (by decide)
theorem sn_times_first {Z : State} {a0 : Array Value} (hw : Ws Z a0) : Jvm.RoadKit.slotOf Z "com/example/orderly_ranges/orderlyranges/daemon/Arrivals" "times" "[J" ≠ Jvm.RoadKit.slotOf Z "com/example/orderly_ranges/orderlyranges/daemon/Arrivals" "first" "I" := slot_ne (C := "com/example/orderly_ranges/orderlyranges/daemon/Arrivals") (Or.inr (wd_14 hw)) (Or.inl (wd_36 hw)) (by decide) (t := (.array .long)) (t' := .int) (by decide) (by decide)
theorem sn_paused_sizes {Z : State} {a0 : Array Value} (hw : Ws Z a0) : Jvm.RoadKit.slotOf Z "com/example/orderly_ranges/orderlyranges/daemon/Arrivals" "paused" "Z" ≠ Jvm.RoadKit.slotOf Z "com/example/orderly_ranges/orderlyranges/daemon/Arrivals" "sizes" "[I" := slot_ne (C := "com/example/orderly_ranges/orderlyranges/daemon/Arrivals") (Or.inl (wd_21 hw)) (Or.inr (wd_11 hw)) (by decide) (t := .boolean) (t' := (.array .int)) (by decide) (by decide)
theorem sn_paused_times {Z : State} {a0 : Array Value} (hw : Ws Z a0) : Jvm.RoadKit.slotOf Z "com/example/orderly_ranges/orderlyranges/daemon/Arrivals" "paused" "Z" ≠ Jvm.RoadKit.slotOf Z "com/example/orderly_ranges/orderlyranges/daemon/Arrivals" "times" "[J" := slot_ne (C := "com/example/orderly_ranges/orderlyranges/daemon/Arrivals") (Or.inl (wd_21 hw)) (Or.inr (wd_14 hw)) (by decide) (t := .boolean) (t' := (.array .long)) (by decide) (by decide)
theorem sn_paused_pausedAt {Z : State} {a0 : Array Value} (hw : Ws Z a0) : Jvm.RoadKit.slotOf Z "com/example/orderly_ranges/orderlyranges/daemon/Arrivals" "paused" "Z" ≠ Jvm.RoadKit.slotOf Z "com/example/orderly_ranges/orderlyranges/daemon/Arrivals" "pausedAt" "J" := slot_ne (C := "com/example/orderly_ranges/orderlyranges/daemon/Arrivals") (Or.inl (wd_21 hw)) (Or.inl (wd_23 hw)) (by decide) (t := .boolean) (t' := .long) (by decide) (by decide)
theorem sn_paused_count {Z : State} {a0 : Array Value} (hw : Ws Z a0) : Jvm.RoadKit.slotOf Z "com/example/orderly_ranges/orderlyranges/daemon/Arrivals" "paused" "Z" ≠ Jvm.RoadKit.slotOf Z "com/example/orderly_ranges/orderlyranges/daemon/Arrivals" "count" "I" := slot_ne (C := "com/example/orderly_ranges/orderlyranges/daemon/Arrivals") (Or.inl (wd_21 hw)) (Or.inl (wd_30 hw)) (by decide) (t := .boolean) (t' := .int) (by decide) (by decide)
theorem sn_paused_first {Z : State} {a0 : Array Value} (hw : Ws Z a0) : Jvm.RoadKit.slotOf Z "com/example/orderly_ranges/orderlyranges/daemon/Arrivals" "paused" "Z" ≠ Jvm.RoadKit.slotOf Z "com/example/orderly_ranges/orderlyranges/daemon/Arrivals" "first" "I" := slot_ne (C := "com/example/orderly_ranges/orderlyranges/daemon/Arrivals") (Or.inl (wd_21 hw)) (Or.inl (wd_36 hw)) (by decide) (t := .boolean) (t' := .int) (by decide) (by decide)
theorem sn_pausedAt_sizes {Z : State} {a0 : Array Value} (hw : Ws Z a0) : Jvm.RoadKit.slotOf Z "com/example/orderly_ranges/orderlyranges/daemon/Arrivals" "pausedAt" "J" ≠ Jvm.RoadKit.slotOf Z "com/example/orderly_ranges/orderlyranges/daemon/Arrivals" "sizes" "[I" := slot_ne (C := "com/example/orderly_ranges/orderlyranges/daemon/Arrivals") (Or.inl (wd_23 hw)) (Or.inr (wd_11 hw)) (by decide) (t := .long) (t' := (.array .int)) (by decide) (by decide)
theorem sn_pausedAt_times {Z : State} {a0 : Array Value} (hw : Ws Z a0) : Jvm.RoadKit.slotOf Z "com/example/orderly_ranges/orderlyranges/daemon/Arrivals" "pausedAt" "J" ≠ Jvm.RoadKit.slotOf Z "com/example/orderly_ranges/orderlyranges/daemon/Arrivals" "times" "[J" := slot_ne (C := "com/example/orderly_ranges/orderlyranges/daemon/Arrivals") (Or.inl (wd_23 hw)) (Or.inr (wd_14 hw)) (by decide) (t := .long) (t' := (.array .long)) (by decide) (by decide)
theorem sn_pausedAt_paused {Z : State} {a0 : Array Value} (hw : Ws Z a0) : Jvm.RoadKit.slotOf Z "com/example/orderly_ranges/orderlyranges/daemon/Arrivals" "pausedAt" "J" ≠ Jvm.RoadKit.slotOf Z "com/example/orderly_ranges/orderlyranges/daemon/Arrivals" "paused" "Z" := slot_ne (C := "com/example/orderly_ranges/orderlyranges/daemon/Arrivals") (Or.inl (wd_23 hw)) (Or.inl (wd_21 hw)) (by decide) (t := .long) (t' := .boolean) (by decide) (by decide)
theorem sn_pausedAt_count {Z : State} {a0 : Array Value} (hw : Ws Z a0) : Jvm.RoadKit.slotOf Z "com/example/orderly_ranges/orderlyranges/daemon/Arrivals" "pausedAt" "J" ≠ Jvm.RoadKit.slotOf Z "com/example/orderly_ranges/orderlyranges/daemon/Arrivals" "count" "I" := slot_ne (C := "com/example/orderly_ranges/orderlyranges/daemon/Arrivals") (Or.inl (wd_23 hw)) (Or.inl (wd_30 hw)) (by decide) (t := .long) (t' := .int) (by decide) (by decide)
theorem sn_pausedAt_first {Z : State} {a0 : Array Value} (hw : Ws Z a0) : Jvm.RoadKit.slotOf Z "com/example/orderly_ranges/orderlyranges/daemon/Arrivals" "pausedAt" "J" ≠ Jvm.RoadKit.slotOf Z "com/example/orderly_ranges/orderlyranges/daemon/Arrivals" "first" "I" := slot_ne (C := "com/example/orderly_ranges/orderlyranges/daemon/Arrivals") (Or.inl (wd_23 hw)) (Or.inl (wd_36 hw)) (by decide) (t := .long) (t' := .int) (by decide) (by decide)
theorem sn_count_sizes {Z : State} {a0 : Array Value} (hw : Ws Z a0) : Jvm.RoadKit.slotOf Z "com/example/orderly_ranges/orderlyranges/daemon/Arrivals" "count" "I" ≠ Jvm.RoadKit.slotOf Z "com/example/orderly_ranges/orderlyranges/daemon/Arrivals" "sizes" "[I" := slot_ne (C := "com/example/orderly_ranges/orderlyranges/daemon/Arrivals") (Or.inl (wd_30 hw)) (Or.inr (wd_11 hw)) (by decide) (t := .int) (t' := (.array .int)) (by decide) (by decide)
theorem sn_count_times {Z : State} {a0 : Array Value} (hw : Ws Z a0) : Jvm.RoadKit.slotOf Z "com/example/orderly_ranges/orderlyranges/daemon/Arrivals" "count" "I" ≠ Jvm.RoadKit.slotOf Z "com/example/orderly_ranges/orderlyranges/daemon/Arrivals" "times" "[J" := slot_ne (C := "com/example/orderly_ranges/orderlyranges/daemon/Arrivals") (Or.inl (wd_30 hw)) (Or.inr (wd_14 hw)) (by decide) (t := .int) (t' := (.array .long)) (by decide) (by decide)
theorem sn_count_paused {Z : State} {a0 : Array Value} (hw : Ws Z a0) : Jvm.RoadKit.slotOf Z "com/example/orderly_ranges/orderlyranges/daemon/Arrivals" "count" "I" ≠ Jvm.RoadKit.slotOf Z "com/example/orderly_ranges/orderlyranges/daemon/Arrivals" "paused" "Z" := slot_ne (C := "com/example/orderly_ranges/orderlyranges/daemon/Arrivals") (Or.inl (wd_30 hw)) (Or.inl (wd_21 hw)) (by decide) (t := .int) (t' := .boolean) (by decide) (by decide)
theorem sn_count_pausedAt {Z : State} {a0 : Array Value} (hw : Ws Z a0) : Jvm.RoadKit.slotOf Z "com/example/orderly_ranges/orderlyranges/daemon/Arrivals" "count" "I" ≠ Jvm.RoadKit.slotOf Z "com/example/orderly_ranges/orderlyranges/daemon/Arrivals" "pausedAt" "J" := slot_ne (C := "com/example/orderly_ranges/orderlyranges/daemon/Arrivals") (Or.inl (wd_30 hw)) (Or.inl (wd_23 hw)) (by decide) (t := .int) (t' := .long) (by decide) (by decide)
theorem sn_count_first {Z : State} {a0 : Array Value} (hw : Ws Z a0) : Jvm.RoadKit.slotOf Z "com/example/orderly_ranges/orderlyranges/daemon/Arrivals" "count" "I" ≠ Jvm.RoadKit.slotOf Z "com/example/orderly_ranges/orderlyranges/daemon/Arrivals" "first" "I" := slot_ne (C := "com/example/orderly_ranges/orderlyranges/daemon/Arrivals") (Or.inl (wd_30 hw)) (Or.inl (wd_36 hw)) (by decide) (t := .int) (t' := .int) (by decide) (by decide)
theorem sn_first_sizes {Z : State} {a0 : Array Value} (hw : Ws Z a0) : Jvm.RoadKit.slotOf Z "com/example/orderly_ranges/orderlyranges/daemon/Arrivals" "first" "I" ≠ Jvm.RoadKit.slotOf Z "com/example/orderly_ranges/orderlyranges/daemon/Arrivals" "sizes" "[I" := slot_ne (C := "com/example/orderly_ranges/orderlyranges/daemon/Arrivals") (Or.inl (wd_36 hw)) (Or.inr (wd_11 hw)) (by decide) (t := .int) (t' := (.array .int)) (by decide) (by decide)
theorem sn_first_times {Z : State} {a0 : Array Value} (hw : Ws Z a0) : Jvm.RoadKit.slotOf Z "com/example/orderly_ranges/orderlyranges/daemon/Arrivals" "first" "I" ≠ Jvm.RoadKit.slotOf Z "com/example/orderly_ranges/orderlyranges/daemon/Arrivals" "times" "[J" := slot_ne (C := "com/example/orderly_ranges/orderlyranges/daemon/Arrivals") (Or.inl (wd_36 hw)) (Or.inr (wd_14 hw)) (by decide) (t := .int) (t' := (.array .long)) (by decide) (by decide)
theorem sn_first_paused {Z : State} {a0 : Array Value} (hw : Ws Z a0) : Jvm.RoadKit.slotOf Z "com/example/orderly_ranges/orderlyranges/daemon/Arrivals" "first" "I" ≠ Jvm.RoadKit.slotOf Z "com/example/orderly_ranges/orderlyranges/daemon/Arrivals" "paused" "Z" := slot_ne (C := "com/example/orderly_ranges/orderlyranges/daemon/Arrivals") (Or.inl (wd_36 hw)) (Or.inl (wd_21 hw)) (by decide) (t := .int) (t' := .boolean) (by decide) (by decide)
theorem sn_first_pausedAt {Z : State} {a0 : Array Value} (hw : Ws Z a0) : Jvm.RoadKit.slotOf Z "com/example/orderly_ranges/orderlyranges/daemon/Arrivals" "first" "I" ≠ Jvm.RoadKit.slotOf Z "com/example/orderly_ranges/orderlyranges/daemon/Arrivals" "pausedAt" "J" := slot_ne (C := "com/example/orderly_ranges/orderlyranges/daemon/Arrivals") (Or.inl (wd_36 hw)) (Or.inl (wd_23 hw)) (by decide) (t := .int) (t' := .long) (by decide) (by decide)
theorem sn_first_count {Z : State} {a0 : Array Value} (hw : Ws Z a0) : Jvm.RoadKit.slotOf Z "com/example/orderly_ranges/orderlyranges/daemon/Arrivals" "first" "I" ≠ Jvm.RoadKit.slotOf Z "com/example/orderly_ranges/orderlyranges/daemon/Arrivals" "count" "I" := slot_ne (C := "com/example/orderly_ranges/orderlyranges/daemon/Arrivals") (Or.inl (wd_36 hw)) (Or.inl (wd_30 hw)) (by decide) (t := .int) (t' := .int) (by decide) (by decide)

def AR (n0 : Nat) (Z : State) (h : Heap) (a sz tm : Addr) (fi co : Nat) (pa : Int32) (pt : Int64) (ss ts : List Value) : Prop :=
  Exa Z h a "com/example/orderly_ranges/orderlyranges/daemon/Arrivals" ∧ Fld Z h a "com/example/orderly_ranges/orderlyranges/daemon/Arrivals" "sizes" "[I" (.ref sz) ∧ Fld Z h a "com/example/orderly_ranges/orderlyranges/daemon/Arrivals" "times" "[J" (.ref tm) ∧ Fld Z h a "com/example/orderly_ranges/orderlyranges/daemon/Arrivals" "first" "I" (.int (Int32.ofNat fi)) ∧ Fld Z h a "com/example/orderly_ranges/orderlyranges/daemon/Arrivals" "count" "I" (.int (Int32.ofNat co)) ∧ Fld Z h a "com/example/orderly_ranges/orderlyranges/daemon/Arrivals" "paused" "Z" (.int pa) ∧ Fld Z h a "com/example/orderly_ranges/orderlyranges/daemon/Arrivals" "pausedAt" "J" (.long pt) ∧ Ary Z h sz .int ss ∧ Ary Z h tm .long ts ∧ a ≠ sz ∧ a ≠ tm ∧ sz ≠ tm ∧ n0 ≤ a ∧ n0 ≤ sz ∧ n0 ≤ tm

theorem AR.sfirst {n0 : Nat} {Z : State} {a0 : Array Value} (hw : Ws Z a0) {h h' : Heap} {a sz tm : Addr} {fi co : Nat} {pa : Int32} {pt : Int64} {ss ts : List Value} {m : Nat} (B : AR n0 Z h a sz tm fi co pa pt ss ts) (W : Wr h h' a (Jvm.RoadKit.slotOf Z "com/example/orderly_ranges/orderlyranges/daemon/Arrivals" "first" "I") (.int (Int32.ofNat m))) : AR n0 Z h' a sz tm m co pa pt ss ts := by
  obtain ⟨E, F1, F2, F3, F4, F5, F6, A1, A2, d1, d2, d3, g⟩ := B
  exact ⟨E.wr W, F1.other W (Or.inr (sn_sizes_first hw)), F2.other W (Or.inr (sn_times_first hw)), F3.same W, F4.other W (Or.inr (sn_count_first hw)), F5.other W (Or.inr (sn_paused_first hw)), F6.other W (Or.inr (sn_pausedAt_first hw)), A1.other W (Ne.symm d1), A2.other W (Ne.symm d2), d1, d2, d3, g⟩
theorem AR.scount {n0 : Nat} {Z : State} {a0 : Array Value} (hw : Ws Z a0) {h h' : Heap} {a sz tm : Addr} {fi co : Nat} {pa : Int32} {pt : Int64} {ss ts : List Value} {m : Nat} (B : AR n0 Z h a sz tm fi co pa pt ss ts) (W : Wr h h' a (Jvm.RoadKit.slotOf Z "com/example/orderly_ranges/orderlyranges/daemon/Arrivals" "count" "I") (.int (Int32.ofNat m))) : AR n0 Z h' a sz tm fi m pa pt ss ts := by
  obtain ⟨E, F1, F2, F3, F4, F5, F6, A1, A2, d1, d2, d3, g⟩ := B
  exact ⟨E.wr W, F1.other W (Or.inr (sn_sizes_count hw)), F2.other W (Or.inr (sn_times_count hw)), F3.other W (Or.inr (sn_first_count hw)), F4.same W, F5.other W (Or.inr (sn_paused_count hw)), F6.other W (Or.inr (sn_pausedAt_count hw)), A1.other W (Ne.symm d1), A2.other W (Ne.symm d2), d1, d2, d3, g⟩
theorem AR.spaused {n0 : Nat} {Z : State} {a0 : Array Value} (hw : Ws Z a0) {h h' : Heap} {a sz tm : Addr} {fi co : Nat} {pa : Int32} {pt : Int64} {ss ts : List Value} {m : Int32} (B : AR n0 Z h a sz tm fi co pa pt ss ts) (W : Wr h h' a (Jvm.RoadKit.slotOf Z "com/example/orderly_ranges/orderlyranges/daemon/Arrivals" "paused" "Z") (.int m)) : AR n0 Z h' a sz tm fi co m pt ss ts := by
  obtain ⟨E, F1, F2, F3, F4, F5, F6, A1, A2, d1, d2, d3, g⟩ := B
  exact ⟨E.wr W, F1.other W (Or.inr (sn_sizes_paused hw)), F2.other W (Or.inr (sn_times_paused hw)), F3.other W (Or.inr (sn_first_paused hw)), F4.other W (Or.inr (sn_count_paused hw)), F5.same W, F6.other W (Or.inr (sn_pausedAt_paused hw)), A1.other W (Ne.symm d1), A2.other W (Ne.symm d2), d1, d2, d3, g⟩
theorem AR.spausedAt {n0 : Nat} {Z : State} {a0 : Array Value} (hw : Ws Z a0) {h h' : Heap} {a sz tm : Addr} {fi co : Nat} {pa : Int32} {pt : Int64} {ss ts : List Value} {m : Int64} (B : AR n0 Z h a sz tm fi co pa pt ss ts) (W : Wr h h' a (Jvm.RoadKit.slotOf Z "com/example/orderly_ranges/orderlyranges/daemon/Arrivals" "pausedAt" "J") (.long m)) : AR n0 Z h' a sz tm fi co pa m ss ts := by
  obtain ⟨E, F1, F2, F3, F4, F5, F6, A1, A2, d1, d2, d3, g⟩ := B
  exact ⟨E.wr W, F1.other W (Or.inr (sn_sizes_pausedAt hw)), F2.other W (Or.inr (sn_times_pausedAt hw)), F3.other W (Or.inr (sn_first_pausedAt hw)), F4.other W (Or.inr (sn_count_pausedAt hw)), F5.other W (Or.inr (sn_paused_pausedAt hw)), F6.same W, A1.other W (Ne.symm d1), A2.other W (Ne.symm d2), d1, d2, d3, g⟩

theorem AR.asz {n0 : Nat} {Z : State} {h h' : Heap} {a sz tm : Addr} {fi co j : Nat} {pa : Int32} {pt : Int64} {ss ts ss' : List Value} {v : Value} (B : AR n0 Z h a sz tm fi co pa pt ss ts) (W : Wr h h' sz j v) (A : Ary Z h' sz .int ss') : AR n0 Z h' a sz tm fi co pa pt ss' ts := by
  obtain ⟨E, F1, F2, F3, F4, F5, F6, A1, A2, d1, d2, d3, g⟩ := B
  exact ⟨E.wr W, F1.other W (Or.inl d1), F2.other W (Or.inl d1), F3.other W (Or.inl d1), F4.other W (Or.inl d1), F5.other W (Or.inl d1), F6.other W (Or.inl d1), A, A2.other W (Ne.symm d3), d1, d2, d3, g⟩
theorem AR.atm {n0 : Nat} {Z : State} {h h' : Heap} {a sz tm : Addr} {fi co j : Nat} {pa : Int32} {pt : Int64} {ss ts ts' : List Value} {v : Value} (B : AR n0 Z h a sz tm fi co pa pt ss ts) (W : Wr h h' tm j v) (A : Ary Z h' tm .long ts') : AR n0 Z h' a sz tm fi co pa pt ss ts' := by
  obtain ⟨E, F1, F2, F3, F4, F5, F6, A1, A2, d1, d2, d3, g⟩ := B
  exact ⟨E.wr W, F1.other W (Or.inl d2), F2.other W (Or.inl d2), F3.other W (Or.inl d2), F4.other W (Or.inl d2), F5.other W (Or.inl d2), F6.other W (Or.inl d2), A1.other W d3, A, d1, d2, d3, g⟩
theorem small_rem : ∀ x, x < 16 → Int32.ofNat x % 16 = Int32.ofNat x := by decide +kernel

set_option maxRecDepth 65536 in
set_option maxHeartbeats 40000000 in
theorem init_met {l : Launch} {Z : State} {a0 : Array Value} (hw : Ws Z a0) (a : Addr) (h0 : Heap) (n0 : Nat) (g : n0 ≤ a) (E : Exa Z h0 a "com/example/orderly_ranges/orderlyranges/daemon/Arrivals") (F1 : Fld Z h0 a "com/example/orderly_ranges/orderlyranges/daemon/Arrivals" "sizes" "[I" .null) (F2 : Fld Z h0 a "com/example/orderly_ranges/orderlyranges/daemon/Arrivals" "times" "[J" .null) (F3 : Fld Z h0 a "com/example/orderly_ranges/orderlyranges/daemon/Arrivals" "first" "I" (.int 0)) (F4 : Fld Z h0 a "com/example/orderly_ranges/orderlyranges/daemon/Arrivals" "count" "I" (.int 0)) (F5 : Fld Z h0 a "com/example/orderly_ranges/orderlyranges/daemon/Arrivals" "paused" "Z" (.int 0)) (F6 : Fld Z h0 a "com/example/orderly_ranges/orderlyranges/daemon/Arrivals" "pausedAt" "J" (.long 0)) : Met l Z Y1 prog_1_method_1_code 1 none ({ frames := 1, cells := 2, slots := 32, locals := 20 } : Room) [.ref a] h0 n0 (Ret0 fun h => ∃ sz tm, AR n0 Z h a sz tm 0 0 0 0 (List.replicate 16 (.int 0)) (List.replicate 16 (.long 0))) := by
  refine Met.intro (Ls := [.val (.ref a)]) pl_1 (fun m => by simp [entryFrame, mkF, argsToLocals, Value.category, maxLocals]) fun w r => ?_
  replace r := r.ald0 1 d1_0 rfl
  replace r := goInitO r 4 d1_1 rfl (wd_6 hw) (wd_7 hw) (wd_8 hw) rfl (Nat.le_of_ble_eq_true rfl) (Nat.le_of_ble_eq_true rfl)
  replace r := r.ald0 5 d1_4 rfl
  replace r := r.bipushV 7 d1_5 rfl (16 : Int32) bi_16
  obtain ⟨h1, sz, z1, X1, A1, r⟩ := r.newA (vs := List.replicate 16 (.int 0)) 9 d1_7 rfl (wd_9 hw) (by decide) rfl 16 (by decide) (by decide) (by decide) (by decide)
  have d1 : a ≠ sz := by rw [z1]; exact Nat.ne_of_lt E.lt
  have g1 : n0 ≤ sz := by rw [z1]; exact Nat.le_trans g (Nat.le_of_lt E.lt)
  replace E := E.ext X1; replace F1 := F1.ext X1; replace F2 := F2.ext X1; replace F3 := F3.ext X1; replace F4 := F4.ext X1; replace F5 := F5.ext X1; replace F6 := F6.ext X1
  obtain ⟨h2, W2, r⟩ := r.putF 12 d1_9 rfl (wd_10 hw) (Or.inr ⟨(wd_11 hw), rfl, rfl⟩) (wd_1 hw) E F1 (ty := (.array .int)) (by decide) rfl rfl g
  replace E := E.wr W2; replace A1 := A1.other W2 (Ne.symm d1); replace F1 := F1.same W2; replace F2 := F2.other W2 (Or.inr (sn_times_sizes hw)); replace F3 := F3.other W2 (Or.inr (sn_first_sizes hw)); replace F4 := F4.other W2 (Or.inr (sn_count_sizes hw)); replace F5 := F5.other W2 (Or.inr (sn_paused_sizes hw)); replace F6 := F6.other W2 (Or.inr (sn_pausedAt_sizes hw))
  replace r := r.ald0 13 d1_12 rfl
  replace r := r.bipushV 15 d1_13 rfl (16 : Int32) bi_16
  obtain ⟨h3, tm, z3, X3, A2, r⟩ := r.newA (vs := List.replicate 16 (.long 0)) 17 d1_15 rfl (wd_12 hw) (by decide) rfl 16 (by decide) (by decide) (by decide) (by decide)
  have d2 : a ≠ tm := by rw [z3]; exact Nat.ne_of_lt E.lt
  have d3 : sz ≠ tm := by rw [z3]; exact Nat.ne_of_lt A1.lt
  have g2 : n0 ≤ tm := by rw [z3]; exact Nat.le_trans g (Nat.le_of_lt E.lt)
  replace E := E.ext X3; replace A1 := A1.ext X3; replace F1 := F1.ext X3; replace F2 := F2.ext X3; replace F3 := F3.ext X3; replace F4 := F4.ext X3; replace F5 := F5.ext X3; replace F6 := F6.ext X3
  obtain ⟨h4, W4, r⟩ := r.putF 20 d1_17 rfl (wd_13 hw) (Or.inr ⟨(wd_14 hw), rfl, rfl⟩) (wd_1 hw) E F2 (ty := (.array .long)) (by decide) rfl rfl g
  exact r.retV d1_20 ⟨sz, tm, E.wr W4, F1.other W4 (Or.inr (sn_sizes_times hw)), F2.same W4, F3.other W4 (Or.inr (sn_first_times hw)), F4.other W4 (Or.inr (sn_count_times hw)), F5.other W4 (Or.inr (sn_paused_times hw)), F6.other W4 (Or.inr (sn_pausedAt_times hw)), A1.other W4 (Ne.symm d1), A2.other W4 (Ne.symm d2), d1, d2, d3, g, g1, g2⟩ (by decide) (by decide)
set_option maxRecDepth 65536 in
set_option maxHeartbeats 40000000 in
theorem min_met {l : Launch} {Z : State} {a0 : Array Value} (hw : Ws Z a0) (u v : Int32) (h0 : Heap) (n0 : Nat) : Met l Z Y8 jdk_29_method_69_code 2 (some .int) ({ frames := 0, cells := 0, slots := 0, locals := 0 } : Room) [.int u, .int v] h0 n0 (Ret fun z h => z = .int (if v < u then v else u) ∧ h0 = h) := by
  refine Met.intro (Ls := [.val (.int u), .val (.int v)]) pl_8 (fun m => by simp [entryFrame, mkF, argsToLocals, Value.category, maxLocals]) fun w r => ?_
  replace r := r.ild0 1 d8_0 rfl
  replace r := r.ild1 2 d8_1 rfl
  rcases r.ic_gt 9 5 d8_2 (by decide) rfl with ⟨hc, r⟩ | ⟨hc, r⟩
  · replace r := r.ild1 10 d8_9 rfl
    exact r.retI d8_10 ⟨by rw [if_pos hc], rfl⟩ (by decide) (by decide)
  · replace r := r.ild0 6 d8_5 rfl
    replace r := r.goto 10 d8_6 (by decide)
    exact r.retI d8_10 ⟨by rw [if_neg hc], rfl⟩ (by decide) (by decide)
set_option maxRecDepth 65536 in
set_option maxHeartbeats 40000000 in
theorem slot_met {l : Launch} {Z : State} {a0 : Array Value} (hw : Ws Z a0) (a sz tm : Addr) (fi co : Nat) (pa : Int32) (pt : Int64) (ss ts : List Value) (k : Nat) (h0 : Heap) (n0 : Nat) (B : AR n0 Z h0 a sz tm fi co pa pt ss ts) (hk : fi + k < 16) : Met l Z Y5 prog_1_method_6_code 2 (some .int) ({ frames := 0, cells := 0, slots := 0, locals := 0 } : Room) [.ref a, .int (Int32.ofNat k)] h0 n0 (Ret fun z h => z = .int (Int32.ofNat (fi + k)) ∧ h0 = h) := by
  refine Met.intro (Ls := [.val (.ref a), .val (.int (Int32.ofNat k))]) pl_5 (fun m => by simp [entryFrame, mkF, argsToLocals, Value.category, maxLocals]) fun w r => ?_
  replace r := r.ald0 1 d5_0 rfl
  replace r := r.getF 4 d5_1 rfl (wd_35 hw) B.2.2.2.1
  replace r := r.ild1 5 d5_4 rfl
  replace r := r.iadd 6 d5_5 rfl
  rw [nadd] at r
  replace r := r.bipushV 8 d5_6 rfl (16 : Int32) bi_16
  replace r := r.irem 9 d5_8 rfl (by decide)
  rw [small_rem _ hk] at r
  exact r.retI d5_9 ⟨rfl, rfl⟩ (by decide) (by decide)
set_option maxRecDepth 65536 in
set_option maxHeartbeats 40000000 in
theorem pause_met {l : Launch} {Z : State} {a0 : Array Value} (hw : Ws Z a0) (a sz tm : Addr) (fi co : Nat) (pa : Int32) (pt : Int64) (ss ts : List Value) (q : Int64) (h0 : Heap) (n0 : Nat) (B : AR n0 Z h0 a sz tm fi co pa pt ss ts) : Met l Z Y3 prog_1_method_2_code 3 none ({ frames := 0, cells := 0, slots := 0, locals := 0 } : Room) [.ref a, .long q] h0 n0 (Ret0 fun h => AR n0 Z h a sz tm fi co (if pa = 0 then 1 else pa) (if pa = 0 then q else pt) ss ts) := by
  refine Met.intro (Ls := [.val (.ref a), .val (.long q), .second]) pl_3 (fun m => by simp [entryFrame, mkF, argsToLocals, Value.category, maxLocals]) fun w r => ?_
  replace r := r.ald0 1 d3_0 rfl
  replace r := r.getF 4 d3_1 rfl (wd_20 hw) B.2.2.2.2.2.1
  rcases r.if_eq 8 7 d3_4 (by decide) rfl with ⟨hc, r⟩ | ⟨hc, r⟩
  · rw [if_pos hc, if_pos hc]
    replace r := r.ald0 9 d3_8 rfl
    replace r := r.iconstV 10 d3_9 rfl (1 : Int32) ic_1
    obtain ⟨h1, W1, r⟩ := r.putFN 13 d3_10 rfl (wd_20 hw) (Or.inl (wd_21 hw)) (wd_1 hw) B.1 B.2.2.2.2.2.1 (ty := .boolean) (v' := (.int 1)) (by decide) rfl rfl B.2.2.2.2.2.2.2.2.2.2.2.2.1
    replace B := B.spaused hw W1
    replace r := r.ald0 14 d3_13 rfl
    replace r := r.lld1 15 d3_14 rfl
    obtain ⟨h2, W2, r⟩ := r.putF 18 d3_15 rfl (wd_22 hw) (Or.inl (wd_23 hw)) (wd_1 hw) B.1 B.2.2.2.2.2.2.1 (ty := .long) (by decide) rfl rfl B.2.2.2.2.2.2.2.2.2.2.2.2.1
    exact r.retV d3_18 (B.spausedAt hw W2) (by decide) (by decide)
  · rw [if_neg hc, if_neg hc]
    exact r.retV d3_7 B (by decide) (by decide)
set_option maxRecDepth 65536 in
set_option maxHeartbeats 40000000 in
theorem read_met {l : Launch} {Z : State} {a0 : Array Value} (hw : Ws Z a0) (a sz tm : Addr) (fi co : Nat) (pa : Int32) (pt : Int64) (ss ts : List Value) (n f : Int32) (q : Int64) (h0 : Heap) (n0 : Nat) (B : AR n0 Z h0 a sz tm fi co pa pt ss ts) (hn : 0 < n) (hk : fi + co < 16) (l1 : ss.length = 16) (l2 : ts.length = 16) : Met l Z Y4 prog_1_method_3_code 7 none ({ frames := 1, cells := 0, slots := 0, locals := 24 } : Room) [.ref a, .int n, .int f, .long q] h0 n0 (Ret0 fun h => AR n0 Z h a sz tm fi (co + 1) ((pa &&& f) &&& 1) pt (ss.set (fi + co) (.int n)) (ts.set (fi + co) (.long (if pa = 0 then q else pt)))) := by
  have kk : (Int32.ofNat (fi + co)).toNatClampNeg = fi + co := len_nat (by omega)
  have nn : ¬ Int32.ofNat (fi + co) < 0 := len_nn (by omega)
  refine Met.intro (Ls := [.val (.ref a), .val (.int n), .val (.int f), .val (.long q), .second, .unset, .unset]) pl_4 (fun m => by simp [entryFrame, mkF, argsToLocals, Value.category, maxLocals]) fun w r => ?_
  replace r : Go w l ({ frames := 1, cells := 0, slots := 0, locals := 24 } : Room) Z n0 Y4 prog_1_method_3_code 7 none 17 [.val (.ref a), .val (.int n), .val (.int f), .val (.long q), .second, .val (.long (if pa = 0 then q else pt)), .second] [] h0 0 0 := by
    replace r := r.ald0 1 d4_0 rfl
    replace r := r.getF 4 d4_1 rfl (wd_20 hw) B.2.2.2.2.2.1
    rcases r.if_eq 14 7 d4_4 (by decide) rfl with ⟨hc, r⟩ | ⟨hc, r⟩
    · rw [if_pos hc]
      replace r := r.lld3 15 d4_14 rfl
      replace r := r.lst5 17 d4_15 rfl (Two.of rfl)
      exact r
    · rw [if_neg hc]
      replace r := r.ald0 8 d4_7 rfl
      replace r := r.getF 11 d4_8 rfl (wd_22 hw) B.2.2.2.2.2.2.1
      replace r := r.goto 15 d4_11 (by decide)
      replace r := r.lst5 17 d4_15 rfl (Two.of rfl)
      exact r
  replace r := r.ald0 18 d4_17 rfl
  replace r := r.dup 19 d4_18 rfl rfl
  replace r := r.getF 22 d4_19 rfl (wd_20 hw) B.2.2.2.2.2.1
  replace r := r.ild2 23 d4_22 rfl
  replace r := r.iand 24 d4_23 rfl
  obtain ⟨h1, W1, r⟩ := r.putFN 27 d4_24 rfl (wd_20 hw) (Or.inl (wd_21 hw)) (wd_1 hw) B.1 B.2.2.2.2.2.1 (ty := .boolean) (v' := (.int ((pa &&& f) &&& 1))) (by decide) rfl (fits_nar_bool _) B.2.2.2.2.2.2.2.2.2.2.2.2.1
  replace B := B.spaused hw W1
  replace r := r.ild1 28 d4_27 rfl
  replace r := r.if_gtT 32 d4_28 (by decide) hn
  replace r := r.ald0 33 d4_32 rfl
  replace r := r.getF 36 d4_33 rfl (wd_29 hw) B.2.2.2.2.1
  replace r := r.bipushV 38 d4_36 rfl (16 : Int32) bi_16
  replace r := r.ic_neT 57 d4_38 (by decide) (fun z => by rw [show (16 : Int32) = Int32.ofNat 16 from rfl, neqn (by omega) (by decide)] at z; omega)
  replace r := r.ald0 58 d4_57 rfl
  replace r := r.getF 61 d4_58 rfl (wd_10 hw) B.2.1
  replace r := r.ald0 62 d4_61 rfl
  replace r := r.ald0 63 d4_62 rfl
  replace r := r.getF 66 d4_63 rfl (wd_29 hw) B.2.2.2.2.1
  obtain ⟨_, _, ⟨_, rfl, rfl, rfl⟩, r'⟩ := r.callP (as := [.int (Int32.ofNat co)]) (rest := [.ref sz]) 69 d4_66 rfl (slot_met hw a sz tm fi co _ pt ss ts co _ n0 B hk) B.1 (wd_31 hw) (wd_32 hw) (wd_33 hw) (wd_2 hw) (wd_1 hw) (wd_34 hw) pd_5 rfl rfl rfl (by decide) (Nat.le_of_ble_eq_true rfl) (Nat.le_of_ble_eq_true rfl) (Nat.le_of_ble_eq_true rfl) (Nat.le_of_ble_eq_true rfl)
  clear r; have r := r'; clear r'
  change Go w l _ Z n0 _ _ _ _ _ _ [.int _, .ref sz] _ _ _ at r
  replace r := r.ild1 70 d4_69 rfl
  obtain ⟨h2, W2, A2, r⟩ := r.iast 71 d4_70 rfl B.2.2.2.2.2.2.2.1 nn (by rw [kk, l1]; omega) B.2.2.2.2.2.2.2.2.2.2.2.2.2.1
  rw [kk] at W2 A2
  replace B := B.asz W2 A2
  replace r := r.ald0 72 d4_71 rfl
  replace r := r.getF 75 d4_72 rfl (wd_13 hw) B.2.2.1
  replace r := r.ald0 76 d4_75 rfl
  replace r := r.ald0 77 d4_76 rfl
  replace r := r.getF 80 d4_77 rfl (wd_29 hw) B.2.2.2.2.1
  obtain ⟨_, _, ⟨_, rfl, rfl, rfl⟩, r'⟩ := r.callP (as := [.int (Int32.ofNat co)]) (rest := [.ref tm]) 83 d4_80 rfl (slot_met hw a sz tm fi co _ pt _ ts co _ n0 B hk) B.1 (wd_31 hw) (wd_32 hw) (wd_33 hw) (wd_2 hw) (wd_1 hw) (wd_34 hw) pd_5 rfl rfl rfl (by decide) (Nat.le_of_ble_eq_true rfl) (Nat.le_of_ble_eq_true rfl) (Nat.le_of_ble_eq_true rfl) (Nat.le_of_ble_eq_true rfl)
  clear r; have r := r'; clear r'
  change Go w l _ Z n0 _ _ _ _ _ _ [.int _, .ref tm] _ _ _ at r
  replace r := r.lld5 85 d4_83 rfl
  obtain ⟨h3, W3, A3, r⟩ := r.last 86 d4_85 rfl B.2.2.2.2.2.2.2.2.1 nn (by rw [kk, l2]; omega) B.2.2.2.2.2.2.2.2.2.2.2.2.2.2
  rw [kk] at W3 A3
  replace B := B.atm W3 A3
  replace r := r.ald0 87 d4_86 rfl
  replace r := r.dup 88 d4_87 rfl rfl
  replace r := r.getF 91 d4_88 rfl (wd_29 hw) B.2.2.2.2.1
  replace r := r.iconstV 92 d4_91 rfl (1 : Int32) ic_1
  replace r := r.iadd 93 d4_92 rfl
  rw [nadd1] at r
  obtain ⟨h4, W4, r⟩ := r.putF 96 d4_93 rfl (wd_29 hw) (Or.inl (wd_30 hw)) (wd_1 hw) B.1 B.2.2.2.2.1 (ty := .int) (by decide) rfl rfl B.2.2.2.2.2.2.2.2.2.2.2.2.1
  exact r.retV d4_96 (B.scount hw W4) (by decide) (by decide)
set_option maxRecDepth 65536 in
set_option maxHeartbeats 40000000 in
theorem first_met {l : Launch} {Z : State} {a0 : Array Value} (hw : Ws Z a0) (a sz tm : Addr) (fi co : Nat) (pa : Int32) (pt : Int64) (ss ts : List Value) (v : Int64) (h0 : Heap) (n0 : Nat) (B : AR n0 Z h0 a sz tm fi co pa pt ss ts) (hc0 : 0 < co) (hco : co < 17) (hf : fi < 16) (hv : ts[fi]? = some (.long v)) : Met l Z Y6 prog_1_method_5_code 1 (some .long) ({ frames := 0, cells := 0, slots := 0, locals := 0 } : Room) [.ref a] h0 n0 (Ret fun z h => z = .long v ∧ h0 = h) := by
  refine Met.intro (Ls := [.val (.ref a)]) pl_6 (fun m => by simp [entryFrame, mkF, argsToLocals, Value.category, maxLocals]) fun w r => ?_
  replace r := r.ald0 1 d6_0 rfl
  replace r := r.getF 4 d6_1 rfl (wd_29 hw) B.2.2.2.2.1
  replace r := r.if_neT 17 d6_4 (by decide) (fun z => by rw [show (0 : Int32) = Int32.ofNat 0 from rfl, neqn (by omega) (by decide)] at z; omega)
  replace r := r.ald0 18 d6_17 rfl
  replace r := r.getF 21 d6_18 rfl (wd_13 hw) B.2.2.1
  replace r := r.ald0 22 d6_21 rfl
  replace r := r.getF 25 d6_22 rfl (wd_35 hw) B.2.2.2.1
  replace r := r.lald 26 d6_25 rfl B.2.2.2.2.2.2.2.2.1 (len_nn (by omega)) (by rw [len_nat (by omega)]; exact hv)
  exact r.retL d6_26 ⟨rfl, rfl⟩ (by decide) (by decide)
set_option maxRecDepth 65536 in
set_option maxHeartbeats 40000000 in
theorem cons_met {l : Launch} {Z : State} {a0 : Array Value} (hw : Ws Z a0) (a sz tm : Addr) (pa : Int32) (pt : Int64) (ss ts : List Value) (n : Int32) (h0 : Heap) (n0 : Nat) (B : AR n0 Z h0 a sz tm 0 2 pa pt ss ts) (hn : 0 < n) (l1 : ss.length = 16) (hv : ss[0]? = some (.int n)) : Met l Z Y7 prog_1_method_4_code 4 none ({ frames := 1, cells := 0, slots := 0, locals := 32 } : Room) [.ref a, .int n] h0 n0 (Ret0 fun h => AR n0 Z h a sz tm 1 1 pa pt (ss.set 0 (.int 0)) ts) := by
  refine Met.intro (Ls := [.val (.ref a), .val (.int n), .unset, .unset]) pl_7 (fun m => by simp [entryFrame, mkF, argsToLocals, Value.category, maxLocals]) fun w r => ?_
  replace r := r.ild1 1 d7_0 rfl
  replace r := r.ist2 2 d7_1 rfl (One.of rfl)
  replace r := r.ild2 3 d7_2 rfl
  replace r := r.if_leF 6 d7_3 rfl hn
  replace r := r.ald0 7 d7_6 rfl
  replace r := r.getF 10 d7_7 rfl (wd_29 hw) B.2.2.2.2.1
  replace r := r.if_neT 28 d7_10 (by decide) (by decide)
  replace r := r.ild2 29 d7_28 rfl
  replace r := r.ald0 30 d7_29 rfl
  replace r := r.getF 33 d7_30 rfl (wd_10 hw) B.2.1
  replace r := r.ald0 34 d7_33 rfl
  replace r := r.getF 37 d7_34 rfl (wd_35 hw) B.2.2.2.1
  replace r := r.iald 38 d7_37 rfl B.2.2.2.2.2.2.2.1 (by decide) hv
  obtain ⟨_, _, ⟨_, rfl, rfl, rfl⟩, r'⟩ := r.callS (rest := []) 41 d7_38 rfl (min_met hw n n _ n0) (wd_47 hw) (wd_48 hw) (wd_49 hw) (wd_50 hw) pd_8 rfl rfl rfl (by decide) (Nat.le_of_ble_eq_true rfl) (Nat.le_of_ble_eq_true rfl) (Nat.le_of_ble_eq_true rfl) (Nat.le_of_ble_eq_true rfl)
  clear r; have r := r'; clear r'
  rw [if_neg (Int32.lt_irrefl)] at r
  change Go w l _ Z n0 _ _ _ _ _ _ [.int n] _ _ _ at r
  replace r := r.ist3 42 d7_41 rfl (One.of rfl)
  replace r := r.ald0 43 d7_42 rfl
  replace r := r.getF 46 d7_43 rfl (wd_10 hw) B.2.1
  replace r := r.ald0 47 d7_46 rfl
  replace r := r.getF 50 d7_47 rfl (wd_35 hw) B.2.2.2.1
  replace r := r.dup2 51 d7_50 rfl rfl rfl
  replace r := r.iald 52 d7_51 rfl B.2.2.2.2.2.2.2.1 (by decide) hv
  replace r := r.ild3 53 d7_52 rfl
  replace r := r.isub 54 d7_53 rfl
  rw [Int32.sub_self] at r
  obtain ⟨h2, W2, A2, r⟩ := r.iast 55 d7_54 rfl B.2.2.2.2.2.2.2.1 (by decide) (by rw [l1]; decide) B.2.2.2.2.2.2.2.2.2.2.2.2.2.1
  replace B := B.asz W2 A2
  replace r := r.ild2 56 d7_55 rfl
  replace r := r.ild3 57 d7_56 rfl
  replace r := r.isub 58 d7_57 rfl
  rw [Int32.sub_self] at r
  have hz : (ss.set (Int32.ofNat 0).toNatClampNeg (Value.int 0))[(Int32.ofNat 0).toNatClampNeg]? = some (.int 0) := by show (ss.set 0 (Value.int 0))[0]? = _; rw [List.getElem?_set_self (by omega)]
  replace r := r.ist2 59 d7_58 rfl (One.of rfl)
  replace r := r.ald0 60 d7_59 rfl
  replace r := r.getF 63 d7_60 rfl (wd_10 hw) B.2.1
  replace r := r.ald0 64 d7_63 rfl
  replace r := r.getF 67 d7_64 rfl (wd_35 hw) B.2.2.2.1
  replace r := r.iald 68 d7_67 rfl B.2.2.2.2.2.2.2.1 (by decide) hz
  replace r := r.if_neF 71 d7_68 rfl rfl
  replace r := r.ald0 72 d7_71 rfl
  replace r := r.ald0 73 d7_72 rfl
  replace r := r.iconstV 74 d7_73 rfl (1 : Int32) ic_1
  obtain ⟨_, _, ⟨_, rfl, rfl, rfl⟩, r'⟩ := r.callP (as := [.int (Int32.ofNat 1)]) (rest := [.ref a]) 77 d7_74 rfl (slot_met hw a sz tm 0 2 pa pt _ ts 1 _ n0 B (by decide)) B.1 (wd_31 hw) (wd_32 hw) (wd_33 hw) (wd_2 hw) (wd_1 hw) (wd_34 hw) pd_5 rfl rfl rfl (by decide) (Nat.le_of_ble_eq_true rfl) (Nat.le_of_ble_eq_true rfl) (Nat.le_of_ble_eq_true rfl) (Nat.le_of_ble_eq_true rfl)
  clear r; have r := r'; clear r'
  change Go w l _ Z n0 _ _ _ _ _ _ [.int (Int32.ofNat 1), .ref a] _ _ _ at r
  obtain ⟨h3, W3, r⟩ := r.putF 80 d7_77 rfl (wd_35 hw) (Or.inl (wd_36 hw)) (wd_1 hw) B.1 B.2.2.2.1 (ty := .int) (by decide) rfl rfl B.2.2.2.2.2.2.2.2.2.2.2.2.1
  replace B := B.sfirst hw W3
  replace r := r.ald0 81 d7_80 rfl
  replace r := r.dup 82 d7_81 rfl rfl
  replace r := r.getF 85 d7_82 rfl (wd_29 hw) B.2.2.2.2.1
  replace r := r.iconstV 86 d7_85 rfl (1 : Int32) ic_1
  replace r := r.isub 87 d7_86 rfl
  rw [show Int32.ofNat 2 - (1 : Int32) = Int32.ofNat 1 from rfl] at r
  obtain ⟨h4, W4, r⟩ := r.putF 90 d7_87 rfl (wd_29 hw) (Or.inl (wd_30 hw)) (wd_1 hw) B.1 B.2.2.2.2.1 (ty := .int) (by decide) rfl rfl B.2.2.2.2.2.2.2.2.2.2.2.2.1
  replace B := B.scount hw W4
  replace r := r.goto 2 d7_90 (by decide)
  replace r := r.ild2 3 d7_2 rfl
  replace r := r.if_leT 93 d7_3 (by decide) (by decide)
  exact r.retV d7_93 B (by decide) (by decide)

theorem mask_pos (y : Int32) : ∃ x : Int32, 0 < x ∧ (y &&& 255) + 1 = x := by
  refine ⟨_, ?_, rfl⟩
  have h := c_mask y 255 8 (by decide) (by decide)
  have h1 : 0 ≤ y.toInt % (2 ^ 8 : Nat) := Int.emod_nonneg _ (by decide)
  have h2 : y.toInt % (2 ^ 8 : Nat) < (2 ^ 8 : Nat) := Int.emod_lt_of_pos _ (by decide)
  rw [← h] at h1 h2
  have e4 : ((2 ^ 8 : Nat) : Int) = 256 := rfl
  rw [e4] at h2
  have h3 := c_iadd (y &&& 255) 1
  have h4 := rng32 ((y &&& 255) + 1)
  have e1 : (1 : Int32).toInt = 1 := rfl
  have e0 : (0 : Int32).toInt = 0 := rfl
  rw [e1] at h3
  rw [Int32.lt_iff_toInt_lt, e0]; omega
theorem pb_eq (pa f : Int32) (h1 : pa = 0 ∨ pa = 1) (h2 : f = 0 ∨ f = 1) : (pa &&& f) &&& 1 = if pa = 0 then 0 else if f = 0 then 0 else 1 := by
  rcases h1 with rfl | rfl <;> rcases h2 with rfl | rfl <;> rfl
theorem came (pb p3 : Int32) (pt t4 t5 : Int64) : (if (if p3 = 0 then pb else (if pb = 0 then 1 else pb)) = 0 then t5 else (if p3 = 0 then pt else (if pb = 0 then t4 else pt))) = if pb = 0 then (if p3 = 0 then t5 else t4) else pt := by
  by_cases h1 : pb = 0 <;> by_cases h2 : p3 = 0 <;> simp [h1, h2]

set_option maxRecDepth 65536 in
set_option maxHeartbeats 40000000 in
theorem law_met {l : Launch} {Z : State} {a0 : Array Value} (hw : Ws Z a0) (t1 t2 t3 t4 t5 : Int64) (s : Int32) (h0 : Heap) (n0 : Nat) (hn : n0 ≤ h0.size) : Met l Z Y0 code maxLocals ret room_1 [.long t1, .long t2, .long t3, .long t4, .long t5, .int s] h0 n0 (Ret fun v h => v = .int 1) := by
  refine Met.intro (Ls := [.val (.long t1), .second, .val (.long t2), .second, .val (.long t3), .second, .val (.long t4), .second, .val (.long t5), .second, .val (.int s), .unset, .unset, .unset, .unset, .unset, .unset, .unset, .unset, .unset, .unset, .unset, .unset, .unset, .unset, .unset, .unset, .unset, .unset]) pl_0 (fun m => by simp [entryFrame, mkF, argsToLocals, Value.category, maxLocals]) fun w r => ?_
  have J : ∃ k : Int32, (k = 0 ∨ k = 1) ∧ Go w l room_1 Z n0 Y0 code maxLocals ret 14 [.val (.long t1), .second, .val (.long t2), .second, .val (.long t3), .second, .val (.long t4), .second, .val (.long t5), .second, .val (.int s), .val (.int k), .unset, .unset, .unset, .unset, .unset, .unset, .unset, .unset, .unset, .unset, .unset, .unset, .unset, .unset, .unset, .unset, .unset] [] h0 0 0 := by
    replace r := r.ild10 2 at_0 rfl
    replace r := r.iconstV 3 at_2 rfl (1 : Int32) ic_1
    replace r := r.iand 4 at_3 rfl
    rcases r.if_eq 11 7 at_4 (by decide) rfl with ⟨hc, r⟩ | ⟨hc, r⟩
    · replace r := r.iconstV 12 at_11 rfl (0 : Int32) ic_0
      replace r := r.ist11 14 at_12 rfl (One.of rfl)
      exact ⟨_, Or.inl rfl, r⟩
    · replace r := r.iconstV 8 at_7 rfl (1 : Int32) ic_1
      replace r := r.goto 12 at_8 (by decide)
      replace r := r.ist11 14 at_12 rfl (One.of rfl)
      exact ⟨_, Or.inr rfl, r⟩
  clear r
  obtain ⟨p1, bp1, r⟩ := J
  have J : ∃ k : Int32, (k = 0 ∨ k = 1) ∧ Go w l room_1 Z n0 Y0 code maxLocals ret 28 [.val (.long t1), .second, .val (.long t2), .second, .val (.long t3), .second, .val (.long t4), .second, .val (.long t5), .second, .val (.int s), .val (.int p1), .val (.int k), .unset, .unset, .unset, .unset, .unset, .unset, .unset, .unset, .unset, .unset, .unset, .unset, .unset, .unset, .unset, .unset] [] h0 0 0 := by
    replace r := r.ild10 16 at_14 rfl
    replace r := r.iconstV 17 at_16 rfl (2 : Int32) ic_2
    replace r := r.iand 18 at_17 rfl
    rcases r.if_eq 25 21 at_18 (by decide) rfl with ⟨hc, r⟩ | ⟨hc, r⟩
    · replace r := r.iconstV 26 at_25 rfl (0 : Int32) ic_0
      replace r := r.ist12 28 at_26 rfl (One.of rfl)
      exact ⟨_, Or.inl rfl, r⟩
    · replace r := r.iconstV 22 at_21 rfl (1 : Int32) ic_1
      replace r := r.goto 26 at_22 (by decide)
      replace r := r.ist12 28 at_26 rfl (One.of rfl)
      exact ⟨_, Or.inr rfl, r⟩
  clear r
  obtain ⟨p2, bp2, r⟩ := J
  have J : ∃ k : Int32, (k = 0 ∨ k = 1) ∧ Go w l room_1 Z n0 Y0 code maxLocals ret 42 [.val (.long t1), .second, .val (.long t2), .second, .val (.long t3), .second, .val (.long t4), .second, .val (.long t5), .second, .val (.int s), .val (.int p1), .val (.int p2), .val (.int k), .unset, .unset, .unset, .unset, .unset, .unset, .unset, .unset, .unset, .unset, .unset, .unset, .unset, .unset, .unset] [] h0 0 0 := by
    replace r := r.ild10 30 at_28 rfl
    replace r := r.iconstV 31 at_30 rfl (4 : Int32) ic_4
    replace r := r.iand 32 at_31 rfl
    rcases r.if_eq 39 35 at_32 (by decide) rfl with ⟨hc, r⟩ | ⟨hc, r⟩
    · replace r := r.iconstV 40 at_39 rfl (0 : Int32) ic_0
      replace r := r.ist13 42 at_40 rfl (One.of rfl)
      exact ⟨_, Or.inl rfl, r⟩
    · replace r := r.iconstV 36 at_35 rfl (1 : Int32) ic_1
      replace r := r.goto 40 at_36 (by decide)
      replace r := r.ist13 42 at_40 rfl (One.of rfl)
      exact ⟨_, Or.inr rfl, r⟩
  clear r
  obtain ⟨fu, bfu, r⟩ := J
  have J : ∃ k : Int32, (k = 0 ∨ k = 1) ∧ Go w l room_1 Z n0 Y0 code maxLocals ret 57 [.val (.long t1), .second, .val (.long t2), .second, .val (.long t3), .second, .val (.long t4), .second, .val (.long t5), .second, .val (.int s), .val (.int p1), .val (.int p2), .val (.int fu), .val (.int k), .unset, .unset, .unset, .unset, .unset, .unset, .unset, .unset, .unset, .unset, .unset, .unset, .unset, .unset] [] h0 0 0 := by
    replace r := r.ild10 44 at_42 rfl
    replace r := r.bipushV 46 at_44 rfl (8 : Int32) bi_8
    replace r := r.iand 47 at_46 rfl
    rcases r.if_eq 54 50 at_47 (by decide) rfl with ⟨hc, r⟩ | ⟨hc, r⟩
    · replace r := r.iconstV 55 at_54 rfl (0 : Int32) ic_0
      replace r := r.ist14 57 at_55 rfl (One.of rfl)
      exact ⟨_, Or.inl rfl, r⟩
    · replace r := r.iconstV 51 at_50 rfl (1 : Int32) ic_1
      replace r := r.goto 55 at_51 (by decide)
      replace r := r.ist14 57 at_55 rfl (One.of rfl)
      exact ⟨_, Or.inr rfl, r⟩
  clear r
  obtain ⟨p3, bp3, r⟩ := J
  have J : ∃ k : Int32, (k = 0 ∨ k = 1) ∧ Go w l room_1 Z n0 Y0 code maxLocals ret 72 [.val (.long t1), .second, .val (.long t2), .second, .val (.long t3), .second, .val (.long t4), .second, .val (.long t5), .second, .val (.int s), .val (.int p1), .val (.int p2), .val (.int fu), .val (.int p3), .val (.int k), .unset, .unset, .unset, .unset, .unset, .unset, .unset, .unset, .unset, .unset, .unset, .unset, .unset] [] h0 0 0 := by
    replace r := r.ild10 59 at_57 rfl
    replace r := r.bipushV 61 at_59 rfl (16 : Int32) bi_16
    replace r := r.iand 62 at_61 rfl
    rcases r.if_eq 69 65 at_62 (by decide) rfl with ⟨hc, r⟩ | ⟨hc, r⟩
    · replace r := r.iconstV 70 at_69 rfl (0 : Int32) ic_0
      replace r := r.ist15 72 at_70 rfl (One.of rfl)
      exact ⟨_, Or.inl rfl, r⟩
    · replace r := r.iconstV 66 at_65 rfl (1 : Int32) ic_1
      replace r := r.goto 70 at_66 (by decide)
      replace r := r.ist15 72 at_70 rfl (One.of rfl)
      exact ⟨_, Or.inr rfl, r⟩
  clear r
  obtain ⟨fv, bfv, r⟩ := J
  replace r := r.ild10 74 at_72 rfl
  replace r := r.iconstV 75 at_74 rfl (5 : Int32) ic_5
  replace r := r.iushr 76 at_75 rfl
  replace r := r.sipushV 79 at_76 rfl (255 : Int32) si_255
  replace r := r.iand 80 at_79 rfl
  replace r := r.iconstV 81 at_80 rfl (1 : Int32) ic_1
  replace r := r.iadd 82 at_81 rfl
  obtain ⟨n1, hn1, e1⟩ := mask_pos ((s.toUInt32 >>> ((5 : Int32) &&& 31).toUInt32).toInt32)
  rw [e1] at r
  replace r := r.ist16 84 at_82 rfl (One.of rfl)
  replace r := r.ild10 86 at_84 rfl
  replace r := r.bipushV 88 at_86 rfl (13 : Int32) bi_13
  replace r := r.iushr 89 at_88 rfl
  replace r := r.sipushV 92 at_89 rfl (255 : Int32) si_255
  replace r := r.iand 93 at_92 rfl
  replace r := r.iconstV 94 at_93 rfl (1 : Int32) ic_1
  replace r := r.iadd 95 at_94 rfl
  obtain ⟨n2, hn2, e2⟩ := mask_pos ((s.toUInt32 >>> ((13 : Int32) &&& 31).toUInt32).toInt32)
  rw [e2] at r
  replace r := r.ist17 97 at_95 rfl (One.of rfl)
  obtain ⟨h1, a, z1, X1, E1, D1, r⟩ := r.newO 100 at_97 rfl (wd_0 hw) (wd_1 hw) (wd_2 hw) (by decide) (by decide)
  have ga : n0 ≤ a := by rw [z1]; exact hn
  replace r := r.dup 101 at_100 rfl rfl
  obtain ⟨_, h2, ⟨rfl, sz, tm, B⟩, r'⟩ := r.callI (as := []) (rest := [.ref a]) 104 at_101 rfl (init_met hw a _ n0 ga E1 (D1 (Or.inr (wd_11 hw)) (ty := (.array .int)) (by decide)) (D1 (Or.inr (wd_14 hw)) (ty := (.array .long)) (by decide)) (D1 (Or.inl (wd_36 hw)) (ty := .int) (by decide)) (D1 (Or.inl (wd_30 hw)) (ty := .int) (by decide)) (D1 (Or.inl (wd_21 hw)) (ty := .boolean) (by decide)) (D1 (Or.inl (wd_23 hw)) (ty := .long) (by decide))) rfl (wd_3 hw) (wd_4 hw) (wd_2 hw) (wd_5 hw) pd_1 rfl rfl rfl (by decide) (Nat.le_of_ble_eq_true rfl) (Nat.le_of_ble_eq_true rfl) (Nat.le_of_ble_eq_true rfl) (Nat.le_of_ble_eq_true rfl)
  clear r; have r := r'; clear r'
  change Go w l _ Z n0 _ _ _ _ _ _ [.ref a] _ _ _ at r
  replace r := r.ast18 106 at_104 rfl (One.of rfl)
  replace r := r.iconstV 107 at_106 rfl (0 : Int32) ic_0
  replace r := r.ist19 109 at_107 rfl (One.of rfl)
  replace r := r.lconstV 110 at_109 rfl (0 : Int64) rfl
  replace r := r.lst20 112 at_110 rfl (Two.of rfl)
  replace r : Go w l room_1 Z n0 Y0 code maxLocals ret 112 [.val (.long t1), .second, .val (.long t2), .second, .val (.long t3), .second, .val (.long t4), .second, .val (.long t5), .second, .val (.int s), .val (.int p1), .val (.int p2), .val (.int fu), .val (.int p3), .val (.int fv), .val (.int n1), .val (.int n2), .val (.ref a), .val (.int 0), .val (.long 0), .second, .unset, .unset, .unset, .unset, .unset, .unset, .unset] [] h2 3 38 := r
  have J : ∃ (pa : Int32) (pt : Int64) (h : Heap), (pa = 0 ∨ pa = 1) ∧ AR n0 Z h a sz tm 0 0 pa pt (List.replicate 16 (.int 0)) (List.replicate 16 (.long 0)) ∧ Go w l room_1 Z n0 Y0 code maxLocals ret 129 [.val (.long t1), .second, .val (.long t2), .second, .val (.long t3), .second, .val (.long t4), .second, .val (.long t5), .second, .val (.int s), .val (.int p1), .val (.int p2), .val (.int fu), .val (.int p3), .val (.int fv), .val (.int n1), .val (.int n2), .val (.ref a), .val (.int pa), .val (.long pt), .second, .unset, .unset, .unset, .unset, .unset, .unset, .unset] [] h 3 38 := by
    replace r := r.ild11 114 at_112 rfl
    rcases r.if_eq 129 117 at_114 (by decide) rfl with ⟨hc, r⟩ | ⟨hc, r⟩
    · exact ⟨_, _, _, Or.inl rfl, B, r⟩
    · replace r := r.ald18 119 at_117 rfl
      replace r := r.lld0 120 at_119 rfl
      obtain ⟨_, h', ⟨rfl, B'⟩, r'⟩ := r.callV (as := [.long t1]) (rest := []) 123 at_120 rfl (pause_met hw a sz tm 0 0 0 0 _ _ t1 _ n0 B) B.1 (wd_15 hw) (wd_16 hw) (wd_17 hw) (wd_18 hw) (wd_2 hw) (wd_19 hw) pd_3 rfl rfl rfl (by decide) (Nat.le_of_ble_eq_true rfl) (Nat.le_of_ble_eq_true rfl) (Nat.le_of_ble_eq_true rfl) (Nat.le_of_ble_eq_true rfl)
      clear r; have r := r'; clear r'
      change Go w l _ Z n0 _ _ _ _ _ _ [] _ _ _ at r
      replace r := r.iconstV 124 at_123 rfl (1 : Int32) ic_1
      replace r := r.ist19 126 at_124 rfl (One.of rfl)
      replace r := r.lld0 127 at_126 rfl
      replace r := r.lst20 129 at_127 rfl (Two.of rfl)
      exact ⟨_, _, _, Or.inr rfl, B', r⟩
  clear r B
  obtain ⟨pa, pt, h3, bpa, B, r⟩ := J
  have J : ∃ (pb : Int32) (pu : Int64) (h : Heap), (pb = 0 ∨ pb = 1) ∧ AR n0 Z h a sz tm 0 0 pb pu (List.replicate 16 (.int 0)) (List.replicate 16 (.long 0)) ∧ Go w l room_1 Z n0 Y0 code maxLocals ret 151 [.val (.long t1), .second, .val (.long t2), .second, .val (.long t3), .second, .val (.long t4), .second, .val (.long t5), .second, .val (.int s), .val (.int p1), .val (.int p2), .val (.int fu), .val (.int p3), .val (.int fv), .val (.int n1), .val (.int n2), .val (.ref a), .val (.int pb), .val (.long pu), .second, .unset, .unset, .unset, .unset, .unset, .unset, .unset] [] h 3 38 := by
    replace r := r.ild12 131 at_129 rfl
    rcases r.if_eq 151 134 at_131 (by decide) rfl with ⟨hc, r⟩ | ⟨hc, r⟩
    · exact ⟨_, _, _, bpa, B, r⟩
    · replace r := r.ald18 136 at_134 rfl
      replace r := r.lld2 137 at_136 rfl
      obtain ⟨_, h', ⟨rfl, B'⟩, r'⟩ := r.callV (as := [.long t2]) (rest := []) 140 at_137 rfl (pause_met hw a sz tm 0 0 pa pt _ _ t2 _ n0 B) B.1 (wd_15 hw) (wd_16 hw) (wd_17 hw) (wd_18 hw) (wd_2 hw) (wd_19 hw) pd_3 rfl rfl rfl (by decide) (Nat.le_of_ble_eq_true rfl) (Nat.le_of_ble_eq_true rfl) (Nat.le_of_ble_eq_true rfl) (Nat.le_of_ble_eq_true rfl)
      clear r; have r := r'; clear r'
      change Go w l _ Z n0 _ _ _ _ _ _ [] _ _ _ at r
      replace r := r.ild19 142 at_140 rfl
      rcases r.if_ne 151 145 at_142 (by decide) rfl with ⟨hd, r⟩ | ⟨hd, r⟩
      · rw [if_neg hd, if_neg hd] at B'; exact ⟨_, _, _, bpa, B', r⟩
      · rw [if_pos hd, if_pos hd] at B'
        replace r := r.iconstV 146 at_145 rfl (1 : Int32) ic_1
        replace r := r.ist19 148 at_146 rfl (One.of rfl)
        replace r := r.lld2 149 at_148 rfl
        replace r := r.lst20 151 at_149 rfl (Two.of rfl)
        exact ⟨_, _, _, Or.inr rfl, B', r⟩
  clear r B bpa pa pt
  obtain ⟨pa, pt, h4, bpa, B, r⟩ := J
  replace r := r.ald18 153 at_151 rfl
  replace r := r.ild16 155 at_153 rfl
  replace r := r.ild13 157 at_155 rfl
  replace r := r.lld4 159 at_157 rfl
  obtain ⟨_, h5, ⟨rfl, B'⟩, r'⟩ := r.callV (as := [.int n1, .int fu, .long t3]) (rest := []) 162 at_159 rfl (read_met hw a sz tm 0 0 pa pt _ _ n1 fu t3 _ n0 B hn1 (by decide) rfl rfl) B.1 (wd_24 hw) (wd_25 hw) (wd_26 hw) (wd_27 hw) (wd_2 hw) (wd_28 hw) pd_4 rfl rfl rfl (by decide) (Nat.le_of_ble_eq_true rfl) (Nat.le_of_ble_eq_true rfl) (Nat.le_of_ble_eq_true rfl) (Nat.le_of_ble_eq_true rfl)
  clear r; have r := r'; clear r'
  change Go w l _ Z n0 _ _ _ _ _ _ [] _ _ _ at r
  clear B; have B := B'; clear B'
  rw [pb_eq pa fu bpa bfu] at B
  replace r : Go w l room_1 Z n0 Y0 code maxLocals ret 176 [.val (.long t1), .second, .val (.long t2), .second, .val (.long t3), .second, .val (.long t4), .second, .val (.long t5), .second, .val (.int s), .val (.int p1), .val (.int p2), .val (.int fu), .val (.int p3), .val (.int fv), .val (.int n1), .val (.int n2), .val (.ref a), .val (.int pa), .val (.long pt), .second, .val (.long (if pa = 0 then t3 else pt)), .second, .unset, .unset, .unset, .unset, .unset] [] h5 3 38 := by
    replace r := r.ild19 164 at_162 rfl
    rcases r.if_eq 172 167 at_164 (by decide) rfl with ⟨hc, r⟩ | ⟨hc, r⟩
    · rw [if_pos hc]
      replace r := r.lld4 174 at_172 rfl
      replace r := r.lst22 176 at_174 rfl (Two.of rfl)
      exact r
    · rw [if_neg hc]
      replace r := r.lld20 169 at_167 rfl
      replace r := r.goto 174 at_169 (by decide)
      replace r := r.lst22 176 at_174 rfl (Two.of rfl)
      exact r
  replace r := r.ald18 178 at_176 rfl
  obtain ⟨_, _, ⟨_, rfl, rfl, rfl⟩, r'⟩ := r.callV (as := []) (rest := []) 181 at_178 rfl (first_met hw a sz tm 0 1 _ pt _ _ (if pa = 0 then t3 else pt) _ n0 B (by decide) (by decide) (by decide) rfl) B.1 (wd_37 hw) (wd_38 hw) (wd_39 hw) (wd_40 hw) (wd_2 hw) (wd_41 hw) pd_6 rfl rfl rfl (by decide) (Nat.le_of_ble_eq_true rfl) (Nat.le_of_ble_eq_true rfl) (Nat.le_of_ble_eq_true rfl) (Nat.le_of_ble_eq_true rfl)
  clear r; have r := r'; clear r'
  change Go w l _ Z n0 _ _ _ _ _ _ [.long _] _ _ _ at r
  replace r := r.lld22 183 at_181 rfl
  replace r := r.lcmp 184 at_183 rfl
  replace r := r.if_neF 187 at_184 rfl ((lw_eq _ _).mpr rfl)
  replace r := r.iconstV 188 at_187 rfl (1 : Int32) ic_1
  replace r := r.goto 192 at_188 (by decide)
  replace r := r.ist24 194 at_192 rfl (One.of rfl)
  obtain ⟨c1, hc1⟩ : ∃ c1 : Int64, c1 = (if pa = 0 then t3 else pt) := ⟨_, rfl⟩
  rw [← hc1] at r B
  replace r : Go w l room_1 Z n0 Y0 code maxLocals ret 211 [.val (.long t1), .second, .val (.long t2), .second, .val (.long t3), .second, .val (.long t4), .second, .val (.long t5), .second, .val (.int s), .val (.int p1), .val (.int p2), .val (.int fu), .val (.int p3), .val (.int fv), .val (.int n1), .val (.int n2), .val (.ref a), .val (.int pa), .val (.long pt), .second, .val (.long c1), .second, .val (.int 1), .val (.int (if pa = 0 then 0 else if fu = 0 then 0 else 1)), .unset, .unset, .unset] [] h5 3 38 := by
    replace r := r.ild19 196 at_194 rfl
    rcases r.if_eq 208 199 at_196 (by decide) rfl with ⟨hc, r⟩ | ⟨hc, r⟩
    · rw [if_pos hc]
      replace r := r.iconstV 209 at_208 rfl (0 : Int32) ic_0
      replace r := r.ist25 211 at_209 rfl (One.of rfl)
      exact r
    · rw [if_neg hc]
      replace r := r.ild13 201 at_199 rfl
      rcases r.if_eq 208 204 at_201 (by decide) rfl with ⟨hd, r⟩ | ⟨hd, r⟩
      · rw [if_pos hd]
        replace r := r.iconstV 209 at_208 rfl (0 : Int32) ic_0
        replace r := r.ist25 211 at_209 rfl (One.of rfl)
        exact r
      · rw [if_neg hd]
        replace r := r.iconstV 205 at_204 rfl (1 : Int32) ic_1
        replace r := r.goto 209 at_205 (by decide)
        replace r := r.ist25 211 at_209 rfl (One.of rfl)
        exact r
  obtain ⟨pb, hpb⟩ : ∃ pb : Int32, pb = (if pa = 0 then 0 else if fu = 0 then 0 else 1) := ⟨_, rfl⟩
  rw [← hpb] at r B
  have J : ∃ (h : Heap), AR n0 Z h a sz tm 0 (0 + 1) (if p3 = 0 then pb else (if pb = 0 then 1 else pb)) (if p3 = 0 then pt else (if pb = 0 then t4 else pt)) ((List.replicate 16 (.int 0)).set (0 + 0) (.int n1)) ((List.replicate 16 (.long 0)).set (0 + 0) (.long c1)) ∧ Go w l room_1 Z n0 Y0 code maxLocals ret 223 [.val (.long t1), .second, .val (.long t2), .second, .val (.long t3), .second, .val (.long t4), .second, .val (.long t5), .second, .val (.int s), .val (.int p1), .val (.int p2), .val (.int fu), .val (.int p3), .val (.int fv), .val (.int n1), .val (.int n2), .val (.ref a), .val (.int pa), .val (.long pt), .second, .val (.long c1), .second, .val (.int 1), .val (.int pb), .unset, .unset, .unset] [] h 3 38 := by
    replace r := r.ild14 213 at_211 rfl
    rcases r.if_eq 223 216 at_213 (by decide) rfl with ⟨hc, r⟩ | ⟨hc, r⟩
    · rw [if_pos hc, if_pos hc]; exact ⟨_, B, r⟩
    · rw [if_neg hc, if_neg hc]
      replace r := r.ald18 218 at_216 rfl
      replace r := r.lld6 220 at_218 rfl
      obtain ⟨_, h', ⟨rfl, B'⟩, r'⟩ := r.callV (as := [.long t4]) (rest := []) 223 at_220 rfl (pause_met hw a sz tm 0 (0 + 1) pb pt _ _ t4 _ n0 B) B.1 (wd_15 hw) (wd_16 hw) (wd_17 hw) (wd_18 hw) (wd_2 hw) (wd_19 hw) pd_3 rfl rfl rfl (by decide) (Nat.le_of_ble_eq_true rfl) (Nat.le_of_ble_eq_true rfl) (Nat.le_of_ble_eq_true rfl) (Nat.le_of_ble_eq_true rfl)
      clear r; have r := r'; clear r'
      change Go w l _ Z n0 _ _ _ _ _ _ [] _ _ _ at r
      exact ⟨_, B', r⟩
  clear r B
  obtain ⟨h6, B, r⟩ := J
  replace r := r.ald18 225 at_223 rfl
  replace r := r.ild17 227 at_225 rfl
  replace r := r.ild15 229 at_227 rfl
  replace r := r.lld8 231 at_229 rfl
  obtain ⟨_, h7, ⟨rfl, B'⟩, r'⟩ := r.callV (as := [.int n2, .int fv, .long t5]) (rest := []) 234 at_231 rfl (read_met hw a sz tm 0 (0 + 1) _ _ _ _ n2 fv t5 _ n0 B hn2 (by decide) rfl rfl) B.1 (wd_24 hw) (wd_25 hw) (wd_26 hw) (wd_27 hw) (wd_2 hw) (wd_28 hw) pd_4 rfl rfl rfl (by decide) (Nat.le_of_ble_eq_true rfl) (Nat.le_of_ble_eq_true rfl) (Nat.le_of_ble_eq_true rfl) (Nat.le_of_ble_eq_true rfl)
  clear r; have r := r'; clear r'
  change Go w l _ Z n0 _ _ _ _ _ _ [] _ _ _ at r
  clear B; have B := B'; clear B'
  rw [came] at B
  replace r : Go w l room_1 Z n0 Y0 code maxLocals ret 262 [.val (.long t1), .second, .val (.long t2), .second, .val (.long t3), .second, .val (.long t4), .second, .val (.long t5), .second, .val (.int s), .val (.int p1), .val (.int p2), .val (.int fu), .val (.int p3), .val (.int fv), .val (.int n1), .val (.int n2), .val (.ref a), .val (.int pa), .val (.long pt), .second, .val (.long c1), .second, .val (.int 1), .val (.int pb), .val (.long (if pb = 0 then (if p3 = 0 then t5 else t4) else pt)), .second, .unset] [] h7 3 38 := by
    replace r := r.ild25 236 at_234 rfl
    rcases r.if_eq 246 239 at_236 (by decide) rfl with ⟨hc, r⟩ | ⟨hc, r⟩
    · rw [if_pos hc]
      replace r := r.ild14 248 at_246 rfl
      rcases r.if_eq 258 251 at_248 (by decide) rfl with ⟨hd, r⟩ | ⟨hd, r⟩
      · rw [if_pos hd]
        replace r := r.lld8 260 at_258 rfl
        replace r := r.lst26 262 at_260 rfl (Two.of rfl)
        exact r
      · rw [if_neg hd]
        replace r := r.lld6 253 at_251 rfl
        replace r := r.lst26 255 at_253 rfl (Two.of rfl)
        replace r := r.goto 262 at_255 (by decide)
        exact r
    · rw [if_neg hc]
      replace r := r.lld20 241 at_239 rfl
      replace r := r.lst26 243 at_241 rfl (Two.of rfl)
      replace r := r.goto 262 at_243 (by decide)
      exact r
  replace r := r.ald18 264 at_262 rfl
  replace r := r.ild16 266 at_264 rfl
  obtain ⟨_, h8, ⟨rfl, B'⟩, r'⟩ := r.callV (as := [.int n1]) (rest := []) 269 at_266 rfl (cons_met hw a sz tm _ _ _ _ n1 _ n0 B hn1 rfl rfl) B.1 (wd_42 hw) (wd_43 hw) (wd_44 hw) (wd_45 hw) (wd_2 hw) (wd_46 hw) pd_7 rfl rfl rfl (by decide) (Nat.le_of_ble_eq_true rfl) (Nat.le_of_ble_eq_true rfl) (Nat.le_of_ble_eq_true rfl) (Nat.le_of_ble_eq_true rfl)
  clear r; have r := r'; clear r'
  change Go w l _ Z n0 _ _ _ _ _ _ [] _ _ _ at r
  clear B; have B := B'; clear B'
  replace r := r.ald18 271 at_269 rfl
  obtain ⟨_, _, ⟨_, rfl, rfl, rfl⟩, r'⟩ := r.callV (as := []) (rest := []) 274 at_271 rfl (first_met hw a sz tm 1 1 _ _ _ _ (if pb = 0 then (if p3 = 0 then t5 else t4) else pt) _ n0 B (by decide) (by decide) (by decide) rfl) B.1 (wd_37 hw) (wd_38 hw) (wd_39 hw) (wd_40 hw) (wd_2 hw) (wd_41 hw) pd_6 rfl rfl rfl (by decide) (Nat.le_of_ble_eq_true rfl) (Nat.le_of_ble_eq_true rfl) (Nat.le_of_ble_eq_true rfl) (Nat.le_of_ble_eq_true rfl)
  clear r; have r := r'; clear r'
  change Go w l _ Z n0 _ _ _ _ _ _ [.long _] _ _ _ at r
  replace r := r.lld26 276 at_274 rfl
  replace r := r.lcmp 277 at_276 rfl
  replace r := r.if_neF 280 at_277 rfl ((lw_eq _ _).mpr rfl)
  replace r := r.iconstV 281 at_280 rfl (1 : Int32) ic_1
  replace r := r.goto 285 at_281 (by decide)
  replace r := r.ist28 287 at_285 rfl (One.of rfl)
  replace r := r.ild24 289 at_287 rfl
  replace r := r.if_eqF 292 at_289 rfl (by decide)
  replace r := r.ild28 294 at_292 rfl
  replace r := r.if_eqF 297 at_294 rfl (by decide)
  replace r := r.iconstV 298 at_297 rfl (1 : Int32) ic_1
  replace r := r.goto 302 at_298 (by decide)
  exact r.retN at_302 (Or.inl rfl) (z' := 1) rfl (by rfl) (by decide) (by decide)
set_option maxRecDepth 65536 in
set_option maxHeartbeats 40000000 in
theorem comes_1 {Post : Tables → Env → Array Value → State → Outcome → State → Prop} (hpost : ∀ tb e args s v u, (limb_1_1.after args s (.returned v) u = true ∧ limb_1_2.after args s (.returned v) u = true ∧ True) → FrameEnd s (.returned v) u (Jvm.fieldLocs frame_1_writes args s ++ Jvm.arrayLocs frame_1_arrays args s ++ Jvm.staticLocs frame_1_statics s) 16 192 → Post tb e args s (.returned v) u) :
    ArmFor flags0 classFile x code maxLocals ret World_1 tables_1 room_1 Calls_1 rest_1 Pre_1 Post := by
  intro l hfl _ _ p e ha hc hk s m args below hf hA hF happ hP
  obtain ⟨hcalls, hrest, hpre⟩ := hP
  obtain ⟨-, -, -, hnamed, -, -, -, hat⟩ := (Spec.applies_iff hf).mp happ
  obtain ⟨hg, hn⟩ := and_e (Cond.before_iff.mp (show (Jvm.Cond.and given_1 narrow_1).before args s = true from hpre))
  obtain ⟨g1, g2⟩ := and_e hg
  obtain ⟨g3, g4⟩ := and_e g2
  obtain ⟨g5, g6⟩ := and_e g4
  obtain ⟨g7, g8⟩ := and_e g6
  obtain ⟨g9, g10⟩ := and_e g8
  obtain ⟨g11, g12⟩ := and_e g10
  obtain ⟨w0, w1, w2, w3, w4, w5, rfl⟩ : ∃ w0 w1 w2 w3 w4 w5 : Value, args = #[w0, w1, w2, w3, w4, w5] := by
    have hs : args.size = 6 := by simpa [Cond.value, given_1] using g1
    obtain ⟨L⟩ := args
    match L, hs with
    | [w0, w1, w2, w3, w4, w5], _ => exact ⟨w0, w1, w2, w3, w4, w5, rfl⟩
  have hw : Ws s _ := fun d (hd : d ∈ tables_1) => atoms_spec (ws := Jvm.Cond.code x code maxLocals ret :: tables_1) hat d (List.mem_cons_of_mem _ hd)
  obtain ⟨i0, ei0⟩ := isL_v g3
  obtain rfl : w0 = (.long i0) := Option.some.inj ei0
  obtain ⟨i1, ei1⟩ := isL_v g5
  obtain rfl : w1 = (.long i1) := Option.some.inj ei1
  obtain ⟨i2, ei2⟩ := isL_v g7
  obtain rfl : w2 = (.long i2) := Option.some.inj ei2
  obtain ⟨i3, ei3⟩ := isL_v g9
  obtain rfl : w3 = (.long i3) := Option.some.inj ei3
  obtain ⟨i4, ei4⟩ := isL_v g11
  obtain rfl : w4 = (.long i4) := Option.some.inj ei4
  obtain ⟨i5, ei5⟩ := is_v g12
  obtain rfl : w5 = (.int i5) := Option.some.inj ei5
  obtain ⟨n, o, h1, h2, h3, _, L, rfl, ⟨⟨_, rfl, rfl⟩, N⟩, hq⟩ := law_met (l := l) hw i0 i1 i2 i3 i4 i5 s.heap s.heap.size (Nat.le_refl _) tables_1 p e ha hc hk s m _ below hf ((Spec.applies_iff_loose hf).mp happ).1 ⟨rfl, State.Warmed39.refl s, rfl⟩ trivial
  refine ⟨n, _, h1, h2, h3, hpost _ _ _ _ _ _ ⟨Cond.after_iff.mpr rfl, Cond.after_iff.mpr (eq_i res_at (Term.int_eval (1)) rfl), trivial⟩ ⟨hq.1, hq.2.1, (hq.2.2.sift fun y hy => Or.inr (N y hy)).mono (by decide) (by decide)⟩⟩
theorem main_1_1 : Claimed_1_1 := comes_1 fun _ _ _ _ _ _ h hF => ⟨h.1, hF⟩
theorem main_1_2 : Claimed_1_2 := comes_1 fun _ _ _ _ _ _ h hF => ⟨h.2.1, hF⟩
end Jvm.Pilot.@@N@@
namespace Jvm.Pilot.@@N@@
open Jvm Jvm.ClassFile Sem Op Lib Jvm.Free Jvm.Stand Jvm.Pilot.@@N@@.Jvm.D
/-! MADE BY PROGRAM (witnessworld.py) out of the Statement's table words and the real class files: 12 classes; the members and pool entries that the words name. The judged class is class 1, her method 1. -/
namespace start1
open Jvm.ClassFile
def u (s : String) : CpInfo := .utf8 (stringToUtf16 s)
/-- a pool by its gaps: so many unusable entries, then the entry; so many at the end -/
def gap : Nat → List CpInfo → List CpInfo
  | 0, r => r
  | n + 1, r => .unusable :: gap n r
def poolList (es : List (Nat × CpInfo)) (last : Nat) : List CpInfo := es.foldr (fun e r => gap e.1 (e.2 :: r)) (gap last [])
def pool (es : List (Nat × CpInfo)) (last : Nat) : Array CpInfo := ⟨poolList es last⟩
def fileOf (pool : Array CpInfo) (this : Nat) (attrs : Array Attribute := #[]) (ms : Array MethodInfo := #[]) (fl : Nat := 33) (sup : Nat := 0) (ifs : Array Nat := #[]) (fds : Array FieldInfo := #[]) : ClassFile where
  minorVersion := 0
  majorVersion := 65
  constantPool := pool
  accessFlags := fl
  thisClass := this
  superClass := sup
  interfaces := ifs
  fields := fds
  methods := ms
  attributes := attrs
def plain (name : String) (sup : Option ClassId) : Class where
  name := name
  kind := .ordinary
  loader := none
  accessFlags := 33
  super := sup
  interfaces := #[]
  cf := none
  fields := #[]
  methods := #[]
  instanceTypes := #[]
  staticTypes := #[]
  resolved := #[]
  callSites := []
  init := .initialized
  statics := none
  mirror := none

def pool0 : Array CpInfo := pool [(5, u "<init>"), (0, u "()V"), (1, .class_ 10), (1, u "java/lang/Object")] 113

def k0c0 : Code := { maxStack := 0, maxLocals := 1, code := object_method_1_code, exceptionTable := #[], attributes := #[] }
def k0m0 : Method := { name := "<init>", desc := "()V", sig := { parameters := [], returnType := none }, accessFlags := 1, code := some k0c0 }
/-- java/lang/Object -/
def k0 : Class := { plain "java/lang/Object" none with
  accessFlags := 33
  interfaces := #[]
  cf := some (fileOf pool0 8 #[] #[{ accessFlags := 1, nameIndex := 5, descriptorIndex := 6, attributes := #[] }] 33 0 #[] #[])
  fields := #[]
  methods := #[k0m0]
  instanceTypes := #[]
  staticTypes := #[]
  resolved := Array.replicate 124 none
  statics := none }

def pool1 : Array CpInfo := pool [(2, .class_ 4), (0, .nameAndType 5 6), (0, u "java/lang/Object"), (0, u "<init>"), (0, u "()V"), (0, .class_ 8), (0, u "com/example/orderly_ranges/orderlyranges/daemon/Arrivals"), (0, .methodref 7 3), (0, .methodref 7 11), (0, .nameAndType 12 13), (0, u "pause"), (0, u "(J)V"), (0, .methodref 7 15), (0, .nameAndType 16 17), (0, u "read"), (0, u "(IZJ)V"), (0, .methodref 7 19), (0, .nameAndType 20 21), (0, u "first"), (0, u "()J"), (0, .methodref 7 23), (0, .nameAndType 24 25), (0, u "consume"), (0, u "(I)V"), (0, .class_ 27), (0, u "com/example/orderly_ranges/orderlyranges/daemon/ArrivalsPausePinLaw"), (2, u "law"), (0, u "(JJJJJI)Z")] 3

def k1m0 : Method := { name := "<init>", desc := "()V", sig := { parameters := [], returnType := none }, accessFlags := 1, code := none }
def k1c1 : Code := { maxStack := 5, maxLocals := 29, code := code, exceptionTable := #[], attributes := #[] }
def k1m1 : Method := { name := "law", desc := "(JJJJJI)Z", sig := { parameters := [.long, .long, .long, .long, .long, .int], returnType := some .boolean }, accessFlags := 9, code := some k1c1 }
/-- com/example/orderly_ranges/orderlyranges/daemon/ArrivalsPausePinLaw -/
def k1 : Class := { plain "com/example/orderly_ranges/orderlyranges/daemon/ArrivalsPausePinLaw" (some 0) with
  accessFlags := 49
  interfaces := #[]
  cf := some (fileOf pool1 26 #[] #[{ accessFlags := 1, nameIndex := 5, descriptorIndex := 6, attributes := #[] }, { accessFlags := 9, nameIndex := 30, descriptorIndex := 31, attributes := #[] }] 49 2 #[] #[])
  fields := #[]
  methods := #[k1m0, k1m1]
  instanceTypes := #[]
  staticTypes := #[]
  resolved := Array.replicate 35 none
  statics := none }

def pool2 : Array CpInfo := pool [(1, .methodref 2 3), (0, .class_ 4), (0, .nameAndType 5 6), (0, u "java/lang/Object"), (0, u "<init>"), (0, u "()V"), (0, .class_ 8), (0, u "com/example/orderly_ranges/orderlyranges/daemon/Arrivals"), (0, .fieldref 7 10), (0, .nameAndType 11 12), (0, u "sizes"), (0, u "[I"), (0, .fieldref 7 14), (0, .nameAndType 15 16), (0, u "times"), (0, u "[J"), (0, .fieldref 7 18), (0, .nameAndType 19 20), (0, u "paused"), (0, u "Z"), (0, .fieldref 7 22), (0, .nameAndType 23 24), (0, u "pausedAt"), (0, u "J"), (0, .fieldref 7 26), (0, .nameAndType 27 28), (0, u "count"), (0, u "I"), (0, .methodref 7 30), (0, .nameAndType 31 32), (0, u "slot"), (0, u "(I)I"), (9, .fieldref 7 43), (0, .nameAndType 44 28), (0, u "first"), (0, .methodref 46 47), (0, .class_ 48), (0, .nameAndType 49 50), (0, u "java/lang/Math"), (0, u "min"), (0, u "(II)I"), (2, u "READS"), (4, u "pause"), (0, u "(J)V"), (1, u "read"), (0, u "(IZJ)V"), (0, u "consume"), (0, u "(I)V"), (0, u "()J")] 17

def k2c0 : Code := { maxStack := 2, maxLocals := 1, code := prog_1_method_1_code, exceptionTable := #[], attributes := #[] }
def k2m0 : Method := { name := "<init>", desc := "()V", sig := { parameters := [], returnType := none }, accessFlags := 0, code := some k2c0 }
def k2c1 : Code := { maxStack := 3, maxLocals := 3, code := prog_1_method_2_code, exceptionTable := #[], attributes := #[] }
def k2m1 : Method := { name := "pause", desc := "(J)V", sig := { parameters := [.long], returnType := none }, accessFlags := 0, code := some k2c1 }
def k2c2 : Code := { maxStack := 4, maxLocals := 7, code := prog_1_method_3_code, exceptionTable := #[], attributes := #[] }
def k2m2 : Method := { name := "read", desc := "(IZJ)V", sig := { parameters := [.int, .boolean, .long], returnType := none }, accessFlags := 0, code := some k2c2 }
def k2c3 : Code := { maxStack := 4, maxLocals := 4, code := prog_1_method_4_code, exceptionTable := #[], attributes := #[] }
def k2m3 : Method := { name := "consume", desc := "(I)V", sig := { parameters := [.int], returnType := none }, accessFlags := 0, code := some k2c3 }
def k2c4 : Code := { maxStack := 3, maxLocals := 1, code := prog_1_method_5_code, exceptionTable := #[], attributes := #[] }
def k2m4 : Method := { name := "first", desc := "()J", sig := { parameters := [], returnType := some .long }, accessFlags := 0, code := some k2c4 }
def k2c5 : Code := { maxStack := 2, maxLocals := 2, code := prog_1_method_6_code, exceptionTable := #[], attributes := #[] }
def k2m5 : Method := { name := "slot", desc := "(I)I", sig := { parameters := [.int], returnType := some .int }, accessFlags := 2, code := some k2c5 }
/-- com/example/orderly_ranges/orderlyranges/daemon/Arrivals -/
def k2 : Class := { plain "com/example/orderly_ranges/orderlyranges/daemon/Arrivals" (some 0) with
  accessFlags := 48
  interfaces := #[]
  cf := some (fileOf pool2 7 #[] #[{ accessFlags := 0, nameIndex := 5, descriptorIndex := 6, attributes := #[] }, { accessFlags := 0, nameIndex := 58, descriptorIndex := 59, attributes := #[] }, { accessFlags := 0, nameIndex := 61, descriptorIndex := 62, attributes := #[] }, { accessFlags := 0, nameIndex := 63, descriptorIndex := 64, attributes := #[] }, { accessFlags := 0, nameIndex := 44, descriptorIndex := 65, attributes := #[] }, { accessFlags := 2, nameIndex := 31, descriptorIndex := 32, attributes := #[] }] 48 2 #[] #[{ accessFlags := 24, nameIndex := 53, descriptorIndex := 28, attributes := #[] }, { accessFlags := 18, nameIndex := 11, descriptorIndex := 12, attributes := #[] }, { accessFlags := 18, nameIndex := 15, descriptorIndex := 16, attributes := #[] }, { accessFlags := 2, nameIndex := 44, descriptorIndex := 28, attributes := #[] }, { accessFlags := 2, nameIndex := 27, descriptorIndex := 28, attributes := #[] }, { accessFlags := 2, nameIndex := 19, descriptorIndex := 20, attributes := #[] }, { accessFlags := 2, nameIndex := 23, descriptorIndex := 24, attributes := #[] }])
  fields := #[{ name := "READS", type := .int, accessFlags := 24, slot := 0, constantValue := 0 }, { name := "sizes", type := (.array .int), accessFlags := 18, slot := 0, constantValue := 0 }, { name := "times", type := (.array .long), accessFlags := 18, slot := 1, constantValue := 0 }, { name := "first", type := .int, accessFlags := 2, slot := 2, constantValue := 0 }, { name := "count", type := .int, accessFlags := 2, slot := 3, constantValue := 0 }, { name := "paused", type := .boolean, accessFlags := 2, slot := 4, constantValue := 0 }, { name := "pausedAt", type := .long, accessFlags := 2, slot := 5, constantValue := 0 }]
  methods := #[k2m0, k2m1, k2m2, k2m3, k2m4, k2m5]
  instanceTypes := #[(.array .int), (.array .long), .int, .int, .boolean, .long]
  staticTypes := #[.int]
  resolved := Array.replicate 83 none
  statics := none }

def pool3 : Array CpInfo := pool [(1, .class_ 2), (0, u "java/lang/Math"), (1, .class_ 6), (1, u "java/lang/Object"), (0, u "<init>"), (0, u "()V"), (89, .class_ 100), (1, u "java/lang/Math$RandomNumberGeneratorHolder"), (71, u "negativeZeroFloatBits"), (0, u "J"), (2, u "negativeZeroDoubleBits"), (24, u "min"), (43, u "$assertionsDisabled"), (0, u "Z"), (88, u "(II)I"), (2, u "twoToTheDoubleScaleDown"), (0, u "D"), (4, u "twoToTheDoubleScaleUp"), (9, u "E"), (3, u "PI"), (2, u "TAU"), (2, u "DEGREES_TO_RADIANS"), (0, u "RADIANS_TO_DEGREES")] 94

def k3m0 : Method := { name := "<init>", desc := "()V", sig := { parameters := [], returnType := none }, accessFlags := 2, code := none }
def k3c1 : Code := { maxStack := 2, maxLocals := 2, code := jdk_29_method_69_code, exceptionTable := #[], attributes := #[] }
def k3m1 : Method := { name := "min", desc := "(II)I", sig := { parameters := [.int, .int], returnType := some .int }, accessFlags := 9, code := some k3c1 }
/-- java/lang/Math -/
def k3 : Class := { plain "java/lang/Math" (some 0) with
  accessFlags := 49
  interfaces := #[]
  cf := some (fileOf pool3 1 #[.nestMembers #[98]] #[{ accessFlags := 2, nameIndex := 7, descriptorIndex := 8, attributes := #[] }, { accessFlags := 9, nameIndex := 201, descriptorIndex := 335, attributes := #[] }] 49 4 #[] #[{ accessFlags := 25, nameIndex := 354, descriptorIndex := 339, attributes := #[] }, { accessFlags := 25, nameIndex := 358, descriptorIndex := 339, attributes := #[] }, { accessFlags := 25, nameIndex := 361, descriptorIndex := 339, attributes := #[] }, { accessFlags := 26, nameIndex := 364, descriptorIndex := 339, attributes := #[] }, { accessFlags := 26, nameIndex := 365, descriptorIndex := 339, attributes := #[] }, { accessFlags := 26, nameIndex := 172, descriptorIndex := 173, attributes := #[] }, { accessFlags := 26, nameIndex := 176, descriptorIndex := 173, attributes := #[] }, { accessFlags := 8, nameIndex := 344, descriptorIndex := 339, attributes := #[] }, { accessFlags := 8, nameIndex := 338, descriptorIndex := 339, attributes := #[] }, { accessFlags := 4120, nameIndex := 245, descriptorIndex := 246, attributes := #[] }])
  fields := #[{ name := "E", type := .double, accessFlags := 25, slot := 0, constantValue := 0 }, { name := "PI", type := .double, accessFlags := 25, slot := 1, constantValue := 0 }, { name := "TAU", type := .double, accessFlags := 25, slot := 2, constantValue := 0 }, { name := "DEGREES_TO_RADIANS", type := .double, accessFlags := 26, slot := 3, constantValue := 0 }, { name := "RADIANS_TO_DEGREES", type := .double, accessFlags := 26, slot := 4, constantValue := 0 }, { name := "negativeZeroFloatBits", type := .long, accessFlags := 26, slot := 5, constantValue := 0 }, { name := "negativeZeroDoubleBits", type := .long, accessFlags := 26, slot := 6, constantValue := 0 }, { name := "twoToTheDoubleScaleUp", type := .double, accessFlags := 8, slot := 7, constantValue := 0 }, { name := "twoToTheDoubleScaleDown", type := .double, accessFlags := 8, slot := 8, constantValue := 0 }, { name := "$assertionsDisabled", type := .boolean, accessFlags := 4120, slot := 9, constantValue := 0 }]
  methods := #[k3m0, k3m1]
  instanceTypes := #[]
  staticTypes := #[.double, .double, .double, .double, .double, .long, .long, .double, .double, .boolean]
  resolved := Array.replicate 460 none
  statics := none }

def pool4 : Array CpInfo := pool [(1, u "java/lang/Cloneable"), (0, .class_ 1), (0, u "java/lang/Object"), (0, .class_ 3)] 3

/-- java/lang/Cloneable -/
def k4 : Class := { plain "java/lang/Cloneable" (some 0) with
  accessFlags := 1537
  interfaces := #[]
  cf := some (fileOf pool4 2 #[] #[] 1537 4 #[] #[])
  fields := #[]
  methods := #[]
  instanceTypes := #[]
  staticTypes := #[]
  resolved := Array.replicate 8 none
  statics := none }

def pool5 : Array CpInfo := pool [(1, u "java/io/Serializable"), (0, .class_ 1), (0, u "java/lang/Object"), (0, .class_ 3)] 3

/-- java/io/Serializable -/
def k5 : Class := { plain "java/io/Serializable" (some 0) with
  accessFlags := 1537
  interfaces := #[]
  cf := some (fileOf pool5 2 #[] #[] 1537 4 #[] #[])
  fields := #[]
  methods := #[]
  instanceTypes := #[]
  staticTypes := #[]
  resolved := Array.replicate 8 none
  statics := none }

/-- the primitive byte -/
def k6 : Class := { plain "byte" none with kind := .primitive 'B', accessFlags := 0x411 }
/-- [B -/
def k7 : Class := { plain "[B" (some 0) with kind := .array 6 .byte, interfaces := #[4, 5], accessFlags := 1041 }

/-- the primitive int -/
def k8 : Class := { plain "int" none with kind := .primitive 'I', accessFlags := 0x411 }
/-- [I -/
def k9 : Class := { plain "[I" (some 0) with kind := .array 8 .int, interfaces := #[4, 5], accessFlags := 1041 }

/-- the primitive long -/
def k10 : Class := { plain "long" none with kind := .primitive 'J', accessFlags := 0x411 }
/-- [J -/
def k11 : Class := { plain "[J" (some 0) with kind := .array 10 .long, interfaces := #[4, 5], accessFlags := 1041 }

def heap : Heap := #[]
def classes : Array Class := #[k0, k1, k2, k3, k4, k5, k6, k7, k8, k9, k10, k11]
def interned : List (Array UInt16 × Addr) := []
def slotsUsed : Nat := 0
def theMethod : MethodId := ⟨1, 1⟩
def args0 : Array Value := #[.long 3, .long 5, .long 7, .long 9, .long 11, .int 5]
def aboutOver (below : List Frame) : State where
  vm := { classes := classes, interned := interned.toArray }
  heap := heap
  slotsUsed := slotsUsed
  threads := #[{ frames := .invoking theMethod args0 :: below }]
def below0 : List Frame := [.native { method := ⟨0, 0⟩, args := #[] }]
def about1 : State := aboutOver below0
def p0 : Program := .bare "" "" ""
def e0 : Env := launch0.env 0 0 0
theorem w_frames : about1.frames = Frame.invoking theMethod args0 :: below0 := rfl
set_option maxRecDepth 65536 in
theorem w_args : argsFit about1.vm theMethod args0 = true := by decide +kernel
set_option maxRecDepth 65536 in
theorem w_heap : heapFits about1 = true := by decide +kernel
set_option maxRecDepth 65536 in
theorem w_runnable : about1.curStatus? = some .runnable := by decide +kernel
set_option maxRecDepth 65536 in
theorem w_alone : about1.alone = true := by decide +kernel
set_option maxRecDepth 65536 in
theorem w_named : about1.methodNamed? x = some theMethod := by decide +kernel
set_option maxRecDepth 65536 in
theorem w_hears : about1.hears theMethod below0 = true := by decide +kernel
set_option maxRecDepth 65536 in
theorem w_ripe : about1.ripe theMethod args0 below0 = true := by decide +kernel
theorem w_running : about1.status = .running := rfl
set_option maxRecDepth 65536 in
theorem w_room : about1.hasRoom e0.platform room_1 = true :=
  launch0.hasRoom_least _ room_1 (by decide +kernel) (by decide +kernel) (by decide +kernel) (by decide +kernel) (by decide +kernel) (by decide +kernel)
theorem allAtoms_all (ts : List Jvm.Cond) (a : Array Jvm.Value) (st : Jvm.State) : (allAtoms ts).before a st = ts.all (fun c => c.before a st) := by
  induction ts with
  | nil => rfl
  | cons c t ih =>
    show (Jvm.Cond.and c (allAtoms t)).before a st = _
    rw [Jvm.Cond.before_and, ih, List.all_cons]
def words1 : List Jvm.Cond := Jvm.Cond.code x code maxLocals ret :: tables_1
/-- a 'code' word, met by the world's own term for the bytes: nothing is compared byte by byte -/
theorem code_word {y : MethodName} {bytes : ByteArray} {mx : Nat} {rt : Option FieldType} {a : Array Value} {s : State} {m : MethodId} {meth : Method} {c : Code} (h1 : s.methodNamed? y = some m) (h2 : s.vm.method? m = some meth) (h3 : meth.code = some c) (h4 : c.code = bytes)
    (h5 : (c.maxLocals == mx && c.exceptionTable.isEmpty && decide (c.maxStack ≤ mostOperands) && decide (meth.sig.returnType = rt) && !meth.locks && decide (parseMethodDescriptor y.desc = some meth.sig)) = true) : (Jvm.Cond.code y bytes mx rt).before a s = true := by
  simp only [Bool.and_eq_true, beq_iff_eq, Bool.not_eq_true', decide_eq_true_eq] at h5
  obtain ⟨⟨⟨⟨⟨g1, g2⟩, g3⟩, g4⟩, g5⟩, g6⟩ := h5
  simp [Cond.before, Cond.holds, Cond.value, h1, h2, h3, h4, g1, g2, g3, g4, g5, g6]
def isCode : Jvm.Cond → Bool
  | .code _ _ _ _ => true
  | _ => false
theorem all_split {L : List Jvm.Cond} {P : Jvm.Cond → Bool} (h1 : L.all (fun c => isCode c || P c) = true) (h2 : ∀ c ∈ L.filter isCode, P c = true) : L.all P = true := by
  refine List.all_eq_true.mpr fun c hc => ?_
  have h := List.all_eq_true.mp h1 c hc
  rcases Bool.eq_false_or_eq_true (isCode c) with hi | hi
  · exact h2 c (List.mem_filter.mpr ⟨hc, hi⟩)
  · simpa [hi] using h
set_option maxRecDepth 65536 in
theorem w_c0 : (Jvm.Cond.code x code maxLocals ret).before args0 about1 = true := code_word (m := ⟨1, 1⟩) (meth := k1m1) (c := k1c1) (by decide +kernel) rfl rfl rfl (by decide +kernel)
set_option maxRecDepth 65536 in
theorem w_c1 : (Jvm.Cond.code ({ cls := "com/example/orderly_ranges/orderlyranges/daemon/Arrivals", name := "<init>", desc := "()V" } : Jvm.MethodName) prog_1_method_1_code (1 : Nat) (Option.none : Option Jvm.ClassFile.FieldType)).before args0 about1 = true := code_word (m := ⟨2, 0⟩) (meth := k2m0) (c := k2c0) (by decide +kernel) rfl rfl rfl (by decide +kernel)
set_option maxRecDepth 65536 in
theorem w_c2 : (Jvm.Cond.code ({ cls := "java/lang/Object", name := "<init>", desc := "()V" } : Jvm.MethodName) object_method_1_code (1 : Nat) (Option.none : Option Jvm.ClassFile.FieldType)).before args0 about1 = true := code_word (m := ⟨0, 0⟩) (meth := k0m0) (c := k0c0) (by decide +kernel) rfl rfl rfl (by decide +kernel)
set_option maxRecDepth 65536 in
theorem w_c3 : (Jvm.Cond.code ({ cls := "com/example/orderly_ranges/orderlyranges/daemon/Arrivals", name := "pause", desc := "(J)V" } : Jvm.MethodName) prog_1_method_2_code (3 : Nat) (Option.none : Option Jvm.ClassFile.FieldType)).before args0 about1 = true := code_word (m := ⟨2, 1⟩) (meth := k2m1) (c := k2c1) (by decide +kernel) rfl rfl rfl (by decide +kernel)
set_option maxRecDepth 65536 in
theorem w_c4 : (Jvm.Cond.code ({ cls := "com/example/orderly_ranges/orderlyranges/daemon/Arrivals", name := "read", desc := "(IZJ)V" } : Jvm.MethodName) prog_1_method_3_code (7 : Nat) (Option.none : Option Jvm.ClassFile.FieldType)).before args0 about1 = true := code_word (m := ⟨2, 2⟩) (meth := k2m2) (c := k2c2) (by decide +kernel) rfl rfl rfl (by decide +kernel)
set_option maxRecDepth 65536 in
theorem w_c5 : (Jvm.Cond.code ({ cls := "com/example/orderly_ranges/orderlyranges/daemon/Arrivals", name := "slot", desc := "(I)I" } : Jvm.MethodName) prog_1_method_6_code (2 : Nat) (Option.some Jvm.ClassFile.FieldType.int)).before args0 about1 = true := code_word (m := ⟨2, 5⟩) (meth := k2m5) (c := k2c5) (by decide +kernel) rfl rfl rfl (by decide +kernel)
set_option maxRecDepth 65536 in
theorem w_c6 : (Jvm.Cond.code ({ cls := "com/example/orderly_ranges/orderlyranges/daemon/Arrivals", name := "first", desc := "()J" } : Jvm.MethodName) prog_1_method_5_code (1 : Nat) (Option.some Jvm.ClassFile.FieldType.long)).before args0 about1 = true := code_word (m := ⟨2, 4⟩) (meth := k2m4) (c := k2c4) (by decide +kernel) rfl rfl rfl (by decide +kernel)
set_option maxRecDepth 65536 in
theorem w_c7 : (Jvm.Cond.code ({ cls := "com/example/orderly_ranges/orderlyranges/daemon/Arrivals", name := "consume", desc := "(I)V" } : Jvm.MethodName) prog_1_method_4_code (4 : Nat) (Option.none : Option Jvm.ClassFile.FieldType)).before args0 about1 = true := code_word (m := ⟨2, 3⟩) (meth := k2m3) (c := k2c3) (by decide +kernel) rfl rfl rfl (by decide +kernel)
set_option maxRecDepth 65536 in
theorem w_c8 : (Jvm.Cond.code ({ cls := "java/lang/Math", name := "min", desc := "(II)I" } : Jvm.MethodName) jdk_29_method_69_code (2 : Nat) (Option.some Jvm.ClassFile.FieldType.int)).before args0 about1 = true := code_word (m := ⟨3, 1⟩) (meth := k3m1) (c := k3c1) (by decide +kernel) rfl rfl rfl (by decide +kernel)
def codes1 : List Jvm.Cond := [Jvm.Cond.code x code maxLocals ret, Jvm.Cond.code ({ cls := "com/example/orderly_ranges/orderlyranges/daemon/Arrivals", name := "<init>", desc := "()V" } : Jvm.MethodName) prog_1_method_1_code (1 : Nat) (Option.none : Option Jvm.ClassFile.FieldType), Jvm.Cond.code ({ cls := "java/lang/Object", name := "<init>", desc := "()V" } : Jvm.MethodName) object_method_1_code (1 : Nat) (Option.none : Option Jvm.ClassFile.FieldType), Jvm.Cond.code ({ cls := "com/example/orderly_ranges/orderlyranges/daemon/Arrivals", name := "pause", desc := "(J)V" } : Jvm.MethodName) prog_1_method_2_code (3 : Nat) (Option.none : Option Jvm.ClassFile.FieldType), Jvm.Cond.code ({ cls := "com/example/orderly_ranges/orderlyranges/daemon/Arrivals", name := "read", desc := "(IZJ)V" } : Jvm.MethodName) prog_1_method_3_code (7 : Nat) (Option.none : Option Jvm.ClassFile.FieldType), Jvm.Cond.code ({ cls := "com/example/orderly_ranges/orderlyranges/daemon/Arrivals", name := "slot", desc := "(I)I" } : Jvm.MethodName) prog_1_method_6_code (2 : Nat) (Option.some Jvm.ClassFile.FieldType.int), Jvm.Cond.code ({ cls := "com/example/orderly_ranges/orderlyranges/daemon/Arrivals", name := "first", desc := "()J" } : Jvm.MethodName) prog_1_method_5_code (1 : Nat) (Option.some Jvm.ClassFile.FieldType.long), Jvm.Cond.code ({ cls := "com/example/orderly_ranges/orderlyranges/daemon/Arrivals", name := "consume", desc := "(I)V" } : Jvm.MethodName) prog_1_method_4_code (4 : Nat) (Option.none : Option Jvm.ClassFile.FieldType), Jvm.Cond.code ({ cls := "java/lang/Math", name := "min", desc := "(II)I" } : Jvm.MethodName) jdk_29_method_69_code (2 : Nat) (Option.some Jvm.ClassFile.FieldType.int)]
set_option maxRecDepth 65536 in
theorem codes_eq : words1.filter isCode = codes1 := rfl
theorem w_codes : ∀ c ∈ words1.filter isCode, c.before args0 about1 = true := by
  rw [codes_eq]
  intro c hc
  simp only [codes1, List.mem_cons, List.not_mem_nil, or_false] at hc
  rcases hc with rfl | rfl | rfl | rfl | rfl | rfl | rfl | rfl | rfl
  · exact w_c0
  · exact w_c1
  · exact w_c2
  · exact w_c3
  · exact w_c4
  · exact w_c5
  · exact w_c6
  · exact w_c7
  · exact w_c8
set_option maxRecDepth 65536 in
theorem w_t1 : (words1.take 24).all (fun c => isCode c || c.before args0 about1) = true := by decide +kernel
set_option maxRecDepth 65536 in
theorem w_t2 : ((words1.drop 24).take 24).all (fun c => isCode c || c.before args0 about1) = true := by decide +kernel
set_option maxRecDepth 65536 in
theorem w_t3 : ((words1.drop 24).drop 24).all (fun c => isCode c || c.before args0 about1) = true := by decide +kernel
theorem w_tables : (allAtoms (Jvm.Cond.code x code maxLocals ret :: tables_1)).before args0 about1 = true := by
  rw [allAtoms_all]
  show words1.all (fun c => c.before args0 about1) = true
  refine all_split ?_ w_codes
  rw [← List.take_append_drop 24 words1, List.all_append, w_t1, ← List.take_append_drop 24 (words1.drop 24), List.all_append, w_t2, w_t3]
  rfl
set_option maxRecDepth 65536 in
theorem w_case : (Jvm.Cond.and given_1 narrow_1).before args0 about1 = true := by decide +kernel
theorem w_applies : (headSpec (Jvm.Cond.code x code maxLocals ret :: tables_1) room_1).applies x e0.platform about1 = true :=
  (Spec.applies_iff w_frames).mpr ⟨w_running, w_runnable, w_alone, w_named, w_hears, w_ripe, w_room, w_tables⟩
theorem atStart : AtStart classFile x code maxLocals ret World_1 tables_1 room_1 Calls_1 rest_1 Pre_1 launch0 p0 e0 about1 theMethod args0 below0 :=
  ⟨lists_1, trivial, launch0.admits_env _ _ _, launch0.least_env, fairChoices_fair.cas, fairChoices_fair.clock, w_frames, w_args, w_heap, w_applies, trivial, trivial, w_case⟩
end start1
theorem witness_1 : WitnessClaimed_1 := ⟨start1.p0, start1.e0, start1.about1, start1.theMethod, start1.args0, start1.below0, start1.atStart⟩
end Jvm.Pilot.@@N@@
