import JvmDerived
import JvmDerived.Pilot.@@N@@Statement
import JvmDerived.Pilot.@@N@@Code
set_option linter.unusedVariables false
set_option linter.unusedSimpArgs false
namespace Jvm.OwnKit
open Sem ClassFile Op Lib Jvm.Stand Jvm.Free Jvm.LawKit Jvm.RoadKit
/-! The walk told forwards: 'Go .. pc Ls st h cells slots' says that the run of a body has come to pc with these locals, this stack and this heap. One theorem an instruction carries it on. -/
abbrev W : Type := Program × Env × State × MethodId × Array Value × List Frame × Method × Code × State
abbrev W.p (w : W) : Program := w.1
abbrev W.e (w : W) : Env := w.2.1
abbrev W.s (w : W) : State := w.2.2.1
abbrev W.m (w : W) : MethodId := w.2.2.2.1
abbrev W.args (w : W) : Array Value := w.2.2.2.2.1
abbrev W.below (w : W) : List Frame := w.2.2.2.2.2.1
abbrev W.meth (w : W) : Method := w.2.2.2.2.2.2.1
abbrev W.c (w : W) : Code := w.2.2.2.2.2.2.2.1
abbrev W.S0 (w : W) : State := w.2.2.2.2.2.2.2.2
def Sure (w : W) (Z : State) (y : MethodName) (code : ByteArray) (ml : Nat) (ret : Option FieldType) : Prop :=
  w.p.tables.exec = Jvm.exec ∧ Z.Warmed39 w.s.vm ∧ w.s.vm.findClass y.cls = some w.m.cls ∧ w.c.code = code ∧ w.c.maxLocals = ml ∧ w.meth.sig.returnType = ret ∧ w.meth.locks = false ∧ w.meth.name = y.name
def Go (w : W) (l : Launch) (R : Room) (Z : State) (n0 : Nat) (y : MethodName) (code : ByteArray) (ml : Nat) (ret : Option FieldType) (pc : Nat) (Ls : List Slot) (st : List Value) (h : Heap) (cells slots : Nat) : Prop :=
  Sure w Z y code ml ret ∧ ∃ T locs, Stand w.p l w.e R w.s w.m w.args w.below w.meth w.c T locs cells slots ∧ T.heap = h ∧ Fr n0 locs ∧
    ∀ t, Steps w.p.tables w.e w.below (T.setTop (mkF w.m pc Ls.toArray st)) t → Steps w.p.tables w.e w.below w.S0 t
def Fini (w : W) (n0 : Nat) (Q : Option Value → Heap → Prop) (C S : Nat) : Prop :=
  ∃ s₂ o, Steps w.p.tables w.e w.below w.S0 s₂ ∧ s₂.status = .running ∧ Ended s₂ w.below o ∧ ∃ v L, o = .returned v ∧ (Q v s₂.heap ∧ Fr n0 L) ∧ FrameEnd w.s o s₂ L C S
def Met (l : Launch) (Z : State) (y : MethodName) (code : ByteArray) (ml : Nat) (ret : Option FieldType) (rm : Room) (as : List Value) (h0 : Heap) (n0 : Nat) (Q : Option Value → Heap → Prop) : Prop :=
  ∀ ws, MetFree l y (head1 (Cond.code y code ml ret :: ws) rm) (fun a U => a = as.toArray ∧ Z.Warmed39 U.vm ∧ U.heap = h0) (fun _ _ _ _ _ => True) (fun _ U o U' => ∃ v L, o = .returned v ∧ (Q v U'.heap ∧ Fr n0 L) ∧ FrameEnd U o U' L rm.cells rm.slots)
def Ret (Q : Value → Heap → Prop) : Option Value → Heap → Prop := fun v h => ∃ u, v = some u ∧ Q u h
def Ret0 (Q : Heap → Prop) : Option Value → Heap → Prop := fun v h => v = none ∧ Q h
section Walk
variable {w : W} {l : Launch} {R : Room} {Z : State} {n0 : Nat} {y : MethodName} {code : ByteArray} {ml : Nat} {ret : Option FieldType} {pc : Nat} {Ls : List Slot} {st : List Value} {h : Heap} {cells slots : Nat}
theorem Met.intro {rm : Room} {as : List Value} {Q : Option Value → Heap → Prop} (hp : plainFor y = true) (hf : ∀ m, entryFrame m as.toArray ml = mkF m 0 Ls.toArray [])
    (body : ∀ w : W, Go w l rm Z n0 y code ml ret 0 Ls [] h 0 0 → Fini w n0 Q rm.cells rm.slots) : Met l Z y code ml ret rm as h n0 Q := by
  intro ws
  refine MetFree.of_bodySF hp hisR ?_
  intro p e s m args below meth c s₁ Bd hml0 hP hK
  obtain ⟨rfl, hZ, hh⟩ := hP
  have hown : s.vm.findClass y.cls = some m.cls := findClass_of_methodNamed Bd.named
  have hnm := (name_of_methodNamed Bd.named Bd.method).1
  have X0 : Stand p l e rm s m as.toArray below meth c s₁ [] 0 0 := Stand.of_body Bd
  have e0 : s₁.heap = h := by rw [← hh, Bd.state]; rfl
  exact body (p, e, s, m, as.toArray, below, meth, c, s₁.setTop (entryFrame m as.toArray ml)) ⟨⟨Bd.exec, hZ, hown, Bd.bytes, hml0, Bd.returns, BodyLoose.notSynchronized Bd, hnm⟩, s₁, [], X0, e0, Fr.nil n0, fun t k => castTop (hf m) k⟩
theorem Go.more (r : Go w l R Z n0 y code ml ret pc Ls st h cells slots) {cells' slots' : Nat} (h1 : cells ≤ cells') (h2 : slots ≤ slots') : Go w l R Z n0 y code ml ret pc Ls st h cells' slots' := by
  obtain ⟨S, T, locs, X, e, N, k⟩ := r
  exact ⟨S, T, locs, X.more h1 h2, e, N, k⟩
/-- one step that leaves the heap -/
theorem Go.step (r : Go w l R Z n0 y code ml ret pc Ls st h cells slots) {pc' : Nat} {Ls' : List Slot} {st' : List Value}
    (f : ∀ T t, At T w.m w.c w.below → w.p.tables.exec = Jvm.exec → w.c.code = code → Steps w.p.tables w.e w.below (T.setTop (mkF w.m pc' Ls'.toArray st')) t → Steps w.p.tables w.e w.below (T.setTop (mkF w.m pc Ls.toArray st)) t) :
    Go w l R Z n0 y code ml ret pc' Ls' st' h cells slots := by
  obtain ⟨S, T, locs, X, e, N, k⟩ := r
  exact ⟨S, T, locs, X, e, N, fun t q => k t (f T t X.here S.1 S.2.2.2.1 q)⟩
def oneB : Slot → Bool
  | .unset => true
  | .val v => v.category == 1
  | .second => false
theorem One.of {o : Slot} (h : oneB o = true) : One o := by
  cases o with
  | unset => exact One.u
  | val v => exact One.val (by simpa [oneB] using h)
  | second => cases h
theorem Go.iconst {i : Int} (r : Go w l R Z n0 y code ml ret pc Ls st h cells slots) (pc' : Nat) (hd : decode code pc = .ok (.iconst i, 1)) (hp : pc + 1 = pc') : Go w l R Z n0 y code ml ret pc' Ls (.int (Int32.ofInt i) :: st) h cells slots := by
  subst hp; exact r.step fun T t a x b k => XS.iconst a x rfl (hb b hd) k
theorem Go.bipush {i : Int} (r : Go w l R Z n0 y code ml ret pc Ls st h cells slots) (pc' : Nat) (hd : decode code pc = .ok (.bipush i, 2)) (hp : pc + 2 = pc') : Go w l R Z n0 y code ml ret pc' Ls (.int (Int8.ofInt i).toInt32 :: st) h cells slots := by
  subst hp; exact r.step fun T t a x b k => XS.bipush a x rfl (hb b hd) k
theorem Go.sipush {i : Int} (r : Go w l R Z n0 y code ml ret pc Ls st h cells slots) (pc' : Nat) (hd : decode code pc = .ok (.sipush i, 3)) (hp : pc + 3 = pc') : Go w l R Z n0 y code ml ret pc' Ls (.int (Int16.ofInt i).toInt32 :: st) h cells slots := by
  subst hp; exact r.step fun T t a x b k => XS.sipush a x rfl (hb b hd) k
theorem Go.iconstV {i : Int} (r : Go w l R Z n0 y code ml ret pc Ls st h cells slots) (pc' : Nat) (hd : decode code pc = .ok (.iconst i, 1)) (hp : pc + 1 = pc') (v : Int32) (hv : Int32.ofInt i = v) : Go w l R Z n0 y code ml ret pc' Ls (.int v :: st) h cells slots := by
  subst hp; exact r.step fun T t a x b k => XS.iconst a x rfl (hb b hd) (by rw [hv]; exact k)
theorem Go.bipushV {i : Int} (r : Go w l R Z n0 y code ml ret pc Ls st h cells slots) (pc' : Nat) (hd : decode code pc = .ok (.bipush i, 2)) (hp : pc + 2 = pc') (v : Int32) (hv : (Int8.ofInt i).toInt32 = v) : Go w l R Z n0 y code ml ret pc' Ls (.int v :: st) h cells slots := by
  subst hp; exact r.step fun T t a x b k => XS.bipush a x rfl (hb b hd) (by rw [hv]; exact k)
theorem Go.sipushV {i : Int} (r : Go w l R Z n0 y code ml ret pc Ls st h cells slots) (pc' : Nat) (hd : decode code pc = .ok (.sipush i, 3)) (hp : pc + 3 = pc') (v : Int32) (hv : (Int16.ofInt i).toInt32 = v) : Go w l R Z n0 y code ml ret pc' Ls (.int v :: st) h cells slots := by
  subst hp; exact r.step fun T t a x b k => XS.sipush a x rfl (hb b hd) (by rw [hv]; exact k)
theorem Go.lconstV {i : Fin 2} (r : Go w l R Z n0 y code ml ret pc Ls st h cells slots) (pc' : Nat) (hd : decode code pc = .ok (.lconst i, 1)) (hp : pc + 1 = pc') (v : Int64) (hv : Int64.ofNat i = v) : Go w l R Z n0 y code ml ret pc' Ls (.long v :: st) h cells slots := by
  subst hp; exact r.step fun T t a x b k => XS.lconst a x rfl (hb b hd) (by rw [hv]; exact k)
theorem Go.iadd {u v : Int32} (r : Go w l R Z n0 y code ml ret pc Ls (.int v :: .int u :: st) h cells slots) (pc' : Nat) (hd : decode code pc = .ok (.iadd, 1)) (hp : pc + 1 = pc') : Go w l R Z n0 y code ml ret pc' Ls (.int (u + v) :: st) h cells slots := by
  subst hp; exact r.step fun T t a x b k => XS.iadd a x rfl (hb b hd) rfl k
theorem Go.isub {u v : Int32} (r : Go w l R Z n0 y code ml ret pc Ls (.int v :: .int u :: st) h cells slots) (pc' : Nat) (hd : decode code pc = .ok (.isub, 1)) (hp : pc + 1 = pc') : Go w l R Z n0 y code ml ret pc' Ls (.int (u - v) :: st) h cells slots := by
  subst hp; exact r.step fun T t a x b k => XS.isub a x rfl (hb b hd) rfl k
theorem Go.imul {u v : Int32} (r : Go w l R Z n0 y code ml ret pc Ls (.int v :: .int u :: st) h cells slots) (pc' : Nat) (hd : decode code pc = .ok (.imul, 1)) (hp : pc + 1 = pc') : Go w l R Z n0 y code ml ret pc' Ls (.int (u * v) :: st) h cells slots := by
  subst hp; exact r.step fun T t a x b k => XS.imul a x rfl (hb b hd) rfl k
theorem Go.iand {u v : Int32} (r : Go w l R Z n0 y code ml ret pc Ls (.int v :: .int u :: st) h cells slots) (pc' : Nat) (hd : decode code pc = .ok (.iand, 1)) (hp : pc + 1 = pc') : Go w l R Z n0 y code ml ret pc' Ls (.int (u &&& v) :: st) h cells slots := by
  subst hp; exact r.step fun T t a x b k => XS.iand a x rfl (hb b hd) rfl k
theorem Go.ior {u v : Int32} (r : Go w l R Z n0 y code ml ret pc Ls (.int v :: .int u :: st) h cells slots) (pc' : Nat) (hd : decode code pc = .ok (.ior, 1)) (hp : pc + 1 = pc') : Go w l R Z n0 y code ml ret pc' Ls (.int (u ||| v) :: st) h cells slots := by
  subst hp; exact r.step fun T t a x b k => XS.ior a x rfl (hb b hd) rfl k
theorem Go.ixor {u v : Int32} (r : Go w l R Z n0 y code ml ret pc Ls (.int v :: .int u :: st) h cells slots) (pc' : Nat) (hd : decode code pc = .ok (.ixor, 1)) (hp : pc + 1 = pc') : Go w l R Z n0 y code ml ret pc' Ls (.int (u ^^^ v) :: st) h cells slots := by
  subst hp; exact r.step fun T t a x b k => XS.ixor a x rfl (hb b hd) rfl k
theorem Go.ladd {u v : Int64} (r : Go w l R Z n0 y code ml ret pc Ls (.long v :: .long u :: st) h cells slots) (pc' : Nat) (hd : decode code pc = .ok (.ladd, 1)) (hp : pc + 1 = pc') : Go w l R Z n0 y code ml ret pc' Ls (.long (u + v) :: st) h cells slots := by
  subst hp; exact r.step fun T t a x b k => XS.ladd a x rfl (hb b hd) rfl k
theorem Go.lsub {u v : Int64} (r : Go w l R Z n0 y code ml ret pc Ls (.long v :: .long u :: st) h cells slots) (pc' : Nat) (hd : decode code pc = .ok (.lsub, 1)) (hp : pc + 1 = pc') : Go w l R Z n0 y code ml ret pc' Ls (.long (u - v) :: st) h cells slots := by
  subst hp; exact r.step fun T t a x b k => XS.lsub a x rfl (hb b hd) rfl k
theorem Go.lmul {u v : Int64} (r : Go w l R Z n0 y code ml ret pc Ls (.long v :: .long u :: st) h cells slots) (pc' : Nat) (hd : decode code pc = .ok (.lmul, 1)) (hp : pc + 1 = pc') : Go w l R Z n0 y code ml ret pc' Ls (.long (u * v) :: st) h cells slots := by
  subst hp; exact r.step fun T t a x b k => XS.lmul a x rfl (hb b hd) rfl k
theorem Go.land {u v : Int64} (r : Go w l R Z n0 y code ml ret pc Ls (.long v :: .long u :: st) h cells slots) (pc' : Nat) (hd : decode code pc = .ok (.land, 1)) (hp : pc + 1 = pc') : Go w l R Z n0 y code ml ret pc' Ls (.long (u &&& v) :: st) h cells slots := by
  subst hp; exact r.step fun T t a x b k => XS.land a x rfl (hb b hd) rfl k
theorem Go.lor {u v : Int64} (r : Go w l R Z n0 y code ml ret pc Ls (.long v :: .long u :: st) h cells slots) (pc' : Nat) (hd : decode code pc = .ok (.lor, 1)) (hp : pc + 1 = pc') : Go w l R Z n0 y code ml ret pc' Ls (.long (u ||| v) :: st) h cells slots := by
  subst hp; exact r.step fun T t a x b k => XS.lor a x rfl (hb b hd) rfl k
theorem Go.lxor {u v : Int64} (r : Go w l R Z n0 y code ml ret pc Ls (.long v :: .long u :: st) h cells slots) (pc' : Nat) (hd : decode code pc = .ok (.lxor, 1)) (hp : pc + 1 = pc') : Go w l R Z n0 y code ml ret pc' Ls (.long (u ^^^ v) :: st) h cells slots := by
  subst hp; exact r.step fun T t a x b k => XS.lxor a x rfl (hb b hd) rfl k
theorem Go.idiv {u v : Int32} (r : Go w l R Z n0 y code ml ret pc Ls (.int v :: .int u :: st) h cells slots) (pc' : Nat) (hd : decode code pc = .ok (.idiv, 1)) (hp : pc + 1 = pc') (hv : v ≠ 0) : Go w l R Z n0 y code ml ret pc' Ls (.int (u / v) :: st) h cells slots := by
  subst hp; exact r.step fun T t a x b k => XS.idiv a x rfl (hb b hd) rfl hv k
theorem Go.irem {u v : Int32} (r : Go w l R Z n0 y code ml ret pc Ls (.int v :: .int u :: st) h cells slots) (pc' : Nat) (hd : decode code pc = .ok (.irem, 1)) (hp : pc + 1 = pc') (hv : v ≠ 0) : Go w l R Z n0 y code ml ret pc' Ls (.int (u % v) :: st) h cells slots := by
  subst hp; exact r.step fun T t a x b k => XS.irem a x rfl (hb b hd) rfl hv (by rw [irem_eq_mod]; exact k)
theorem Go.ishl {u v : Int32} (r : Go w l R Z n0 y code ml ret pc Ls (.int v :: .int u :: st) h cells slots) (pc' : Nat) (hd : decode code pc = .ok (.ishl, 1)) (hp : pc + 1 = pc') : Go w l R Z n0 y code ml ret pc' Ls (.int (u <<< (v &&& 31)) :: st) h cells slots := by
  subst hp; exact r.step fun T t a x b k => XS.ishl a x rfl (hb b hd) rfl k
theorem Go.ishr {u v : Int32} (r : Go w l R Z n0 y code ml ret pc Ls (.int v :: .int u :: st) h cells slots) (pc' : Nat) (hd : decode code pc = .ok (.ishr, 1)) (hp : pc + 1 = pc') : Go w l R Z n0 y code ml ret pc' Ls (.int (u >>> (v &&& 31)) :: st) h cells slots := by
  subst hp; exact r.step fun T t a x b k => XS.ishr a x rfl (hb b hd) rfl k
theorem Go.iushr {u v : Int32} (r : Go w l R Z n0 y code ml ret pc Ls (.int v :: .int u :: st) h cells slots) (pc' : Nat) (hd : decode code pc = .ok (.iushr, 1)) (hp : pc + 1 = pc') : Go w l R Z n0 y code ml ret pc' Ls (.int ((u.toUInt32 >>> (v &&& 31).toUInt32).toInt32) :: st) h cells slots := by
  subst hp; exact r.step fun T t a x b k => XS.iushr a x rfl (hb b hd) rfl k
theorem Go.lshl {u : Int64} {v : Int32} (r : Go w l R Z n0 y code ml ret pc Ls (.int v :: .long u :: st) h cells slots) (pc' : Nat) (hd : decode code pc = .ok (.lshl, 1)) (hp : pc + 1 = pc') : Go w l R Z n0 y code ml ret pc' Ls (.long (u <<< (v &&& 0x3f).toInt64) :: st) h cells slots := by
  subst hp; exact r.step fun T t a x b k => XS.lshl a x rfl (hb b hd) rfl k
theorem Go.lshr {u : Int64} {v : Int32} (r : Go w l R Z n0 y code ml ret pc Ls (.int v :: .long u :: st) h cells slots) (pc' : Nat) (hd : decode code pc = .ok (.lshr, 1)) (hp : pc + 1 = pc') : Go w l R Z n0 y code ml ret pc' Ls (.long (u >>> (v &&& 0x3f).toInt64) :: st) h cells slots := by
  subst hp; exact r.step fun T t a x b k => XS.lshr a x rfl (hb b hd) rfl k
theorem Go.lushr {u : Int64} {v : Int32} (r : Go w l R Z n0 y code ml ret pc Ls (.int v :: .long u :: st) h cells slots) (pc' : Nat) (hd : decode code pc = .ok (.lushr, 1)) (hp : pc + 1 = pc') : Go w l R Z n0 y code ml ret pc' Ls (.long ((u.toUInt64 >>> (v &&& 0x3f).toInt64.toUInt64).toInt64) :: st) h cells slots := by
  subst hp; exact r.step fun T t a x b k => XS.lushr a x rfl (hb b hd) rfl k
theorem Go.lcmp {u v : Int64} (r : Go w l R Z n0 y code ml ret pc Ls (.long v :: .long u :: st) h cells slots) (pc' : Nat) (hd : decode code pc = .ok (.lcmp, 1)) (hp : pc + 1 = pc') : Go w l R Z n0 y code ml ret pc' Ls (.int (lcmpW u v) :: st) h cells slots := by
  subst hp; exact r.step fun T t a x b k => XS.lcmp a x rfl (hb b hd) rfl k
theorem Go.i2l {u : Int32} (r : Go w l R Z n0 y code ml ret pc Ls (.int u :: st) h cells slots) (pc' : Nat) (hd : decode code pc = .ok (.i2l, 1)) (hp : pc + 1 = pc') : Go w l R Z n0 y code ml ret pc' Ls (.long u.toInt64 :: st) h cells slots := by
  subst hp; exact r.step fun T t a x b k => XS.i2l a x rfl (hb b hd) rfl k
theorem Go.l2i {u : Int64} (r : Go w l R Z n0 y code ml ret pc Ls (.long u :: st) h cells slots) (pc' : Nat) (hd : decode code pc = .ok (.l2i, 1)) (hp : pc + 1 = pc') : Go w l R Z n0 y code ml ret pc' Ls (.int u.toInt32 :: st) h cells slots := by
  subst hp; exact r.step fun T t a x b k => XS.l2i a x rfl (hb b hd) rfl k
theorem Go.i2b {u : Int32} (r : Go w l R Z n0 y code ml ret pc Ls (.int u :: st) h cells slots) (pc' : Nat) (hd : decode code pc = .ok (.i2b, 1)) (hp : pc + 1 = pc') : Go w l R Z n0 y code ml ret pc' Ls (.int u.toInt8.toInt32 :: st) h cells slots := by
  subst hp; exact r.step fun T t a x b k => XS.i2b a x rfl (hb b hd) rfl k
theorem Go.dup {v : Value} (r : Go w l R Z n0 y code ml ret pc Ls (v :: st) h cells slots) (pc' : Nat) (hd : decode code pc = .ok (.dup, 1)) (hp : pc + 1 = pc') (hv : v.category = 1) : Go w l R Z n0 y code ml ret pc' Ls (v :: v :: st) h cells slots := by
  subst hp; exact r.step fun T t a x b k => XS.dup a x rfl (hb b hd) rfl hv k
theorem Go.pop {v : Value} (r : Go w l R Z n0 y code ml ret pc Ls (v :: st) h cells slots) (pc' : Nat) (hd : decode code pc = .ok (.pop, 1)) (hp : pc + 1 = pc') (hv : v.category = 1) : Go w l R Z n0 y code ml ret pc' Ls st h cells slots := by
  subst hp; exact r.step fun T t a x b k => XS.pop a x rfl (hb b hd) rfl hv k
theorem Go.dupX1 {u v : Value} (r : Go w l R Z n0 y code ml ret pc Ls (v :: u :: st) h cells slots) (pc' : Nat) (hd : decode code pc = .ok (.dup_x1, 1)) (hp : pc + 1 = pc') (hv : v.category = 1) (hu : u.category = 1) : Go w l R Z n0 y code ml ret pc' Ls (v :: u :: v :: st) h cells slots := by
  subst hp; exact r.step fun T t a x b k => XS.dupX1 a x rfl (hb b hd) rfl hv hu k
theorem Go.dup2 {u v : Value} (r : Go w l R Z n0 y code ml ret pc Ls (v :: u :: st) h cells slots) (pc' : Nat) (hd : decode code pc = .ok (.dup2, 1)) (hp : pc + 1 = pc') (hv : v.category = 1) (hu : u.category = 1) : Go w l R Z n0 y code ml ret pc' Ls (v :: u :: v :: u :: st) h cells slots := by
  subst hp; exact r.step fun T t a x b k => XT.dup2 a x rfl (hb b hd) rfl hv hu k
theorem Go.iloadG {v : Int32} {k : Nat} (r : Go w l R Z n0 y code ml ret pc Ls st h cells slots) (pc' : Nat) (hd : decode code pc = .ok (.iload k, 2)) (hp : pc + 2 = pc') (hl : Ls[k]? = some (.val (.int v))) : Go w l R Z n0 y code ml ret pc' Ls ((.int v) :: st) h cells slots := by
  subst hp; exact r.step fun T t a x b k => XS.iload a x rfl (hb b hd) (show Ls.toArray[_]? = _ by rw [List.getElem?_toArray]; exact hl) k
theorem Go.iloadNG {v : Int32} {k : Fin 4} (r : Go w l R Z n0 y code ml ret pc Ls st h cells slots) (pc' : Nat) (hd : decode code pc = .ok (.iload_n k, 1)) (hp : pc + 1 = pc') (hl : Ls[k.val]? = some (.val (.int v))) : Go w l R Z n0 y code ml ret pc' Ls ((.int v) :: st) h cells slots := by
  subst hp; exact r.step fun T t a x b k => XS.iloadN a x rfl (hb b hd) (show Ls.toArray[_]? = _ by rw [List.getElem?_toArray]; exact hl) k
theorem Go.lloadG {v : Int64} {k : Nat} (r : Go w l R Z n0 y code ml ret pc Ls st h cells slots) (pc' : Nat) (hd : decode code pc = .ok (.lload k, 2)) (hp : pc + 2 = pc') (hl : Ls[k]? = some (.val (.long v))) : Go w l R Z n0 y code ml ret pc' Ls ((.long v) :: st) h cells slots := by
  subst hp; exact r.step fun T t a x b k => XS.lload a x rfl (hb b hd) (show Ls.toArray[_]? = _ by rw [List.getElem?_toArray]; exact hl) k
theorem Go.lloadNG {v : Int64} {k : Fin 4} (r : Go w l R Z n0 y code ml ret pc Ls st h cells slots) (pc' : Nat) (hd : decode code pc = .ok (.lload_n k, 1)) (hp : pc + 1 = pc') (hl : Ls[k.val]? = some (.val (.long v))) : Go w l R Z n0 y code ml ret pc' Ls ((.long v) :: st) h cells slots := by
  subst hp; exact r.step fun T t a x b k => XS.lloadN a x rfl (hb b hd) (show Ls.toArray[_]? = _ by rw [List.getElem?_toArray]; exact hl) k
theorem Go.aloadG {v : Value} {k : Nat} (r : Go w l R Z n0 y code ml ret pc Ls st h cells slots) (pc' : Nat) (hd : decode code pc = .ok (.aload k, 2)) (hp : pc + 2 = pc') (hl : Ls[k]? = some (.val v)) (hv : v.isRef = true) : Go w l R Z n0 y code ml ret pc' Ls (v :: st) h cells slots := by
  subst hp; exact r.step fun T t a x b k => XS.aload a x rfl (hb b hd) (show Ls.toArray[_]? = _ by rw [List.getElem?_toArray]; exact hl) hv k
theorem Go.aloadNG {v : Value} {k : Fin 4} (r : Go w l R Z n0 y code ml ret pc Ls st h cells slots) (pc' : Nat) (hd : decode code pc = .ok (.aload_n k, 1)) (hp : pc + 1 = pc') (hl : Ls[k.val]? = some (.val v)) (hv : v.isRef = true) : Go w l R Z n0 y code ml ret pc' Ls (v :: st) h cells slots := by
  subst hp; exact r.step fun T t a x b k => XS.aloadN a x rfl (hb b hd) (show Ls.toArray[_]? = _ by rw [List.getElem?_toArray]; exact hl) hv k
theorem storeL {Ls Ls' : List Slot} {i : Nat} {v : Value} {o : Slot} (ho : Ls[i]? = some o) (h1 : One o) (hv : v.category = 1) (he : Ls.set i (.val v) = Ls') : storeLocals Ls.toArray i v = some Ls'.toArray := by
  subst he
  rw [XS.store1 (o := o) (by rw [List.getElem?_toArray]; exact ho) h1 hv]
  simp
/-- a long over two slots -/
def Two (o p : Slot) : Prop := (o = .unset ∧ p = .unset) ∨ (∃ v, o = .val (.long v) ∧ p = .second) ∨ (o = .unset ∧ ∃ v : Value, p = .val v ∧ v.category = 1) ∨ (∃ v : Value, o = .val v ∧ v.category = 1 ∧ (p = .unset ∨ ∃ u : Value, p = .val u ∧ u.category = 1))
def twoB : Slot → Slot → Bool
  | .unset, .unset => true
  | .unset, .val v => v.category == 1
  | .val (.long _), .second => true
  | .val v, .unset => v.category == 1
  | .val v, .val u => v.category == 1 && u.category == 1
  | _, _ => false
theorem Two.of {o p : Slot} (h : twoB o p = true) : Two o p := by
  cases o with
  | unset => cases p with
    | unset => exact Or.inl ⟨rfl, rfl⟩
    | val v => exact Or.inr (Or.inr (Or.inl ⟨rfl, v, rfl, by simpa [twoB] using h⟩))
    | second => cases h
  | second => cases h
  | val v => cases p with
    | unset => exact Or.inr (Or.inr (Or.inr ⟨v, rfl, by cases v <;> simpa [twoB] using h, Or.inl rfl⟩))
    | val u => exact Or.inr (Or.inr (Or.inr ⟨v, rfl, by cases v <;> simp_all [twoB], Or.inr ⟨u, rfl, by cases v <;> simp_all [twoB]⟩⟩))
    | second => cases v with
      | long z => exact Or.inr (Or.inl ⟨z, rfl, rfl⟩)
      | _ => simp [twoB] at h
theorem storeL2 {Ls Ls' : List Slot} {i : Nat} {v : Int64} {o q : Slot} (ho : Ls[i]? = some o) (hq : Ls[i + 1]? = some q) (h2 : Two o q) (he : (Ls.set i (.val (.long v))).set (i + 1) .second = Ls') : storeLocals Ls.toArray i (.long v) = some Ls'.toArray := by
  subst he
  obtain ⟨h3, h4⟩ := List.getElem?_eq_some_iff.mp ho
  obtain ⟨h5, h6⟩ := List.getElem?_eq_some_iff.mp hq
  have a1 : ∀ p q : Slot, ((Ls.set i p)[i + 1]? = some q) ↔ q = Ls[i + 1] := fun p q => by rw [List.getElem?_set_ne (by omega), hq, h6]; constructor <;> (intro z; simp_all)
  rcases h2 with ⟨rfl, rfl⟩ | ⟨u, rfl, rfl⟩ | ⟨rfl, u, rfl, hu⟩ | ⟨u, rfl, hu, rfl | ⟨u', rfl, hu'⟩⟩ <;>
    simp [storeLocals, storeSelf, Jvm.setAt, Value.category, ho, hq, h3, h5, List.getElem?_set_ne, List.set_comm, *] <;> (try simp_all [Value.category])
theorem Go.istoreG {u : Int32} {k : Nat} {o : Slot} {Ls' : List Slot} (r : Go w l R Z n0 y code ml ret pc Ls ((.int u) :: st) h cells slots) (pc' : Nat) (hd : decode code pc = .ok (.istore k, 2)) (hp : pc + 2 = pc') (ho : Ls[k]? = some o) (h1 : One o) (he : Ls.set k (.val (.int u)) = Ls') : Go w l R Z n0 y code ml ret pc' Ls' st h cells slots := by
  subst hp; exact r.step fun T t a x b k => XS.istore a x rfl (hb b hd) rfl (storeL ho h1 rfl he) k
theorem Go.istoreNG {u : Int32} {k : Fin 4} {o : Slot} {Ls' : List Slot} (r : Go w l R Z n0 y code ml ret pc Ls ((.int u) :: st) h cells slots) (pc' : Nat) (hd : decode code pc = .ok (.istore_n k, 1)) (hp : pc + 1 = pc') (ho : Ls[k.val]? = some o) (h1 : One o) (he : Ls.set k.val (.val (.int u)) = Ls') : Go w l R Z n0 y code ml ret pc' Ls' st h cells slots := by
  subst hp; exact r.step fun T t a x b k => XS.istoreN a x rfl (hb b hd) rfl (storeL ho h1 rfl he) k
theorem Go.astoreG {u : Value} {k : Nat} {o : Slot} {Ls' : List Slot} (r : Go w l R Z n0 y code ml ret pc Ls (u :: st) h cells slots) (pc' : Nat) (hd : decode code pc = .ok (.astore k, 2)) (hp : pc + 2 = pc') (hv : u.isRef = true) (hc : u.category = 1) (ho : Ls[k]? = some o) (h1 : One o) (he : Ls.set k (.val u) = Ls') : Go w l R Z n0 y code ml ret pc' Ls' st h cells slots := by
  subst hp; exact r.step fun T t a x b k => XS.astore a x rfl (hb b hd) rfl hv (storeL ho h1 hc he) k
theorem Go.astoreNG {u : Value} {k : Fin 4} {o : Slot} {Ls' : List Slot} (r : Go w l R Z n0 y code ml ret pc Ls (u :: st) h cells slots) (pc' : Nat) (hd : decode code pc = .ok (.astore_n k, 1)) (hp : pc + 1 = pc') (hv : u.isRef = true) (hc : u.category = 1) (ho : Ls[k.val]? = some o) (h1 : One o) (he : Ls.set k.val (.val u) = Ls') : Go w l R Z n0 y code ml ret pc' Ls' st h cells slots := by
  subst hp; exact r.step fun T t a x b k => XS.astoreN a x rfl (hb b hd) rfl hv (storeL ho h1 hc he) k
theorem Go.lstoreG {u : Int64} {k : Nat} {o q : Slot} {Ls' : List Slot} (r : Go w l R Z n0 y code ml ret pc Ls (.long u :: st) h cells slots) (pc' : Nat) (hd : decode code pc = .ok (.lstore k, 2)) (hp : pc + 2 = pc') (ho : Ls[k]? = some o) (hq : Ls[k + 1]? = some q) (h2 : Two o q) (he : (Ls.set k (.val (.long u))).set (k + 1) .second = Ls') : Go w l R Z n0 y code ml ret pc' Ls' st h cells slots := by
  subst hp; exact r.step fun T t a x b k => XS.lstore a x rfl (hb b hd) rfl (storeL2 ho hq h2 he) k
theorem Go.lstoreNG {u : Int64} {k : Fin 4} {o q : Slot} {Ls' : List Slot} (r : Go w l R Z n0 y code ml ret pc Ls (.long u :: st) h cells slots) (pc' : Nat) (hd : decode code pc = .ok (.lstore_n k, 1)) (hp : pc + 1 = pc') (ho : Ls[k.val]? = some o) (hq : Ls[k.val + 1]? = some q) (h2 : Two o q) (he : (Ls.set k.val (.val (.long u))).set (k.val + 1) .second = Ls') : Go w l R Z n0 y code ml ret pc' Ls' st h cells slots := by
  subst hp; exact r.step fun T t a x b k => XS.lstoreN a x rfl (hb b hd) rfl (storeL2 ho hq h2 he) k
theorem Go.iincG {u : Int32} {k : Nat} {i : Int} {Ls' : List Slot} (r : Go w l R Z n0 y code ml ret pc Ls st h cells slots) (pc' : Nat) (hd : decode code pc = .ok (.iinc k i, 3)) (hp : pc + 3 = pc') (hl : Ls[k]? = some (.val (.int u))) (he : Ls.set k (.val (.int (u + Int32.ofInt i))) = Ls') : Go w l R Z n0 y code ml ret pc' Ls' st h cells slots := by
  subst hp; exact r.step fun T t a x b k => XS.iinc a x rfl (hb b hd) (show Ls.toArray[_]? = _ by rw [List.getElem?_toArray]; exact hl) (storeL hl (One.val rfl) rfl he) k
theorem get_s {α : Type} {a : α} {L : List α} {k : Nat} {v : α} (h : L[k]? = some v) : (a :: L)[k + 1]? = some v := h
theorem get_z {α : Type} {L : List α} {v : α} : (v :: L)[0]? = some v := rfl
theorem set_s {α : Type} {a v : α} {L L' : List α} {k : Nat} (h : L.set k v = L') : (a :: L).set (k + 1) v = a :: L' := by subst h; rfl
theorem set_z {α : Type} {a v : α} {L : List α} : (a :: L).set 0 v = v :: L := rfl
theorem Go.ald0 {v : Addr} {q : List Slot} (r : Go w l R Z n0 y code ml ret pc (.val (.ref v) :: q) st h cells slots) (pc' : Nat) (hd : decode code pc = .ok (.aload_n 0, 1)) (hp : pc + 1 = pc') : Go w l R Z n0 y code ml ret pc' (.val (.ref v) :: q) ((.ref v) :: st) h cells slots := r.aloadNG pc' hd hp get_z rfl
theorem Go.ald1 {v : Addr} {a0 : Slot} {q : List Slot} (r : Go w l R Z n0 y code ml ret pc (a0 :: .val (.ref v) :: q) st h cells slots) (pc' : Nat) (hd : decode code pc = .ok (.aload_n 1, 1)) (hp : pc + 1 = pc') : Go w l R Z n0 y code ml ret pc' (a0 :: .val (.ref v) :: q) ((.ref v) :: st) h cells slots := r.aloadNG pc' hd hp (get_s get_z) rfl
theorem Go.ald2 {v : Addr} {a0 a1 : Slot} {q : List Slot} (r : Go w l R Z n0 y code ml ret pc (a0 :: a1 :: .val (.ref v) :: q) st h cells slots) (pc' : Nat) (hd : decode code pc = .ok (.aload_n 2, 1)) (hp : pc + 1 = pc') : Go w l R Z n0 y code ml ret pc' (a0 :: a1 :: .val (.ref v) :: q) ((.ref v) :: st) h cells slots := r.aloadNG pc' hd hp (get_s (get_s get_z)) rfl
theorem Go.ald3 {v : Addr} {a0 a1 a2 : Slot} {q : List Slot} (r : Go w l R Z n0 y code ml ret pc (a0 :: a1 :: a2 :: .val (.ref v) :: q) st h cells slots) (pc' : Nat) (hd : decode code pc = .ok (.aload_n 3, 1)) (hp : pc + 1 = pc') : Go w l R Z n0 y code ml ret pc' (a0 :: a1 :: a2 :: .val (.ref v) :: q) ((.ref v) :: st) h cells slots := r.aloadNG pc' hd hp (get_s (get_s (get_s get_z))) rfl
theorem Go.ald6 {v : Addr} {a0 a1 a2 a3 a4 a5 : Slot} {q : List Slot} (r : Go w l R Z n0 y code ml ret pc (a0 :: a1 :: a2 :: a3 :: a4 :: a5 :: .val (.ref v) :: q) st h cells slots) (pc' : Nat) (hd : decode code pc = .ok (.aload 6, 2)) (hp : pc + 2 = pc') : Go w l R Z n0 y code ml ret pc' (a0 :: a1 :: a2 :: a3 :: a4 :: a5 :: .val (.ref v) :: q) ((.ref v) :: st) h cells slots := r.aloadG pc' hd hp (get_s (get_s (get_s (get_s (get_s (get_s get_z)))))) rfl
theorem Go.ald7 {v : Addr} {a0 a1 a2 a3 a4 a5 a6 : Slot} {q : List Slot} (r : Go w l R Z n0 y code ml ret pc (a0 :: a1 :: a2 :: a3 :: a4 :: a5 :: a6 :: .val (.ref v) :: q) st h cells slots) (pc' : Nat) (hd : decode code pc = .ok (.aload 7, 2)) (hp : pc + 2 = pc') : Go w l R Z n0 y code ml ret pc' (a0 :: a1 :: a2 :: a3 :: a4 :: a5 :: a6 :: .val (.ref v) :: q) ((.ref v) :: st) h cells slots := r.aloadG pc' hd hp (get_s (get_s (get_s (get_s (get_s (get_s (get_s get_z))))))) rfl
theorem Go.ald8 {v : Addr} {a0 a1 a2 a3 a4 a5 a6 a7 : Slot} {q : List Slot} (r : Go w l R Z n0 y code ml ret pc (a0 :: a1 :: a2 :: a3 :: a4 :: a5 :: a6 :: a7 :: .val (.ref v) :: q) st h cells slots) (pc' : Nat) (hd : decode code pc = .ok (.aload 8, 2)) (hp : pc + 2 = pc') : Go w l R Z n0 y code ml ret pc' (a0 :: a1 :: a2 :: a3 :: a4 :: a5 :: a6 :: a7 :: .val (.ref v) :: q) ((.ref v) :: st) h cells slots := r.aloadG pc' hd hp (get_s (get_s (get_s (get_s (get_s (get_s (get_s (get_s get_z)))))))) rfl
theorem Go.ald9 {v : Addr} {a0 a1 a2 a3 a4 a5 a6 a7 a8 : Slot} {q : List Slot} (r : Go w l R Z n0 y code ml ret pc (a0 :: a1 :: a2 :: a3 :: a4 :: a5 :: a6 :: a7 :: a8 :: .val (.ref v) :: q) st h cells slots) (pc' : Nat) (hd : decode code pc = .ok (.aload 9, 2)) (hp : pc + 2 = pc') : Go w l R Z n0 y code ml ret pc' (a0 :: a1 :: a2 :: a3 :: a4 :: a5 :: a6 :: a7 :: a8 :: .val (.ref v) :: q) ((.ref v) :: st) h cells slots := r.aloadG pc' hd hp (get_s (get_s (get_s (get_s (get_s (get_s (get_s (get_s (get_s get_z))))))))) rfl
theorem Go.ald10 {v : Addr} {a0 a1 a2 a3 a4 a5 a6 a7 a8 a9 : Slot} {q : List Slot} (r : Go w l R Z n0 y code ml ret pc (a0 :: a1 :: a2 :: a3 :: a4 :: a5 :: a6 :: a7 :: a8 :: a9 :: .val (.ref v) :: q) st h cells slots) (pc' : Nat) (hd : decode code pc = .ok (.aload 10, 2)) (hp : pc + 2 = pc') : Go w l R Z n0 y code ml ret pc' (a0 :: a1 :: a2 :: a3 :: a4 :: a5 :: a6 :: a7 :: a8 :: a9 :: .val (.ref v) :: q) ((.ref v) :: st) h cells slots := r.aloadG pc' hd hp (get_s (get_s (get_s (get_s (get_s (get_s (get_s (get_s (get_s (get_s get_z)))))))))) rfl
theorem Go.ald11 {v : Addr} {a0 a1 a2 a3 a4 a5 a6 a7 a8 a9 a10 : Slot} {q : List Slot} (r : Go w l R Z n0 y code ml ret pc (a0 :: a1 :: a2 :: a3 :: a4 :: a5 :: a6 :: a7 :: a8 :: a9 :: a10 :: .val (.ref v) :: q) st h cells slots) (pc' : Nat) (hd : decode code pc = .ok (.aload 11, 2)) (hp : pc + 2 = pc') : Go w l R Z n0 y code ml ret pc' (a0 :: a1 :: a2 :: a3 :: a4 :: a5 :: a6 :: a7 :: a8 :: a9 :: a10 :: .val (.ref v) :: q) ((.ref v) :: st) h cells slots := r.aloadG pc' hd hp (get_s (get_s (get_s (get_s (get_s (get_s (get_s (get_s (get_s (get_s (get_s get_z))))))))))) rfl
theorem Go.ast3 {v : Addr} {o : Slot} {a0 a1 a2 : Slot} {q : List Slot} (r : Go w l R Z n0 y code ml ret pc (a0 :: a1 :: a2 :: o :: q) ((.ref v) :: st) h cells slots) (pc' : Nat) (hd : decode code pc = .ok (.astore_n 3, 1)) (hp : pc + 1 = pc') (ho : One o) : Go w l R Z n0 y code ml ret pc' (a0 :: a1 :: a2 :: .val (.ref v) :: q) st h cells slots := r.astoreNG pc' hd hp rfl rfl (get_s (get_s (get_s get_z))) ho (set_s (set_s (set_s set_z)))
theorem Go.ast6 {v : Addr} {o : Slot} {a0 a1 a2 a3 a4 a5 : Slot} {q : List Slot} (r : Go w l R Z n0 y code ml ret pc (a0 :: a1 :: a2 :: a3 :: a4 :: a5 :: o :: q) ((.ref v) :: st) h cells slots) (pc' : Nat) (hd : decode code pc = .ok (.astore 6, 2)) (hp : pc + 2 = pc') (ho : One o) : Go w l R Z n0 y code ml ret pc' (a0 :: a1 :: a2 :: a3 :: a4 :: a5 :: .val (.ref v) :: q) st h cells slots := r.astoreG pc' hd hp rfl rfl (get_s (get_s (get_s (get_s (get_s (get_s get_z)))))) ho (set_s (set_s (set_s (set_s (set_s (set_s set_z))))))
theorem Go.ast7 {v : Addr} {o : Slot} {a0 a1 a2 a3 a4 a5 a6 : Slot} {q : List Slot} (r : Go w l R Z n0 y code ml ret pc (a0 :: a1 :: a2 :: a3 :: a4 :: a5 :: a6 :: o :: q) ((.ref v) :: st) h cells slots) (pc' : Nat) (hd : decode code pc = .ok (.astore 7, 2)) (hp : pc + 2 = pc') (ho : One o) : Go w l R Z n0 y code ml ret pc' (a0 :: a1 :: a2 :: a3 :: a4 :: a5 :: a6 :: .val (.ref v) :: q) st h cells slots := r.astoreG pc' hd hp rfl rfl (get_s (get_s (get_s (get_s (get_s (get_s (get_s get_z))))))) ho (set_s (set_s (set_s (set_s (set_s (set_s (set_s set_z)))))))
theorem Go.ast8 {v : Addr} {o : Slot} {a0 a1 a2 a3 a4 a5 a6 a7 : Slot} {q : List Slot} (r : Go w l R Z n0 y code ml ret pc (a0 :: a1 :: a2 :: a3 :: a4 :: a5 :: a6 :: a7 :: o :: q) ((.ref v) :: st) h cells slots) (pc' : Nat) (hd : decode code pc = .ok (.astore 8, 2)) (hp : pc + 2 = pc') (ho : One o) : Go w l R Z n0 y code ml ret pc' (a0 :: a1 :: a2 :: a3 :: a4 :: a5 :: a6 :: a7 :: .val (.ref v) :: q) st h cells slots := r.astoreG pc' hd hp rfl rfl (get_s (get_s (get_s (get_s (get_s (get_s (get_s (get_s get_z)))))))) ho (set_s (set_s (set_s (set_s (set_s (set_s (set_s (set_s set_z))))))))
theorem Go.ast9 {v : Addr} {o : Slot} {a0 a1 a2 a3 a4 a5 a6 a7 a8 : Slot} {q : List Slot} (r : Go w l R Z n0 y code ml ret pc (a0 :: a1 :: a2 :: a3 :: a4 :: a5 :: a6 :: a7 :: a8 :: o :: q) ((.ref v) :: st) h cells slots) (pc' : Nat) (hd : decode code pc = .ok (.astore 9, 2)) (hp : pc + 2 = pc') (ho : One o) : Go w l R Z n0 y code ml ret pc' (a0 :: a1 :: a2 :: a3 :: a4 :: a5 :: a6 :: a7 :: a8 :: .val (.ref v) :: q) st h cells slots := r.astoreG pc' hd hp rfl rfl (get_s (get_s (get_s (get_s (get_s (get_s (get_s (get_s (get_s get_z))))))))) ho (set_s (set_s (set_s (set_s (set_s (set_s (set_s (set_s (set_s set_z)))))))))
theorem Go.ast10 {v : Addr} {o : Slot} {a0 a1 a2 a3 a4 a5 a6 a7 a8 a9 : Slot} {q : List Slot} (r : Go w l R Z n0 y code ml ret pc (a0 :: a1 :: a2 :: a3 :: a4 :: a5 :: a6 :: a7 :: a8 :: a9 :: o :: q) ((.ref v) :: st) h cells slots) (pc' : Nat) (hd : decode code pc = .ok (.astore 10, 2)) (hp : pc + 2 = pc') (ho : One o) : Go w l R Z n0 y code ml ret pc' (a0 :: a1 :: a2 :: a3 :: a4 :: a5 :: a6 :: a7 :: a8 :: a9 :: .val (.ref v) :: q) st h cells slots := r.astoreG pc' hd hp rfl rfl (get_s (get_s (get_s (get_s (get_s (get_s (get_s (get_s (get_s (get_s get_z)))))))))) ho (set_s (set_s (set_s (set_s (set_s (set_s (set_s (set_s (set_s (set_s set_z))))))))))
theorem Go.ast11 {v : Addr} {o : Slot} {a0 a1 a2 a3 a4 a5 a6 a7 a8 a9 a10 : Slot} {q : List Slot} (r : Go w l R Z n0 y code ml ret pc (a0 :: a1 :: a2 :: a3 :: a4 :: a5 :: a6 :: a7 :: a8 :: a9 :: a10 :: o :: q) ((.ref v) :: st) h cells slots) (pc' : Nat) (hd : decode code pc = .ok (.astore 11, 2)) (hp : pc + 2 = pc') (ho : One o) : Go w l R Z n0 y code ml ret pc' (a0 :: a1 :: a2 :: a3 :: a4 :: a5 :: a6 :: a7 :: a8 :: a9 :: a10 :: .val (.ref v) :: q) st h cells slots := r.astoreG pc' hd hp rfl rfl (get_s (get_s (get_s (get_s (get_s (get_s (get_s (get_s (get_s (get_s (get_s get_z))))))))))) ho (set_s (set_s (set_s (set_s (set_s (set_s (set_s (set_s (set_s (set_s (set_s set_z)))))))))))
theorem Go.ild0 {v : Int32} {q : List Slot} (r : Go w l R Z n0 y code ml ret pc (.val (.int v) :: q) st h cells slots) (pc' : Nat) (hd : decode code pc = .ok (.iload_n 0, 1)) (hp : pc + 1 = pc') : Go w l R Z n0 y code ml ret pc' (.val (.int v) :: q) ((.int v) :: st) h cells slots := r.iloadNG pc' hd hp get_z
theorem Go.ild1 {v : Int32} {a0 : Slot} {q : List Slot} (r : Go w l R Z n0 y code ml ret pc (a0 :: .val (.int v) :: q) st h cells slots) (pc' : Nat) (hd : decode code pc = .ok (.iload_n 1, 1)) (hp : pc + 1 = pc') : Go w l R Z n0 y code ml ret pc' (a0 :: .val (.int v) :: q) ((.int v) :: st) h cells slots := r.iloadNG pc' hd hp (get_s get_z)
theorem Go.ild2 {v : Int32} {a0 a1 : Slot} {q : List Slot} (r : Go w l R Z n0 y code ml ret pc (a0 :: a1 :: .val (.int v) :: q) st h cells slots) (pc' : Nat) (hd : decode code pc = .ok (.iload_n 2, 1)) (hp : pc + 1 = pc') : Go w l R Z n0 y code ml ret pc' (a0 :: a1 :: .val (.int v) :: q) ((.int v) :: st) h cells slots := r.iloadNG pc' hd hp (get_s (get_s get_z))
theorem Go.ild3 {v : Int32} {a0 a1 a2 : Slot} {q : List Slot} (r : Go w l R Z n0 y code ml ret pc (a0 :: a1 :: a2 :: .val (.int v) :: q) st h cells slots) (pc' : Nat) (hd : decode code pc = .ok (.iload_n 3, 1)) (hp : pc + 1 = pc') : Go w l R Z n0 y code ml ret pc' (a0 :: a1 :: a2 :: .val (.int v) :: q) ((.int v) :: st) h cells slots := r.iloadNG pc' hd hp (get_s (get_s (get_s get_z)))
theorem Go.ild4 {v : Int32} {a0 a1 a2 a3 : Slot} {q : List Slot} (r : Go w l R Z n0 y code ml ret pc (a0 :: a1 :: a2 :: a3 :: .val (.int v) :: q) st h cells slots) (pc' : Nat) (hd : decode code pc = .ok (.iload 4, 2)) (hp : pc + 2 = pc') : Go w l R Z n0 y code ml ret pc' (a0 :: a1 :: a2 :: a3 :: .val (.int v) :: q) ((.int v) :: st) h cells slots := r.iloadG pc' hd hp (get_s (get_s (get_s (get_s get_z))))
theorem Go.ild5 {v : Int32} {a0 a1 a2 a3 a4 : Slot} {q : List Slot} (r : Go w l R Z n0 y code ml ret pc (a0 :: a1 :: a2 :: a3 :: a4 :: .val (.int v) :: q) st h cells slots) (pc' : Nat) (hd : decode code pc = .ok (.iload 5, 2)) (hp : pc + 2 = pc') : Go w l R Z n0 y code ml ret pc' (a0 :: a1 :: a2 :: a3 :: a4 :: .val (.int v) :: q) ((.int v) :: st) h cells slots := r.iloadG pc' hd hp (get_s (get_s (get_s (get_s (get_s get_z)))))
theorem Go.ild6 {v : Int32} {a0 a1 a2 a3 a4 a5 : Slot} {q : List Slot} (r : Go w l R Z n0 y code ml ret pc (a0 :: a1 :: a2 :: a3 :: a4 :: a5 :: .val (.int v) :: q) st h cells slots) (pc' : Nat) (hd : decode code pc = .ok (.iload 6, 2)) (hp : pc + 2 = pc') : Go w l R Z n0 y code ml ret pc' (a0 :: a1 :: a2 :: a3 :: a4 :: a5 :: .val (.int v) :: q) ((.int v) :: st) h cells slots := r.iloadG pc' hd hp (get_s (get_s (get_s (get_s (get_s (get_s get_z))))))
theorem Go.ild7 {v : Int32} {a0 a1 a2 a3 a4 a5 a6 : Slot} {q : List Slot} (r : Go w l R Z n0 y code ml ret pc (a0 :: a1 :: a2 :: a3 :: a4 :: a5 :: a6 :: .val (.int v) :: q) st h cells slots) (pc' : Nat) (hd : decode code pc = .ok (.iload 7, 2)) (hp : pc + 2 = pc') : Go w l R Z n0 y code ml ret pc' (a0 :: a1 :: a2 :: a3 :: a4 :: a5 :: a6 :: .val (.int v) :: q) ((.int v) :: st) h cells slots := r.iloadG pc' hd hp (get_s (get_s (get_s (get_s (get_s (get_s (get_s get_z)))))))
theorem Go.ild8 {v : Int32} {a0 a1 a2 a3 a4 a5 a6 a7 : Slot} {q : List Slot} (r : Go w l R Z n0 y code ml ret pc (a0 :: a1 :: a2 :: a3 :: a4 :: a5 :: a6 :: a7 :: .val (.int v) :: q) st h cells slots) (pc' : Nat) (hd : decode code pc = .ok (.iload 8, 2)) (hp : pc + 2 = pc') : Go w l R Z n0 y code ml ret pc' (a0 :: a1 :: a2 :: a3 :: a4 :: a5 :: a6 :: a7 :: .val (.int v) :: q) ((.int v) :: st) h cells slots := r.iloadG pc' hd hp (get_s (get_s (get_s (get_s (get_s (get_s (get_s (get_s get_z))))))))
theorem Go.ild9 {v : Int32} {a0 a1 a2 a3 a4 a5 a6 a7 a8 : Slot} {q : List Slot} (r : Go w l R Z n0 y code ml ret pc (a0 :: a1 :: a2 :: a3 :: a4 :: a5 :: a6 :: a7 :: a8 :: .val (.int v) :: q) st h cells slots) (pc' : Nat) (hd : decode code pc = .ok (.iload 9, 2)) (hp : pc + 2 = pc') : Go w l R Z n0 y code ml ret pc' (a0 :: a1 :: a2 :: a3 :: a4 :: a5 :: a6 :: a7 :: a8 :: .val (.int v) :: q) ((.int v) :: st) h cells slots := r.iloadG pc' hd hp (get_s (get_s (get_s (get_s (get_s (get_s (get_s (get_s (get_s get_z)))))))))
theorem Go.ild12 {v : Int32} {a0 a1 a2 a3 a4 a5 a6 a7 a8 a9 a10 a11 : Slot} {q : List Slot} (r : Go w l R Z n0 y code ml ret pc (a0 :: a1 :: a2 :: a3 :: a4 :: a5 :: a6 :: a7 :: a8 :: a9 :: a10 :: a11 :: .val (.int v) :: q) st h cells slots) (pc' : Nat) (hd : decode code pc = .ok (.iload 12, 2)) (hp : pc + 2 = pc') : Go w l R Z n0 y code ml ret pc' (a0 :: a1 :: a2 :: a3 :: a4 :: a5 :: a6 :: a7 :: a8 :: a9 :: a10 :: a11 :: .val (.int v) :: q) ((.int v) :: st) h cells slots := r.iloadG pc' hd hp (get_s (get_s (get_s (get_s (get_s (get_s (get_s (get_s (get_s (get_s (get_s (get_s get_z))))))))))))
theorem Go.ild13 {v : Int32} {a0 a1 a2 a3 a4 a5 a6 a7 a8 a9 a10 a11 a12 : Slot} {q : List Slot} (r : Go w l R Z n0 y code ml ret pc (a0 :: a1 :: a2 :: a3 :: a4 :: a5 :: a6 :: a7 :: a8 :: a9 :: a10 :: a11 :: a12 :: .val (.int v) :: q) st h cells slots) (pc' : Nat) (hd : decode code pc = .ok (.iload 13, 2)) (hp : pc + 2 = pc') : Go w l R Z n0 y code ml ret pc' (a0 :: a1 :: a2 :: a3 :: a4 :: a5 :: a6 :: a7 :: a8 :: a9 :: a10 :: a11 :: a12 :: .val (.int v) :: q) ((.int v) :: st) h cells slots := r.iloadG pc' hd hp (get_s (get_s (get_s (get_s (get_s (get_s (get_s (get_s (get_s (get_s (get_s (get_s (get_s get_z)))))))))))))
theorem Go.ild14 {v : Int32} {a0 a1 a2 a3 a4 a5 a6 a7 a8 a9 a10 a11 a12 a13 : Slot} {q : List Slot} (r : Go w l R Z n0 y code ml ret pc (a0 :: a1 :: a2 :: a3 :: a4 :: a5 :: a6 :: a7 :: a8 :: a9 :: a10 :: a11 :: a12 :: a13 :: .val (.int v) :: q) st h cells slots) (pc' : Nat) (hd : decode code pc = .ok (.iload 14, 2)) (hp : pc + 2 = pc') : Go w l R Z n0 y code ml ret pc' (a0 :: a1 :: a2 :: a3 :: a4 :: a5 :: a6 :: a7 :: a8 :: a9 :: a10 :: a11 :: a12 :: a13 :: .val (.int v) :: q) ((.int v) :: st) h cells slots := r.iloadG pc' hd hp (get_s (get_s (get_s (get_s (get_s (get_s (get_s (get_s (get_s (get_s (get_s (get_s (get_s (get_s get_z))))))))))))))
theorem Go.ild15 {v : Int32} {a0 a1 a2 a3 a4 a5 a6 a7 a8 a9 a10 a11 a12 a13 a14 : Slot} {q : List Slot} (r : Go w l R Z n0 y code ml ret pc (a0 :: a1 :: a2 :: a3 :: a4 :: a5 :: a6 :: a7 :: a8 :: a9 :: a10 :: a11 :: a12 :: a13 :: a14 :: .val (.int v) :: q) st h cells slots) (pc' : Nat) (hd : decode code pc = .ok (.iload 15, 2)) (hp : pc + 2 = pc') : Go w l R Z n0 y code ml ret pc' (a0 :: a1 :: a2 :: a3 :: a4 :: a5 :: a6 :: a7 :: a8 :: a9 :: a10 :: a11 :: a12 :: a13 :: a14 :: .val (.int v) :: q) ((.int v) :: st) h cells slots := r.iloadG pc' hd hp (get_s (get_s (get_s (get_s (get_s (get_s (get_s (get_s (get_s (get_s (get_s (get_s (get_s (get_s (get_s get_z)))))))))))))))
theorem Go.ild16 {v : Int32} {a0 a1 a2 a3 a4 a5 a6 a7 a8 a9 a10 a11 a12 a13 a14 a15 : Slot} {q : List Slot} (r : Go w l R Z n0 y code ml ret pc (a0 :: a1 :: a2 :: a3 :: a4 :: a5 :: a6 :: a7 :: a8 :: a9 :: a10 :: a11 :: a12 :: a13 :: a14 :: a15 :: .val (.int v) :: q) st h cells slots) (pc' : Nat) (hd : decode code pc = .ok (.iload 16, 2)) (hp : pc + 2 = pc') : Go w l R Z n0 y code ml ret pc' (a0 :: a1 :: a2 :: a3 :: a4 :: a5 :: a6 :: a7 :: a8 :: a9 :: a10 :: a11 :: a12 :: a13 :: a14 :: a15 :: .val (.int v) :: q) ((.int v) :: st) h cells slots := r.iloadG pc' hd hp (get_s (get_s (get_s (get_s (get_s (get_s (get_s (get_s (get_s (get_s (get_s (get_s (get_s (get_s (get_s (get_s get_z))))))))))))))))
theorem Go.inc1 {v d : Int32} {i : Int} {a0 : Slot} {q : List Slot} (r : Go w l R Z n0 y code ml ret pc (a0 :: .val (.int v) :: q) st h cells slots) (pc' : Nat) (hd : decode code pc = .ok (.iinc 1 i, 3)) (hp : pc + 3 = pc') (he : Int32.ofInt i = d) : Go w l R Z n0 y code ml ret pc' (a0 :: .val (.int (v + d)) :: q) st h cells slots := r.iincG pc' hd hp (get_s get_z) (by rw [he]; exact (set_s set_z))
theorem Go.inc2 {v d : Int32} {i : Int} {a0 a1 : Slot} {q : List Slot} (r : Go w l R Z n0 y code ml ret pc (a0 :: a1 :: .val (.int v) :: q) st h cells slots) (pc' : Nat) (hd : decode code pc = .ok (.iinc 2 i, 3)) (hp : pc + 3 = pc') (he : Int32.ofInt i = d) : Go w l R Z n0 y code ml ret pc' (a0 :: a1 :: .val (.int (v + d)) :: q) st h cells slots := r.iincG pc' hd hp (get_s (get_s get_z)) (by rw [he]; exact (set_s (set_s set_z)))
theorem Go.inc3 {v d : Int32} {i : Int} {a0 a1 a2 : Slot} {q : List Slot} (r : Go w l R Z n0 y code ml ret pc (a0 :: a1 :: a2 :: .val (.int v) :: q) st h cells slots) (pc' : Nat) (hd : decode code pc = .ok (.iinc 3 i, 3)) (hp : pc + 3 = pc') (he : Int32.ofInt i = d) : Go w l R Z n0 y code ml ret pc' (a0 :: a1 :: a2 :: .val (.int (v + d)) :: q) st h cells slots := r.iincG pc' hd hp (get_s (get_s (get_s get_z))) (by rw [he]; exact (set_s (set_s (set_s set_z))))
theorem Go.inc5 {v d : Int32} {i : Int} {a0 a1 a2 a3 a4 : Slot} {q : List Slot} (r : Go w l R Z n0 y code ml ret pc (a0 :: a1 :: a2 :: a3 :: a4 :: .val (.int v) :: q) st h cells slots) (pc' : Nat) (hd : decode code pc = .ok (.iinc 5 i, 3)) (hp : pc + 3 = pc') (he : Int32.ofInt i = d) : Go w l R Z n0 y code ml ret pc' (a0 :: a1 :: a2 :: a3 :: a4 :: .val (.int (v + d)) :: q) st h cells slots := r.iincG pc' hd hp (get_s (get_s (get_s (get_s (get_s get_z))))) (by rw [he]; exact (set_s (set_s (set_s (set_s (set_s set_z))))))
theorem Go.inc8 {v d : Int32} {i : Int} {a0 a1 a2 a3 a4 a5 a6 a7 : Slot} {q : List Slot} (r : Go w l R Z n0 y code ml ret pc (a0 :: a1 :: a2 :: a3 :: a4 :: a5 :: a6 :: a7 :: .val (.int v) :: q) st h cells slots) (pc' : Nat) (hd : decode code pc = .ok (.iinc 8 i, 3)) (hp : pc + 3 = pc') (he : Int32.ofInt i = d) : Go w l R Z n0 y code ml ret pc' (a0 :: a1 :: a2 :: a3 :: a4 :: a5 :: a6 :: a7 :: .val (.int (v + d)) :: q) st h cells slots := r.iincG pc' hd hp (get_s (get_s (get_s (get_s (get_s (get_s (get_s (get_s get_z)))))))) (by rw [he]; exact (set_s (set_s (set_s (set_s (set_s (set_s (set_s (set_s set_z)))))))))
theorem Go.ist1 {v : Int32} {o : Slot} {a0 : Slot} {q : List Slot} (r : Go w l R Z n0 y code ml ret pc (a0 :: o :: q) ((.int v) :: st) h cells slots) (pc' : Nat) (hd : decode code pc = .ok (.istore_n 1, 1)) (hp : pc + 1 = pc') (ho : One o) : Go w l R Z n0 y code ml ret pc' (a0 :: .val (.int v) :: q) st h cells slots := r.istoreNG pc' hd hp (get_s get_z) ho (set_s set_z)
theorem Go.ist2 {v : Int32} {o : Slot} {a0 a1 : Slot} {q : List Slot} (r : Go w l R Z n0 y code ml ret pc (a0 :: a1 :: o :: q) ((.int v) :: st) h cells slots) (pc' : Nat) (hd : decode code pc = .ok (.istore_n 2, 1)) (hp : pc + 1 = pc') (ho : One o) : Go w l R Z n0 y code ml ret pc' (a0 :: a1 :: .val (.int v) :: q) st h cells slots := r.istoreNG pc' hd hp (get_s (get_s get_z)) ho (set_s (set_s set_z))
theorem Go.ist3 {v : Int32} {o : Slot} {a0 a1 a2 : Slot} {q : List Slot} (r : Go w l R Z n0 y code ml ret pc (a0 :: a1 :: a2 :: o :: q) ((.int v) :: st) h cells slots) (pc' : Nat) (hd : decode code pc = .ok (.istore_n 3, 1)) (hp : pc + 1 = pc') (ho : One o) : Go w l R Z n0 y code ml ret pc' (a0 :: a1 :: a2 :: .val (.int v) :: q) st h cells slots := r.istoreNG pc' hd hp (get_s (get_s (get_s get_z))) ho (set_s (set_s (set_s set_z)))
theorem Go.ist4 {v : Int32} {o : Slot} {a0 a1 a2 a3 : Slot} {q : List Slot} (r : Go w l R Z n0 y code ml ret pc (a0 :: a1 :: a2 :: a3 :: o :: q) ((.int v) :: st) h cells slots) (pc' : Nat) (hd : decode code pc = .ok (.istore 4, 2)) (hp : pc + 2 = pc') (ho : One o) : Go w l R Z n0 y code ml ret pc' (a0 :: a1 :: a2 :: a3 :: .val (.int v) :: q) st h cells slots := r.istoreG pc' hd hp (get_s (get_s (get_s (get_s get_z)))) ho (set_s (set_s (set_s (set_s set_z))))
theorem Go.ist5 {v : Int32} {o : Slot} {a0 a1 a2 a3 a4 : Slot} {q : List Slot} (r : Go w l R Z n0 y code ml ret pc (a0 :: a1 :: a2 :: a3 :: a4 :: o :: q) ((.int v) :: st) h cells slots) (pc' : Nat) (hd : decode code pc = .ok (.istore 5, 2)) (hp : pc + 2 = pc') (ho : One o) : Go w l R Z n0 y code ml ret pc' (a0 :: a1 :: a2 :: a3 :: a4 :: .val (.int v) :: q) st h cells slots := r.istoreG pc' hd hp (get_s (get_s (get_s (get_s (get_s get_z))))) ho (set_s (set_s (set_s (set_s (set_s set_z)))))
theorem Go.ist6 {v : Int32} {o : Slot} {a0 a1 a2 a3 a4 a5 : Slot} {q : List Slot} (r : Go w l R Z n0 y code ml ret pc (a0 :: a1 :: a2 :: a3 :: a4 :: a5 :: o :: q) ((.int v) :: st) h cells slots) (pc' : Nat) (hd : decode code pc = .ok (.istore 6, 2)) (hp : pc + 2 = pc') (ho : One o) : Go w l R Z n0 y code ml ret pc' (a0 :: a1 :: a2 :: a3 :: a4 :: a5 :: .val (.int v) :: q) st h cells slots := r.istoreG pc' hd hp (get_s (get_s (get_s (get_s (get_s (get_s get_z)))))) ho (set_s (set_s (set_s (set_s (set_s (set_s set_z))))))
theorem Go.ist7 {v : Int32} {o : Slot} {a0 a1 a2 a3 a4 a5 a6 : Slot} {q : List Slot} (r : Go w l R Z n0 y code ml ret pc (a0 :: a1 :: a2 :: a3 :: a4 :: a5 :: a6 :: o :: q) ((.int v) :: st) h cells slots) (pc' : Nat) (hd : decode code pc = .ok (.istore 7, 2)) (hp : pc + 2 = pc') (ho : One o) : Go w l R Z n0 y code ml ret pc' (a0 :: a1 :: a2 :: a3 :: a4 :: a5 :: a6 :: .val (.int v) :: q) st h cells slots := r.istoreG pc' hd hp (get_s (get_s (get_s (get_s (get_s (get_s (get_s get_z))))))) ho (set_s (set_s (set_s (set_s (set_s (set_s (set_s set_z)))))))
theorem Go.ist8 {v : Int32} {o : Slot} {a0 a1 a2 a3 a4 a5 a6 a7 : Slot} {q : List Slot} (r : Go w l R Z n0 y code ml ret pc (a0 :: a1 :: a2 :: a3 :: a4 :: a5 :: a6 :: a7 :: o :: q) ((.int v) :: st) h cells slots) (pc' : Nat) (hd : decode code pc = .ok (.istore 8, 2)) (hp : pc + 2 = pc') (ho : One o) : Go w l R Z n0 y code ml ret pc' (a0 :: a1 :: a2 :: a3 :: a4 :: a5 :: a6 :: a7 :: .val (.int v) :: q) st h cells slots := r.istoreG pc' hd hp (get_s (get_s (get_s (get_s (get_s (get_s (get_s (get_s get_z)))))))) ho (set_s (set_s (set_s (set_s (set_s (set_s (set_s (set_s set_z))))))))
theorem Go.ist9 {v : Int32} {o : Slot} {a0 a1 a2 a3 a4 a5 a6 a7 a8 : Slot} {q : List Slot} (r : Go w l R Z n0 y code ml ret pc (a0 :: a1 :: a2 :: a3 :: a4 :: a5 :: a6 :: a7 :: a8 :: o :: q) ((.int v) :: st) h cells slots) (pc' : Nat) (hd : decode code pc = .ok (.istore 9, 2)) (hp : pc + 2 = pc') (ho : One o) : Go w l R Z n0 y code ml ret pc' (a0 :: a1 :: a2 :: a3 :: a4 :: a5 :: a6 :: a7 :: a8 :: .val (.int v) :: q) st h cells slots := r.istoreG pc' hd hp (get_s (get_s (get_s (get_s (get_s (get_s (get_s (get_s (get_s get_z))))))))) ho (set_s (set_s (set_s (set_s (set_s (set_s (set_s (set_s (set_s set_z)))))))))
theorem Go.ist12 {v : Int32} {o : Slot} {a0 a1 a2 a3 a4 a5 a6 a7 a8 a9 a10 a11 : Slot} {q : List Slot} (r : Go w l R Z n0 y code ml ret pc (a0 :: a1 :: a2 :: a3 :: a4 :: a5 :: a6 :: a7 :: a8 :: a9 :: a10 :: a11 :: o :: q) ((.int v) :: st) h cells slots) (pc' : Nat) (hd : decode code pc = .ok (.istore 12, 2)) (hp : pc + 2 = pc') (ho : One o) : Go w l R Z n0 y code ml ret pc' (a0 :: a1 :: a2 :: a3 :: a4 :: a5 :: a6 :: a7 :: a8 :: a9 :: a10 :: a11 :: .val (.int v) :: q) st h cells slots := r.istoreG pc' hd hp (get_s (get_s (get_s (get_s (get_s (get_s (get_s (get_s (get_s (get_s (get_s (get_s get_z)))))))))))) ho (set_s (set_s (set_s (set_s (set_s (set_s (set_s (set_s (set_s (set_s (set_s (set_s set_z))))))))))))
theorem Go.ist13 {v : Int32} {o : Slot} {a0 a1 a2 a3 a4 a5 a6 a7 a8 a9 a10 a11 a12 : Slot} {q : List Slot} (r : Go w l R Z n0 y code ml ret pc (a0 :: a1 :: a2 :: a3 :: a4 :: a5 :: a6 :: a7 :: a8 :: a9 :: a10 :: a11 :: a12 :: o :: q) ((.int v) :: st) h cells slots) (pc' : Nat) (hd : decode code pc = .ok (.istore 13, 2)) (hp : pc + 2 = pc') (ho : One o) : Go w l R Z n0 y code ml ret pc' (a0 :: a1 :: a2 :: a3 :: a4 :: a5 :: a6 :: a7 :: a8 :: a9 :: a10 :: a11 :: a12 :: .val (.int v) :: q) st h cells slots := r.istoreG pc' hd hp (get_s (get_s (get_s (get_s (get_s (get_s (get_s (get_s (get_s (get_s (get_s (get_s (get_s get_z))))))))))))) ho (set_s (set_s (set_s (set_s (set_s (set_s (set_s (set_s (set_s (set_s (set_s (set_s (set_s set_z)))))))))))))
theorem Go.ist14 {v : Int32} {o : Slot} {a0 a1 a2 a3 a4 a5 a6 a7 a8 a9 a10 a11 a12 a13 : Slot} {q : List Slot} (r : Go w l R Z n0 y code ml ret pc (a0 :: a1 :: a2 :: a3 :: a4 :: a5 :: a6 :: a7 :: a8 :: a9 :: a10 :: a11 :: a12 :: a13 :: o :: q) ((.int v) :: st) h cells slots) (pc' : Nat) (hd : decode code pc = .ok (.istore 14, 2)) (hp : pc + 2 = pc') (ho : One o) : Go w l R Z n0 y code ml ret pc' (a0 :: a1 :: a2 :: a3 :: a4 :: a5 :: a6 :: a7 :: a8 :: a9 :: a10 :: a11 :: a12 :: a13 :: .val (.int v) :: q) st h cells slots := r.istoreG pc' hd hp (get_s (get_s (get_s (get_s (get_s (get_s (get_s (get_s (get_s (get_s (get_s (get_s (get_s (get_s get_z)))))))))))))) ho (set_s (set_s (set_s (set_s (set_s (set_s (set_s (set_s (set_s (set_s (set_s (set_s (set_s (set_s set_z))))))))))))))
theorem Go.ist15 {v : Int32} {o : Slot} {a0 a1 a2 a3 a4 a5 a6 a7 a8 a9 a10 a11 a12 a13 a14 : Slot} {q : List Slot} (r : Go w l R Z n0 y code ml ret pc (a0 :: a1 :: a2 :: a3 :: a4 :: a5 :: a6 :: a7 :: a8 :: a9 :: a10 :: a11 :: a12 :: a13 :: a14 :: o :: q) ((.int v) :: st) h cells slots) (pc' : Nat) (hd : decode code pc = .ok (.istore 15, 2)) (hp : pc + 2 = pc') (ho : One o) : Go w l R Z n0 y code ml ret pc' (a0 :: a1 :: a2 :: a3 :: a4 :: a5 :: a6 :: a7 :: a8 :: a9 :: a10 :: a11 :: a12 :: a13 :: a14 :: .val (.int v) :: q) st h cells slots := r.istoreG pc' hd hp (get_s (get_s (get_s (get_s (get_s (get_s (get_s (get_s (get_s (get_s (get_s (get_s (get_s (get_s (get_s get_z))))))))))))))) ho (set_s (set_s (set_s (set_s (set_s (set_s (set_s (set_s (set_s (set_s (set_s (set_s (set_s (set_s (set_s set_z)))))))))))))))
theorem Go.ist16 {v : Int32} {o : Slot} {a0 a1 a2 a3 a4 a5 a6 a7 a8 a9 a10 a11 a12 a13 a14 a15 : Slot} {q : List Slot} (r : Go w l R Z n0 y code ml ret pc (a0 :: a1 :: a2 :: a3 :: a4 :: a5 :: a6 :: a7 :: a8 :: a9 :: a10 :: a11 :: a12 :: a13 :: a14 :: a15 :: o :: q) ((.int v) :: st) h cells slots) (pc' : Nat) (hd : decode code pc = .ok (.istore 16, 2)) (hp : pc + 2 = pc') (ho : One o) : Go w l R Z n0 y code ml ret pc' (a0 :: a1 :: a2 :: a3 :: a4 :: a5 :: a6 :: a7 :: a8 :: a9 :: a10 :: a11 :: a12 :: a13 :: a14 :: a15 :: .val (.int v) :: q) st h cells slots := r.istoreG pc' hd hp (get_s (get_s (get_s (get_s (get_s (get_s (get_s (get_s (get_s (get_s (get_s (get_s (get_s (get_s (get_s (get_s get_z)))))))))))))))) ho (set_s (set_s (set_s (set_s (set_s (set_s (set_s (set_s (set_s (set_s (set_s (set_s (set_s (set_s (set_s (set_s set_z))))))))))))))))
theorem Go.lld2 {v : Int64} {a0 a1 : Slot} {q : List Slot} (r : Go w l R Z n0 y code ml ret pc (a0 :: a1 :: .val (.long v) :: q) st h cells slots) (pc' : Nat) (hd : decode code pc = .ok (.lload_n 2, 1)) (hp : pc + 1 = pc') : Go w l R Z n0 y code ml ret pc' (a0 :: a1 :: .val (.long v) :: q) ((.long v) :: st) h cells slots := r.lloadNG pc' hd hp (get_s (get_s get_z))
theorem Go.lld3 {v : Int64} {a0 a1 a2 : Slot} {q : List Slot} (r : Go w l R Z n0 y code ml ret pc (a0 :: a1 :: a2 :: .val (.long v) :: q) st h cells slots) (pc' : Nat) (hd : decode code pc = .ok (.lload_n 3, 1)) (hp : pc + 1 = pc') : Go w l R Z n0 y code ml ret pc' (a0 :: a1 :: a2 :: .val (.long v) :: q) ((.long v) :: st) h cells slots := r.lloadNG pc' hd hp (get_s (get_s (get_s get_z)))
theorem Go.lld4 {v : Int64} {a0 a1 a2 a3 : Slot} {q : List Slot} (r : Go w l R Z n0 y code ml ret pc (a0 :: a1 :: a2 :: a3 :: .val (.long v) :: q) st h cells slots) (pc' : Nat) (hd : decode code pc = .ok (.lload 4, 2)) (hp : pc + 2 = pc') : Go w l R Z n0 y code ml ret pc' (a0 :: a1 :: a2 :: a3 :: .val (.long v) :: q) ((.long v) :: st) h cells slots := r.lloadG pc' hd hp (get_s (get_s (get_s (get_s get_z))))
theorem Go.lld6 {v : Int64} {a0 a1 a2 a3 a4 a5 : Slot} {q : List Slot} (r : Go w l R Z n0 y code ml ret pc (a0 :: a1 :: a2 :: a3 :: a4 :: a5 :: .val (.long v) :: q) st h cells slots) (pc' : Nat) (hd : decode code pc = .ok (.lload 6, 2)) (hp : pc + 2 = pc') : Go w l R Z n0 y code ml ret pc' (a0 :: a1 :: a2 :: a3 :: a4 :: a5 :: .val (.long v) :: q) ((.long v) :: st) h cells slots := r.lloadG pc' hd hp (get_s (get_s (get_s (get_s (get_s (get_s get_z))))))
theorem Go.goto {o : Int} (r : Go w l R Z n0 y code ml ret pc Ls st h cells slots) (pc' : Nat) (hd : decode code pc = .ok (.goto o, 3)) (hp : (pc : Int) + o = pc') : Go w l R Z n0 y code ml ret pc' Ls st h cells slots :=
  r.step fun T t a x b k => XS.goto a x rfl (pc0 := pc) (pc' := pc') rfl (hb b hd) (by rw [hp]; exact Int.natCast_nonneg _) (by rw [hp]; exact Int.toNat_natCast _) k
theorem Go.ifT {o : Int} {cd : ClassFile.Cond} {u : Int32} (r : Go w l R Z n0 y code ml ret pc Ls (.int u :: st) h cells slots) (pc' : Nat) (hd : decode code pc = .ok (.ifCond cd o, 3)) (hp : (pc : Int) + o = pc') (hc : ifCond.holds cd u = true) : Go w l R Z n0 y code ml ret pc' Ls st h cells slots :=
  r.step fun T t a x b k => XS.ifYes a x rfl (pc0 := pc) (pc' := pc') rfl (hb b hd) rfl hc (by rw [hp]; exact Int.natCast_nonneg _) (by rw [hp]; exact Int.toNat_natCast _) k
theorem Go.ifF {o : Int} {cd : ClassFile.Cond} {u : Int32} (r : Go w l R Z n0 y code ml ret pc Ls (.int u :: st) h cells slots) (pc' : Nat) (hd : decode code pc = .ok (.ifCond cd o, 3)) (hp : pc + 3 = pc') (hc : ifCond.holds cd u = false) : Go w l R Z n0 y code ml ret pc' Ls st h cells slots := by
  subst hp; exact r.step fun T t a x b k => XS.ifNo a x rfl (hb b hd) rfl hc k
theorem Go.icT {o : Int} {cd : ClassFile.Cond} {u v : Int32} (r : Go w l R Z n0 y code ml ret pc Ls (.int v :: .int u :: st) h cells slots) (pc' : Nat) (hd : decode code pc = .ok (.if_icmp cd o, 3)) (hp : (pc : Int) + o = pc') (hc : if_icmp.holds cd u v = true) : Go w l R Z n0 y code ml ret pc' Ls st h cells slots :=
  r.step fun T t a x b k => XS.icmpYes a x rfl (pc0 := pc) (pc' := pc') rfl (hb b hd) rfl hc (by rw [hp]; exact Int.natCast_nonneg _) (by rw [hp]; exact Int.toNat_natCast _) k
theorem Go.icF {o : Int} {cd : ClassFile.Cond} {u v : Int32} (r : Go w l R Z n0 y code ml ret pc Ls (.int v :: .int u :: st) h cells slots) (pc' : Nat) (hd : decode code pc = .ok (.if_icmp cd o, 3)) (hp : pc + 3 = pc') (hc : if_icmp.holds cd u v = false) : Go w l R Z n0 y code ml ret pc' Ls st h cells slots := by
  subst hp; exact r.step fun T t a x b k => XS.icmpNo a x rfl (hb b hd) rfl hc k
theorem Go.if_eqT {o : Int} {u : Int32} (r : Go w l R Z n0 y code ml ret pc Ls (.int u :: st) h cells slots) (pc' : Nat) (hd : decode code pc = .ok (.ifCond .eq o, 3)) (hp : (pc : Int) + o = pc') (hc : u = 0) : Go w l R Z n0 y code ml ret pc' Ls st h cells slots := r.ifT pc' hd hp ((if0 _ _).trans (teq hc).1)
theorem Go.if_eqF {o : Int} {u : Int32} (r : Go w l R Z n0 y code ml ret pc Ls (.int u :: st) h cells slots) (pc' : Nat) (hd : decode code pc = .ok (.ifCond .eq o, 3)) (hp : pc + 3 = pc') (hc : ¬ u = 0) : Go w l R Z n0 y code ml ret pc' Ls st h cells slots := r.ifF pc' hd hp ((if0 _ _).trans (feq hc).1)
theorem Go.if_eq {o : Int} {u : Int32} (r : Go w l R Z n0 y code ml ret pc Ls (.int u :: st) h cells slots) (pcT pcF : Nat) (hd : decode code pc = .ok (.ifCond .eq o, 3)) (hp : (pc : Int) + o = pcT) (hq : pc + 3 = pcF) : ((u = 0) ∧ Go w l R Z n0 y code ml ret pcT Ls st h cells slots) ∨ ((¬ u = 0) ∧ Go w l R Z n0 y code ml ret pcF Ls st h cells slots) := by
  by_cases hc : u = 0
  · exact Or.inl ⟨hc, r.if_eqT pcT hd hp hc⟩
  · exact Or.inr ⟨hc, r.if_eqF pcF hd hq hc⟩
theorem Go.ic_eqT {o : Int} {u v : Int32} (r : Go w l R Z n0 y code ml ret pc Ls (.int v :: .int u :: st) h cells slots) (pc' : Nat) (hd : decode code pc = .ok (.if_icmp .eq o, 3)) (hp : (pc : Int) + o = pc') (hc : u = v) : Go w l R Z n0 y code ml ret pc' Ls st h cells slots := r.icT pc' hd hp (teq hc).1
theorem Go.ic_eqF {o : Int} {u v : Int32} (r : Go w l R Z n0 y code ml ret pc Ls (.int v :: .int u :: st) h cells slots) (pc' : Nat) (hd : decode code pc = .ok (.if_icmp .eq o, 3)) (hp : pc + 3 = pc') (hc : ¬ u = v) : Go w l R Z n0 y code ml ret pc' Ls st h cells slots := r.icF pc' hd hp (feq hc).1
theorem Go.ic_eq {o : Int} {u v : Int32} (r : Go w l R Z n0 y code ml ret pc Ls (.int v :: .int u :: st) h cells slots) (pcT pcF : Nat) (hd : decode code pc = .ok (.if_icmp .eq o, 3)) (hp : (pc : Int) + o = pcT) (hq : pc + 3 = pcF) : ((u = v) ∧ Go w l R Z n0 y code ml ret pcT Ls st h cells slots) ∨ ((¬ u = v) ∧ Go w l R Z n0 y code ml ret pcF Ls st h cells slots) := by
  by_cases hc : u = v
  · exact Or.inl ⟨hc, r.ic_eqT pcT hd hp hc⟩
  · exact Or.inr ⟨hc, r.ic_eqF pcF hd hq hc⟩
theorem Go.if_neT {o : Int} {u : Int32} (r : Go w l R Z n0 y code ml ret pc Ls (.int u :: st) h cells slots) (pc' : Nat) (hd : decode code pc = .ok (.ifCond .ne o, 3)) (hp : (pc : Int) + o = pc') (hc : ¬ u = 0) : Go w l R Z n0 y code ml ret pc' Ls st h cells slots := r.ifT pc' hd hp ((if0 _ _).trans (feq hc).2)
theorem Go.if_neF {o : Int} {u : Int32} (r : Go w l R Z n0 y code ml ret pc Ls (.int u :: st) h cells slots) (pc' : Nat) (hd : decode code pc = .ok (.ifCond .ne o, 3)) (hp : pc + 3 = pc') (hc : u = 0) : Go w l R Z n0 y code ml ret pc' Ls st h cells slots := r.ifF pc' hd hp ((if0 _ _).trans (teq hc).2)
theorem Go.if_ne {o : Int} {u : Int32} (r : Go w l R Z n0 y code ml ret pc Ls (.int u :: st) h cells slots) (pcT pcF : Nat) (hd : decode code pc = .ok (.ifCond .ne o, 3)) (hp : (pc : Int) + o = pcT) (hq : pc + 3 = pcF) : ((¬ u = 0) ∧ Go w l R Z n0 y code ml ret pcT Ls st h cells slots) ∨ ((u = 0) ∧ Go w l R Z n0 y code ml ret pcF Ls st h cells slots) := by
  by_cases hc : ¬ u = 0
  · exact Or.inl ⟨hc, r.if_neT pcT hd hp hc⟩
  · exact Or.inr ⟨Classical.not_not.mp hc, r.if_neF pcF hd hq (Classical.not_not.mp hc)⟩
theorem Go.ic_neT {o : Int} {u v : Int32} (r : Go w l R Z n0 y code ml ret pc Ls (.int v :: .int u :: st) h cells slots) (pc' : Nat) (hd : decode code pc = .ok (.if_icmp .ne o, 3)) (hp : (pc : Int) + o = pc') (hc : ¬ u = v) : Go w l R Z n0 y code ml ret pc' Ls st h cells slots := r.icT pc' hd hp (feq hc).2
theorem Go.ic_neF {o : Int} {u v : Int32} (r : Go w l R Z n0 y code ml ret pc Ls (.int v :: .int u :: st) h cells slots) (pc' : Nat) (hd : decode code pc = .ok (.if_icmp .ne o, 3)) (hp : pc + 3 = pc') (hc : u = v) : Go w l R Z n0 y code ml ret pc' Ls st h cells slots := r.icF pc' hd hp (teq hc).2
theorem Go.ic_ne {o : Int} {u v : Int32} (r : Go w l R Z n0 y code ml ret pc Ls (.int v :: .int u :: st) h cells slots) (pcT pcF : Nat) (hd : decode code pc = .ok (.if_icmp .ne o, 3)) (hp : (pc : Int) + o = pcT) (hq : pc + 3 = pcF) : ((¬ u = v) ∧ Go w l R Z n0 y code ml ret pcT Ls st h cells slots) ∨ ((u = v) ∧ Go w l R Z n0 y code ml ret pcF Ls st h cells slots) := by
  by_cases hc : ¬ u = v
  · exact Or.inl ⟨hc, r.ic_neT pcT hd hp hc⟩
  · exact Or.inr ⟨Classical.not_not.mp hc, r.ic_neF pcF hd hq (Classical.not_not.mp hc)⟩
theorem Go.if_ltT {o : Int} {u : Int32} (r : Go w l R Z n0 y code ml ret pc Ls (.int u :: st) h cells slots) (pc' : Nat) (hd : decode code pc = .ok (.ifCond .lt o, 3)) (hp : (pc : Int) + o = pc') (hc : u < 0) : Go w l R Z n0 y code ml ret pc' Ls st h cells slots := r.ifT pc' hd hp ((if0 _ _).trans (tlt hc).1)
theorem Go.if_ltF {o : Int} {u : Int32} (r : Go w l R Z n0 y code ml ret pc Ls (.int u :: st) h cells slots) (pc' : Nat) (hd : decode code pc = .ok (.ifCond .lt o, 3)) (hp : pc + 3 = pc') (hc : ¬ u < 0) : Go w l R Z n0 y code ml ret pc' Ls st h cells slots := r.ifF pc' hd hp ((if0 _ _).trans (flt hc).1)
theorem Go.if_lt {o : Int} {u : Int32} (r : Go w l R Z n0 y code ml ret pc Ls (.int u :: st) h cells slots) (pcT pcF : Nat) (hd : decode code pc = .ok (.ifCond .lt o, 3)) (hp : (pc : Int) + o = pcT) (hq : pc + 3 = pcF) : ((u < 0) ∧ Go w l R Z n0 y code ml ret pcT Ls st h cells slots) ∨ ((¬ u < 0) ∧ Go w l R Z n0 y code ml ret pcF Ls st h cells slots) := by
  by_cases hc : u < 0
  · exact Or.inl ⟨hc, r.if_ltT pcT hd hp hc⟩
  · exact Or.inr ⟨hc, r.if_ltF pcF hd hq hc⟩
theorem Go.ic_ltT {o : Int} {u v : Int32} (r : Go w l R Z n0 y code ml ret pc Ls (.int v :: .int u :: st) h cells slots) (pc' : Nat) (hd : decode code pc = .ok (.if_icmp .lt o, 3)) (hp : (pc : Int) + o = pc') (hc : u < v) : Go w l R Z n0 y code ml ret pc' Ls st h cells slots := r.icT pc' hd hp (tlt hc).1
theorem Go.ic_ltF {o : Int} {u v : Int32} (r : Go w l R Z n0 y code ml ret pc Ls (.int v :: .int u :: st) h cells slots) (pc' : Nat) (hd : decode code pc = .ok (.if_icmp .lt o, 3)) (hp : pc + 3 = pc') (hc : ¬ u < v) : Go w l R Z n0 y code ml ret pc' Ls st h cells slots := r.icF pc' hd hp (flt hc).1
theorem Go.ic_lt {o : Int} {u v : Int32} (r : Go w l R Z n0 y code ml ret pc Ls (.int v :: .int u :: st) h cells slots) (pcT pcF : Nat) (hd : decode code pc = .ok (.if_icmp .lt o, 3)) (hp : (pc : Int) + o = pcT) (hq : pc + 3 = pcF) : ((u < v) ∧ Go w l R Z n0 y code ml ret pcT Ls st h cells slots) ∨ ((¬ u < v) ∧ Go w l R Z n0 y code ml ret pcF Ls st h cells slots) := by
  by_cases hc : u < v
  · exact Or.inl ⟨hc, r.ic_ltT pcT hd hp hc⟩
  · exact Or.inr ⟨hc, r.ic_ltF pcF hd hq hc⟩
theorem Go.if_geT {o : Int} {u : Int32} (r : Go w l R Z n0 y code ml ret pc Ls (.int u :: st) h cells slots) (pc' : Nat) (hd : decode code pc = .ok (.ifCond .ge o, 3)) (hp : (pc : Int) + o = pc') (hc : ¬ u < 0) : Go w l R Z n0 y code ml ret pc' Ls st h cells slots := r.ifT pc' hd hp ((if0 _ _).trans (flt hc).2.1)
theorem Go.if_geF {o : Int} {u : Int32} (r : Go w l R Z n0 y code ml ret pc Ls (.int u :: st) h cells slots) (pc' : Nat) (hd : decode code pc = .ok (.ifCond .ge o, 3)) (hp : pc + 3 = pc') (hc : u < 0) : Go w l R Z n0 y code ml ret pc' Ls st h cells slots := r.ifF pc' hd hp ((if0 _ _).trans (tlt hc).2.1)
theorem Go.if_ge {o : Int} {u : Int32} (r : Go w l R Z n0 y code ml ret pc Ls (.int u :: st) h cells slots) (pcT pcF : Nat) (hd : decode code pc = .ok (.ifCond .ge o, 3)) (hp : (pc : Int) + o = pcT) (hq : pc + 3 = pcF) : ((¬ u < 0) ∧ Go w l R Z n0 y code ml ret pcT Ls st h cells slots) ∨ ((u < 0) ∧ Go w l R Z n0 y code ml ret pcF Ls st h cells slots) := by
  by_cases hc : ¬ u < 0
  · exact Or.inl ⟨hc, r.if_geT pcT hd hp hc⟩
  · exact Or.inr ⟨Classical.not_not.mp hc, r.if_geF pcF hd hq (Classical.not_not.mp hc)⟩
theorem Go.ic_geT {o : Int} {u v : Int32} (r : Go w l R Z n0 y code ml ret pc Ls (.int v :: .int u :: st) h cells slots) (pc' : Nat) (hd : decode code pc = .ok (.if_icmp .ge o, 3)) (hp : (pc : Int) + o = pc') (hc : ¬ u < v) : Go w l R Z n0 y code ml ret pc' Ls st h cells slots := r.icT pc' hd hp (flt hc).2.1
theorem Go.ic_geF {o : Int} {u v : Int32} (r : Go w l R Z n0 y code ml ret pc Ls (.int v :: .int u :: st) h cells slots) (pc' : Nat) (hd : decode code pc = .ok (.if_icmp .ge o, 3)) (hp : pc + 3 = pc') (hc : u < v) : Go w l R Z n0 y code ml ret pc' Ls st h cells slots := r.icF pc' hd hp (tlt hc).2.1
theorem Go.ic_ge {o : Int} {u v : Int32} (r : Go w l R Z n0 y code ml ret pc Ls (.int v :: .int u :: st) h cells slots) (pcT pcF : Nat) (hd : decode code pc = .ok (.if_icmp .ge o, 3)) (hp : (pc : Int) + o = pcT) (hq : pc + 3 = pcF) : ((¬ u < v) ∧ Go w l R Z n0 y code ml ret pcT Ls st h cells slots) ∨ ((u < v) ∧ Go w l R Z n0 y code ml ret pcF Ls st h cells slots) := by
  by_cases hc : ¬ u < v
  · exact Or.inl ⟨hc, r.ic_geT pcT hd hp hc⟩
  · exact Or.inr ⟨Classical.not_not.mp hc, r.ic_geF pcF hd hq (Classical.not_not.mp hc)⟩
theorem Go.if_gtT {o : Int} {u : Int32} (r : Go w l R Z n0 y code ml ret pc Ls (.int u :: st) h cells slots) (pc' : Nat) (hd : decode code pc = .ok (.ifCond .gt o, 3)) (hp : (pc : Int) + o = pc') (hc : 0 < u) : Go w l R Z n0 y code ml ret pc' Ls st h cells slots := r.ifT pc' hd hp ((if0 _ _).trans (tlt hc).2.2.1)
theorem Go.if_gtF {o : Int} {u : Int32} (r : Go w l R Z n0 y code ml ret pc Ls (.int u :: st) h cells slots) (pc' : Nat) (hd : decode code pc = .ok (.ifCond .gt o, 3)) (hp : pc + 3 = pc') (hc : ¬ 0 < u) : Go w l R Z n0 y code ml ret pc' Ls st h cells slots := r.ifF pc' hd hp ((if0 _ _).trans (flt hc).2.2.1)
theorem Go.if_gt {o : Int} {u : Int32} (r : Go w l R Z n0 y code ml ret pc Ls (.int u :: st) h cells slots) (pcT pcF : Nat) (hd : decode code pc = .ok (.ifCond .gt o, 3)) (hp : (pc : Int) + o = pcT) (hq : pc + 3 = pcF) : ((0 < u) ∧ Go w l R Z n0 y code ml ret pcT Ls st h cells slots) ∨ ((¬ 0 < u) ∧ Go w l R Z n0 y code ml ret pcF Ls st h cells slots) := by
  by_cases hc : 0 < u
  · exact Or.inl ⟨hc, r.if_gtT pcT hd hp hc⟩
  · exact Or.inr ⟨hc, r.if_gtF pcF hd hq hc⟩
theorem Go.ic_gtT {o : Int} {u v : Int32} (r : Go w l R Z n0 y code ml ret pc Ls (.int v :: .int u :: st) h cells slots) (pc' : Nat) (hd : decode code pc = .ok (.if_icmp .gt o, 3)) (hp : (pc : Int) + o = pc') (hc : v < u) : Go w l R Z n0 y code ml ret pc' Ls st h cells slots := r.icT pc' hd hp (tlt hc).2.2.1
theorem Go.ic_gtF {o : Int} {u v : Int32} (r : Go w l R Z n0 y code ml ret pc Ls (.int v :: .int u :: st) h cells slots) (pc' : Nat) (hd : decode code pc = .ok (.if_icmp .gt o, 3)) (hp : pc + 3 = pc') (hc : ¬ v < u) : Go w l R Z n0 y code ml ret pc' Ls st h cells slots := r.icF pc' hd hp (flt hc).2.2.1
theorem Go.ic_gt {o : Int} {u v : Int32} (r : Go w l R Z n0 y code ml ret pc Ls (.int v :: .int u :: st) h cells slots) (pcT pcF : Nat) (hd : decode code pc = .ok (.if_icmp .gt o, 3)) (hp : (pc : Int) + o = pcT) (hq : pc + 3 = pcF) : ((v < u) ∧ Go w l R Z n0 y code ml ret pcT Ls st h cells slots) ∨ ((¬ v < u) ∧ Go w l R Z n0 y code ml ret pcF Ls st h cells slots) := by
  by_cases hc : v < u
  · exact Or.inl ⟨hc, r.ic_gtT pcT hd hp hc⟩
  · exact Or.inr ⟨hc, r.ic_gtF pcF hd hq hc⟩
theorem Go.if_leT {o : Int} {u : Int32} (r : Go w l R Z n0 y code ml ret pc Ls (.int u :: st) h cells slots) (pc' : Nat) (hd : decode code pc = .ok (.ifCond .le o, 3)) (hp : (pc : Int) + o = pc') (hc : ¬ 0 < u) : Go w l R Z n0 y code ml ret pc' Ls st h cells slots := r.ifT pc' hd hp ((if0 _ _).trans (flt hc).2.2.2)
theorem Go.if_leF {o : Int} {u : Int32} (r : Go w l R Z n0 y code ml ret pc Ls (.int u :: st) h cells slots) (pc' : Nat) (hd : decode code pc = .ok (.ifCond .le o, 3)) (hp : pc + 3 = pc') (hc : 0 < u) : Go w l R Z n0 y code ml ret pc' Ls st h cells slots := r.ifF pc' hd hp ((if0 _ _).trans (tlt hc).2.2.2)
theorem Go.if_le {o : Int} {u : Int32} (r : Go w l R Z n0 y code ml ret pc Ls (.int u :: st) h cells slots) (pcT pcF : Nat) (hd : decode code pc = .ok (.ifCond .le o, 3)) (hp : (pc : Int) + o = pcT) (hq : pc + 3 = pcF) : ((¬ 0 < u) ∧ Go w l R Z n0 y code ml ret pcT Ls st h cells slots) ∨ ((0 < u) ∧ Go w l R Z n0 y code ml ret pcF Ls st h cells slots) := by
  by_cases hc : ¬ 0 < u
  · exact Or.inl ⟨hc, r.if_leT pcT hd hp hc⟩
  · exact Or.inr ⟨Classical.not_not.mp hc, r.if_leF pcF hd hq (Classical.not_not.mp hc)⟩
theorem Go.ic_leT {o : Int} {u v : Int32} (r : Go w l R Z n0 y code ml ret pc Ls (.int v :: .int u :: st) h cells slots) (pc' : Nat) (hd : decode code pc = .ok (.if_icmp .le o, 3)) (hp : (pc : Int) + o = pc') (hc : ¬ v < u) : Go w l R Z n0 y code ml ret pc' Ls st h cells slots := r.icT pc' hd hp (flt hc).2.2.2
theorem Go.ic_leF {o : Int} {u v : Int32} (r : Go w l R Z n0 y code ml ret pc Ls (.int v :: .int u :: st) h cells slots) (pc' : Nat) (hd : decode code pc = .ok (.if_icmp .le o, 3)) (hp : pc + 3 = pc') (hc : v < u) : Go w l R Z n0 y code ml ret pc' Ls st h cells slots := r.icF pc' hd hp (tlt hc).2.2.2
theorem Go.ic_le {o : Int} {u v : Int32} (r : Go w l R Z n0 y code ml ret pc Ls (.int v :: .int u :: st) h cells slots) (pcT pcF : Nat) (hd : decode code pc = .ok (.if_icmp .le o, 3)) (hp : (pc : Int) + o = pcT) (hq : pc + 3 = pcF) : ((¬ v < u) ∧ Go w l R Z n0 y code ml ret pcT Ls st h cells slots) ∨ ((v < u) ∧ Go w l R Z n0 y code ml ret pcF Ls st h cells slots) := by
  by_cases hc : ¬ v < u
  · exact Or.inl ⟨hc, r.ic_leT pcT hd hp hc⟩
  · exact Or.inr ⟨Classical.not_not.mp hc, r.ic_leF pcF hd hq (Classical.not_not.mp hc)⟩
/-! constants of the pool -/
theorem Go.ldcI {idx : Nat} {v : Int32} {a0 : Array Value} (r : Go w l R Z n0 y code ml ret pc Ls st h cells slots) (pc' : Nat) (hd : decode code pc = .ok (.ldc idx, 2)) (hp : pc + 2 = pc') (wc : (Cond.constant y.cls idx v).before a0 Z = true) : Go w l R Z n0 y code ml ret pc' Ls (.int v :: st) h cells slots := by
  subst hp
  obtain ⟨S, T, locs, X, e, N, k⟩ := r
  exact ⟨S, T, locs, X, e, N, fun t q => k t (X.ldcInt S.1 S.2.2.1 (mvT S.2.1 wc) (g := mkF w.m pc Ls.toArray st) rfl (hb S.2.2.2.1 hd) t q)⟩
theorem Go.ldc2 {idx : Nat} {v : Int64} {a0 : Array Value} (r : Go w l R Z n0 y code ml ret pc Ls st h cells slots) (pc' : Nat) (hd : decode code pc = .ok (.ldc2_w idx, 3)) (hp : pc + 3 = pc') (wc : (Cond.constantLong y.cls idx v).before a0 Z = true) : Go w l R Z n0 y code ml ret pc' Ls (.long v :: st) h cells slots := by
  subst hp
  obtain ⟨S, T, locs, X, e, N, k⟩ := r
  exact ⟨S, T, locs, X, e, N, fun t q => k t (X.ldc2Long S.1 S.2.2.1 (mvT S.2.1 wc) (g := mkF w.m pc Ls.toArray st) rfl (hb S.2.2.2.1 hd) t q)⟩
/-! fields -/
theorem Go.getF {idx : Nat} {O n d : String} {v : Value} {a : Addr} {a0 : Array Value} (r : Go w l R Z n0 y code ml ret pc Ls (.ref a :: st) h cells slots) (pc' : Nat) (hd : decode code pc = .ok (.getfield idx, 3)) (hp : pc + 3 = pc') (wf : (Cond.fieldLink y.cls idx O n d).before a0 Z = true) (F : Fld Z h a O n d v) : Go w l R Z n0 y code ml ret pc' Ls (v :: st) h cells slots := by
  subst hp
  obtain ⟨S, T, locs, X, e, N, k⟩ := r
  obtain ⟨T', X', e', q⟩ := Jvm.RoadKit.getF X S.1 S.2.1 S.2.2.1 (host := "") (Or.inl wf) Via.refl e F (g := mkF w.m pc Ls.toArray (.ref a :: st)) rfl rfl (hb S.2.2.2.1 hd)
  exact ⟨S, T', locs, X', e', N, fun t z => k t (q t z)⟩
/-- a field's place in an object of class C that may be written here: 'lays', or 'laysFinal' in a constructor of its own class -/
def Wry (Z : State) (a0 : Array Value) (y : MethodName) (C O n d : String) : Prop := (Cond.lays C O n d).before a0 Z = true ∨ ((Cond.laysFinal C O n d).before a0 Z = true ∧ y.cls = O ∧ y.name = "<init>")
theorem Go.putF {idx kk : Nat} {C O n d : String} {v old : Value} {a : Addr} {a0 : Array Value} (r : Go w l R Z n0 y code ml ret pc Ls (v :: .ref a :: st) h cells slots) (pc' : Nat) (hd : decode code pc = .ok (.putfield idx, 3)) (hp : pc + 3 = pc') (wf : (Cond.fieldLink y.cls idx O n d).before a0 Z = true) (wl : Wry Z a0 y C O n d) (wi : (Cond.instantiable C kk).before a0 Z = true) (E : Exa Z h a C) (F : Fld Z h a O n d old) {ty : FieldType} (hty : parseFieldDescriptor d = some ty) (hn : narrow ty v = v) (hf : fits ty v = true) (g0 : n0 ≤ a) :
    ∃ h', Wr h h' a (Jvm.RoadKit.slotOf Z O n d) v ∧ Go w l R Z n0 y code ml ret pc' Ls st h' cells slots := by
  subst hp
  obtain ⟨S, T, locs, X, e, N, k⟩ := r
  obtain ⟨T', h', X', e', Wq, q⟩ := Jvm.RoadKit.putF X S.1 S.2.1 S.2.2.1 (host := "") (Or.inl wf) Via.refl e F E (wl.imp id fun z => ⟨z.1, z.2.1, S.2.2.2.2.2.2.2.trans z.2.2⟩) wi hty hn hf (g := mkF w.m pc Ls.toArray (v :: .ref a :: st)) rfl rfl (hb S.2.2.2.1 hd)
  exact ⟨h', Wq, S, T', _, X', e', Fr.snoc X' N g0, fun t z => k t (q t z)⟩
theorem Go.putFN {idx kk : Nat} {C O n d : String} {v v' old : Value} {a : Addr} {a0 : Array Value} (r : Go w l R Z n0 y code ml ret pc Ls (v :: .ref a :: st) h cells slots) (pc' : Nat) (hd : decode code pc = .ok (.putfield idx, 3)) (hp : pc + 3 = pc') (wf : (Cond.fieldLink y.cls idx O n d).before a0 Z = true) (wl : Wry Z a0 y C O n d) (wi : (Cond.instantiable C kk).before a0 Z = true) (E : Exa Z h a C) (F : Fld Z h a O n d old) {ty : FieldType} (hty : parseFieldDescriptor d = some ty) (hn : narrow ty v = v') (hf : fits ty v' = true) (g0 : n0 ≤ a) :
    ∃ h', Wr h h' a (Jvm.RoadKit.slotOf Z O n d) v' ∧ Go w l R Z n0 y code ml ret pc' Ls st h' cells slots := by
  subst hp
  obtain ⟨S, T, locs, X, e, N, k⟩ := r
  obtain ⟨T', h', X', e', Wq, q⟩ := Jvm.RoadKit.putFN X S.1 S.2.1 S.2.2.1 wf Via.refl e F E (wl.imp id fun z => ⟨z.1, z.2.1, S.2.2.2.2.2.2.2.trans z.2.2⟩) wi hty hn hf (g := mkF w.m pc Ls.toArray (v :: .ref a :: st)) rfl rfl (hb S.2.2.2.1 hd)
  exact ⟨h', Wq, S, T', _, X', e', Fr.snoc X' N g0, fun t z => k t (q t z)⟩
/-! making -/
theorem Go.newO {idx n : Nat} {C : String} {a0 : Array Value} (r : Go w l R Z n0 y code ml ret pc Ls st h cells slots) (pc' : Nat) (hd : decode code pc = .ok (.new idx, 3)) (hp : pc + 3 = pc') (w1 : (Cond.classLink y.cls idx C).before a0 Z = true) (w2 : (Cond.instantiable C n).before a0 Z = true) (w3 : (Cond.initialized C).before a0 Z = true) (hc : cells + 1 ≤ R.cells) (hs : slots + n ≤ R.slots) :
    ∃ h' a, a = h.size ∧ Ext h h' ∧ Exa Z h' a C ∧ (∀ {O nm d : String} {ty : FieldType}, Laid Z a0 C O nm d → parseFieldDescriptor d = some ty → Fld Z h' a O nm d (defaultValue ty)) ∧ Go w l R Z n0 y code ml ret pc' Ls (.ref a :: st) h' (cells + 1) (slots + n) := by
  subst hp
  obtain ⟨S, T, locs, X, e, N, k⟩ := r
  obtain ⟨T', h', X', e', E, A, D, -, q⟩ := Jvm.RoadKit.newO X S.1 S.2.1 S.2.2.1 w1 w2 w3 e (g := mkF w.m pc Ls.toArray st) rfl (hb S.2.2.2.1 hd) hc hs
  exact ⟨h', h.size, rfl, E, A, D, S, T', locs, X', e', N, fun t z => k t (q t z)⟩
/-- an array with all its components -/
def Ary (Z : State) (h : Heap) (a : Addr) (ty : FieldType) (vs : List Value) : Prop := ∃ k d, Arv Z h a k ty (Int32.ofNat vs.length) vs d ∧ vs.length < 2 ^ 31
theorem len_nat {n : Nat} (h : n < 2 ^ 31) : (Int32.ofNat n).toNatClampNeg = n := by
  have := Int32.toInt_ofNat_small h
  simp only [Int32.toNatClampNeg]; omega
theorem len_nn {n : Nat} (h : n < 2 ^ 31) : ¬ Int32.ofNat n < 0 := by
  rw [Int32.lt_iff_toInt_lt, Int32.toInt_ofNat_small h]; have : (0 : Int32).toInt = 0 := rfl; omega
theorem nn_back {n : Int32} (h : ¬ n < 0) : Int32.ofNat n.toNatClampNeg = n := by
  have h1 := (back32 h).1
  simpa using h1
variable {a b : Addr} {ty : FieldType} {vs : List Value} {h' : Heap}
theorem Ary.lt (A : Ary Z h a ty vs) : a < h.size := by obtain ⟨k, d, V, -⟩ := A; exact V.lt
theorem Ary.ext (A : Ary Z h a ty vs) (E : Ext h h') : Ary Z h' a ty vs := by obtain ⟨k, d, V, q⟩ := A; exact ⟨k, d, V.ext E, q⟩
theorem Ary.other {v : Value} {sl : Nat} (A : Ary Z h b ty vs) (Wq : Wr h h' a sl v) (q : b ≠ a) : Ary Z h' b ty vs := by obtain ⟨k, d, V, z⟩ := A; exact ⟨k, d, V.other Wq q, z⟩
theorem Ary.keep {ws : List Addr} (A : Ary Z h a ty vs) (K : Keep h h' ws) (q : a ∉ ws) : Ary Z h' a ty vs := by obtain ⟨k, d, V, z⟩ := A; exact ⟨k, d, V.keep K q, z⟩
theorem Ary.len (A : Ary Z h a ty vs) : vs.length < 2 ^ 31 := by obtain ⟨k, d, V, z⟩ := A; exact z
theorem Ary.unf (A : Ary Z h a ty vs) : ∃ c : Cell, Arr Z h a c ty ∧ c.slots.size = vs.length ∧ (∀ i : Nat, i < vs.length → c.slots[i]? = vs[i]?) ∧ c.slots.size.toInt32 = Int32.ofNat vs.length := by
  obtain ⟨k, d, ⟨c, A1, A2, A3, A4, A5, A6⟩, z⟩ := A
  have e := len_nat z
  rw [e] at A3
  refine ⟨c, A1, A3, fun i hi => ?_, by rw [A3]⟩
  rw [A5 i (by omega), List.getD_eq_getElem?_getD, List.getElem?_eq_getElem hi]; rfl
theorem Ary.set {v : Value} {j : Int32} (A : Ary Z h a ty vs) (Wq : Wr h h' a j.toNatClampNeg v) (hf : fits ty v = true) (hj : j.toNatClampNeg < vs.length) : Ary Z h' a ty (vs.set j.toNatClampNeg v) := by
  obtain ⟨k, d, ⟨c, A1, A2, A3, A4, A5, A6⟩, z⟩ := A
  refine ⟨k, d, ?_, by simpa using z⟩
  have := Arv.set A1 A2 A3 A4 A5 A6 hf Wq _ rfl hj
  simpa using this
theorem Go.newA {aty : ArrayType} {n : Int32} {vs : List Value} {a0 : Array Value} (r : Go w l R Z n0 y code ml ret pc Ls (.int n :: st) h cells slots) (pc' : Nat) (hd : decode code pc = .ok (.newarray aty, 2)) (hp : pc + 2 = pc') (w1 : (Cond.arrayClass (newarray.typeOf aty)).before a0 Z = true) (hn : ¬ n < 0) (hv : List.replicate n.toNatClampNeg (defaultValue (newarray.typeOf aty)) = vs) (cap : Nat) (hcap : n.toNatClampNeg ≤ cap) (hb8 : cap * 8 ≤ 536870912) (hc : cells + 1 ≤ R.cells) (hs : slots + cap ≤ R.slots) :
    ∃ h' a, a = h.size ∧ Ext h h' ∧ Ary Z h' a (newarray.typeOf aty) vs ∧ Go w l R Z n0 y code ml ret pc' Ls (.ref a :: st) h' (cells + 1) (slots + cap) := by
  subst hp
  obtain ⟨S, T, locs, X, e, N, k⟩ := r
  obtain ⟨T', h', kA, X', e', E, A, q⟩ := Jvm.RoadKit.newP X S.1 S.2.1 w1 e (g := mkF w.m pc Ls.toArray (.int n :: st)) rfl (hb S.2.2.2.1 hd) rfl hn hcap hb8 hc hs
  refine ⟨h', h.size, rfl, E, ?_, S, T', locs, X', e', N, fun t z => k t (q t z)⟩
  have hl : vs.length = n.toNatClampNeg := by rw [← hv]; simp
  refine ⟨kA, defaultValue (newarray.typeOf aty), ?_, by rw [hl]; exact (back32 hn).2⟩
  rw [hl, nn_back hn, ← hv]
  exact (Arv.new A hn).pad (by simpa using pad_rep [] (defaultValue (newarray.typeOf aty)) n.toNatClampNeg)
/-! arrays -/
theorem inb {j : Int32} {n : Nat} (h0 : ¬ j < 0) (hj : j.toNatClampNeg < n) : ¬ (j < 0 ∨ n ≤ j.toNatClampNeg) := fun q => q.elim h0 (Nat.not_le.mpr hj)
theorem Go.alen (r : Go w l R Z n0 y code ml ret pc Ls (.ref a :: st) h cells slots) (pc' : Nat) (hd : decode code pc = .ok (.arraylength, 1)) (hp : pc + 1 = pc') (A : Ary Z h a ty vs) (n : Int32) (hn : Int32.ofNat vs.length = n) : Go w l R Z n0 y code ml ret pc' Ls (.int n :: st) h cells slots := by
  subst hp hn
  obtain ⟨S, T, locs, X, e, N, k⟩ := r
  obtain ⟨c, A1, A2, A3, A4⟩ := A.unf
  exact ⟨S, T, locs, X, e, N, fun t q => k t (X.arraylength S.1 (by rw [e]; exact A1.1) (State.isArrayOf_alike S.2.1.alike A1.2.1) (g := mkF w.m pc Ls.toArray (.ref a :: st)) rfl rfl (hb S.2.2.2.1 hd) t (by rw [A4]; exact q))⟩
theorem Go.iald {j : Int32} {v : Value} (r : Go w l R Z n0 y code ml ret pc Ls (.int j :: .ref a :: st) h cells slots) (pc' : Nat) (hd : decode code pc = .ok (.iaload, 1)) (hp : pc + 1 = pc') (A : Ary Z h a .int vs) (h0 : ¬ j < 0) (hv : vs[j.toNatClampNeg]? = some v) : Go w l R Z n0 y code ml ret pc' Ls (v :: st) h cells slots := by
  subst hp
  obtain ⟨S, T, locs, X, e, N, k⟩ := r
  obtain ⟨c, A1, A2, A3, A4⟩ := A.unf
  have hj := (List.getElem?_eq_some_iff.mp hv).1
  exact ⟨S, T, locs, X, e, N, fun t q => k t (X.iaload S.1 (by rw [e]; exact A1.1) (State.isArrayOf_alike S.2.1.alike A1.2.1) A1.2.2 (by rw [A2]; exact inb h0 hj) ((A3 _ hj).trans hv) (g := mkF w.m pc Ls.toArray (.int j :: .ref a :: st)) rfl rfl (hb S.2.2.2.1 hd) t q)⟩
theorem Go.lald {j : Int32} {v : Value} (r : Go w l R Z n0 y code ml ret pc Ls (.int j :: .ref a :: st) h cells slots) (pc' : Nat) (hd : decode code pc = .ok (.laload, 1)) (hp : pc + 1 = pc') (A : Ary Z h a .long vs) (h0 : ¬ j < 0) (hv : vs[j.toNatClampNeg]? = some v) : Go w l R Z n0 y code ml ret pc' Ls (v :: st) h cells slots := by
  subst hp
  obtain ⟨S, T, locs, X, e, N, k⟩ := r
  obtain ⟨c, A1, A2, A3, A4⟩ := A.unf
  have hj := (List.getElem?_eq_some_iff.mp hv).1
  exact ⟨S, T, locs, X, e, N, fun t q => k t (X.laload S.1 (by rw [e]; exact A1.1) (State.isArrayOf_alike S.2.1.alike A1.2.1) A1.2.2 (by rw [A2]; exact inb h0 hj) ((A3 _ hj).trans hv) (g := mkF w.m pc Ls.toArray (.int j :: .ref a :: st)) rfl rfl (hb S.2.2.2.1 hd) t q)⟩
theorem Go.bald {j : Int32} {v : Value} (r : Go w l R Z n0 y code ml ret pc Ls (.int j :: .ref a :: st) h cells slots) (pc' : Nat) (hd : decode code pc = .ok (.baload, 1)) (hp : pc + 1 = pc') (A : Ary Z h a .byte vs) (h0 : ¬ j < 0) (hv : vs[j.toNatClampNeg]? = some v) : Go w l R Z n0 y code ml ret pc' Ls (v :: st) h cells slots := by
  subst hp
  obtain ⟨S, T, locs, X, e, N, k⟩ := r
  obtain ⟨c, A1, A2, A3, A4⟩ := A.unf
  have hj := (List.getElem?_eq_some_iff.mp hv).1
  exact ⟨S, T, locs, X, e, N, fun t q => k t (X.baloadBytes S.1 (by rw [e]; exact A1.1) (State.isArrayOf_alike S.2.1.alike A1.2.1) A1.2.2 (by rw [A2]; exact inb h0 hj) ((A3 _ hj).trans hv) (g := mkF w.m pc Ls.toArray (.int j :: .ref a :: st)) rfl rfl (hb S.2.2.2.1 hd) t q)⟩
theorem Go.zald {j : Int32} {v : Value} (r : Go w l R Z n0 y code ml ret pc Ls (.int j :: .ref a :: st) h cells slots) (pc' : Nat) (hd : decode code pc = .ok (.baload, 1)) (hp : pc + 1 = pc') (A : Ary Z h a .boolean vs) (h0 : ¬ j < 0) (hv : vs[j.toNatClampNeg]? = some v) : Go w l R Z n0 y code ml ret pc' Ls (v :: st) h cells slots := by
  subst hp
  obtain ⟨S, T, locs, X, e, N, k⟩ := r
  obtain ⟨c, A1, A2, A3, A4⟩ := A.unf
  have hj := (List.getElem?_eq_some_iff.mp hv).1
  exact ⟨S, T, locs, X, e, N, fun t q => k t (X.baloadBooleans S.1 (by rw [e]; exact A1.1) (State.isArrayOf_alike S.2.1.alike A1.2.1) A1.2.2 (by rw [A2]; exact inb h0 hj) ((A3 _ hj).trans hv) (g := mkF w.m pc Ls.toArray (.int j :: .ref a :: st)) rfl rfl (hb S.2.2.2.1 hd) t q)⟩
theorem Go.iast {j x : Int32} (r : Go w l R Z n0 y code ml ret pc Ls (.int x :: .int j :: .ref a :: st) h cells slots) (pc' : Nat) (hd : decode code pc = .ok (.iastore, 1)) (hp : pc + 1 = pc') (A : Ary Z h a .int vs) (h0 : ¬ j < 0) (hj : j.toNatClampNeg < vs.length) (g0 : n0 ≤ a) :
    ∃ h', Wr h h' a j.toNatClampNeg (.int x) ∧ Ary Z h' a .int (vs.set j.toNatClampNeg (.int x)) ∧ Go w l R Z n0 y code ml ret pc' Ls st h' cells slots := by
  subst hp
  obtain ⟨S, T, locs, X, e, N, k⟩ := r
  obtain ⟨c, A1, A2, A3, A4⟩ := A.unf
  obtain ⟨T', h', X', e', Wq, q⟩ := stI X S.1 S.2.1 e A1 (j := j) (by rw [A2]; exact inb h0 hj) (g := mkF w.m pc Ls.toArray (.int x :: .int j :: .ref a :: st)) rfl rfl (hb S.2.2.2.1 hd)
  exact ⟨h', Wq, A.set Wq rfl hj, S, T', _, X', e', Fr.snoc X' N g0, fun t z => k t (q t z)⟩
theorem Go.last {j : Int32} {x : Int64} (r : Go w l R Z n0 y code ml ret pc Ls (.long x :: .int j :: .ref a :: st) h cells slots) (pc' : Nat) (hd : decode code pc = .ok (.lastore, 1)) (hp : pc + 1 = pc') (A : Ary Z h a .long vs) (h0 : ¬ j < 0) (hj : j.toNatClampNeg < vs.length) (g0 : n0 ≤ a) :
    ∃ h', Wr h h' a j.toNatClampNeg (.long x) ∧ Ary Z h' a .long (vs.set j.toNatClampNeg (.long x)) ∧ Go w l R Z n0 y code ml ret pc' Ls st h' cells slots := by
  subst hp
  obtain ⟨S, T, locs, X, e, N, k⟩ := r
  obtain ⟨c, A1, A2, A3, A4⟩ := A.unf
  obtain ⟨T', h', X', e', Wq, q⟩ := stJ X S.1 S.2.1 e A1 (j := j) (by rw [A2]; exact inb h0 hj) (g := mkF w.m pc Ls.toArray (.long x :: .int j :: .ref a :: st)) rfl rfl (hb S.2.2.2.1 hd)
  exact ⟨h', Wq, A.set Wq rfl hj, S, T', _, X', e', Fr.snoc X' N g0, fun t z => k t (q t z)⟩
theorem Go.bast {j x : Int32} (r : Go w l R Z n0 y code ml ret pc Ls (.int x :: .int j :: .ref a :: st) h cells slots) (pc' : Nat) (hd : decode code pc = .ok (.bastore, 1)) (hp : pc + 1 = pc') (A : Ary Z h a .byte vs) (h0 : ¬ j < 0) (hj : j.toNatClampNeg < vs.length) (g0 : n0 ≤ a) :
    ∃ h', Wr h h' a j.toNatClampNeg (.int x.toInt8.toInt32) ∧ Ary Z h' a .byte (vs.set j.toNatClampNeg (.int x.toInt8.toInt32)) ∧ Go w l R Z n0 y code ml ret pc' Ls st h' cells slots := by
  subst hp
  obtain ⟨S, T, locs, X, e, N, k⟩ := r
  obtain ⟨c, A1, A2, A3, A4⟩ := A.unf
  obtain ⟨T', h', X', e', Wq, q⟩ := stB X S.1 S.2.1 e A1 (j := j) (by rw [A2]; exact inb h0 hj) (g := mkF w.m pc Ls.toArray (.int x :: .int j :: .ref a :: st)) rfl rfl (hb S.2.2.2.1 hd)
  exact ⟨h', Wq, A.set Wq (fits_nar_byte _) hj, S, T', _, X', e', Fr.snoc X' N g0, fun t z => k t (q t z)⟩
theorem Go.zast {j x : Int32} (r : Go w l R Z n0 y code ml ret pc Ls (.int x :: .int j :: .ref a :: st) h cells slots) (pc' : Nat) (hd : decode code pc = .ok (.bastore, 1)) (hp : pc + 1 = pc') (A : Ary Z h a .boolean vs) (h0 : ¬ j < 0) (hj : j.toNatClampNeg < vs.length) (g0 : n0 ≤ a) :
    ∃ h', Wr h h' a j.toNatClampNeg (.int (x &&& 1)) ∧ Ary Z h' a .boolean (vs.set j.toNatClampNeg (.int (x &&& 1))) ∧ Go w l R Z n0 y code ml ret pc' Ls st h' cells slots := by
  subst hp
  obtain ⟨S, T, locs, X, e, N, k⟩ := r
  obtain ⟨c, A1, A2, A3, A4⟩ := A.unf
  obtain ⟨T', h', X', e', Wq, q⟩ := stZ X S.1 S.2.1 e A1 (j := j) (by rw [A2]; exact inb h0 hj) (g := mkF w.m pc Ls.toArray (.int x :: .int j :: .ref a :: st)) rfl rfl (hb S.2.2.2.1 hd)
  exact ⟨h', Wq, A.set Wq (fits_nar_bool _) hj, S, T', _, X', e', Fr.snoc X' N g0, fun t z => k t (q t z)⟩
/-! calls -/
def wt (st : List Value) : Nat := (st.map fun v => v.category).sum
variable {y' : MethodName} {code' : ByteArray} {ml' : Nat} {ret' : Option FieldType} {rm : Room} {as rest : List Value} {Q : Option Value → Heap → Prop} {ps : List FieldType} {rt : Option FieldType} {a0 : Array Value} {idx : Nat}
theorem Go.callS (r : Go w l R Z n0 y code ml ret pc Ls st h cells slots) (pc' : Nat) (hd : decode code pc = .ok (.invokestatic idx, 3)) (hp : pc + 3 = pc') (M : Met l Z y' code' ml' ret' rm as h n0 Q) (w1 : (Cond.methodLink y.cls idx y').before a0 Z = true) (w2 : (Cond.static y').before a0 Z = true) (w3 : (Cond.initialized y'.cls).before a0 Z = true) (w4 : (Cond.code y' code' ml' ret').before a0 Z = true)
    (hpd : parseMethodDescriptor y'.desc = some ⟨ps, rt⟩) (hlen : as.length = ps.length) (hst : st = as.reverse ++ rest) (hLs : Ls.length = ml) (hy : y'.cls ≠ "java/lang/invoke/MethodHandle" ∧ y'.cls ≠ "java/lang/invoke/VarHandle") (hf : rm.frames + 1 ≤ R.frames) (hl : wt rest + (ml' + 11) + rm.locals ≤ R.locals) (hc : cells + rm.cells ≤ R.cells) (hs : slots + rm.slots ≤ R.slots) :
    ∃ v h', Q v h' ∧ Go w l R Z n0 y code ml ret pc' Ls (v.toList ++ rest) h' (cells + rm.cells) (slots + rm.slots) := by
  subst hp hst
  obtain ⟨S, T, locs, X, e, N, k⟩ := r
  obtain ⟨v, _, ⟨T', L', k', n'⟩, -, X', ⟨Lc, hQ, l', y2, z2⟩, q⟩ := Jvm.LawKit.callS X S.1 (y := y') S.2.2.1 (mvT S.2.1 w1) (mvT S.2.1 w2) (mvT S.2.1 w3) (mvT S.2.1 w4) hy (backOf (W := wt rest) (Q := fun v h L => Q v h ∧ Fr n0 L) (M []) S.2.1 w4 w3 hf hl) (g := mkF w.m pc Ls.toArray (as.reverse ++ rest)) rfl (by rw [S.2.2.2.2.1]; simpa using hLs) (argsL := as) (rest := rest) (lenOf hpd hlen) rfl (by show 2 * 0 + _ ≤ _; simp [wt]) (hb S.2.2.2.1 hd) (fun _ _ => ⟨rfl, e, hc, hs⟩)
  dsimp only [Pt.U, Pt.locs, Pt.cells, Pt.slots] at X' l' y2 z2 q hQ
  subst l' y2 z2
  exact ⟨v, T'.heap, hQ.1, S, T', _, X', rfl, N.app hQ.2, fun t z => k t (q t z)⟩
theorem Go.callI (r : Go w l R Z n0 y code ml ret pc Ls st h cells slots) (pc' : Nat) (hd : decode code pc = .ok (.invokespecial idx, 3)) (hp : pc + 3 = pc') (M : Met l Z y' code' ml' none rm (.ref a :: as) h n0 Q) (hin : y'.name = "<init>") (w1 : (Cond.methodLink y.cls idx y').before a0 Z = true) (w2 : (Cond.instanceMethod y').before a0 Z = true) (w3 : (Cond.initialized y'.cls).before a0 Z = true) (w4 : (Cond.code y' code' ml' none).before a0 Z = true)
    (hpd : parseMethodDescriptor y'.desc = some ⟨ps, rt⟩) (hlen : as.length = ps.length) (hst : st = as.reverse ++ .ref a :: rest) (hLs : Ls.length = ml) (hy : y'.cls ≠ "java/lang/invoke/MethodHandle" ∧ y'.cls ≠ "java/lang/invoke/VarHandle") (hf : rm.frames + 1 ≤ R.frames) (hl : wt rest + (ml' + 11) + rm.locals ≤ R.locals) (hc : cells + rm.cells ≤ R.cells) (hs : slots + rm.slots ≤ R.slots) :
    ∃ v h', Q v h' ∧ Go w l R Z n0 y code ml ret pc' Ls (v.toList ++ rest) h' (cells + rm.cells) (slots + rm.slots) := by
  subst hp hst
  obtain ⟨S, T, locs, X, e, N, k⟩ := r
  obtain ⟨v, _, ⟨T', L', k', n'⟩, -, X', ⟨Lc, hQ, l', y2, z2⟩, q⟩ := X.specialBack S.1 (y := y') hin S.2.2.1 (mvT S.2.1 w1) (mvT S.2.1 w2) (mvT S.2.1 w4) hy (backOf (W := wt rest) (Q := fun v h L => Q v h ∧ Fr n0 L) (M []) S.2.1 w4 w3 hf hl) (g := mkF w.m pc Ls.toArray (as.reverse ++ .ref a :: rest)) rfl (by rw [S.2.2.2.2.1]; simpa using hLs) (Steps.refl _) (a := a) (argsL := as) (rest := rest) (lenOf hpd hlen) rfl (by show 2 * 0 + _ ≤ _; simp [wt]) (hb S.2.2.2.1 hd) (fun _ _ => ⟨rfl, e, hc, hs⟩)
  dsimp only [Pt.U, Pt.locs, Pt.cells, Pt.slots] at X' l' y2 z2 q hQ
  subst l' y2 z2
  exact ⟨v, T'.heap, hQ.1, S, T', _, X', rfl, N.app hQ.2, fun t z => k t (q.trans z)⟩
theorem Go.callV (r : Go w l R Z n0 y code ml ret pc Ls st h cells slots) (pc' : Nat) (hd : decode code pc = .ok (.invokevirtual idx, 3)) (hp : pc + 3 = pc') (M : Met l Z y' code' ml' ret' rm (.ref a :: as) h n0 Q) (E : Exa Z h a y'.cls) (w1 : (Cond.methodLink y.cls idx y').before a0 Z = true) (wd : (Cond.declares y').before a0 Z = true) (w2 : (Cond.instanceMethod y').before a0 Z = true) (ws : (Cond.selects y'.cls y' y').before a0 Z = true) (w3 : (Cond.initialized y'.cls).before a0 Z = true) (w4 : (Cond.code y' code' ml' ret').before a0 Z = true)
    (hpd : parseMethodDescriptor y'.desc = some ⟨ps, rt⟩) (hlen : as.length = ps.length) (hst : st = as.reverse ++ .ref a :: rest) (hLs : Ls.length = ml) (hy : y'.cls ≠ "java/lang/invoke/MethodHandle" ∧ y'.cls ≠ "java/lang/invoke/VarHandle") (hf : rm.frames + 1 ≤ R.frames) (hl : wt rest + (ml' + 11) + rm.locals ≤ R.locals) (hc : cells + rm.cells ≤ R.cells) (hs : slots + rm.slots ≤ R.slots) :
    ∃ v h', Q v h' ∧ Go w l R Z n0 y code ml ret pc' Ls (v.toList ++ rest) h' (cells + rm.cells) (slots + rm.slots) := by
  subst hp hst
  obtain ⟨S, T, locs, X, e, N, k⟩ := r
  obtain ⟨cq, kq, qa, qb, qc⟩ := isOf S.2.1 e E
  obtain ⟨v, _, ⟨T', L', k', n'⟩, -, X', ⟨Lc, hQ, l', y2, z2⟩, q⟩ := X.virtualBack S.1 (y := y') (z := y') S.2.2.1 (mvT S.2.1 w1) (mvT S.2.1 wd) (notFace_of_selects (args := #[]) (mvT S.2.1 ws)) (mvT S.2.1 ws) (mvT S.2.1 w2) hy (backOf (W := wt rest) (Q := fun v h L => Q v h ∧ Fr n0 L) (M []) S.2.1 w4 w3 hf hl) qa qc (g := mkF w.m pc Ls.toArray (as.reverse ++ .ref a :: rest)) rfl (by rw [S.2.2.2.2.1]; simpa using hLs) (Steps.refl _) (argsL := as) (rest := rest) (lenOf hpd hlen) rfl (by show 2 * 0 + _ ≤ _; simp [wt]) (hb S.2.2.2.1 hd) (fun _ _ => ⟨rfl, e, hc, hs⟩)
  dsimp only [Pt.U, Pt.locs, Pt.cells, Pt.slots] at X' l' y2 z2 q hQ
  subst l' y2 z2
  exact ⟨v, T'.heap, hQ.1, S, T', _, X', rfl, N.app hQ.2, fun t z => k t (q.trans z)⟩
theorem Go.callP {kk : Nat} (r : Go w l R Z n0 y code ml ret pc Ls st h cells slots) (pc' : Nat) (hd : decode code pc = .ok (.invokevirtual idx, 3)) (hp : pc + 3 = pc') (M : Met l Z y' code' ml' ret' rm (.ref a :: as) h n0 Q) (E : Exa Z h a y'.cls) (w1 : (Cond.methodLink y.cls idx y').before a0 Z = true) (w2 : (Cond.instanceMethod y').before a0 Z = true) (wp : (Cond.privateMethod y').before a0 Z = true) (w3 : (Cond.initialized y'.cls).before a0 Z = true) (wi : (Cond.instantiable y'.cls kk).before a0 Z = true) (w4 : (Cond.code y' code' ml' ret').before a0 Z = true)
    (hpd : parseMethodDescriptor y'.desc = some ⟨ps, rt⟩) (hlen : as.length = ps.length) (hst : st = as.reverse ++ .ref a :: rest) (hLs : Ls.length = ml) (hy : y'.cls ≠ "java/lang/invoke/MethodHandle" ∧ y'.cls ≠ "java/lang/invoke/VarHandle") (hf : rm.frames + 1 ≤ R.frames) (hl : wt rest + (ml' + 11) + rm.locals ≤ R.locals) (hc : cells + rm.cells ≤ R.cells) (hs : slots + rm.slots ≤ R.slots) :
    ∃ v h', Q v h' ∧ Go w l R Z n0 y code ml ret pc' Ls (v.toList ++ rest) h' (cells + rm.cells) (slots + rm.slots) := by
  subst hp hst
  obtain ⟨S, T, locs, X, e, N, k⟩ := r
  obtain ⟨cq, q1, q2⟩ := E.cell
  obtain ⟨c1, k1, b1, b2, -, b3, -, -⟩ := Cond.instantiable_spec (show (Cond.instantiable y'.cls kk).before w.args w.s = true from mvT S.2.1 wi)
  have hsel : (Cond.selects y'.cls y' y').before w.args w.s = true := selects_self_of_private b1 b2 (Bool.or_eq_false_iff.mp b3).1 (Cond.privateMethod_at (mvP S.2.1 wp (args := w.args))) (mvT S.2.1 w2) hy
  obtain ⟨v, _, ⟨T', L', k', n'⟩, -, X', ⟨Lc, hQ, l', y2, z2⟩, q⟩ := X.privateBack S.1 (y := y') S.2.2.1 (mvT S.2.1 w1) (mvT S.2.1 w2) hsel (Cond.privateMethod_at (mvP S.2.1 wp (args := w.args))) (mvT S.2.1 w4) hy (backOf (W := wt rest) (Q := fun v h L => Q v h ∧ Fr n0 L) (M []) S.2.1 w4 w3 hf hl) (g := mkF w.m pc Ls.toArray (as.reverse ++ .ref a :: rest)) rfl (by rw [S.2.2.2.2.1]; simpa using hLs) (Steps.refl _) (a := a) (by rw [e]; exact q1) q2 (argsL := as) (rest := rest) (lenOf hpd hlen) rfl (by show 2 * 0 + _ ≤ _; simp [wt]) (hb S.2.2.2.1 hd) (fun _ _ => ⟨rfl, e, hc, hs⟩)
  dsimp only [Pt.U, Pt.locs, Pt.cells, Pt.slots] at X' l' y2 z2 q hQ
  subst l' y2 z2
  exact ⟨v, T'.heap, hQ.1, S, T', _, X', rfl, N.app hQ.2, fun t z => k t (q.trans z)⟩
/-- System.arraycopy between two arrays of one primitive kind, from the first place of both -/
theorem Go.acopy {nn : Int32} {vd : List Value} (r : Go w l R Z n0 y code ml ret pc Ls (.int nn :: .int 0 :: .ref b :: .int 0 :: .ref a :: st) h cells slots) (pc' : Nat) (hd : decode code pc = .ok (.invokestatic idx, 3)) (hp : pc + 3 = pc') (w1 : (Cond.methodLink y.cls idx Jvm.Stand.acN).before a0 Z = true) (w2 : (Cond.native Jvm.Stand.acN).before a0 Z = true) (w3 : (Cond.static Jvm.Stand.acN).before a0 Z = true) (w4 : (Cond.initialized "java/lang/System").before a0 Z = true)
    (A : Ary Z h a ty vs) (B : Ary Z h b ty vd) (hty : refKind ty = false) (hn : ¬ nn < 0) (h4 : nn.toNatClampNeg ≤ vs.length) (h5 : nn.toNatClampNeg ≤ vd.length) (g0 : n0 ≤ b) (hLs : Ls.length = ml) (hf : 1 ≤ R.frames) (hl : wt st + (nativeFrameWords "java/lang/System" "arraycopy" 5 + 11) ≤ R.locals) :
    ∃ h', Keep h h' [b] ∧ Ary Z h' b ty (vs.take nn.toNatClampNeg ++ vd.drop nn.toNatClampNeg) ∧ Go w l R Z n0 y code ml ret pc' Ls st h' cells slots := by
  subst hp
  obtain ⟨S, T, locs, X, e, N, k⟩ := r
  obtain ⟨ka, da, Va, za⟩ := A
  obtain ⟨kb, db, Vb, zb⟩ := B
  have z0 : (0 : Int32).toNatClampNeg = 0 := rfl
  obtain ⟨T', h', L, X', e', N', K, V, q⟩ := cpA X S.1 S.2.1 S.2.2.1 w1 w2 w3 w4 e (us := vs.take nn.toNatClampNeg) Va Vb (Or.inl ⟨rfl, hty⟩) (sp := 0) (dp := 0) (nn := nn) (by decide) (by decide) hn (by rw [len_nat za, z0]; omega) (by rw [len_nat zb, z0]; omega)
    (by
      rw [z0]
      apply List.ext_getElem?
      intro i
      by_cases hi : i < nn.toNatClampNeg
      · rw [List.getElem?_take_of_lt hi, List.getElem?_map, List.getElem?_range hi]
        simp only [Option.map_some, Nat.zero_add, List.getD_eq_getElem?_getD]
        rw [List.getElem?_eq_getElem (by omega)]; rfl
      · rw [List.getElem?_eq_none (by simp; omega), List.getElem?_eq_none (by simp; omega)])
    (by rw [z0]; omega) N g0 (g := mkF w.m pc Ls.toArray (.int nn :: .int 0 :: .ref b :: .int 0 :: .ref a :: st)) rfl (by rw [S.2.2.2.2.1]; simpa using hLs) rfl (hb S.2.2.2.1 hd) hf (W := wt st) (by show 2 * 0 + _ ≤ _; simp [wt]) hl
  refine ⟨h', K, ⟨kb, db, ?_, ?_⟩, S, T', L, X', e', N', fun t z => k t (q t z)⟩
  · have hlen : (vs.take nn.toNatClampNeg ++ vd.drop nn.toNatClampNeg).length = vd.length := by simp; omega
    rw [hlen]
    rw [z0] at V
    simpa using V
  · have hlen : (vs.take nn.toNatClampNeg ++ vd.drop nn.toNatClampNeg).length = vd.length := by simp; omega
    rw [hlen]; exact zb
/-! returning -/
theorem Go.retV (r : Go w l R Z n0 y code ml none pc Ls [] h cells slots) (hd : decode code pc = .ok (.return_, 1)) {Q : Heap → Prop} (q : Q h) {C S : Nat} (hc : cells ≤ C) (hs : slots ≤ S) : Fini w n0 (Ret0 Q) C S := by
  obtain ⟨S, T, locs, X, e, N, k⟩ := r
  obtain ⟨fs, hr, hrun, hended, hW, hsame⟩ := X.leave (v := none) (fun _ => rfl) S.2.2.2.2.2.2.1
  exact ⟨_, _, k _ (X.returnOut S.1 S.2.2.2.2.2.1 (hb S.2.2.2.1 hd) hr), hrun, hended, _, _, rfl, ⟨⟨rfl, by show Q T.heap; rw [e]; exact q⟩, N⟩, ⟨_, rfl⟩, hW, hsame.mono hc hs⟩
theorem Go.retI {z : Int32} (r : Go w l R Z n0 y code ml (some .int) pc Ls (.int z :: st) h cells slots) (hd : decode code pc = .ok (.ireturn, 1)) {Q : Value → Heap → Prop} (q : Q (.int z) h) {C S : Nat} (hc : cells ≤ C) (hs : slots ≤ S) : Fini w n0 (Ret Q) C S := by
  obtain ⟨S, T, locs, X, e, N, k⟩ := r
  obtain ⟨fs, hr, hrun, hended, hW, hsame⟩ := X.leave (v := some (.int z)) (fun h => by rw [S.2.2.2.2.2.1] at h; cases h) S.2.2.2.2.2.2.1
  exact ⟨_, _, k _ (retOut X S.1 S.2.2.2.2.2.1 rfl (Or.inl ⟨rfl, Or.inl rfl, z, rfl⟩) (hb S.2.2.2.1 hd) hr), hrun, hended, _, _, rfl, ⟨⟨_, rfl, by show Q _ T.heap; rw [e]; exact q⟩, N⟩, ⟨_, rfl⟩, hW, hsame.mono hc hs⟩
theorem Go.retN {t : FieldType} {z z' : Int32} (r : Go w l R Z n0 y code ml (some t) pc Ls (.int z :: st) h cells slots) (hd : decode code pc = .ok (.ireturn, 1)) (ht : t = .boolean ∨ t = .byte ∨ t = .char ∨ t = .short) (hz : nar t z = z') {Q : Value → Heap → Prop} (q : Q (.int z') h) {C S : Nat} (hc : cells ≤ C) (hs : slots ≤ S) : Fini w n0 (Ret Q) C S := by
  subst hz
  obtain ⟨S, T, locs, X, e, N, k⟩ := r
  obtain ⟨fs, hr, hrun, hended, hW, hsame⟩ := X.leave (v := some (.int (nar t z))) (fun h => by rw [S.2.2.2.2.2.1] at h; cases h) S.2.2.2.2.2.2.1
  exact ⟨_, _, k _ (Jvm.RoadKit.retN X S.1 S.2.2.2.2.2.1 ht (hb S.2.2.2.1 hd) hr), hrun, hended, _, _, rfl, ⟨⟨_, rfl, by show Q _ T.heap; rw [e]; exact q⟩, N⟩, ⟨_, rfl⟩, hW, hsame.mono hc hs⟩
theorem Go.retL {z : Int64} (r : Go w l R Z n0 y code ml (some .long) pc Ls (.long z :: st) h cells slots) (hd : decode code pc = .ok (.lreturn, 1)) {Q : Value → Heap → Prop} (q : Q (.long z) h) {C S : Nat} (hc : cells ≤ C) (hs : slots ≤ S) : Fini w n0 (Ret Q) C S := by
  obtain ⟨S, T, locs, X, e, N, k⟩ := r
  obtain ⟨fs, hr, hrun, hended, hW, hsame⟩ := X.leave (v := some (.long z)) (fun h => by rw [S.2.2.2.2.2.1] at h; cases h) S.2.2.2.2.2.2.1
  exact ⟨_, _, k _ (retOut X S.1 S.2.2.2.2.2.1 rfl (Or.inr (Or.inl ⟨rfl, rfl, z, rfl⟩)) (hb S.2.2.2.1 hd) hr), hrun, hended, _, _, rfl, ⟨⟨_, rfl, by show Q _ T.heap; rw [e]; exact q⟩, N⟩, ⟨_, rfl⟩, hW, hsame.mono hc hs⟩
theorem Go.retA {t : FieldType} (r : Go w l R Z n0 y code ml (some t) pc Ls (.ref a :: st) h cells slots) (hd : decode code pc = .ok (.areturn, 1)) (ht : t.isReference = true) (hn : narrow t (.ref a) = .ref a) {Q : Value → Heap → Prop} (q : Q (.ref a) h) {C S : Nat} (hc : cells ≤ C) (hs : slots ≤ S) : Fini w n0 (Ret Q) C S := by
  obtain ⟨S, T, locs, X, e, N, k⟩ := r
  obtain ⟨fs, hr, hrun, hended, hW, hsame⟩ := X.leave (v := some (.ref a)) (fun h => by rw [S.2.2.2.2.2.1] at h; cases h) S.2.2.2.2.2.2.1
  exact ⟨_, _, k _ (retOut X S.1 S.2.2.2.2.2.1 hn (Or.inr (Or.inr (Or.inr (Or.inr ⟨rfl, ht, rfl⟩)))) (hb S.2.2.2.1 hd) hr), hrun, hended, _, _, rfl, ⟨⟨_, rfl, by show Q _ T.heap; rw [e]; exact q⟩, N⟩, ⟨_, rfl⟩, hW, hsame.mono hc hs⟩
/-! small numbers -/
theorem nlt {a b : Nat} (ha : a < 2 ^ 31) (hb : b < 2 ^ 31) : Int32.ofNat a < Int32.ofNat b ↔ a < b := by
  rw [Int32.lt_iff_toInt_lt, Int32.toInt_ofNat_small ha, Int32.toInt_ofNat_small hb]; omega
theorem nadd (a b : Nat) : Int32.ofNat a + Int32.ofNat b = Int32.ofNat (a + b) := (Int32.ofNat_add a b).symm
theorem nadd1 (a : Nat) : Int32.ofNat a + 1 = Int32.ofNat (a + 1) := nadd a 1
theorem nsub {a b : Nat} (h : b ≤ a) : Int32.ofNat a - Int32.ofNat b = Int32.ofNat (a - b) := (Int32.ofNat_sub a b h).symm
theorem neqn {a b : Nat} (ha : a < 2 ^ 31) (hb : b < 2 ^ 31) : Int32.ofNat a = Int32.ofNat b ↔ a = b := by
  rw [← Int32.toInt_inj, Int32.toInt_ofNat_small ha, Int32.toInt_ofNat_small hb]; omega
theorem get_long {os : List Int64} {j : Nat} (hj : j < os.length) : (os.map Value.long)[j]? = some (.long (os.getD j 0)) := by
  rw [List.getElem?_map, List.getD_eq_getElem?_getD, List.getElem?_eq_getElem hj]; rfl
theorem get_int {os : List Int32} {j : Nat} (hj : j < os.length) : (os.map Value.int)[j]? = some (.int (os.getD j 0)) := by
  rw [List.getElem?_map, List.getD_eq_getElem?_getD, List.getElem?_eq_getElem hj]; rfl
end Walk
end Jvm.OwnKit
namespace Jvm.Pilot.@@N@@
open Jvm Jvm.ClassFile Sem Op Lib Jvm.Free Jvm.Stand Jvm.LawKit Jvm.RoadKit Bundle Jvm.OwnKit Jvm.Pilot.@@N@@.Jvm.D
abbrev Ws (Z : State) (a0 : Array Value) : Prop := ∀ d ∈ tables_1, d.before a0 Z = true
theorem wd_0 {Z : State} {a0 : Array Value} (hw : Ws Z a0) : (Jvm.Cond.arrayClass Jvm.ClassFile.FieldType.long).before a0 Z = true := hw _ (List.mem_of_getElem? (i := 0) rfl)
theorem wd_1 {Z : State} {a0 : Array Value} (hw : Ws Z a0) : (Jvm.Cond.constantLong "com/example/firehouse/firehouse/BfsFarthestAmongPinLaw" (7 : Nat) (10 : Int64)).before a0 Z = true := hw _ (List.mem_of_getElem? (i := 1) rfl)
theorem wd_2 {Z : State} {a0 : Array Value} (hw : Ws Z a0) : (Jvm.Cond.constantLong "com/example/firehouse/firehouse/BfsFarthestAmongPinLaw" (9 : Nat) (11 : Int64)).before a0 Z = true := hw _ (List.mem_of_getElem? (i := 2) rfl)
theorem wd_3 {Z : State} {a0 : Array Value} (hw : Ws Z a0) : (Jvm.Cond.constantLong "com/example/firehouse/firehouse/BfsFarthestAmongPinLaw" (11 : Nat) (12 : Int64)).before a0 Z = true := hw _ (List.mem_of_getElem? (i := 3) rfl)
theorem wd_4 {Z : State} {a0 : Array Value} (hw : Ws Z a0) : (Jvm.Cond.constantLong "com/example/firehouse/firehouse/BfsFarthestAmongPinLaw" (13 : Nat) (13 : Int64)).before a0 Z = true := hw _ (List.mem_of_getElem? (i := 4) rfl)
theorem wd_5 {Z : State} {a0 : Array Value} (hw : Ws Z a0) : (Jvm.Cond.constantLong "com/example/firehouse/firehouse/BfsFarthestAmongPinLaw" (15 : Nat) (14 : Int64)).before a0 Z = true := hw _ (List.mem_of_getElem? (i := 5) rfl)
theorem wd_6 {Z : State} {a0 : Array Value} (hw : Ws Z a0) : (Jvm.Cond.arrayClass Jvm.ClassFile.FieldType.int).before a0 Z = true := hw _ (List.mem_of_getElem? (i := 6) rfl)
theorem wd_7 {Z : State} {a0 : Array Value} (hw : Ws Z a0) : (Jvm.Cond.classLink "com/example/firehouse/firehouse/BfsFarthestAmongPinLaw" (17 : Nat) "com/example/firehouse/firehouse/Graph").before a0 Z = true := hw _ (List.mem_of_getElem? (i := 7) rfl)
theorem wd_8 {Z : State} {a0 : Array Value} (hw : Ws Z a0) : (Jvm.Cond.instantiable "com/example/firehouse/firehouse/Graph" (6 : Nat)).before a0 Z = true := hw _ (List.mem_of_getElem? (i := 8) rfl)
theorem wd_9 {Z : State} {a0 : Array Value} (hw : Ws Z a0) : (Jvm.Cond.initialized "com/example/firehouse/firehouse/Graph").before a0 Z = true := hw _ (List.mem_of_getElem? (i := 9) rfl)
theorem wd_10 {Z : State} {a0 : Array Value} (hw : Ws Z a0) : (Jvm.Cond.methodLink "com/example/firehouse/firehouse/BfsFarthestAmongPinLaw" (19 : Nat) ({ cls := "com/example/firehouse/firehouse/Graph", name := "<init>", desc := "([J[I[IJJ)V" } : Jvm.MethodName)).before a0 Z = true := hw _ (List.mem_of_getElem? (i := 10) rfl)
theorem wd_11 {Z : State} {a0 : Array Value} (hw : Ws Z a0) : (Jvm.Cond.instanceMethod ({ cls := "com/example/firehouse/firehouse/Graph", name := "<init>", desc := "([J[I[IJJ)V" } : Jvm.MethodName)).before a0 Z = true := hw _ (List.mem_of_getElem? (i := 11) rfl)
theorem wd_12 {Z : State} {a0 : Array Value} (hw : Ws Z a0) : (Jvm.Cond.code ({ cls := "com/example/firehouse/firehouse/Graph", name := "<init>", desc := "([J[I[IJJ)V" } : Jvm.MethodName) prog_17_method_1_code (8 : Nat) (Option.none : Option Jvm.ClassFile.FieldType)).before a0 Z = true := hw _ (List.mem_of_getElem? (i := 12) rfl)
theorem wd_13 {Z : State} {a0 : Array Value} (hw : Ws Z a0) : (Jvm.Cond.methodLink "com/example/firehouse/firehouse/Graph" (1 : Nat) ({ cls := "java/lang/Object", name := "<init>", desc := "()V" } : Jvm.MethodName)).before a0 Z = true := hw _ (List.mem_of_getElem? (i := 13) rfl)
theorem wd_14 {Z : State} {a0 : Array Value} (hw : Ws Z a0) : (Jvm.Cond.instanceMethod ({ cls := "java/lang/Object", name := "<init>", desc := "()V" } : Jvm.MethodName)).before a0 Z = true := hw _ (List.mem_of_getElem? (i := 14) rfl)
theorem wd_15 {Z : State} {a0 : Array Value} (hw : Ws Z a0) : (Jvm.Cond.code ({ cls := "java/lang/Object", name := "<init>", desc := "()V" } : Jvm.MethodName) object_method_1_code (1 : Nat) (Option.none : Option Jvm.ClassFile.FieldType)).before a0 Z = true := hw _ (List.mem_of_getElem? (i := 15) rfl)
theorem wd_16 {Z : State} {a0 : Array Value} (hw : Ws Z a0) : (Jvm.Cond.fieldLink "com/example/firehouse/firehouse/Graph" (7 : Nat) "com/example/firehouse/firehouse/Graph" "componentCount" "I").before a0 Z = true := hw _ (List.mem_of_getElem? (i := 16) rfl)
theorem wd_17 {Z : State} {a0 : Array Value} (hw : Ws Z a0) : (Jvm.Cond.lays "com/example/firehouse/firehouse/Graph" "com/example/firehouse/firehouse/Graph" "componentCount" "I").before a0 Z = true := hw _ (List.mem_of_getElem? (i := 17) rfl)
theorem wd_18 {Z : State} {a0 : Array Value} (hw : Ws Z a0) : (Jvm.Cond.fieldLink "com/example/firehouse/firehouse/Graph" (13 : Nat) "com/example/firehouse/firehouse/Graph" "ids" "[J").before a0 Z = true := hw _ (List.mem_of_getElem? (i := 18) rfl)
theorem wd_19 {Z : State} {a0 : Array Value} (hw : Ws Z a0) : (Jvm.Cond.laysFinal "com/example/firehouse/firehouse/Graph" "com/example/firehouse/firehouse/Graph" "ids" "[J").before a0 Z = true := hw _ (List.mem_of_getElem? (i := 19) rfl)
theorem wd_20 {Z : State} {a0 : Array Value} (hw : Ws Z a0) : (Jvm.Cond.fieldLink "com/example/firehouse/firehouse/Graph" (17 : Nat) "com/example/firehouse/firehouse/Graph" "offsets" "[I").before a0 Z = true := hw _ (List.mem_of_getElem? (i := 20) rfl)
theorem wd_21 {Z : State} {a0 : Array Value} (hw : Ws Z a0) : (Jvm.Cond.laysFinal "com/example/firehouse/firehouse/Graph" "com/example/firehouse/firehouse/Graph" "offsets" "[I").before a0 Z = true := hw _ (List.mem_of_getElem? (i := 21) rfl)
theorem wd_22 {Z : State} {a0 : Array Value} (hw : Ws Z a0) : (Jvm.Cond.fieldLink "com/example/firehouse/firehouse/Graph" (21 : Nat) "com/example/firehouse/firehouse/Graph" "neighbours" "[I").before a0 Z = true := hw _ (List.mem_of_getElem? (i := 22) rfl)
theorem wd_23 {Z : State} {a0 : Array Value} (hw : Ws Z a0) : (Jvm.Cond.laysFinal "com/example/firehouse/firehouse/Graph" "com/example/firehouse/firehouse/Graph" "neighbours" "[I").before a0 Z = true := hw _ (List.mem_of_getElem? (i := 23) rfl)
theorem wd_24 {Z : State} {a0 : Array Value} (hw : Ws Z a0) : (Jvm.Cond.fieldLink "com/example/firehouse/firehouse/Graph" (24 : Nat) "com/example/firehouse/firehouse/Graph" "selfLoopsDropped" "J").before a0 Z = true := hw _ (List.mem_of_getElem? (i := 24) rfl)
theorem wd_25 {Z : State} {a0 : Array Value} (hw : Ws Z a0) : (Jvm.Cond.laysFinal "com/example/firehouse/firehouse/Graph" "com/example/firehouse/firehouse/Graph" "selfLoopsDropped" "J").before a0 Z = true := hw _ (List.mem_of_getElem? (i := 25) rfl)
theorem wd_26 {Z : State} {a0 : Array Value} (hw : Ws Z a0) : (Jvm.Cond.fieldLink "com/example/firehouse/firehouse/Graph" (28 : Nat) "com/example/firehouse/firehouse/Graph" "repeatedEdgesMerged" "J").before a0 Z = true := hw _ (List.mem_of_getElem? (i := 26) rfl)
theorem wd_27 {Z : State} {a0 : Array Value} (hw : Ws Z a0) : (Jvm.Cond.laysFinal "com/example/firehouse/firehouse/Graph" "com/example/firehouse/firehouse/Graph" "repeatedEdgesMerged" "J").before a0 Z = true := hw _ (List.mem_of_getElem? (i := 27) rfl)
theorem wd_28 {Z : State} {a0 : Array Value} (hw : Ws Z a0) : (Jvm.Cond.classLink "com/example/firehouse/firehouse/BfsFarthestAmongPinLaw" (22 : Nat) "com/example/firehouse/firehouse/Bfs").before a0 Z = true := hw _ (List.mem_of_getElem? (i := 28) rfl)
theorem wd_29 {Z : State} {a0 : Array Value} (hw : Ws Z a0) : (Jvm.Cond.instantiable "com/example/firehouse/firehouse/Bfs" (4 : Nat)).before a0 Z = true := hw _ (List.mem_of_getElem? (i := 29) rfl)
theorem wd_30 {Z : State} {a0 : Array Value} (hw : Ws Z a0) : (Jvm.Cond.initialized "com/example/firehouse/firehouse/Bfs").before a0 Z = true := hw _ (List.mem_of_getElem? (i := 30) rfl)
theorem wd_31 {Z : State} {a0 : Array Value} (hw : Ws Z a0) : (Jvm.Cond.methodLink "com/example/firehouse/firehouse/BfsFarthestAmongPinLaw" (24 : Nat) ({ cls := "com/example/firehouse/firehouse/Bfs", name := "<init>", desc := "(Lcom/example/firehouse/firehouse/Graph;)V" } : Jvm.MethodName)).before a0 Z = true := hw _ (List.mem_of_getElem? (i := 31) rfl)
theorem wd_32 {Z : State} {a0 : Array Value} (hw : Ws Z a0) : (Jvm.Cond.instanceMethod ({ cls := "com/example/firehouse/firehouse/Bfs", name := "<init>", desc := "(Lcom/example/firehouse/firehouse/Graph;)V" } : Jvm.MethodName)).before a0 Z = true := hw _ (List.mem_of_getElem? (i := 32) rfl)
theorem wd_33 {Z : State} {a0 : Array Value} (hw : Ws Z a0) : (Jvm.Cond.code ({ cls := "com/example/firehouse/firehouse/Bfs", name := "<init>", desc := "(Lcom/example/firehouse/firehouse/Graph;)V" } : Jvm.MethodName) prog_2_method_1_code (2 : Nat) (Option.none : Option Jvm.ClassFile.FieldType)).before a0 Z = true := hw _ (List.mem_of_getElem? (i := 33) rfl)
theorem wd_34 {Z : State} {a0 : Array Value} (hw : Ws Z a0) : (Jvm.Cond.methodLink "com/example/firehouse/firehouse/Bfs" (1 : Nat) ({ cls := "java/lang/Object", name := "<init>", desc := "()V" } : Jvm.MethodName)).before a0 Z = true := hw _ (List.mem_of_getElem? (i := 34) rfl)
theorem wd_35 {Z : State} {a0 : Array Value} (hw : Ws Z a0) : (Jvm.Cond.fieldLink "com/example/firehouse/firehouse/Bfs" (7 : Nat) "com/example/firehouse/firehouse/Bfs" "graph" "Lcom/example/firehouse/firehouse/Graph;").before a0 Z = true := hw _ (List.mem_of_getElem? (i := 35) rfl)
theorem wd_36 {Z : State} {a0 : Array Value} (hw : Ws Z a0) : (Jvm.Cond.laysFinal "com/example/firehouse/firehouse/Bfs" "com/example/firehouse/firehouse/Bfs" "graph" "Lcom/example/firehouse/firehouse/Graph;").before a0 Z = true := hw _ (List.mem_of_getElem? (i := 36) rfl)
theorem wd_37 {Z : State} {a0 : Array Value} (hw : Ws Z a0) : (Jvm.Cond.methodLink "com/example/firehouse/firehouse/Bfs" (13 : Nat) ({ cls := "com/example/firehouse/firehouse/Graph", name := "nodeCount", desc := "()I" } : Jvm.MethodName)).before a0 Z = true := hw _ (List.mem_of_getElem? (i := 37) rfl)
theorem wd_38 {Z : State} {a0 : Array Value} (hw : Ws Z a0) : (Jvm.Cond.declares ({ cls := "com/example/firehouse/firehouse/Graph", name := "nodeCount", desc := "()I" } : Jvm.MethodName)).before a0 Z = true := hw _ (List.mem_of_getElem? (i := 38) rfl)
theorem wd_39 {Z : State} {a0 : Array Value} (hw : Ws Z a0) : (Jvm.Cond.instanceMethod ({ cls := "com/example/firehouse/firehouse/Graph", name := "nodeCount", desc := "()I" } : Jvm.MethodName)).before a0 Z = true := hw _ (List.mem_of_getElem? (i := 39) rfl)
theorem wd_40 {Z : State} {a0 : Array Value} (hw : Ws Z a0) : (Jvm.Cond.selects "com/example/firehouse/firehouse/Graph" ({ cls := "com/example/firehouse/firehouse/Graph", name := "nodeCount", desc := "()I" } : Jvm.MethodName) ({ cls := "com/example/firehouse/firehouse/Graph", name := "nodeCount", desc := "()I" } : Jvm.MethodName)).before a0 Z = true := hw _ (List.mem_of_getElem? (i := 40) rfl)
theorem wd_41 {Z : State} {a0 : Array Value} (hw : Ws Z a0) : (Jvm.Cond.code ({ cls := "com/example/firehouse/firehouse/Graph", name := "nodeCount", desc := "()I" } : Jvm.MethodName) prog_17_method_2_code (1 : Nat) (Option.some Jvm.ClassFile.FieldType.int)).before a0 Z = true := hw _ (List.mem_of_getElem? (i := 41) rfl)
theorem wd_42 {Z : State} {a0 : Array Value} (hw : Ws Z a0) : (Jvm.Cond.fieldLink "com/example/firehouse/firehouse/Bfs" (19 : Nat) "com/example/firehouse/firehouse/Bfs" "distance" "[I").before a0 Z = true := hw _ (List.mem_of_getElem? (i := 42) rfl)
theorem wd_43 {Z : State} {a0 : Array Value} (hw : Ws Z a0) : (Jvm.Cond.laysFinal "com/example/firehouse/firehouse/Bfs" "com/example/firehouse/firehouse/Bfs" "distance" "[I").before a0 Z = true := hw _ (List.mem_of_getElem? (i := 43) rfl)
theorem wd_44 {Z : State} {a0 : Array Value} (hw : Ws Z a0) : (Jvm.Cond.fieldLink "com/example/firehouse/firehouse/Bfs" (23 : Nat) "com/example/firehouse/firehouse/Bfs" "queue" "[I").before a0 Z = true := hw _ (List.mem_of_getElem? (i := 44) rfl)
theorem wd_45 {Z : State} {a0 : Array Value} (hw : Ws Z a0) : (Jvm.Cond.laysFinal "com/example/firehouse/firehouse/Bfs" "com/example/firehouse/firehouse/Bfs" "queue" "[I").before a0 Z = true := hw _ (List.mem_of_getElem? (i := 45) rfl)
theorem wd_46 {Z : State} {a0 : Array Value} (hw : Ws Z a0) : (Jvm.Cond.methodLink "com/example/firehouse/firehouse/Bfs" (26 : Nat) ({ cls := "java/util/Arrays", name := "fill", desc := "([II)V" } : Jvm.MethodName)).before a0 Z = true := hw _ (List.mem_of_getElem? (i := 46) rfl)
theorem wd_47 {Z : State} {a0 : Array Value} (hw : Ws Z a0) : (Jvm.Cond.static ({ cls := "java/util/Arrays", name := "fill", desc := "([II)V" } : Jvm.MethodName)).before a0 Z = true := hw _ (List.mem_of_getElem? (i := 47) rfl)
theorem wd_48 {Z : State} {a0 : Array Value} (hw : Ws Z a0) : (Jvm.Cond.initialized "java/util/Arrays").before a0 Z = true := hw _ (List.mem_of_getElem? (i := 48) rfl)
theorem wd_49 {Z : State} {a0 : Array Value} (hw : Ws Z a0) : (Jvm.Cond.code ({ cls := "java/util/Arrays", name := "fill", desc := "([II)V" } : Jvm.MethodName) jdk_65_method_103_code (4 : Nat) (Option.none : Option Jvm.ClassFile.FieldType)).before a0 Z = true := hw _ (List.mem_of_getElem? (i := 49) rfl)
theorem wd_50 {Z : State} {a0 : Array Value} (hw : Ws Z a0) : (Jvm.Cond.arrayClass Jvm.ClassFile.FieldType.boolean).before a0 Z = true := hw _ (List.mem_of_getElem? (i := 50) rfl)
theorem wd_51 {Z : State} {a0 : Array Value} (hw : Ws Z a0) : (Jvm.Cond.constant "com/example/firehouse/firehouse/BfsFarthestAmongPinLaw" (27 : Nat) (2147483647 : Int32)).before a0 Z = true := hw _ (List.mem_of_getElem? (i := 51) rfl)
theorem wd_52 {Z : State} {a0 : Array Value} (hw : Ws Z a0) : (Jvm.Cond.methodLink "com/example/firehouse/firehouse/BfsFarthestAmongPinLaw" (28 : Nat) ({ cls := "com/example/firehouse/firehouse/Bfs", name := "search", desc := "([I)I" } : Jvm.MethodName)).before a0 Z = true := hw _ (List.mem_of_getElem? (i := 52) rfl)
theorem wd_53 {Z : State} {a0 : Array Value} (hw : Ws Z a0) : (Jvm.Cond.declares ({ cls := "com/example/firehouse/firehouse/Bfs", name := "search", desc := "([I)I" } : Jvm.MethodName)).before a0 Z = true := hw _ (List.mem_of_getElem? (i := 53) rfl)
theorem wd_54 {Z : State} {a0 : Array Value} (hw : Ws Z a0) : (Jvm.Cond.instanceMethod ({ cls := "com/example/firehouse/firehouse/Bfs", name := "search", desc := "([I)I" } : Jvm.MethodName)).before a0 Z = true := hw _ (List.mem_of_getElem? (i := 54) rfl)
theorem wd_55 {Z : State} {a0 : Array Value} (hw : Ws Z a0) : (Jvm.Cond.selects "com/example/firehouse/firehouse/Bfs" ({ cls := "com/example/firehouse/firehouse/Bfs", name := "search", desc := "([I)I" } : Jvm.MethodName) ({ cls := "com/example/firehouse/firehouse/Bfs", name := "search", desc := "([I)I" } : Jvm.MethodName)).before a0 Z = true := hw _ (List.mem_of_getElem? (i := 55) rfl)
theorem wd_56 {Z : State} {a0 : Array Value} (hw : Ws Z a0) : (Jvm.Cond.code ({ cls := "com/example/firehouse/firehouse/Bfs", name := "search", desc := "([I)I" } : Jvm.MethodName) prog_2_method_2_code (7 : Nat) (Option.some Jvm.ClassFile.FieldType.int)).before a0 Z = true := hw _ (List.mem_of_getElem? (i := 56) rfl)
theorem wd_57 {Z : State} {a0 : Array Value} (hw : Ws Z a0) : (Jvm.Cond.methodLink "com/example/firehouse/firehouse/Bfs" (32 : Nat) ({ cls := "com/example/firehouse/firehouse/Bfs", name := "forget", desc := "()V" } : Jvm.MethodName)).before a0 Z = true := hw _ (List.mem_of_getElem? (i := 57) rfl)
theorem wd_58 {Z : State} {a0 : Array Value} (hw : Ws Z a0) : (Jvm.Cond.instanceMethod ({ cls := "com/example/firehouse/firehouse/Bfs", name := "forget", desc := "()V" } : Jvm.MethodName)).before a0 Z = true := hw _ (List.mem_of_getElem? (i := 58) rfl)
theorem wd_59 {Z : State} {a0 : Array Value} (hw : Ws Z a0) : (Jvm.Cond.privateMethod ({ cls := "com/example/firehouse/firehouse/Bfs", name := "forget", desc := "()V" } : Jvm.MethodName)).before a0 Z = true := hw _ (List.mem_of_getElem? (i := 59) rfl)
theorem wd_60 {Z : State} {a0 : Array Value} (hw : Ws Z a0) : (Jvm.Cond.code ({ cls := "com/example/firehouse/firehouse/Bfs", name := "forget", desc := "()V" } : Jvm.MethodName) prog_2_method_12_code (2 : Nat) (Option.none : Option Jvm.ClassFile.FieldType)).before a0 Z = true := hw _ (List.mem_of_getElem? (i := 60) rfl)
theorem wd_61 {Z : State} {a0 : Array Value} (hw : Ws Z a0) : (Jvm.Cond.fieldLink "com/example/firehouse/firehouse/Bfs" (47 : Nat) "com/example/firehouse/firehouse/Bfs" "reachedCount" "I").before a0 Z = true := hw _ (List.mem_of_getElem? (i := 61) rfl)
theorem wd_62 {Z : State} {a0 : Array Value} (hw : Ws Z a0) : (Jvm.Cond.lays "com/example/firehouse/firehouse/Bfs" "com/example/firehouse/firehouse/Bfs" "reachedCount" "I").before a0 Z = true := hw _ (List.mem_of_getElem? (i := 62) rfl)
theorem wd_63 {Z : State} {a0 : Array Value} (hw : Ws Z a0) : (Jvm.Cond.constantLong "com/example/firehouse/firehouse/Bfs" (37 : Nat) (2147483647 : Int64)).before a0 Z = true := hw _ (List.mem_of_getElem? (i := 63) rfl)
theorem wd_64 {Z : State} {a0 : Array Value} (hw : Ws Z a0) : (Jvm.Cond.methodLink "com/example/firehouse/firehouse/Bfs" (39 : Nat) ({ cls := "com/example/firehouse/firehouse/Bfs", name := "spread", desc := "(IIJ)I" } : Jvm.MethodName)).before a0 Z = true := hw _ (List.mem_of_getElem? (i := 64) rfl)
theorem wd_65 {Z : State} {a0 : Array Value} (hw : Ws Z a0) : (Jvm.Cond.instanceMethod ({ cls := "com/example/firehouse/firehouse/Bfs", name := "spread", desc := "(IIJ)I" } : Jvm.MethodName)).before a0 Z = true := hw _ (List.mem_of_getElem? (i := 65) rfl)
theorem wd_66 {Z : State} {a0 : Array Value} (hw : Ws Z a0) : (Jvm.Cond.privateMethod ({ cls := "com/example/firehouse/firehouse/Bfs", name := "spread", desc := "(IIJ)I" } : Jvm.MethodName)).before a0 Z = true := hw _ (List.mem_of_getElem? (i := 66) rfl)
theorem wd_67 {Z : State} {a0 : Array Value} (hw : Ws Z a0) : (Jvm.Cond.code ({ cls := "com/example/firehouse/firehouse/Bfs", name := "spread", desc := "(IIJ)I" } : Jvm.MethodName) prog_2_method_13_code (10 : Nat) (Option.some Jvm.ClassFile.FieldType.int)).before a0 Z = true := hw _ (List.mem_of_getElem? (i := 67) rfl)
theorem wd_68 {Z : State} {a0 : Array Value} (hw : Ws Z a0) : (Jvm.Cond.methodLink "com/example/firehouse/firehouse/Bfs" (52 : Nat) ({ cls := "com/example/firehouse/firehouse/Graph", name := "degree", desc := "(I)I" } : Jvm.MethodName)).before a0 Z = true := hw _ (List.mem_of_getElem? (i := 68) rfl)
theorem wd_69 {Z : State} {a0 : Array Value} (hw : Ws Z a0) : (Jvm.Cond.declares ({ cls := "com/example/firehouse/firehouse/Graph", name := "degree", desc := "(I)I" } : Jvm.MethodName)).before a0 Z = true := hw _ (List.mem_of_getElem? (i := 69) rfl)
theorem wd_70 {Z : State} {a0 : Array Value} (hw : Ws Z a0) : (Jvm.Cond.instanceMethod ({ cls := "com/example/firehouse/firehouse/Graph", name := "degree", desc := "(I)I" } : Jvm.MethodName)).before a0 Z = true := hw _ (List.mem_of_getElem? (i := 70) rfl)
theorem wd_71 {Z : State} {a0 : Array Value} (hw : Ws Z a0) : (Jvm.Cond.selects "com/example/firehouse/firehouse/Graph" ({ cls := "com/example/firehouse/firehouse/Graph", name := "degree", desc := "(I)I" } : Jvm.MethodName) ({ cls := "com/example/firehouse/firehouse/Graph", name := "degree", desc := "(I)I" } : Jvm.MethodName)).before a0 Z = true := hw _ (List.mem_of_getElem? (i := 71) rfl)
theorem wd_72 {Z : State} {a0 : Array Value} (hw : Ws Z a0) : (Jvm.Cond.code ({ cls := "com/example/firehouse/firehouse/Graph", name := "degree", desc := "(I)I" } : Jvm.MethodName) prog_17_method_11_code (2 : Nat) (Option.some Jvm.ClassFile.FieldType.int)).before a0 Z = true := hw _ (List.mem_of_getElem? (i := 72) rfl)
theorem wd_73 {Z : State} {a0 : Array Value} (hw : Ws Z a0) : (Jvm.Cond.methodLink "com/example/firehouse/firehouse/Bfs" (56 : Nat) ({ cls := "com/example/firehouse/firehouse/Graph", name := "neighbour", desc := "(II)I" } : Jvm.MethodName)).before a0 Z = true := hw _ (List.mem_of_getElem? (i := 73) rfl)
theorem wd_74 {Z : State} {a0 : Array Value} (hw : Ws Z a0) : (Jvm.Cond.declares ({ cls := "com/example/firehouse/firehouse/Graph", name := "neighbour", desc := "(II)I" } : Jvm.MethodName)).before a0 Z = true := hw _ (List.mem_of_getElem? (i := 74) rfl)
theorem wd_75 {Z : State} {a0 : Array Value} (hw : Ws Z a0) : (Jvm.Cond.instanceMethod ({ cls := "com/example/firehouse/firehouse/Graph", name := "neighbour", desc := "(II)I" } : Jvm.MethodName)).before a0 Z = true := hw _ (List.mem_of_getElem? (i := 75) rfl)
theorem wd_76 {Z : State} {a0 : Array Value} (hw : Ws Z a0) : (Jvm.Cond.selects "com/example/firehouse/firehouse/Graph" ({ cls := "com/example/firehouse/firehouse/Graph", name := "neighbour", desc := "(II)I" } : Jvm.MethodName) ({ cls := "com/example/firehouse/firehouse/Graph", name := "neighbour", desc := "(II)I" } : Jvm.MethodName)).before a0 Z = true := hw _ (List.mem_of_getElem? (i := 76) rfl)
theorem wd_77 {Z : State} {a0 : Array Value} (hw : Ws Z a0) : (Jvm.Cond.code ({ cls := "com/example/firehouse/firehouse/Graph", name := "neighbour", desc := "(II)I" } : Jvm.MethodName) prog_17_method_12_code (3 : Nat) (Option.some Jvm.ClassFile.FieldType.int)).before a0 Z = true := hw _ (List.mem_of_getElem? (i := 77) rfl)
theorem wd_78 {Z : State} {a0 : Array Value} (hw : Ws Z a0) : (Jvm.Cond.methodLink "com/example/firehouse/firehouse/BfsFarthestAmongPinLaw" (32 : Nat) ({ cls := "com/example/firehouse/firehouse/Bfs", name := "searchWithin", desc := "(IJ)V" } : Jvm.MethodName)).before a0 Z = true := hw _ (List.mem_of_getElem? (i := 78) rfl)
theorem wd_79 {Z : State} {a0 : Array Value} (hw : Ws Z a0) : (Jvm.Cond.declares ({ cls := "com/example/firehouse/firehouse/Bfs", name := "searchWithin", desc := "(IJ)V" } : Jvm.MethodName)).before a0 Z = true := hw _ (List.mem_of_getElem? (i := 79) rfl)
theorem wd_80 {Z : State} {a0 : Array Value} (hw : Ws Z a0) : (Jvm.Cond.instanceMethod ({ cls := "com/example/firehouse/firehouse/Bfs", name := "searchWithin", desc := "(IJ)V" } : Jvm.MethodName)).before a0 Z = true := hw _ (List.mem_of_getElem? (i := 80) rfl)
theorem wd_81 {Z : State} {a0 : Array Value} (hw : Ws Z a0) : (Jvm.Cond.selects "com/example/firehouse/firehouse/Bfs" ({ cls := "com/example/firehouse/firehouse/Bfs", name := "searchWithin", desc := "(IJ)V" } : Jvm.MethodName) ({ cls := "com/example/firehouse/firehouse/Bfs", name := "searchWithin", desc := "(IJ)V" } : Jvm.MethodName)).before a0 Z = true := hw _ (List.mem_of_getElem? (i := 81) rfl)
theorem wd_82 {Z : State} {a0 : Array Value} (hw : Ws Z a0) : (Jvm.Cond.code ({ cls := "com/example/firehouse/firehouse/Bfs", name := "searchWithin", desc := "(IJ)V" } : Jvm.MethodName) prog_2_method_3_code (4 : Nat) (Option.none : Option Jvm.ClassFile.FieldType)).before a0 Z = true := hw _ (List.mem_of_getElem? (i := 82) rfl)
theorem wd_83 {Z : State} {a0 : Array Value} (hw : Ws Z a0) : (Jvm.Cond.methodLink "com/example/firehouse/firehouse/BfsFarthestAmongPinLaw" (36 : Nat) ({ cls := "com/example/firehouse/firehouse/Bfs", name := "reachedCount", desc := "()I" } : Jvm.MethodName)).before a0 Z = true := hw _ (List.mem_of_getElem? (i := 83) rfl)
theorem wd_84 {Z : State} {a0 : Array Value} (hw : Ws Z a0) : (Jvm.Cond.declares ({ cls := "com/example/firehouse/firehouse/Bfs", name := "reachedCount", desc := "()I" } : Jvm.MethodName)).before a0 Z = true := hw _ (List.mem_of_getElem? (i := 84) rfl)
theorem wd_85 {Z : State} {a0 : Array Value} (hw : Ws Z a0) : (Jvm.Cond.instanceMethod ({ cls := "com/example/firehouse/firehouse/Bfs", name := "reachedCount", desc := "()I" } : Jvm.MethodName)).before a0 Z = true := hw _ (List.mem_of_getElem? (i := 85) rfl)
theorem wd_86 {Z : State} {a0 : Array Value} (hw : Ws Z a0) : (Jvm.Cond.selects "com/example/firehouse/firehouse/Bfs" ({ cls := "com/example/firehouse/firehouse/Bfs", name := "reachedCount", desc := "()I" } : Jvm.MethodName) ({ cls := "com/example/firehouse/firehouse/Bfs", name := "reachedCount", desc := "()I" } : Jvm.MethodName)).before a0 Z = true := hw _ (List.mem_of_getElem? (i := 86) rfl)
theorem wd_87 {Z : State} {a0 : Array Value} (hw : Ws Z a0) : (Jvm.Cond.code ({ cls := "com/example/firehouse/firehouse/Bfs", name := "reachedCount", desc := "()I" } : Jvm.MethodName) prog_2_method_8_code (1 : Nat) (Option.some Jvm.ClassFile.FieldType.int)).before a0 Z = true := hw _ (List.mem_of_getElem? (i := 87) rfl)
theorem wd_88 {Z : State} {a0 : Array Value} (hw : Ws Z a0) : (Jvm.Cond.methodLink "com/example/firehouse/firehouse/BfsFarthestAmongPinLaw" (40 : Nat) ({ cls := "com/example/firehouse/firehouse/Bfs", name := "reached", desc := "(I)I" } : Jvm.MethodName)).before a0 Z = true := hw _ (List.mem_of_getElem? (i := 88) rfl)
theorem wd_89 {Z : State} {a0 : Array Value} (hw : Ws Z a0) : (Jvm.Cond.declares ({ cls := "com/example/firehouse/firehouse/Bfs", name := "reached", desc := "(I)I" } : Jvm.MethodName)).before a0 Z = true := hw _ (List.mem_of_getElem? (i := 89) rfl)
theorem wd_90 {Z : State} {a0 : Array Value} (hw : Ws Z a0) : (Jvm.Cond.instanceMethod ({ cls := "com/example/firehouse/firehouse/Bfs", name := "reached", desc := "(I)I" } : Jvm.MethodName)).before a0 Z = true := hw _ (List.mem_of_getElem? (i := 90) rfl)
theorem wd_91 {Z : State} {a0 : Array Value} (hw : Ws Z a0) : (Jvm.Cond.selects "com/example/firehouse/firehouse/Bfs" ({ cls := "com/example/firehouse/firehouse/Bfs", name := "reached", desc := "(I)I" } : Jvm.MethodName) ({ cls := "com/example/firehouse/firehouse/Bfs", name := "reached", desc := "(I)I" } : Jvm.MethodName)).before a0 Z = true := hw _ (List.mem_of_getElem? (i := 91) rfl)
theorem wd_92 {Z : State} {a0 : Array Value} (hw : Ws Z a0) : (Jvm.Cond.code ({ cls := "com/example/firehouse/firehouse/Bfs", name := "reached", desc := "(I)I" } : Jvm.MethodName) prog_2_method_9_code (2 : Nat) (Option.some Jvm.ClassFile.FieldType.int)).before a0 Z = true := hw _ (List.mem_of_getElem? (i := 92) rfl)
theorem wd_93 {Z : State} {a0 : Array Value} (hw : Ws Z a0) : (Jvm.Cond.methodLink "com/example/firehouse/firehouse/BfsFarthestAmongPinLaw" (44 : Nat) ({ cls := "com/example/firehouse/firehouse/Bfs", name := "farthestAmong", desc := "([Z)I" } : Jvm.MethodName)).before a0 Z = true := hw _ (List.mem_of_getElem? (i := 93) rfl)
theorem wd_94 {Z : State} {a0 : Array Value} (hw : Ws Z a0) : (Jvm.Cond.declares ({ cls := "com/example/firehouse/firehouse/Bfs", name := "farthestAmong", desc := "([Z)I" } : Jvm.MethodName)).before a0 Z = true := hw _ (List.mem_of_getElem? (i := 94) rfl)
theorem wd_95 {Z : State} {a0 : Array Value} (hw : Ws Z a0) : (Jvm.Cond.instanceMethod ({ cls := "com/example/firehouse/firehouse/Bfs", name := "farthestAmong", desc := "([Z)I" } : Jvm.MethodName)).before a0 Z = true := hw _ (List.mem_of_getElem? (i := 95) rfl)
theorem wd_96 {Z : State} {a0 : Array Value} (hw : Ws Z a0) : (Jvm.Cond.selects "com/example/firehouse/firehouse/Bfs" ({ cls := "com/example/firehouse/firehouse/Bfs", name := "farthestAmong", desc := "([Z)I" } : Jvm.MethodName) ({ cls := "com/example/firehouse/firehouse/Bfs", name := "farthestAmong", desc := "([Z)I" } : Jvm.MethodName)).before a0 Z = true := hw _ (List.mem_of_getElem? (i := 96) rfl)
theorem wd_97 {Z : State} {a0 : Array Value} (hw : Ws Z a0) : (Jvm.Cond.code ({ cls := "com/example/firehouse/firehouse/Bfs", name := "farthestAmong", desc := "([Z)I" } : Jvm.MethodName) prog_2_method_6_code (4 : Nat) (Option.some Jvm.ClassFile.FieldType.int)).before a0 Z = true := hw _ (List.mem_of_getElem? (i := 97) rfl)
abbrev Y0 : MethodName := x
abbrev Y1 : MethodName := ⟨"com/example/firehouse/firehouse/Graph", "<init>", "([J[I[IJJ)V"⟩
theorem d1_0 : decode prog_17_method_1_code 0 = .ok (.aload_n 0, 1) := by decide +kernel
theorem d1_1 : decode prog_17_method_1_code 1 = .ok (.invokespecial 1, 3) := by decide +kernel
theorem d1_4 : decode prog_17_method_1_code 4 = .ok (.aload_n 0, 1) := by decide +kernel
theorem d1_5 : decode prog_17_method_1_code 5 = .ok (.iconst (-1), 1) := by decide +kernel
theorem d1_6 : decode prog_17_method_1_code 6 = .ok (.putfield 7, 3) := by decide +kernel
theorem d1_9 : decode prog_17_method_1_code 9 = .ok (.aload_n 0, 1) := by decide +kernel
theorem d1_10 : decode prog_17_method_1_code 10 = .ok (.aload_n 1, 1) := by decide +kernel
theorem d1_11 : decode prog_17_method_1_code 11 = .ok (.putfield 13, 3) := by decide +kernel
theorem d1_14 : decode prog_17_method_1_code 14 = .ok (.aload_n 0, 1) := by decide +kernel
theorem d1_15 : decode prog_17_method_1_code 15 = .ok (.aload_n 2, 1) := by decide +kernel
theorem d1_16 : decode prog_17_method_1_code 16 = .ok (.putfield 17, 3) := by decide +kernel
theorem d1_19 : decode prog_17_method_1_code 19 = .ok (.aload_n 0, 1) := by decide +kernel
theorem d1_20 : decode prog_17_method_1_code 20 = .ok (.aload_n 3, 1) := by decide +kernel
theorem d1_21 : decode prog_17_method_1_code 21 = .ok (.putfield 21, 3) := by decide +kernel
theorem d1_24 : decode prog_17_method_1_code 24 = .ok (.aload_n 0, 1) := by decide +kernel
theorem d1_25 : decode prog_17_method_1_code 25 = .ok (.lload 4, 2) := by decide +kernel
theorem d1_27 : decode prog_17_method_1_code 27 = .ok (.putfield 24, 3) := by decide +kernel
theorem d1_30 : decode prog_17_method_1_code 30 = .ok (.aload_n 0, 1) := by decide +kernel
theorem d1_31 : decode prog_17_method_1_code 31 = .ok (.lload 6, 2) := by decide +kernel
theorem d1_33 : decode prog_17_method_1_code 33 = .ok (.putfield 28, 3) := by decide +kernel
theorem d1_36 : decode prog_17_method_1_code 36 = .ok (.return_, 1) := by decide +kernel
theorem pd_1 : parseMethodDescriptor "([J[I[IJJ)V" = some ⟨[(.array .long), (.array .int), (.array .int), .long, .long], none⟩ := by decide +kernel
abbrev Y2 : MethodName := ⟨"java/lang/Object", "<init>", "()V"⟩
abbrev Y3 : MethodName := ⟨"com/example/firehouse/firehouse/Bfs", "<init>", "(Lcom/example/firehouse/firehouse/Graph;)V"⟩
theorem d3_0 : decode prog_2_method_1_code 0 = .ok (.aload_n 0, 1) := by decide +kernel
theorem d3_1 : decode prog_2_method_1_code 1 = .ok (.invokespecial 1, 3) := by decide +kernel
theorem d3_4 : decode prog_2_method_1_code 4 = .ok (.aload_n 0, 1) := by decide +kernel
theorem d3_5 : decode prog_2_method_1_code 5 = .ok (.aload_n 1, 1) := by decide +kernel
theorem d3_6 : decode prog_2_method_1_code 6 = .ok (.putfield 7, 3) := by decide +kernel
theorem d3_9 : decode prog_2_method_1_code 9 = .ok (.aload_n 0, 1) := by decide +kernel
theorem d3_10 : decode prog_2_method_1_code 10 = .ok (.aload_n 1, 1) := by decide +kernel
theorem d3_11 : decode prog_2_method_1_code 11 = .ok (.invokevirtual 13, 3) := by decide +kernel
theorem d3_14 : decode prog_2_method_1_code 14 = .ok (.newarray .int, 2) := by decide +kernel
theorem d3_16 : decode prog_2_method_1_code 16 = .ok (.putfield 19, 3) := by decide +kernel
theorem d3_19 : decode prog_2_method_1_code 19 = .ok (.aload_n 0, 1) := by decide +kernel
theorem d3_20 : decode prog_2_method_1_code 20 = .ok (.aload_n 1, 1) := by decide +kernel
theorem d3_21 : decode prog_2_method_1_code 21 = .ok (.invokevirtual 13, 3) := by decide +kernel
theorem d3_24 : decode prog_2_method_1_code 24 = .ok (.newarray .int, 2) := by decide +kernel
theorem d3_26 : decode prog_2_method_1_code 26 = .ok (.putfield 23, 3) := by decide +kernel
theorem d3_29 : decode prog_2_method_1_code 29 = .ok (.aload_n 0, 1) := by decide +kernel
theorem d3_30 : decode prog_2_method_1_code 30 = .ok (.getfield 19, 3) := by decide +kernel
theorem d3_33 : decode prog_2_method_1_code 33 = .ok (.iconst (-1), 1) := by decide +kernel
theorem d3_34 : decode prog_2_method_1_code 34 = .ok (.invokestatic 26, 3) := by decide +kernel
theorem d3_37 : decode prog_2_method_1_code 37 = .ok (.return_, 1) := by decide +kernel
theorem pd_3 : parseMethodDescriptor "(Lcom/example/firehouse/firehouse/Graph;)V" = some ⟨[(.object "com/example/firehouse/firehouse/Graph")], none⟩ := by decide +kernel
abbrev Y4 : MethodName := ⟨"com/example/firehouse/firehouse/Graph", "nodeCount", "()I"⟩
theorem d4_0 : decode prog_17_method_2_code 0 = .ok (.aload_n 0, 1) := by decide +kernel
theorem d4_1 : decode prog_17_method_2_code 1 = .ok (.getfield 13, 3) := by decide +kernel
theorem d4_4 : decode prog_17_method_2_code 4 = .ok (.arraylength, 1) := by decide +kernel
theorem d4_5 : decode prog_17_method_2_code 5 = .ok (.ireturn, 1) := by decide +kernel
theorem pd_4 : parseMethodDescriptor "()I" = some ⟨[], some .int⟩ := by decide +kernel
abbrev Y5 : MethodName := ⟨"java/util/Arrays", "fill", "([II)V"⟩
theorem d5_0 : decode jdk_65_method_103_code 0 = .ok (.iconst 0, 1) := by decide +kernel
theorem d5_1 : decode jdk_65_method_103_code 1 = .ok (.istore_n 2, 1) := by decide +kernel
theorem d5_2 : decode jdk_65_method_103_code 2 = .ok (.aload_n 0, 1) := by decide +kernel
theorem d5_3 : decode jdk_65_method_103_code 3 = .ok (.arraylength, 1) := by decide +kernel
theorem d5_4 : decode jdk_65_method_103_code 4 = .ok (.istore_n 3, 1) := by decide +kernel
theorem d5_5 : decode jdk_65_method_103_code 5 = .ok (.iload_n 2, 1) := by decide +kernel
theorem d5_6 : decode jdk_65_method_103_code 6 = .ok (.iload_n 3, 1) := by decide +kernel
theorem d5_7 : decode jdk_65_method_103_code 7 = .ok (.if_icmp .ge 13, 3) := by decide +kernel
theorem d5_10 : decode jdk_65_method_103_code 10 = .ok (.aload_n 0, 1) := by decide +kernel
theorem d5_11 : decode jdk_65_method_103_code 11 = .ok (.iload_n 2, 1) := by decide +kernel
theorem d5_12 : decode jdk_65_method_103_code 12 = .ok (.iload_n 1, 1) := by decide +kernel
theorem d5_13 : decode jdk_65_method_103_code 13 = .ok (.iastore, 1) := by decide +kernel
theorem d5_14 : decode jdk_65_method_103_code 14 = .ok (.iinc 2 1, 3) := by decide +kernel
theorem d5_17 : decode jdk_65_method_103_code 17 = .ok (.goto (-12), 3) := by decide +kernel
theorem d5_20 : decode jdk_65_method_103_code 20 = .ok (.return_, 1) := by decide +kernel
theorem pd_5 : parseMethodDescriptor "([II)V" = some ⟨[(.array .int), .int], none⟩ := by decide +kernel
abbrev Y6 : MethodName := ⟨"com/example/firehouse/firehouse/Bfs", "search", "([I)I"⟩
theorem d6_0 : decode prog_2_method_2_code 0 = .ok (.aload_n 0, 1) := by decide +kernel
theorem d6_1 : decode prog_2_method_2_code 1 = .ok (.invokevirtual 32, 3) := by decide +kernel
theorem d6_4 : decode prog_2_method_2_code 4 = .ok (.iconst 0, 1) := by decide +kernel
theorem d6_5 : decode prog_2_method_2_code 5 = .ok (.istore_n 2, 1) := by decide +kernel
theorem d6_6 : decode prog_2_method_2_code 6 = .ok (.aload_n 1, 1) := by decide +kernel
theorem d6_7 : decode prog_2_method_2_code 7 = .ok (.astore_n 3, 1) := by decide +kernel
theorem d6_8 : decode prog_2_method_2_code 8 = .ok (.aload_n 3, 1) := by decide +kernel
theorem d6_9 : decode prog_2_method_2_code 9 = .ok (.arraylength, 1) := by decide +kernel
theorem d6_10 : decode prog_2_method_2_code 10 = .ok (.istore 4, 2) := by decide +kernel
theorem d6_12 : decode prog_2_method_2_code 12 = .ok (.iconst 0, 1) := by decide +kernel
theorem d6_13 : decode prog_2_method_2_code 13 = .ok (.istore 5, 2) := by decide +kernel
theorem d6_15 : decode prog_2_method_2_code 15 = .ok (.iload 5, 2) := by decide +kernel
theorem d6_17 : decode prog_2_method_2_code 17 = .ok (.iload 4, 2) := by decide +kernel
theorem d6_19 : decode prog_2_method_2_code 19 = .ok (.if_icmp .ge 45, 3) := by decide +kernel
theorem d6_22 : decode prog_2_method_2_code 22 = .ok (.aload_n 3, 1) := by decide +kernel
theorem d6_23 : decode prog_2_method_2_code 23 = .ok (.iload 5, 2) := by decide +kernel
theorem d6_25 : decode prog_2_method_2_code 25 = .ok (.iaload, 1) := by decide +kernel
theorem d6_26 : decode prog_2_method_2_code 26 = .ok (.istore 6, 2) := by decide +kernel
theorem d6_28 : decode prog_2_method_2_code 28 = .ok (.aload_n 0, 1) := by decide +kernel
theorem d6_29 : decode prog_2_method_2_code 29 = .ok (.getfield 19, 3) := by decide +kernel
theorem d6_32 : decode prog_2_method_2_code 32 = .ok (.iload 6, 2) := by decide +kernel
theorem d6_34 : decode prog_2_method_2_code 34 = .ok (.iaload, 1) := by decide +kernel
theorem d6_35 : decode prog_2_method_2_code 35 = .ok (.iconst (-1), 1) := by decide +kernel
theorem d6_36 : decode prog_2_method_2_code 36 = .ok (.if_icmp .ne 22, 3) := by decide +kernel
theorem d6_39 : decode prog_2_method_2_code 39 = .ok (.aload_n 0, 1) := by decide +kernel
theorem d6_40 : decode prog_2_method_2_code 40 = .ok (.getfield 19, 3) := by decide +kernel
theorem d6_43 : decode prog_2_method_2_code 43 = .ok (.iload 6, 2) := by decide +kernel
theorem d6_45 : decode prog_2_method_2_code 45 = .ok (.iconst 0, 1) := by decide +kernel
theorem d6_46 : decode prog_2_method_2_code 46 = .ok (.iastore, 1) := by decide +kernel
theorem d6_47 : decode prog_2_method_2_code 47 = .ok (.aload_n 0, 1) := by decide +kernel
theorem d6_48 : decode prog_2_method_2_code 48 = .ok (.getfield 23, 3) := by decide +kernel
theorem d6_51 : decode prog_2_method_2_code 51 = .ok (.iload_n 2, 1) := by decide +kernel
theorem d6_52 : decode prog_2_method_2_code 52 = .ok (.iload 6, 2) := by decide +kernel
theorem d6_54 : decode prog_2_method_2_code 54 = .ok (.iastore, 1) := by decide +kernel
theorem d6_55 : decode prog_2_method_2_code 55 = .ok (.iinc 2 1, 3) := by decide +kernel
theorem d6_58 : decode prog_2_method_2_code 58 = .ok (.iinc 5 1, 3) := by decide +kernel
theorem d6_61 : decode prog_2_method_2_code 61 = .ok (.goto (-46), 3) := by decide +kernel
theorem d6_64 : decode prog_2_method_2_code 64 = .ok (.aload_n 0, 1) := by decide +kernel
theorem d6_65 : decode prog_2_method_2_code 65 = .ok (.iconst 0, 1) := by decide +kernel
theorem d6_66 : decode prog_2_method_2_code 66 = .ok (.iload_n 2, 1) := by decide +kernel
theorem d6_67 : decode prog_2_method_2_code 67 = .ok (.ldc2_w 37, 3) := by decide +kernel
theorem d6_70 : decode prog_2_method_2_code 70 = .ok (.invokevirtual 39, 3) := by decide +kernel
theorem d6_73 : decode prog_2_method_2_code 73 = .ok (.ireturn, 1) := by decide +kernel
theorem pd_6 : parseMethodDescriptor "([I)I" = some ⟨[(.array .int)], some .int⟩ := by decide +kernel
abbrev Y7 : MethodName := ⟨"com/example/firehouse/firehouse/Bfs", "forget", "()V"⟩
theorem d7_0 : decode prog_2_method_12_code 0 = .ok (.iconst 0, 1) := by decide +kernel
theorem d7_1 : decode prog_2_method_12_code 1 = .ok (.istore_n 1, 1) := by decide +kernel
theorem d7_2 : decode prog_2_method_12_code 2 = .ok (.iload_n 1, 1) := by decide +kernel
theorem d7_3 : decode prog_2_method_12_code 3 = .ok (.aload_n 0, 1) := by decide +kernel
theorem d7_4 : decode prog_2_method_12_code 4 = .ok (.getfield 47, 3) := by decide +kernel
theorem d7_7 : decode prog_2_method_12_code 7 = .ok (.if_icmp .ge 21, 3) := by decide +kernel
theorem d7_10 : decode prog_2_method_12_code 10 = .ok (.aload_n 0, 1) := by decide +kernel
theorem d7_11 : decode prog_2_method_12_code 11 = .ok (.getfield 19, 3) := by decide +kernel
theorem d7_14 : decode prog_2_method_12_code 14 = .ok (.aload_n 0, 1) := by decide +kernel
theorem d7_15 : decode prog_2_method_12_code 15 = .ok (.getfield 23, 3) := by decide +kernel
theorem d7_18 : decode prog_2_method_12_code 18 = .ok (.iload_n 1, 1) := by decide +kernel
theorem d7_19 : decode prog_2_method_12_code 19 = .ok (.iaload, 1) := by decide +kernel
theorem d7_20 : decode prog_2_method_12_code 20 = .ok (.iconst (-1), 1) := by decide +kernel
theorem d7_21 : decode prog_2_method_12_code 21 = .ok (.iastore, 1) := by decide +kernel
theorem d7_22 : decode prog_2_method_12_code 22 = .ok (.iinc 1 1, 3) := by decide +kernel
theorem d7_25 : decode prog_2_method_12_code 25 = .ok (.goto (-23), 3) := by decide +kernel
theorem d7_28 : decode prog_2_method_12_code 28 = .ok (.aload_n 0, 1) := by decide +kernel
theorem d7_29 : decode prog_2_method_12_code 29 = .ok (.iconst 0, 1) := by decide +kernel
theorem d7_30 : decode prog_2_method_12_code 30 = .ok (.putfield 47, 3) := by decide +kernel
theorem d7_33 : decode prog_2_method_12_code 33 = .ok (.return_, 1) := by decide +kernel
theorem pd_7 : parseMethodDescriptor "()V" = some ⟨[], none⟩ := by decide +kernel
abbrev Y8 : MethodName := ⟨"com/example/firehouse/firehouse/Bfs", "spread", "(IIJ)I"⟩
theorem d8_0 : decode prog_2_method_13_code 0 = .ok (.iload_n 1, 1) := by decide +kernel
theorem d8_1 : decode prog_2_method_13_code 1 = .ok (.iload_n 2, 1) := by decide +kernel
theorem d8_2 : decode prog_2_method_13_code 2 = .ok (.if_icmp .ge 116, 3) := by decide +kernel
theorem d8_5 : decode prog_2_method_13_code 5 = .ok (.aload_n 0, 1) := by decide +kernel
theorem d8_6 : decode prog_2_method_13_code 6 = .ok (.getfield 19, 3) := by decide +kernel
theorem d8_9 : decode prog_2_method_13_code 9 = .ok (.aload_n 0, 1) := by decide +kernel
theorem d8_10 : decode prog_2_method_13_code 10 = .ok (.getfield 23, 3) := by decide +kernel
theorem d8_13 : decode prog_2_method_13_code 13 = .ok (.iload_n 1, 1) := by decide +kernel
theorem d8_14 : decode prog_2_method_13_code 14 = .ok (.iaload, 1) := by decide +kernel
theorem d8_15 : decode prog_2_method_13_code 15 = .ok (.iaload, 1) := by decide +kernel
theorem d8_16 : decode prog_2_method_13_code 16 = .ok (.i2l, 1) := by decide +kernel
theorem d8_17 : decode prog_2_method_13_code 17 = .ok (.lload_n 3, 1) := by decide +kernel
theorem d8_18 : decode prog_2_method_13_code 18 = .ok (.lcmp, 1) := by decide +kernel
theorem d8_19 : decode prog_2_method_13_code 19 = .ok (.ifCond .ge 99, 3) := by decide +kernel
theorem d8_22 : decode prog_2_method_13_code 22 = .ok (.aload_n 0, 1) := by decide +kernel
theorem d8_23 : decode prog_2_method_13_code 23 = .ok (.getfield 23, 3) := by decide +kernel
theorem d8_26 : decode prog_2_method_13_code 26 = .ok (.iload_n 1, 1) := by decide +kernel
theorem d8_27 : decode prog_2_method_13_code 27 = .ok (.iaload, 1) := by decide +kernel
theorem d8_28 : decode prog_2_method_13_code 28 = .ok (.istore 5, 2) := by decide +kernel
theorem d8_30 : decode prog_2_method_13_code 30 = .ok (.iinc 1 1, 3) := by decide +kernel
theorem d8_33 : decode prog_2_method_13_code 33 = .ok (.aload_n 0, 1) := by decide +kernel
theorem d8_34 : decode prog_2_method_13_code 34 = .ok (.getfield 19, 3) := by decide +kernel
theorem d8_37 : decode prog_2_method_13_code 37 = .ok (.iload 5, 2) := by decide +kernel
theorem d8_39 : decode prog_2_method_13_code 39 = .ok (.iaload, 1) := by decide +kernel
theorem d8_40 : decode prog_2_method_13_code 40 = .ok (.iconst 1, 1) := by decide +kernel
theorem d8_41 : decode prog_2_method_13_code 41 = .ok (.iadd, 1) := by decide +kernel
theorem d8_42 : decode prog_2_method_13_code 42 = .ok (.istore 6, 2) := by decide +kernel
theorem d8_44 : decode prog_2_method_13_code 44 = .ok (.aload_n 0, 1) := by decide +kernel
theorem d8_45 : decode prog_2_method_13_code 45 = .ok (.getfield 7, 3) := by decide +kernel
theorem d8_48 : decode prog_2_method_13_code 48 = .ok (.iload 5, 2) := by decide +kernel
theorem d8_50 : decode prog_2_method_13_code 50 = .ok (.invokevirtual 52, 3) := by decide +kernel
theorem d8_53 : decode prog_2_method_13_code 53 = .ok (.istore 7, 2) := by decide +kernel
theorem d8_55 : decode prog_2_method_13_code 55 = .ok (.iconst 0, 1) := by decide +kernel
theorem d8_56 : decode prog_2_method_13_code 56 = .ok (.istore 8, 2) := by decide +kernel
theorem d8_58 : decode prog_2_method_13_code 58 = .ok (.iload 8, 2) := by decide +kernel
theorem d8_60 : decode prog_2_method_13_code 60 = .ok (.iload 7, 2) := by decide +kernel
theorem d8_62 : decode prog_2_method_13_code 62 = .ok (.if_icmp .ge 53, 3) := by decide +kernel
theorem d8_65 : decode prog_2_method_13_code 65 = .ok (.aload_n 0, 1) := by decide +kernel
theorem d8_66 : decode prog_2_method_13_code 66 = .ok (.getfield 7, 3) := by decide +kernel
theorem d8_69 : decode prog_2_method_13_code 69 = .ok (.iload 5, 2) := by decide +kernel
theorem d8_71 : decode prog_2_method_13_code 71 = .ok (.iload 8, 2) := by decide +kernel
theorem d8_73 : decode prog_2_method_13_code 73 = .ok (.invokevirtual 56, 3) := by decide +kernel
theorem d8_76 : decode prog_2_method_13_code 76 = .ok (.istore 9, 2) := by decide +kernel
theorem d8_78 : decode prog_2_method_13_code 78 = .ok (.aload_n 0, 1) := by decide +kernel
theorem d8_79 : decode prog_2_method_13_code 79 = .ok (.getfield 19, 3) := by decide +kernel
theorem d8_82 : decode prog_2_method_13_code 82 = .ok (.iload 9, 2) := by decide +kernel
theorem d8_84 : decode prog_2_method_13_code 84 = .ok (.iaload, 1) := by decide +kernel
theorem d8_85 : decode prog_2_method_13_code 85 = .ok (.iconst (-1), 1) := by decide +kernel
theorem d8_86 : decode prog_2_method_13_code 86 = .ok (.if_icmp .ne 23, 3) := by decide +kernel
theorem d8_89 : decode prog_2_method_13_code 89 = .ok (.aload_n 0, 1) := by decide +kernel
theorem d8_90 : decode prog_2_method_13_code 90 = .ok (.getfield 19, 3) := by decide +kernel
theorem d8_93 : decode prog_2_method_13_code 93 = .ok (.iload 9, 2) := by decide +kernel
theorem d8_95 : decode prog_2_method_13_code 95 = .ok (.iload 6, 2) := by decide +kernel
theorem d8_97 : decode prog_2_method_13_code 97 = .ok (.iastore, 1) := by decide +kernel
theorem d8_98 : decode prog_2_method_13_code 98 = .ok (.aload_n 0, 1) := by decide +kernel
theorem d8_99 : decode prog_2_method_13_code 99 = .ok (.getfield 23, 3) := by decide +kernel
theorem d8_102 : decode prog_2_method_13_code 102 = .ok (.iload_n 2, 1) := by decide +kernel
theorem d8_103 : decode prog_2_method_13_code 103 = .ok (.iload 9, 2) := by decide +kernel
theorem d8_105 : decode prog_2_method_13_code 105 = .ok (.iastore, 1) := by decide +kernel
theorem d8_106 : decode prog_2_method_13_code 106 = .ok (.iinc 2 1, 3) := by decide +kernel
theorem d8_109 : decode prog_2_method_13_code 109 = .ok (.iinc 8 1, 3) := by decide +kernel
theorem d8_112 : decode prog_2_method_13_code 112 = .ok (.goto (-54), 3) := by decide +kernel
theorem d8_115 : decode prog_2_method_13_code 115 = .ok (.goto (-115), 3) := by decide +kernel
theorem d8_118 : decode prog_2_method_13_code 118 = .ok (.aload_n 0, 1) := by decide +kernel
theorem d8_119 : decode prog_2_method_13_code 119 = .ok (.iload_n 2, 1) := by decide +kernel
theorem d8_120 : decode prog_2_method_13_code 120 = .ok (.putfield 47, 3) := by decide +kernel
theorem d8_123 : decode prog_2_method_13_code 123 = .ok (.aload_n 0, 1) := by decide +kernel
theorem d8_124 : decode prog_2_method_13_code 124 = .ok (.getfield 23, 3) := by decide +kernel
theorem d8_127 : decode prog_2_method_13_code 127 = .ok (.iload_n 2, 1) := by decide +kernel
theorem d8_128 : decode prog_2_method_13_code 128 = .ok (.iconst 1, 1) := by decide +kernel
theorem d8_129 : decode prog_2_method_13_code 129 = .ok (.isub, 1) := by decide +kernel
theorem d8_130 : decode prog_2_method_13_code 130 = .ok (.iaload, 1) := by decide +kernel
theorem d8_131 : decode prog_2_method_13_code 131 = .ok (.ireturn, 1) := by decide +kernel
theorem pd_8 : parseMethodDescriptor "(IIJ)I" = some ⟨[.int, .int, .long], some .int⟩ := by decide +kernel
abbrev Y9 : MethodName := ⟨"com/example/firehouse/firehouse/Graph", "degree", "(I)I"⟩
theorem d9_0 : decode prog_17_method_11_code 0 = .ok (.aload_n 0, 1) := by decide +kernel
theorem d9_1 : decode prog_17_method_11_code 1 = .ok (.getfield 17, 3) := by decide +kernel
theorem d9_4 : decode prog_17_method_11_code 4 = .ok (.iload_n 1, 1) := by decide +kernel
theorem d9_5 : decode prog_17_method_11_code 5 = .ok (.iconst 1, 1) := by decide +kernel
theorem d9_6 : decode prog_17_method_11_code 6 = .ok (.iadd, 1) := by decide +kernel
theorem d9_7 : decode prog_17_method_11_code 7 = .ok (.iaload, 1) := by decide +kernel
theorem d9_8 : decode prog_17_method_11_code 8 = .ok (.aload_n 0, 1) := by decide +kernel
theorem d9_9 : decode prog_17_method_11_code 9 = .ok (.getfield 17, 3) := by decide +kernel
theorem d9_12 : decode prog_17_method_11_code 12 = .ok (.iload_n 1, 1) := by decide +kernel
theorem d9_13 : decode prog_17_method_11_code 13 = .ok (.iaload, 1) := by decide +kernel
theorem d9_14 : decode prog_17_method_11_code 14 = .ok (.isub, 1) := by decide +kernel
theorem d9_15 : decode prog_17_method_11_code 15 = .ok (.ireturn, 1) := by decide +kernel
theorem pd_9 : parseMethodDescriptor "(I)I" = some ⟨[.int], some .int⟩ := by decide +kernel
abbrev Y10 : MethodName := ⟨"com/example/firehouse/firehouse/Graph", "neighbour", "(II)I"⟩
theorem d10_0 : decode prog_17_method_12_code 0 = .ok (.aload_n 0, 1) := by decide +kernel
theorem d10_1 : decode prog_17_method_12_code 1 = .ok (.getfield 21, 3) := by decide +kernel
theorem d10_4 : decode prog_17_method_12_code 4 = .ok (.aload_n 0, 1) := by decide +kernel
theorem d10_5 : decode prog_17_method_12_code 5 = .ok (.getfield 17, 3) := by decide +kernel
theorem d10_8 : decode prog_17_method_12_code 8 = .ok (.iload_n 1, 1) := by decide +kernel
theorem d10_9 : decode prog_17_method_12_code 9 = .ok (.iaload, 1) := by decide +kernel
theorem d10_10 : decode prog_17_method_12_code 10 = .ok (.iload_n 2, 1) := by decide +kernel
theorem d10_11 : decode prog_17_method_12_code 11 = .ok (.iadd, 1) := by decide +kernel
theorem d10_12 : decode prog_17_method_12_code 12 = .ok (.iaload, 1) := by decide +kernel
theorem d10_13 : decode prog_17_method_12_code 13 = .ok (.ireturn, 1) := by decide +kernel
theorem pd_10 : parseMethodDescriptor "(II)I" = some ⟨[.int, .int], some .int⟩ := by decide +kernel
abbrev Y11 : MethodName := ⟨"com/example/firehouse/firehouse/Bfs", "searchWithin", "(IJ)V"⟩
theorem d11_0 : decode prog_2_method_3_code 0 = .ok (.aload_n 0, 1) := by decide +kernel
theorem d11_1 : decode prog_2_method_3_code 1 = .ok (.invokevirtual 32, 3) := by decide +kernel
theorem d11_4 : decode prog_2_method_3_code 4 = .ok (.aload_n 0, 1) := by decide +kernel
theorem d11_5 : decode prog_2_method_3_code 5 = .ok (.getfield 19, 3) := by decide +kernel
theorem d11_8 : decode prog_2_method_3_code 8 = .ok (.iload_n 1, 1) := by decide +kernel
theorem d11_9 : decode prog_2_method_3_code 9 = .ok (.iconst 0, 1) := by decide +kernel
theorem d11_10 : decode prog_2_method_3_code 10 = .ok (.iastore, 1) := by decide +kernel
theorem d11_11 : decode prog_2_method_3_code 11 = .ok (.aload_n 0, 1) := by decide +kernel
theorem d11_12 : decode prog_2_method_3_code 12 = .ok (.getfield 23, 3) := by decide +kernel
theorem d11_15 : decode prog_2_method_3_code 15 = .ok (.iconst 0, 1) := by decide +kernel
theorem d11_16 : decode prog_2_method_3_code 16 = .ok (.iload_n 1, 1) := by decide +kernel
theorem d11_17 : decode prog_2_method_3_code 17 = .ok (.iastore, 1) := by decide +kernel
theorem d11_18 : decode prog_2_method_3_code 18 = .ok (.aload_n 0, 1) := by decide +kernel
theorem d11_19 : decode prog_2_method_3_code 19 = .ok (.iconst 0, 1) := by decide +kernel
theorem d11_20 : decode prog_2_method_3_code 20 = .ok (.iconst 1, 1) := by decide +kernel
theorem d11_21 : decode prog_2_method_3_code 21 = .ok (.lload_n 2, 1) := by decide +kernel
theorem d11_22 : decode prog_2_method_3_code 22 = .ok (.invokevirtual 39, 3) := by decide +kernel
theorem d11_25 : decode prog_2_method_3_code 25 = .ok (.pop, 1) := by decide +kernel
theorem d11_26 : decode prog_2_method_3_code 26 = .ok (.return_, 1) := by decide +kernel
theorem pd_11 : parseMethodDescriptor "(IJ)V" = some ⟨[.int, .long], none⟩ := by decide +kernel
abbrev Y12 : MethodName := ⟨"com/example/firehouse/firehouse/Bfs", "reachedCount", "()I"⟩
theorem d12_0 : decode prog_2_method_8_code 0 = .ok (.aload_n 0, 1) := by decide +kernel
theorem d12_1 : decode prog_2_method_8_code 1 = .ok (.getfield 47, 3) := by decide +kernel
theorem d12_4 : decode prog_2_method_8_code 4 = .ok (.ireturn, 1) := by decide +kernel
theorem pd_12 : parseMethodDescriptor "()I" = some ⟨[], some .int⟩ := by decide +kernel
abbrev Y13 : MethodName := ⟨"com/example/firehouse/firehouse/Bfs", "reached", "(I)I"⟩
theorem d13_0 : decode prog_2_method_9_code 0 = .ok (.aload_n 0, 1) := by decide +kernel
theorem d13_1 : decode prog_2_method_9_code 1 = .ok (.getfield 23, 3) := by decide +kernel
theorem d13_4 : decode prog_2_method_9_code 4 = .ok (.iload_n 1, 1) := by decide +kernel
theorem d13_5 : decode prog_2_method_9_code 5 = .ok (.iaload, 1) := by decide +kernel
theorem d13_6 : decode prog_2_method_9_code 6 = .ok (.ireturn, 1) := by decide +kernel
theorem pd_13 : parseMethodDescriptor "(I)I" = some ⟨[.int], some .int⟩ := by decide +kernel
abbrev Y14 : MethodName := ⟨"com/example/firehouse/firehouse/Bfs", "farthestAmong", "([Z)I"⟩
theorem d14_0 : decode prog_2_method_6_code 0 = .ok (.iconst (-1), 1) := by decide +kernel
theorem d14_1 : decode prog_2_method_6_code 1 = .ok (.istore_n 2, 1) := by decide +kernel
theorem d14_2 : decode prog_2_method_6_code 2 = .ok (.aload_n 0, 1) := by decide +kernel
theorem d14_3 : decode prog_2_method_6_code 3 = .ok (.getfield 47, 3) := by decide +kernel
theorem d14_6 : decode prog_2_method_6_code 6 = .ok (.iconst 1, 1) := by decide +kernel
theorem d14_7 : decode prog_2_method_6_code 7 = .ok (.isub, 1) := by decide +kernel
theorem d14_8 : decode prog_2_method_6_code 8 = .ok (.istore_n 3, 1) := by decide +kernel
theorem d14_9 : decode prog_2_method_6_code 9 = .ok (.iload_n 3, 1) := by decide +kernel
theorem d14_10 : decode prog_2_method_6_code 10 = .ok (.ifCond .lt 31, 3) := by decide +kernel
theorem d14_13 : decode prog_2_method_6_code 13 = .ok (.iload_n 2, 1) := by decide +kernel
theorem d14_14 : decode prog_2_method_6_code 14 = .ok (.ifCond .ge 27, 3) := by decide +kernel
theorem d14_17 : decode prog_2_method_6_code 17 = .ok (.aload_n 1, 1) := by decide +kernel
theorem d14_18 : decode prog_2_method_6_code 18 = .ok (.aload_n 0, 1) := by decide +kernel
theorem d14_19 : decode prog_2_method_6_code 19 = .ok (.getfield 23, 3) := by decide +kernel
theorem d14_22 : decode prog_2_method_6_code 22 = .ok (.iload_n 3, 1) := by decide +kernel
theorem d14_23 : decode prog_2_method_6_code 23 = .ok (.iaload, 1) := by decide +kernel
theorem d14_24 : decode prog_2_method_6_code 24 = .ok (.baload, 1) := by decide +kernel
theorem d14_25 : decode prog_2_method_6_code 25 = .ok (.ifCond .eq 10, 3) := by decide +kernel
theorem d14_28 : decode prog_2_method_6_code 28 = .ok (.aload_n 0, 1) := by decide +kernel
theorem d14_29 : decode prog_2_method_6_code 29 = .ok (.getfield 23, 3) := by decide +kernel
theorem d14_32 : decode prog_2_method_6_code 32 = .ok (.iload_n 3, 1) := by decide +kernel
theorem d14_33 : decode prog_2_method_6_code 33 = .ok (.iaload, 1) := by decide +kernel
theorem d14_34 : decode prog_2_method_6_code 34 = .ok (.istore_n 2, 1) := by decide +kernel
theorem d14_35 : decode prog_2_method_6_code 35 = .ok (.iinc 3 (-1), 3) := by decide +kernel
theorem d14_38 : decode prog_2_method_6_code 38 = .ok (.goto (-29), 3) := by decide +kernel
theorem d14_41 : decode prog_2_method_6_code 41 = .ok (.iload_n 2, 1) := by decide +kernel
theorem d14_42 : decode prog_2_method_6_code 42 = .ok (.ireturn, 1) := by decide +kernel
theorem pd_14 : parseMethodDescriptor "([Z)I" = some ⟨[(.array .boolean)], some .int⟩ := by decide +kernel
theorem pl_0 : plainFor Y0 = true := plainFor_of_name (show plainName "com/example/firehouse/firehouse/BfsFarthestAmongPinLaw" = true by first | (simp [plainName, overriddenIn]; done) | decide +kernel)
theorem pl_1 : plainFor Y1 = true := plainFor_of_name (show plainName "com/example/firehouse/firehouse/Graph" = true by first | (simp [plainName, overriddenIn]; done) | decide +kernel)
theorem pl_3 : plainFor Y3 = true := plainFor_of_name (show plainName "com/example/firehouse/firehouse/Bfs" = true by first | (simp [plainName, overriddenIn]; done) | decide +kernel)
theorem pl_4 : plainFor Y4 = true := plainFor_of_name (show plainName "com/example/firehouse/firehouse/Graph" = true by first | (simp [plainName, overriddenIn]; done) | decide +kernel)
theorem pl_5 : plainFor Y5 = true := plainFor_of_name (show plainName "java/util/Arrays" = true by first | (simp [plainName, overriddenIn]; done) | decide +kernel)
theorem pl_6 : plainFor Y6 = true := plainFor_of_name (show plainName "com/example/firehouse/firehouse/Bfs" = true by first | (simp [plainName, overriddenIn]; done) | decide +kernel)
theorem pl_7 : plainFor Y7 = true := plainFor_of_name (show plainName "com/example/firehouse/firehouse/Bfs" = true by first | (simp [plainName, overriddenIn]; done) | decide +kernel)
theorem pl_8 : plainFor Y8 = true := plainFor_of_name (show plainName "com/example/firehouse/firehouse/Bfs" = true by first | (simp [plainName, overriddenIn]; done) | decide +kernel)
theorem pl_9 : plainFor Y9 = true := plainFor_of_name (show plainName "com/example/firehouse/firehouse/Graph" = true by first | (simp [plainName, overriddenIn]; done) | decide +kernel)
theorem pl_10 : plainFor Y10 = true := plainFor_of_name (show plainName "com/example/firehouse/firehouse/Graph" = true by first | (simp [plainName, overriddenIn]; done) | decide +kernel)
theorem pl_11 : plainFor Y11 = true := plainFor_of_name (show plainName "com/example/firehouse/firehouse/Bfs" = true by first | (simp [plainName, overriddenIn]; done) | decide +kernel)
theorem pl_12 : plainFor Y12 = true := plainFor_of_name (show plainName "com/example/firehouse/firehouse/Bfs" = true by first | (simp [plainName, overriddenIn]; done) | decide +kernel)
theorem pl_13 : plainFor Y13 = true := plainFor_of_name (show plainName "com/example/firehouse/firehouse/Bfs" = true by first | (simp [plainName, overriddenIn]; done) | decide +kernel)
theorem pl_14 : plainFor Y14 = true := plainFor_of_name (show plainName "com/example/firehouse/firehouse/Bfs" = true by first | (simp [plainName, overriddenIn]; done) | decide +kernel)
theorem ic_m1 : Int32.ofInt (-1) = (-1 : Int32) := rfl
theorem ic_0 : Int32.ofInt (0) = (0 : Int32) := rfl
theorem ic_1 : Int32.ofInt (1) = (1 : Int32) := rfl
theorem ic_2 : Int32.ofInt (2) = (2 : Int32) := rfl
theorem ic_3 : Int32.ofInt (3) = (3 : Int32) := rfl
theorem ic_4 : Int32.ofInt (4) = (4 : Int32) := rfl
theorem ic_5 : Int32.ofInt (5) = (5 : Int32) := rfl
theorem bi_6 : (Int8.ofInt (6)).toInt32 = (6 : Int32) := by decide
theorem bi_7 : (Int8.ofInt (7)).toInt32 = (7 : Int32) := by decide
theorem bi_8 : (Int8.ofInt (8)).toInt32 = (8 : Int32) := by decide
theorem bi_16 : (Int8.ofInt (16)).toInt32 = (16 : Int32) := by decide
/-- Object.<init>, called from a constructor -/
theorem goInitO {w : W} {l : Launch} {R : Room} {Z : State} {n0 : Nat} {y : MethodName} {code : ByteArray} {ml : Nat} {ret : Option FieldType} {pc : Nat} {Ls : List Slot} {st : List Value} {h : Heap} {cells slots : Nat} {a : Addr} {idx : Nat} {a0 : Array Value} (r : Go w l R Z n0 y code ml ret pc Ls (.ref a :: st) h cells slots) (pc' : Nat) (hd : decode code pc = .ok (.invokespecial idx, 3)) (hp : pc + 3 = pc') (w1 : (Jvm.Cond.methodLink y.cls idx Lib.objectInit).before a0 Z = true) (w2 : (Jvm.Cond.instanceMethod Lib.objectInit).before a0 Z = true) (w3 : (Jvm.Cond.code Lib.objectInit object_method_1_code 1 none).before a0 Z = true) (hLs : Ls.length = ml) (hf : 1 ≤ R.frames) (hl : wt st + 12 ≤ R.locals) : Go w l R Z n0 y code ml ret pc' Ls st h cells slots := by
  subst hp
  obtain ⟨S, T, locs, X, e, N, k⟩ := r
  obtain ⟨T', X', e', q⟩ := Jvm.RoadKit.initO X S.1 S.2.1 S.2.2.1 w1 w2 w3 e (g := mkF w.m pc Ls.toArray (.ref a :: st)) rfl (by rw [S.2.2.2.2.1]; simpa using hLs) rfl (hb S.2.2.2.1 hd) hf (W := wt st) (by show 2 * 0 + _ ≤ _; simp [wt]) hl
  exact ⟨S, T', locs, X', e', N, fun t z => k t (q t z)⟩
theorem sn_componentCount_ids {Z : State} {a0 : Array Value} (hw : Ws Z a0) : Jvm.RoadKit.slotOf Z "com/example/firehouse/firehouse/Graph" "componentCount" "I" ≠ Jvm.RoadKit.slotOf Z "com/example/firehouse/firehouse/Graph" "ids" "[J" := slot_ne (C := "com/example/firehouse/firehouse/Graph") (Or.inl (wd_17 hw)) (Or.inr (wd_19 hw)) (by decide) (t := .int) (t' := (.array .long)) (by decide) (by decide)
theorem sn_componentCount_offsets {Z : State} {a0 : Array Value} (hw : Ws Z a0) : Jvm.RoadKit.slotOf Z "com/example/firehouse/firehouse/Graph" "componentCount" "I" ≠ Jvm.RoadKit.slotOf Z "com/example/firehouse/firehouse/Graph" "offsets" "[I" := slot_ne (C := "com/example/firehouse/firehouse/Graph") (Or.inl (wd_17 hw)) (Or.inr (wd_21 hw)) (by decide) (t := .int) (t' := (.array .int)) (by decide) (by decide)
theorem sn_componentCount_neighbours {Z : State} {a0 : Array Value} (hw : Ws Z a0) : Jvm.RoadKit.slotOf Z "com/example/firehouse/firehouse/Graph" "componentCount" "I" ≠ Jvm.RoadKit.slotOf Z "com/example/firehouse/firehouse/Graph" "neighbours" "[I" := slot_ne (C := "com/example/firehouse/firehouse/Graph") (Or.inl (wd_17 hw)) (Or.inr (wd_23 hw)) (by decide) (t := .int) (t' := (.array .int)) (by decide) (by decide)
theorem sn_componentCount_selfLoopsDropped {Z : State} {a0 : Array Value} (hw : Ws Z a0) : Jvm.RoadKit.slotOf Z "com/example/firehouse/firehouse/Graph" "componentCount" "I" ≠ Jvm.RoadKit.slotOf Z "com/example/firehouse/firehouse/Graph" "selfLoopsDropped" "J" := slot_ne (C := "com/example/firehouse/firehouse/Graph") (Or.inl (wd_17 hw)) (Or.inr (wd_25 hw)) (by decide) (t := .int) (t' := .long) (by decide) (by decide)
theorem sn_componentCount_repeatedEdgesMerged {Z : State} {a0 : Array Value} (hw : Ws Z a0) : Jvm.RoadKit.slotOf Z "com/example/firehouse/firehouse/Graph" "componentCount" "I" ≠ Jvm.RoadKit.slotOf Z "com/example/firehouse/firehouse/Graph" "repeatedEdgesMerged" "J" := slot_ne (C := "com/example/firehouse/firehouse/Graph") (Or.inl (wd_17 hw)) (Or.inr (wd_27 hw)) (by decide) (t := .int) (t' := .long) (by decide) (by decide)
theorem sn_ids_componentCount {Z : State} {a0 : Array Value} (hw : Ws Z a0) : Jvm.RoadKit.slotOf Z "com/example/firehouse/firehouse/Graph" "ids" "[J" ≠ Jvm.RoadKit.slotOf Z "com/example/firehouse/firehouse/Graph" "componentCount" "I" := slot_ne (C := "com/example/firehouse/firehouse/Graph") (Or.inr (wd_19 hw)) (Or.inl (wd_17 hw)) (by decide) (t := (.array .long)) (t' := .int) (by decide) (by decide)
theorem sn_ids_offsets {Z : State} {a0 : Array Value} (hw : Ws Z a0) : Jvm.RoadKit.slotOf Z "com/example/firehouse/firehouse/Graph" "ids" "[J" ≠ Jvm.RoadKit.slotOf Z "com/example/firehouse/firehouse/Graph" "offsets" "[I" := slot_ne (C := "com/example/firehouse/firehouse/Graph") (Or.inr (wd_19 hw)) (Or.inr (wd_21 hw)) (by decide) (t := (.array .long)) (t' := (.array .int)) (by decide) (by decide)
theorem sn_ids_neighbours {Z : State} {a0 : Array Value} (hw : Ws Z a0) : Jvm.RoadKit.slotOf Z "com/example/firehouse/firehouse/Graph" "ids" "[J" ≠ Jvm.RoadKit.slotOf Z "com/example/firehouse/firehouse/Graph" "neighbours" "[I" := slot_ne (C := "com/example/firehouse/firehouse/Graph") (Or.inr (wd_19 hw)) (Or.inr (wd_23 hw)) (by decide) (t := (.array .long)) (t' := (.array .int)) (by decide) (by decide)
theorem sn_ids_selfLoopsDropped {Z : State} {a0 : Array Value} (hw : Ws Z a0) : Jvm.RoadKit.slotOf Z "com/example/firehouse/firehouse/Graph" "ids" "[J" ≠ Jvm.RoadKit.slotOf Z "com/example/firehouse/firehouse/Graph" "selfLoopsDropped" "J" := slot_ne (C := "com/example/firehouse/firehouse/Graph") (Or.inr (wd_19 hw)) (Or.inr (wd_25 hw)) (by decide) (t := (.array .long)) (t' := .long) (by decide) (by decide)
theorem sn_ids_repeatedEdgesMerged {Z : State} {a0 : Array Value} (hw : Ws Z a0) : Jvm.RoadKit.slotOf Z "com/example/firehouse/firehouse/Graph" "ids" "[J" ≠ Jvm.RoadKit.slotOf Z "com/example/firehouse/firehouse/Graph" "repeatedEdgesMerged" "J" := slot_ne (C := "com/example/firehouse/firehouse/Graph") (Or.inr (wd_19 hw)) (Or.inr (wd_27 hw)) (by decide) (t := (.array .long)) (t' := .long) (by decide) (by decide)
theorem sn_offsets_componentCount {Z : State} {a0 : Array Value} (hw : Ws Z a0) : Jvm.RoadKit.slotOf Z "com/example/firehouse/firehouse/Graph" "offsets" "[I" ≠ Jvm.RoadKit.slotOf Z "com/example/firehouse/firehouse/Graph" "componentCount" "I" := slot_ne (C := "com/example/firehouse/firehouse/Graph") (Or.inr (wd_21 hw)) (Or.inl (wd_17 hw)) (by decide) (t := (.array .int)) (t' := .int) (by decide) (by decide)
theorem sn_offsets_ids {Z : State} {a0 : Array Value} (hw : Ws Z a0) : Jvm.RoadKit.slotOf Z "com/example/firehouse/firehouse/Graph" "offsets" "[I" ≠ Jvm.RoadKit.slotOf Z "com/example/firehouse/firehouse/Graph" "ids" "[J" := slot_ne (C := "com/example/firehouse/firehouse/Graph") (Or.inr (wd_21 hw)) (Or.inr (wd_19 hw)) (by decide) (t := (.array .int)) (t' := (.array .long)) (by decide) (by decide)
theorem sn_offsets_neighbours {Z : State} {a0 : Array Value} (hw : Ws Z a0) : Jvm.RoadKit.slotOf Z "com/example/firehouse/firehouse/Graph" "offsets" "[I" ≠ Jvm.RoadKit.slotOf Z "com/example/firehouse/firehouse/Graph" "neighbours" "[I" := slot_ne (C := "com/example/firehouse/firehouse/Graph") (Or.inr (wd_21 hw)) (Or.inr (wd_23 hw)) (by decide) (t := (.array .int)) (t' := (.array .int)) (by decide) (by decide)
theorem sn_offsets_selfLoopsDropped {Z : State} {a0 : Array Value} (hw : Ws Z a0) : Jvm.RoadKit.slotOf Z "com/example/firehouse/firehouse/Graph" "offsets" "[I" ≠ Jvm.RoadKit.slotOf Z "com/example/firehouse/firehouse/Graph" "selfLoopsDropped" "J" := slot_ne (C := "com/example/firehouse/firehouse/Graph") (Or.inr (wd_21 hw)) (Or.inr (wd_25 hw)) (by decide) (t := (.array .int)) (t' := .long) (by decide) (by decide)
theorem sn_offsets_repeatedEdgesMerged {Z : State} {a0 : Array Value} (hw : Ws Z a0) : Jvm.RoadKit.slotOf Z "com/example/firehouse/firehouse/Graph" "offsets" "[I" ≠ Jvm.RoadKit.slotOf Z "com/example/firehouse/firehouse/Graph" "repeatedEdgesMerged" "J" := slot_ne (C := "com/example/firehouse/firehouse/Graph") (Or.inr (wd_21 hw)) (Or.inr (wd_27 hw)) (by decide) (t := (.array .int)) (t' := .long) (by decide) (by decide)
theorem sn_neighbours_componentCount {Z : State} {a0 : Array Value} (hw : Ws Z a0) : Jvm.RoadKit.slotOf Z "com/example/firehouse/firehouse/Graph" "neighbours" "[I" ≠ Jvm.RoadKit.slotOf Z "com/example/firehouse/firehouse/Graph" "componentCount" "I" := slot_ne (C := "com/example/firehouse/firehouse/Graph") (Or.inr (wd_23 hw)) (Or.inl (wd_17 hw)) (by decide) (t := (.array .int)) (t' := .int) (by decide) (by decide)
theorem sn_neighbours_ids {Z : State} {a0 : Array Value} (hw : Ws Z a0) : Jvm.RoadKit.slotOf Z "com/example/firehouse/firehouse/Graph" "neighbours" "[I" ≠ Jvm.RoadKit.slotOf Z "com/example/firehouse/firehouse/Graph" "ids" "[J" := slot_ne (C := "com/example/firehouse/firehouse/Graph") (Or.inr (wd_23 hw)) (Or.inr (wd_19 hw)) (by decide) (t := (.array .int)) (t' := (.array .long)) (by decide) (by decide)
theorem sn_neighbours_offsets {Z : State} {a0 : Array Value} (hw : Ws Z a0) : Jvm.RoadKit.slotOf Z "com/example/firehouse/firehouse/Graph" "neighbours" "[I" ≠ Jvm.RoadKit.slotOf Z "com/example/firehouse/firehouse/Graph" "offsets" "[I" := slot_ne (C := "com/example/firehouse/firehouse/Graph") (Or.inr (wd_23 hw)) (Or.inr (wd_21 hw)) (by decide) (t := (.array .int)) (t' := (.array .int)) (by decide) (by decide)
theorem sn_neighbours_selfLoopsDropped {Z : State} {a0 : Array Value} (hw : Ws Z a0) : Jvm.RoadKit.slotOf Z "com/example/firehouse/firehouse/Graph" "neighbours" "[I" ≠ Jvm.RoadKit.slotOf Z "com/example/firehouse/firehouse/Graph" "selfLoopsDropped" "J" := slot_ne (C := "com/example/firehouse/firehouse/Graph") (Or.inr (wd_23 hw)) (Or.inr (wd_25 hw)) (by decide) (t := (.array .int)) (t' := .long) (by decide) (by decide)
theorem sn_neighbours_repeatedEdgesMerged {Z : State} {a0 : Array Value} (hw : Ws Z a0) : Jvm.RoadKit.slotOf Z "com/example/firehouse/firehouse/Graph" "neighbours" "[I" ≠ Jvm.RoadKit.slotOf Z "com/example/firehouse/firehouse/Graph" "repeatedEdgesMerged" "J" := slot_ne (C := "com/example/firehouse/firehouse/Graph") (Or.inr (wd_23 hw)) (Or.inr (wd_27 hw)) (by decide) (t := (.array .int)) (t' := .long) (by decide) (by decide)
theorem sn_selfLoopsDropped_componentCount {Z : State} {a0 : Array Value} (hw : Ws Z a0) : Jvm.RoadKit.slotOf Z "com/example/firehouse/firehouse/Graph" "selfLoopsDropped" "J" ≠ Jvm.RoadKit.slotOf Z "com/example/firehouse/firehouse/Graph" "componentCount" "I" := slot_ne (C := "com/example/firehouse/firehouse/Graph") (Or.inr (wd_25 hw)) (Or.inl (wd_17 hw)) (by decide) (t := .long) (t' := .int) (by decide) (by decide)
theorem sn_selfLoopsDropped_ids {Z : State} {a0 : Array Value} (hw : Ws Z a0) : Jvm.RoadKit.slotOf Z "com/example/firehouse/firehouse/Graph" "selfLoopsDropped" "J" ≠ Jvm.RoadKit.slotOf Z "com/example/firehouse/firehouse/Graph" "ids" "[J" := slot_ne (C := "com/example/firehouse/firehouse/Graph") (Or.inr (wd_25 hw)) (Or.inr (wd_19 hw)) (by decide) (t := .long) (t' := (.array .long)) (by decide) (by decide)
theorem sn_selfLoopsDropped_offsets {Z : State} {a0 : Array Value} (hw : Ws Z a0) : Jvm.RoadKit.slotOf Z "com/example/firehouse/firehouse/Graph" "selfLoopsDropped" "J" ≠ Jvm.RoadKit.slotOf Z "com/example/firehouse/firehouse/Graph" "offsets" "[I" := slot_ne (C := "com/example/firehouse/firehouse/Graph") (Or.inr (wd_25 hw)) (Or.inr (wd_21 hw)) (by decide) (t := .long) (t' := (.array .int)) (by decide) (by decide)
theorem sn_selfLoopsDropped_neighbours {Z : State} {a0 : Array Value} (hw : Ws Z a0) : Jvm.RoadKit.slotOf Z "com/example/firehouse/firehouse/Graph" "selfLoopsDropped" "J" ≠ Jvm.RoadKit.slotOf Z "com/example/firehouse/firehouse/Graph" "neighbours" "[I" := slot_ne (C := "com/example/firehouse/firehouse/Graph") (Or.inr (wd_25 hw)) (Or.inr (wd_23 hw)) (by decide) (t := .long) (t' := (.array .int)) (by decide) (by decide)
theorem sn_selfLoopsDropped_repeatedEdgesMerged {Z : State} {a0 : Array Value} (hw : Ws Z a0) : Jvm.RoadKit.slotOf Z "com/example/firehouse/firehouse/Graph" "selfLoopsDropped" "J" ≠ Jvm.RoadKit.slotOf Z "com/example/firehouse/firehouse/Graph" "repeatedEdgesMerged" "J" := slot_ne (C := "com/example/firehouse/firehouse/Graph") (Or.inr (wd_25 hw)) (Or.inr (wd_27 hw)) (by decide) (t := .long) (t' := .long) (by decide) (by decide)
theorem sn_repeatedEdgesMerged_componentCount {Z : State} {a0 : Array Value} (hw : Ws Z a0) : Jvm.RoadKit.slotOf Z "com/example/firehouse/firehouse/Graph" "repeatedEdgesMerged" "J" ≠ Jvm.RoadKit.slotOf Z "com/example/firehouse/firehouse/Graph" "componentCount" "I" := slot_ne (C := "com/example/firehouse/firehouse/Graph") (Or.inr (wd_27 hw)) (Or.inl (wd_17 hw)) (by decide) (t := .long) (t' := .int) (by decide) (by decide)
theorem sn_repeatedEdgesMerged_ids {Z : State} {a0 : Array Value} (hw : Ws Z a0) : Jvm.RoadKit.slotOf Z "com/example/firehouse/firehouse/Graph" "repeatedEdgesMerged" "J" ≠ Jvm.RoadKit.slotOf Z "com/example/firehouse/firehouse/Graph" "ids" "[J" := slot_ne (C := "com/example/firehouse/firehouse/Graph") (Or.inr (wd_27 hw)) (Or.inr (wd_19 hw)) (by decide) (t := .long) (t' := (.array .long)) (by decide) (by decide)
theorem sn_repeatedEdgesMerged_offsets {Z : State} {a0 : Array Value} (hw : Ws Z a0) : Jvm.RoadKit.slotOf Z "com/example/firehouse/firehouse/Graph" "repeatedEdgesMerged" "J" ≠ Jvm.RoadKit.slotOf Z "com/example/firehouse/firehouse/Graph" "offsets" "[I" := slot_ne (C := "com/example/firehouse/firehouse/Graph") (Or.inr (wd_27 hw)) (Or.inr (wd_21 hw)) (by decide) (t := .long) (t' := (.array .int)) (by decide) (by decide)
theorem sn_repeatedEdgesMerged_neighbours {Z : State} {a0 : Array Value} (hw : Ws Z a0) : Jvm.RoadKit.slotOf Z "com/example/firehouse/firehouse/Graph" "repeatedEdgesMerged" "J" ≠ Jvm.RoadKit.slotOf Z "com/example/firehouse/firehouse/Graph" "neighbours" "[I" := slot_ne (C := "com/example/firehouse/firehouse/Graph") (Or.inr (wd_27 hw)) (Or.inr (wd_23 hw)) (by decide) (t := .long) (t' := (.array .int)) (by decide) (by decide)
theorem sn_repeatedEdgesMerged_selfLoopsDropped {Z : State} {a0 : Array Value} (hw : Ws Z a0) : Jvm.RoadKit.slotOf Z "com/example/firehouse/firehouse/Graph" "repeatedEdgesMerged" "J" ≠ Jvm.RoadKit.slotOf Z "com/example/firehouse/firehouse/Graph" "selfLoopsDropped" "J" := slot_ne (C := "com/example/firehouse/firehouse/Graph") (Or.inr (wd_27 hw)) (Or.inr (wd_25 hw)) (by decide) (t := .long) (t' := .long) (by decide) (by decide)
theorem sn_graph_distance {Z : State} {a0 : Array Value} (hw : Ws Z a0) : Jvm.RoadKit.slotOf Z "com/example/firehouse/firehouse/Bfs" "graph" "Lcom/example/firehouse/firehouse/Graph;" ≠ Jvm.RoadKit.slotOf Z "com/example/firehouse/firehouse/Bfs" "distance" "[I" := slot_ne (C := "com/example/firehouse/firehouse/Bfs") (Or.inr (wd_36 hw)) (Or.inr (wd_43 hw)) (by decide) (t := (.object "com/example/firehouse/firehouse/Graph")) (t' := (.array .int)) (by decide) (by decide)
theorem sn_graph_queue {Z : State} {a0 : Array Value} (hw : Ws Z a0) : Jvm.RoadKit.slotOf Z "com/example/firehouse/firehouse/Bfs" "graph" "Lcom/example/firehouse/firehouse/Graph;" ≠ Jvm.RoadKit.slotOf Z "com/example/firehouse/firehouse/Bfs" "queue" "[I" := slot_ne (C := "com/example/firehouse/firehouse/Bfs") (Or.inr (wd_36 hw)) (Or.inr (wd_45 hw)) (by decide) (t := (.object "com/example/firehouse/firehouse/Graph")) (t' := (.array .int)) (by decide) (by decide)
theorem sn_graph_reachedCount {Z : State} {a0 : Array Value} (hw : Ws Z a0) : Jvm.RoadKit.slotOf Z "com/example/firehouse/firehouse/Bfs" "graph" "Lcom/example/firehouse/firehouse/Graph;" ≠ Jvm.RoadKit.slotOf Z "com/example/firehouse/firehouse/Bfs" "reachedCount" "I" := slot_ne (C := "com/example/firehouse/firehouse/Bfs") (Or.inr (wd_36 hw)) (Or.inl (wd_62 hw)) (by decide) (t := (.object "com/example/firehouse/firehouse/Graph")) (t' := .int) (by decide) (by decide)
theorem sn_distance_graph {Z : State} {a0 : Array Value} (hw : Ws Z a0) : Jvm.RoadKit.slotOf Z "com/example/firehouse/firehouse/Bfs" "distance" "[I" ≠ Jvm.RoadKit.slotOf Z "com/example/firehouse/firehouse/Bfs" "graph" "Lcom/example/firehouse/firehouse/Graph;" := slot_ne (C := "com/example/firehouse/firehouse/Bfs") (Or.inr (wd_43 hw)) (Or.inr (wd_36 hw)) (by decide) (t := (.array .int)) (t' := (.object "com/example/firehouse/firehouse/Graph")) (by decide) (by decide)
theorem sn_distance_queue {Z : State} {a0 : Array Value} (hw : Ws Z a0) : Jvm.RoadKit.slotOf Z "com/example/firehouse/firehouse/Bfs" "distance" "[I" ≠ Jvm.RoadKit.slotOf Z "com/example/firehouse/firehouse/Bfs" "queue" "[I" := slot_ne (C := "com/example/firehouse/firehouse/Bfs") (Or.inr (wd_43 hw)) (Or.inr (wd_45 hw)) (by decide) (t := (.array .int)) (t' := (.array .int)) (by decide) (by decide)
theorem sn_distance_reachedCount {Z : State} {a0 : Array Value} (hw : Ws Z a0) : Jvm.RoadKit.slotOf Z "com/example/firehouse/firehouse/Bfs" "distance" "[I" ≠ Jvm.RoadKit.slotOf Z "com/example/firehouse/firehouse/Bfs" "reachedCount" "I" := slot_ne (C := "com/example/firehouse/firehouse/Bfs") (Or.inr (wd_43 hw)) (Or.inl (wd_62 hw)) (by decide) (t := (.array .int)) (t' := .int) (by decide) (by decide)
theorem sn_queue_graph {Z : State} {a0 : Array Value} (hw : Ws Z a0) : Jvm.RoadKit.slotOf Z "com/example/firehouse/firehouse/Bfs" "queue" "[I" ≠ Jvm.RoadKit.slotOf Z "com/example/firehouse/firehouse/Bfs" "graph" "Lcom/example/firehouse/firehouse/Graph;" := slot_ne (C := "com/example/firehouse/firehouse/Bfs") (Or.inr (wd_45 hw)) (Or.inr (wd_36 hw)) (by decide) (t := (.array .int)) (t' := (.object "com/example/firehouse/firehouse/Graph")) (by decide) (by decide)
theorem sn_queue_distance {Z : State} {a0 : Array Value} (hw : Ws Z a0) : Jvm.RoadKit.slotOf Z "com/example/firehouse/firehouse/Bfs" "queue" "[I" ≠ Jvm.RoadKit.slotOf Z "com/example/firehouse/firehouse/Bfs" "distance" "[I" := slot_ne (C := "com/example/firehouse/firehouse/Bfs") (Or.inr (wd_45 hw)) (Or.inr (wd_43 hw)) (by decide) (t := (.array .int)) (t' := (.array .int)) (by decide) (by decide)
theorem sn_queue_reachedCount {Z : State} {a0 : Array Value} (hw : Ws Z a0) : Jvm.RoadKit.slotOf Z "com/example/firehouse/firehouse/Bfs" "queue" "[I" ≠ Jvm.RoadKit.slotOf Z "com/example/firehouse/firehouse/Bfs" "reachedCount" "I" := slot_ne (C := "com/example/firehouse/firehouse/Bfs") (Or.inr (wd_45 hw)) (Or.inl (wd_62 hw)) (by decide) (t := (.array .int)) (t' := .int) (by decide) (by decide)
theorem sn_reachedCount_graph {Z : State} {a0 : Array Value} (hw : Ws Z a0) : Jvm.RoadKit.slotOf Z "com/example/firehouse/firehouse/Bfs" "reachedCount" "I" ≠ Jvm.RoadKit.slotOf Z "com/example/firehouse/firehouse/Bfs" "graph" "Lcom/example/firehouse/firehouse/Graph;" := slot_ne (C := "com/example/firehouse/firehouse/Bfs") (Or.inl (wd_62 hw)) (Or.inr (wd_36 hw)) (by decide) (t := .int) (t' := (.object "com/example/firehouse/firehouse/Graph")) (by decide) (by decide)
theorem sn_reachedCount_distance {Z : State} {a0 : Array Value} (hw : Ws Z a0) : Jvm.RoadKit.slotOf Z "com/example/firehouse/firehouse/Bfs" "reachedCount" "I" ≠ Jvm.RoadKit.slotOf Z "com/example/firehouse/firehouse/Bfs" "distance" "[I" := slot_ne (C := "com/example/firehouse/firehouse/Bfs") (Or.inl (wd_62 hw)) (Or.inr (wd_43 hw)) (by decide) (t := .int) (t' := (.array .int)) (by decide) (by decide)
theorem sn_reachedCount_queue {Z : State} {a0 : Array Value} (hw : Ws Z a0) : Jvm.RoadKit.slotOf Z "com/example/firehouse/firehouse/Bfs" "reachedCount" "I" ≠ Jvm.RoadKit.slotOf Z "com/example/firehouse/firehouse/Bfs" "queue" "[I" := slot_ne (C := "com/example/firehouse/firehouse/Bfs") (Or.inl (wd_62 hw)) (Or.inr (wd_45 hw)) (by decide) (t := .int) (t' := (.array .int)) (by decide) (by decide)

def GR (Z : State) (h : Heap) (g i o b : Addr) (vi vo vn : List Value) : Prop := Exa Z h g "com/example/firehouse/firehouse/Graph" ∧ Fld Z h g "com/example/firehouse/firehouse/Graph" "ids" "[J" (.ref i) ∧ Fld Z h g "com/example/firehouse/firehouse/Graph" "offsets" "[I" (.ref o) ∧ Fld Z h g "com/example/firehouse/firehouse/Graph" "neighbours" "[I" (.ref b) ∧ Ary Z h i .long vi ∧ Ary Z h o .int vo ∧ Ary Z h b .int vn
theorem GR.keep {Z : State} {h h' : Heap} {g i o b : Addr} {vi vo vn : List Value} {ws : List Addr} (G : GR Z h g i o b vi vo vn) (K : Keep h h' ws) (q1 : g ∉ ws) (q2 : i ∉ ws) (q3 : o ∉ ws) (q4 : b ∉ ws) : GR Z h' g i o b vi vo vn := by
  obtain ⟨E, F1, F2, F3, A1, A2, A3⟩ := G
  exact ⟨E.keep K, F1.keep K q1, F2.keep K q1, F3.keep K q1, A1.keep K q2, A2.keep K q3, A3.keep K q4⟩

set_option maxRecDepth 65536 in
set_option maxHeartbeats 40000000 in
theorem ginit_met {l : Launch} {Z : State} {a0 : Array Value} (hw : Ws Z a0) (g i o b : Addr) (s t : Int64) (vi vo vn : List Value) (h0 : Heap) (n0 : Nat) (gg : n0 ≤ g) (gi : g ≠ i) (go : g ≠ o) (gb : g ≠ b) (E : Exa Z h0 g "com/example/firehouse/firehouse/Graph") (F1 : Fld Z h0 g "com/example/firehouse/firehouse/Graph" "componentCount" "I" (.int 0)) (F2 : Fld Z h0 g "com/example/firehouse/firehouse/Graph" "ids" "[J" .null) (F3 : Fld Z h0 g "com/example/firehouse/firehouse/Graph" "offsets" "[I" .null) (F4 : Fld Z h0 g "com/example/firehouse/firehouse/Graph" "neighbours" "[I" .null) (F5 : Fld Z h0 g "com/example/firehouse/firehouse/Graph" "selfLoopsDropped" "J" (.long 0)) (F6 : Fld Z h0 g "com/example/firehouse/firehouse/Graph" "repeatedEdgesMerged" "J" (.long 0)) (A1 : Ary Z h0 i .long vi) (A2 : Ary Z h0 o .int vo) (A3 : Ary Z h0 b .int vn) : Met l Z Y1 prog_17_method_1_code 8 none ({ frames := 1, cells := 0, slots := 0, locals := 24 } : Room) [.ref g, .ref i, .ref o, .ref b, .long s, .long t] h0 n0 (Ret0 fun h => GR Z h g i o b vi vo vn ∧ Keep h0 h [g]) := by
  refine Met.intro (Ls := [.val (.ref g), .val (.ref i), .val (.ref o), .val (.ref b), .val (.long s), .second, .val (.long t), .second]) pl_1 (fun m => by simp [entryFrame, mkF, argsToLocals, Value.category, maxLocals]) fun w r => ?_
  have K := Keep.refl h0 [g]
  replace r := r.ald0 1 d1_0 rfl
  replace r := goInitO r 4 d1_1 rfl (wd_13 hw) (wd_14 hw) (wd_15 hw) rfl (Nat.le_of_ble_eq_true rfl) (Nat.le_of_ble_eq_true rfl)
  replace r := r.ald0 5 d1_4 rfl
  replace r := r.iconstV 6 d1_5 rfl (-1 : Int32) ic_m1
  obtain ⟨h1, W, r⟩ := r.putF 9 d1_6 rfl (wd_16 hw) (Or.inl (wd_17 hw)) (wd_8 hw) E F1 (ty := .int) (by decide) rfl rfl gg
  replace E := E.wr W; replace A1 := A1.other W (Ne.symm gi); replace A2 := A2.other W (Ne.symm go); replace A3 := A3.other W (Ne.symm gb); replace K := K.wr W (Or.inl (by simp)); replace F1 := F1.same W; replace F2 := F2.other W (Or.inr (sn_ids_componentCount hw)); replace F3 := F3.other W (Or.inr (sn_offsets_componentCount hw)); replace F4 := F4.other W (Or.inr (sn_neighbours_componentCount hw)); replace F5 := F5.other W (Or.inr (sn_selfLoopsDropped_componentCount hw)); replace F6 := F6.other W (Or.inr (sn_repeatedEdgesMerged_componentCount hw)); clear W
  replace r := r.ald0 10 d1_9 rfl
  replace r := r.ald1 11 d1_10 rfl
  obtain ⟨h2, W, r⟩ := r.putF 14 d1_11 rfl (wd_18 hw) (Or.inr ⟨(wd_19 hw), rfl, rfl⟩) (wd_8 hw) E F2 (ty := (.array .long)) (by decide) rfl rfl gg
  replace E := E.wr W; replace A1 := A1.other W (Ne.symm gi); replace A2 := A2.other W (Ne.symm go); replace A3 := A3.other W (Ne.symm gb); replace K := K.wr W (Or.inl (by simp)); replace F1 := F1.other W (Or.inr (sn_componentCount_ids hw)); replace F2 := F2.same W; replace F3 := F3.other W (Or.inr (sn_offsets_ids hw)); replace F4 := F4.other W (Or.inr (sn_neighbours_ids hw)); replace F5 := F5.other W (Or.inr (sn_selfLoopsDropped_ids hw)); replace F6 := F6.other W (Or.inr (sn_repeatedEdgesMerged_ids hw)); clear W
  replace r := r.ald0 15 d1_14 rfl
  replace r := r.ald2 16 d1_15 rfl
  obtain ⟨h3, W, r⟩ := r.putF 19 d1_16 rfl (wd_20 hw) (Or.inr ⟨(wd_21 hw), rfl, rfl⟩) (wd_8 hw) E F3 (ty := (.array .int)) (by decide) rfl rfl gg
  replace E := E.wr W; replace A1 := A1.other W (Ne.symm gi); replace A2 := A2.other W (Ne.symm go); replace A3 := A3.other W (Ne.symm gb); replace K := K.wr W (Or.inl (by simp)); replace F1 := F1.other W (Or.inr (sn_componentCount_offsets hw)); replace F2 := F2.other W (Or.inr (sn_ids_offsets hw)); replace F3 := F3.same W; replace F4 := F4.other W (Or.inr (sn_neighbours_offsets hw)); replace F5 := F5.other W (Or.inr (sn_selfLoopsDropped_offsets hw)); replace F6 := F6.other W (Or.inr (sn_repeatedEdgesMerged_offsets hw)); clear W
  replace r := r.ald0 20 d1_19 rfl
  replace r := r.ald3 21 d1_20 rfl
  obtain ⟨h4, W, r⟩ := r.putF 24 d1_21 rfl (wd_22 hw) (Or.inr ⟨(wd_23 hw), rfl, rfl⟩) (wd_8 hw) E F4 (ty := (.array .int)) (by decide) rfl rfl gg
  replace E := E.wr W; replace A1 := A1.other W (Ne.symm gi); replace A2 := A2.other W (Ne.symm go); replace A3 := A3.other W (Ne.symm gb); replace K := K.wr W (Or.inl (by simp)); replace F1 := F1.other W (Or.inr (sn_componentCount_neighbours hw)); replace F2 := F2.other W (Or.inr (sn_ids_neighbours hw)); replace F3 := F3.other W (Or.inr (sn_offsets_neighbours hw)); replace F4 := F4.same W; replace F5 := F5.other W (Or.inr (sn_selfLoopsDropped_neighbours hw)); replace F6 := F6.other W (Or.inr (sn_repeatedEdgesMerged_neighbours hw)); clear W
  replace r := r.ald0 25 d1_24 rfl
  replace r := r.lld4 27 d1_25 rfl
  obtain ⟨h5, W, r⟩ := r.putF 30 d1_27 rfl (wd_24 hw) (Or.inr ⟨(wd_25 hw), rfl, rfl⟩) (wd_8 hw) E F5 (ty := .long) (by decide) rfl rfl gg
  replace E := E.wr W; replace A1 := A1.other W (Ne.symm gi); replace A2 := A2.other W (Ne.symm go); replace A3 := A3.other W (Ne.symm gb); replace K := K.wr W (Or.inl (by simp)); replace F1 := F1.other W (Or.inr (sn_componentCount_selfLoopsDropped hw)); replace F2 := F2.other W (Or.inr (sn_ids_selfLoopsDropped hw)); replace F3 := F3.other W (Or.inr (sn_offsets_selfLoopsDropped hw)); replace F4 := F4.other W (Or.inr (sn_neighbours_selfLoopsDropped hw)); replace F5 := F5.same W; replace F6 := F6.other W (Or.inr (sn_repeatedEdgesMerged_selfLoopsDropped hw)); clear W
  replace r := r.ald0 31 d1_30 rfl
  replace r := r.lld6 33 d1_31 rfl
  obtain ⟨h6, W, r⟩ := r.putF 36 d1_33 rfl (wd_26 hw) (Or.inr ⟨(wd_27 hw), rfl, rfl⟩) (wd_8 hw) E F6 (ty := .long) (by decide) rfl rfl gg
  replace E := E.wr W; replace A1 := A1.other W (Ne.symm gi); replace A2 := A2.other W (Ne.symm go); replace A3 := A3.other W (Ne.symm gb); replace K := K.wr W (Or.inl (by simp)); replace F1 := F1.other W (Or.inr (sn_componentCount_repeatedEdgesMerged hw)); replace F2 := F2.other W (Or.inr (sn_ids_repeatedEdgesMerged hw)); replace F3 := F3.other W (Or.inr (sn_offsets_repeatedEdgesMerged hw)); replace F4 := F4.other W (Or.inr (sn_neighbours_repeatedEdgesMerged hw)); replace F5 := F5.other W (Or.inr (sn_selfLoopsDropped_repeatedEdgesMerged hw)); replace F6 := F6.same W; clear W
  exact r.retV d1_36 ⟨⟨E, F2, F3, F4, A1, A2, A3⟩, K⟩ (by decide) (by decide)
set_option maxRecDepth 65536 in
set_option maxHeartbeats 40000000 in
theorem deg_met {l : Launch} {Z : State} {a0 : Array Value} (hw : Ws Z a0) (g i o b : Addr) (vi vo vn : List Value) (k : Nat) (u v : Int32) (h0 : Heap) (n0 : Nat) (G : GR Z h0 g i o b vi vo vn) (hu : vo[k]? = some (.int u)) (hv : vo[k + 1]? = some (.int v)) : Met l Z Y9 prog_17_method_11_code 2 (some .int) ({ frames := 0, cells := 0, slots := 0, locals := 0 } : Room) [.ref g, .int (Int32.ofNat k)] h0 n0 (Ret fun z h => z = .int (v - u) ∧ h0 = h) := by
  have lo := G.2.2.2.2.2.1.len
  have hk := (List.getElem?_eq_some_iff.mp hv).1
  refine Met.intro (Ls := [.val (.ref g), .val (.int (Int32.ofNat k))]) pl_9 (fun m => by simp [entryFrame, mkF, argsToLocals, Value.category, maxLocals]) fun w r => ?_
  replace r := r.ald0 1 d9_0 rfl
  replace r := r.getF 4 d9_1 rfl (wd_20 hw) G.2.2.1
  replace r := r.ild1 5 d9_4 rfl
  replace r := r.iconstV 6 d9_5 rfl (1 : Int32) ic_1
  replace r := r.iadd 7 d9_6 rfl
  rw [nadd1] at r
  replace r := r.iald 8 d9_7 rfl G.2.2.2.2.2.1 (len_nn (by omega)) (by rw [len_nat (by omega)]; exact hv)
  replace r := r.ald0 9 d9_8 rfl
  replace r := r.getF 12 d9_9 rfl (wd_20 hw) G.2.2.1
  replace r := r.ild1 13 d9_12 rfl
  replace r := r.iald 14 d9_13 rfl G.2.2.2.2.2.1 (len_nn (by omega)) (by rw [len_nat (by omega)]; exact hu)
  replace r := r.isub 15 d9_14 rfl
  exact r.retI d9_15 ⟨rfl, rfl⟩ (by decide) (by decide)
set_option maxRecDepth 65536 in
set_option maxHeartbeats 40000000 in
theorem nb_met {l : Launch} {Z : State} {a0 : Array Value} (hw : Ws Z a0) (g i o b : Addr) (vi vo vn : List Value) (k j u : Nat) (v : Int32) (h0 : Heap) (n0 : Nat) (G : GR Z h0 g i o b vi vo vn) (hu : vo[k]? = some (.int (Int32.ofNat u))) (hv : vn[u + j]? = some (.int v)) : Met l Z Y10 prog_17_method_12_code 3 (some .int) ({ frames := 0, cells := 0, slots := 0, locals := 0 } : Room) [.ref g, .int (Int32.ofNat k), .int (Int32.ofNat j)] h0 n0 (Ret fun z h => z = .int v ∧ h0 = h) := by
  have lo := G.2.2.2.2.2.1.len
  have ln := G.2.2.2.2.2.2.len
  have hk := (List.getElem?_eq_some_iff.mp hu).1
  have hj := (List.getElem?_eq_some_iff.mp hv).1
  refine Met.intro (Ls := [.val (.ref g), .val (.int (Int32.ofNat k)), .val (.int (Int32.ofNat j))]) pl_10 (fun m => by simp [entryFrame, mkF, argsToLocals, Value.category, maxLocals]) fun w r => ?_
  replace r := r.ald0 1 d10_0 rfl
  replace r := r.getF 4 d10_1 rfl (wd_22 hw) G.2.2.2.1
  replace r := r.ald0 5 d10_4 rfl
  replace r := r.getF 8 d10_5 rfl (wd_20 hw) G.2.2.1
  replace r := r.ild1 9 d10_8 rfl
  replace r := r.iald 10 d10_9 rfl G.2.2.2.2.2.1 (len_nn (by omega)) (by rw [len_nat (by omega)]; exact hu)
  replace r := r.ild2 11 d10_10 rfl
  replace r := r.iadd 12 d10_11 rfl
  rw [nadd] at r
  replace r := r.iald 13 d10_12 rfl G.2.2.2.2.2.2 (len_nn (by omega)) (by rw [len_nat (by omega)]; exact hv)
  exact r.retI d10_13 ⟨rfl, rfl⟩ (by decide) (by decide)
set_option maxRecDepth 65536 in
set_option maxHeartbeats 40000000 in
theorem nc_met {l : Launch} {Z : State} {a0 : Array Value} (hw : Ws Z a0) (g i o b : Addr) (vi vo vn : List Value) (h0 : Heap) (n0 : Nat) (G : GR Z h0 g i o b vi vo vn) : Met l Z Y4 prog_17_method_2_code 1 (some .int) ({ frames := 0, cells := 0, slots := 0, locals := 0 } : Room) [.ref g] h0 n0 (Ret fun z h => z = .int (Int32.ofNat vi.length) ∧ h0 = h) := by
  refine Met.intro (Ls := [.val (.ref g)]) pl_4 (fun m => by simp [entryFrame, mkF, argsToLocals, Value.category, maxLocals]) fun w r => ?_
  replace r := r.ald0 1 d4_0 rfl
  replace r := r.getF 4 d4_1 rfl (wd_18 hw) G.2.1
  replace r := r.alen 5 d4_4 rfl G.2.2.2.2.1 _ rfl
  exact r.retI d4_5 ⟨rfl, rfl⟩ (by decide) (by decide)

def iv (ns : List Nat) : List Value := ns.map fun n => .int (Int32.ofNat n)
theorem iv_get {ns : List Nat} {i x : Nat} (h : ns[i]? = some x) : (iv ns)[i]? = some (.int (Int32.ofNat x)) := by simp [iv, h]
theorem iv_set (ns : List Nat) (i x : Nat) : (iv ns).set i (.int (Int32.ofNat x)) = iv (ns.set i x) := by simp [iv, List.map_set]
theorem iv_len (ns : List Nat) : (iv ns).length = ns.length := by simp [iv]
/-- a distance: 0 for unreached, k + 1 for k hops -/
def dv (k : Nat) : Int32 := Int32.ofNat k - 1
def dl (ns : List Nat) : List Value := ns.map fun n => .int (dv n)
theorem dl_get {ns : List Nat} {i x : Nat} (h : ns[i]? = some x) : (dl ns)[i]? = some (.int (dv x)) := by simp [dl, h]
theorem dl_set (ns : List Nat) (i x : Nat) : (dl ns).set i (.int (dv x)) = dl (ns.set i x) := by simp [dl, List.map_set]
theorem dl_len (ns : List Nat) : (dl ns).length = ns.length := by simp [dl]
theorem dv_eq : ∀ k, k < 8 → (dv k = -1 ↔ k = 0) := by unfold dv; decide +kernel
theorem dv_succ : ∀ k, k < 8 → dv k + 1 = dv (k + 1) := by unfold dv; decide +kernel
theorem dv_pred : ∀ k, k < 8 → Int32.ofNat k + (-1) = dv k ∧ dv (k + 1) = Int32.ofNat k := by unfold dv; decide +kernel
theorem getD_some {α : Type} {L : List α} {i : Nat} {x : α} (h : i < L.length) : L[i]? = some (L.getD i x) := by rw [List.getD_eq_getElem?_getD, List.getElem?_eq_getElem h]; rfl
def OFF : List Nat := [0, 2, 4, 6, 8, 8]
def NBS : List Nat := [1, 2, 0, 3, 0, 3, 1, 2]
def nbs (u : Nat) : List Nat := [[1, 2], [0, 3], [0, 3], [1, 2], []].getD u []
theorem deg_ok : ∀ u, u < 5 → Int32.ofNat (OFF.getD (u + 1) 0) - Int32.ofNat (OFF.getD u 0) = Int32.ofNat (nbs u).length ∧ u + 1 < OFF.length ∧ (nbs u).length < 3 := by decide +kernel
theorem nbs_ok : ∀ u, u < 5 → ∀ k, k < 2 → k < (nbs u).length → NBS[OFF.getD u 0 + k]? = some ((nbs u).getD k 0) ∧ (nbs u).getD k 0 < 5 := by decide +kernel
def zl (xs : List Int32) : List Value := xs.map Value.int
abbrev S3 : Type := List Nat × List Nat × Nat
def visitO (nx : Nat) (s : S3) (v : Nat) : Option S3 := if s.1.getD v 0 = 0 then (if s.2.2 < 5 then some (s.1.set v nx, s.2.1.set s.2.2 v, s.2.2 + 1) else none) else (if s.1.getD v 0 < 8 then some s else none)
def innerO (nx : Nat) : List Nat → S3 → Option S3
  | [], s => some s
  | v :: L, s => match visitO nx s v with
    | none => none
    | some s2 => innerO nx L s2
def lt3 (b1 b2 b3 : Bool) (k : Nat) : Bool := if k = 1 then b1 else if k = 2 then b2 else b3
def spreadO (b1 b2 b3 : Bool) : Nat → Nat → S3 → Option S3
  | 0, _, _ => none
  | k + 1, head, s =>
    if head < s.2.2 then
      (if s.2.1.getD head 0 < 5 ∧ 0 < s.1.getD (s.2.1.getD head 0) 0 ∧ s.1.getD (s.2.1.getD head 0) 0 < 4 then
        (if lt3 b1 b2 b3 (s.1.getD (s.2.1.getD head 0) 0) = true then
          (match innerO (s.1.getD (s.2.1.getD head 0) 0 + 1) (nbs (s.2.1.getD head 0)) s with
            | none => none
            | some s2 => spreadO b1 b2 b3 k (head + 1) s2)
        else some s)
      else none)
    else some s
def Inv (s : S3) : Prop := s.1.length = 5 ∧ s.2.1.length = 5 ∧ 1 ≤ s.2.2 ∧ s.2.2 ≤ 5
def BS (n0 : Nat) (Z : State) (h : Heap) (f g i o b d q am : Addr) (vi : List Value) (xs : List Int32) (ds qs : List Nat) (rc : Nat) : Prop :=
  Exa Z h f "com/example/firehouse/firehouse/Bfs" ∧ Fld Z h f "com/example/firehouse/firehouse/Bfs" "graph" "Lcom/example/firehouse/firehouse/Graph;" (.ref g) ∧ Fld Z h f "com/example/firehouse/firehouse/Bfs" "distance" "[I" (.ref d) ∧ Fld Z h f "com/example/firehouse/firehouse/Bfs" "queue" "[I" (.ref q) ∧ Fld Z h f "com/example/firehouse/firehouse/Bfs" "reachedCount" "I" (.int (Int32.ofNat rc)) ∧ Ary Z h d .int (dl ds) ∧ Ary Z h q .int (iv qs) ∧ GR Z h g i o b vi (iv OFF) (iv NBS) ∧
  (f ≠ d ∧ f ≠ q ∧ d ≠ q ∧ g ≠ f ∧ g ≠ d ∧ g ≠ q ∧ i ≠ f ∧ i ≠ d ∧ i ≠ q ∧ o ≠ f ∧ o ≠ d ∧ o ≠ q ∧ b ≠ f ∧ b ≠ d ∧ b ≠ q ∧ am ≠ f ∧ am ≠ d ∧ am ≠ q ∧ Ary Z h am .boolean (zl xs)) ∧ n0 ≤ f ∧ n0 ≤ d ∧ n0 ≤ q
theorem GR.wr {Z : State} {h h' : Heap} {g i o b x : Addr} {sl : Nat} {v : Value} {vi vo vn : List Value} (G : GR Z h g i o b vi vo vn) (W : Wr h h' x sl v) (q1 : g ≠ x) (q2 : i ≠ x) (q3 : o ≠ x) (q4 : b ≠ x) : GR Z h' g i o b vi vo vn := by
  obtain ⟨E, F1, F2, F3, A1, A2, A3⟩ := G
  exact ⟨E.wr W, F1.other W (Or.inl q1), F2.other W (Or.inl q1), F3.other W (Or.inl q1), A1.other W q2, A2.other W q3, A3.other W q4⟩
theorem BS.wd {n0 : Nat} {Z : State} {h h' : Heap} {f g i o b d q am : Addr} {vi : List Value} {xs : List Int32} {ds ds' qs : List Nat} {rc sl : Nat} {v : Value} (B : BS n0 Z h f g i o b d q am vi xs ds qs rc) (W : Wr h h' d sl v) (A : Ary Z h' d .int (dl ds')) : BS n0 Z h' f g i o b d q am vi xs ds' qs rc := by
  obtain ⟨E, F1, F2, F3, F4, A1, A2, G, D, gs⟩ := B
  obtain ⟨c1, c2, c3, c4, c5, c6, c7, c8, c9, c10, c11, c12, c13, c14, c15, m1, m2, m3, M⟩ := D
  exact ⟨E.wr W, F1.other W (Or.inl c1), F2.other W (Or.inl c1), F3.other W (Or.inl c1), F4.other W (Or.inl c1), A, A2.other W (Ne.symm c3), GR.wr G W c5 c8 c11 c14, ⟨c1, c2, c3, c4, c5, c6, c7, c8, c9, c10, c11, c12, c13, c14, c15, m1, m2, m3, M.other W m2⟩, gs⟩
theorem BS.wq {n0 : Nat} {Z : State} {h h' : Heap} {f g i o b d q am : Addr} {vi : List Value} {xs : List Int32} {ds qs qs' : List Nat} {rc sl : Nat} {v : Value} (B : BS n0 Z h f g i o b d q am vi xs ds qs rc) (W : Wr h h' q sl v) (A : Ary Z h' q .int (iv qs')) : BS n0 Z h' f g i o b d q am vi xs ds qs' rc := by
  obtain ⟨E, F1, F2, F3, F4, A1, A2, G, D, gs⟩ := B
  obtain ⟨c1, c2, c3, c4, c5, c6, c7, c8, c9, c10, c11, c12, c13, c14, c15, m1, m2, m3, M⟩ := D
  exact ⟨E.wr W, F1.other W (Or.inl c2), F2.other W (Or.inl c2), F3.other W (Or.inl c2), F4.other W (Or.inl c2), A1.other W c3, A, GR.wr G W c6 c9 c12 c15, ⟨c1, c2, c3, c4, c5, c6, c7, c8, c9, c10, c11, c12, c13, c14, c15, m1, m2, m3, M.other W m3⟩, gs⟩
theorem BS.wr {n0 : Nat} {Z : State} {a0 : Array Value} (hw : Ws Z a0) {h h' : Heap} {f g i o b d q am : Addr} {vi : List Value} {xs : List Int32} {ds qs : List Nat} {rc m : Nat} (B : BS n0 Z h f g i o b d q am vi xs ds qs rc) (W : Wr h h' f (Jvm.RoadKit.slotOf Z "com/example/firehouse/firehouse/Bfs" "reachedCount" "I") (.int (Int32.ofNat m))) : BS n0 Z h' f g i o b d q am vi xs ds qs m := by
  obtain ⟨E, F1, F2, F3, F4, A1, A2, G, D, gs⟩ := B
  obtain ⟨c1, c2, c3, c4, c5, c6, c7, c8, c9, c10, c11, c12, c13, c14, c15, m1, m2, m3, M⟩ := D
  exact ⟨E.wr W, F1.other W (Or.inr (sn_graph_reachedCount hw)), F2.other W (Or.inr (sn_distance_reachedCount hw)), F3.other W (Or.inr (sn_queue_reachedCount hw)), F4.same W, A1.other W (Ne.symm c1), A2.other W (Ne.symm c2), GR.wr G W c4 c7 c10 c13, ⟨c1, c2, c3, c4, c5, c6, c7, c8, c9, c10, c11, c12, c13, c14, c15, m1, m2, m3, M.other W m1⟩, gs⟩
theorem visit_inv {nx : Nat} {s s2 : S3} {v : Nat} (I : Inv s) (h : visitO nx s v = some s2) : Inv s2 := by
  unfold visitO at h
  obtain ⟨i1, i2, i3, i4⟩ := I
  split at h
  · split at h
    · cases h; exact ⟨by simp [i1], by simp [i2], by simp, by simp; omega⟩
    · cases h
  · split at h
    · cases h; exact ⟨i1, i2, i3, i4⟩
    · cases h

set_option maxRecDepth 65536 in
set_option maxHeartbeats 40000000 in
theorem in_loop {l : Launch} {Z : State} {a0 : Array Value} (hw : Ws Z a0) {w : W} {R : Room} {n0 head u nx rc : Nat} {hops : Int64} {f g i o b d q am : Addr} {vi : List Value} {xs : List Int32} (hR1 : 1 ≤ R.frames) (hR2 : 16 ≤ R.locals) (hu : u < 5) (hnx : nx < 8) (hh : head < 2 ^ 31) (L : List Nat) : ∀ j (s s2 : S3) h q9, j + L.length = (nbs u).length → (∀ k v, L[k]? = some v → (nbs u)[j + k]? = some v) → innerO nx L s = some s2 → Inv s → Jvm.RoadKit.One q9 → BS n0 Z h f g i o b d q am vi xs s.1 s.2.1 rc → Go w l R Z n0 Y8 prog_2_method_13_code 10 (some .int) 58 [.val (.ref f), .val (.int (Int32.ofNat head)), .val (.int (Int32.ofNat s.2.2)), .val (.long hops), .second, .val (.int (Int32.ofNat u)), .val (.int (dv nx)), .val (.int (Int32.ofNat (nbs u).length)), .val (.int (Int32.ofNat j)), q9] [] h 0 0 → ∃ h' q8 q9', BS n0 Z h' f g i o b d q am vi xs s2.1 s2.2.1 rc ∧ Inv s2 ∧ Jvm.RoadKit.One q8 ∧ Jvm.RoadKit.One q9' ∧ Go w l R Z n0 Y8 prog_2_method_13_code 10 (some .int) 0 [.val (.ref f), .val (.int (Int32.ofNat head)), .val (.int (Int32.ofNat s2.2.2)), .val (.long hops), .second, .val (.int (Int32.ofNat u)), .val (.int (dv nx)), .val (.int (Int32.ofNat (nbs u).length)), q8, q9'] [] h' 0 0 := by
  have hl3 := (deg_ok u hu).2.2
  induction L with
  | nil =>
    intro j s s2 h q9 hj hL hin I h9 B r
    have hin : some s = some s2 := hin
    cases hin
    have hj : j = (nbs u).length := by simpa using hj
    replace r := r.ild8 60 d8_58 rfl
    replace r := r.ild7 62 d8_60 rfl
    replace r := r.ic_geT 115 d8_62 (by decide) (fun z => by rw [nlt (by omega) (by omega)] at z; omega)
    replace r := r.goto 0 d8_115 (by decide)
    exact ⟨h, _, q9, B, I, One.val rfl, h9, r⟩
  | cons v L ih =>
    intro j s s2 h q9 hj hL hin I h9 B r
    rw [List.length_cons] at hj
    have hv := hL 0 v rfl
    rw [Nat.add_zero] at hv
    obtain ⟨nk, v5⟩ := nbs_ok u hu j (by omega) (by omega)
    have hgv : (nbs u).getD j 0 = v := by rw [List.getD_eq_getElem?_getD, hv]; rfl
    rw [hgv] at nk v5
    have hL2 : ∀ k x, L[k]? = some x → (nbs u)[j + 1 + k]? = some x := fun k x hk => by rw [show j + 1 + k = j + (k + 1) from by omega]; exact hL (k + 1) x hk
    obtain ⟨s1, hs1, hin2⟩ : ∃ s1, visitO nx s v = some s1 ∧ innerO nx L s1 = some s2 := by
      have hin : (match visitO nx s v with | none => none | some s2 => innerO nx L s2) = some s2 := hin
      cases hq : visitO nx s v with
      | none => rw [hq] at hin; cases hin
      | some s1 => rw [hq] at hin; exact ⟨s1, rfl, hin⟩
    have I1 := visit_inv I hs1
    obtain ⟨i1, i2, i3, i4⟩ := I
    replace r := r.ild8 60 d8_58 rfl
    replace r := r.ild7 62 d8_60 rfl
    replace r := r.ic_geF 65 d8_62 rfl ((nlt (by omega) (by omega)).mpr (by omega))
    replace r := r.ald0 66 d8_65 rfl
    replace r := r.getF 69 d8_66 rfl (wd_35 hw) B.2.1
    replace r := r.ild5 71 d8_69 rfl
    replace r := r.ild8 73 d8_71 rfl
    obtain ⟨_, _, ⟨_, rfl, rfl, rfl⟩, r'⟩ := r.callV (as := [.int (Int32.ofNat u), .int (Int32.ofNat j)]) (rest := []) 76 d8_73 rfl (nb_met hw g i o b _ _ _ u j (OFF.getD u 0) (Int32.ofNat v) _ n0 B.2.2.2.2.2.2.2.1 (iv_get (getD_some (by have := (deg_ok u hu).2.1; omega))) (iv_get nk)) B.2.2.2.2.2.2.2.1.1 (wd_73 hw) (wd_74 hw) (wd_75 hw) (wd_76 hw) (wd_9 hw) (wd_77 hw) pd_10 rfl rfl rfl (by decide) hR1 (Nat.le_trans (Nat.le_of_ble_eq_true rfl) hR2) (Nat.zero_le _) (Nat.zero_le _)
    clear r; have r := r'; clear r'
    change Go w l _ Z n0 _ _ _ _ _ _ [.int _] _ _ _ at r
    replace r := r.ist9 78 d8_76 rfl h9
    replace r := r.ald0 79 d8_78 rfl
    replace r := r.getF 82 d8_79 rfl (wd_42 hw) B.2.2.1
    replace r := r.ild9 84 d8_82 rfl
    replace r := r.iald 85 d8_84 rfl B.2.2.2.2.2.1 (len_nn (by omega)) (by rw [len_nat (by omega)]; exact dl_get (getD_some (x := 0) (by omega)))
    replace r := r.iconstV 86 d8_85 rfl (-1 : Int32) ic_m1
    by_cases hz : s.1.getD v 0 = 0
    · have ht : s.2.2 < 5 := Nat.lt_of_not_le fun z => by
        have e : visitO nx s v = none := by unfold visitO; rw [if_pos hz, if_neg (by omega)]
        rw [e] at hs1; cases hs1
      have e1 : visitO nx s v = some (s.1.set v nx, s.2.1.set s.2.2 v, s.2.2 + 1) := by unfold visitO; rw [if_pos hz, if_pos ht]
      rw [e1] at hs1; cases hs1
      rw [hz] at r
      replace r := r.ic_neF 89 d8_86 rfl rfl
      replace r := r.ald0 90 d8_89 rfl
      replace r := r.getF 93 d8_90 rfl (wd_42 hw) B.2.2.1
      replace r := r.ild9 95 d8_93 rfl
      replace r := r.ild6 97 d8_95 rfl
      obtain ⟨h1, W1, A1, r⟩ := r.iast 98 d8_97 rfl B.2.2.2.2.2.1 (len_nn (by omega)) (by rw [len_nat (by omega), dl_len]; omega) B.2.2.2.2.2.2.2.2.2.2.1
      rw [len_nat (by omega)] at W1 A1
      rw [dl_set] at A1
      replace B := B.wd W1 A1
      replace r := r.ald0 99 d8_98 rfl
      replace r := r.getF 102 d8_99 rfl (wd_44 hw) B.2.2.2.1
      replace r := r.ild2 103 d8_102 rfl
      replace r := r.ild9 105 d8_103 rfl
      obtain ⟨h2, W2, A2, r⟩ := r.iast 106 d8_105 rfl B.2.2.2.2.2.2.1 (len_nn (by omega)) (by rw [len_nat (by omega), iv_len]; omega) B.2.2.2.2.2.2.2.2.2.2.2
      rw [len_nat (by omega)] at W2 A2
      rw [iv_set] at A2
      replace B := B.wq W2 A2
      replace r := r.inc2 109 d8_106 rfl (d := 1) rfl
      rw [nadd1] at r
      replace r := r.inc8 112 d8_109 rfl (d := 1) rfl
      replace r := r.goto 58 d8_112 (by decide)
      rw [nadd1] at r
      exact ih (j + 1) (s.1.set v nx, s.2.1.set s.2.2 v, s.2.2 + 1) s2 h2 _ (by omega) hL2 hin2 I1 (One.val rfl) B r
    · have h8 : s.1.getD v 0 < 8 := Nat.lt_of_not_le fun z => by
        have e : visitO nx s v = none := by unfold visitO; rw [if_neg hz, if_neg (by omega)]
        rw [e] at hs1; cases hs1
      have e1 : visitO nx s v = some s := by unfold visitO; rw [if_neg hz, if_pos h8]
      rw [e1] at hs1; cases hs1
      replace r := r.ic_neT 109 d8_86 (by decide) (fun z => hz ((dv_eq _ h8).mp z))
      replace r := r.inc8 112 d8_109 rfl (d := 1) rfl
      replace r := r.goto 58 d8_112 (by decide)
      rw [nadd1] at r
      exact ih (j + 1) s s2 h _ (by omega) hL2 hin2 I1 (One.val rfl) B r
set_option maxRecDepth 65536 in
set_option maxHeartbeats 40000000 in
theorem sp_loop {l : Launch} {Z : State} {a0 : Array Value} (hw : Ws Z a0) {w : W} {R : Room} {n0 rc : Nat} {hops : Int64} {f g i o b d q am : Addr} {vi : List Value} {xs : List Int32} (b1 b2 b3 : Bool) (hR1 : 1 ≤ R.frames) (hR2 : 16 ≤ R.locals) (e1 : b1 = decide ((dv 1).toInt64 < hops)) (e2 : b2 = decide ((dv 2).toInt64 < hops)) (e3 : b3 = decide ((dv 3).toInt64 < hops)) (k : Nat) : ∀ head (s s2 : S3) h q5 q6 q7 q8 q9, head < 100 → spreadO b1 b2 b3 k head s = some s2 → Inv s → Jvm.RoadKit.One q5 → Jvm.RoadKit.One q6 → Jvm.RoadKit.One q7 → Jvm.RoadKit.One q8 → Jvm.RoadKit.One q9 → head + k < 100 → BS n0 Z h f g i o b d q am vi xs s.1 s.2.1 rc → Go w l R Z n0 Y8 prog_2_method_13_code 10 (some .int) 0 [.val (.ref f), .val (.int (Int32.ofNat head)), .val (.int (Int32.ofNat s.2.2)), .val (.long hops), .second, q5, q6, q7, q8, q9] [] h 0 0 → Fini w n0 (Ret fun z h => (∃ x, z = .int x) ∧ Inv s2 ∧ BS n0 Z h f g i o b d q am vi xs s2.1 s2.2.1 s2.2.2) 0 0 := by
  have fin : ∀ head (s2 : S3) h q5 q6 q7 q8 q9, Inv s2 → BS n0 Z h f g i o b d q am vi xs s2.1 s2.2.1 rc → Go w l R Z n0 Y8 prog_2_method_13_code 10 (some .int) 118 [.val (.ref f), .val (.int (Int32.ofNat head)), .val (.int (Int32.ofNat s2.2.2)), .val (.long hops), .second, q5, q6, q7, q8, q9] [] h 0 0 → Fini w n0 (Ret fun z h => (∃ x, z = .int x) ∧ Inv s2 ∧ BS n0 Z h f g i o b d q am vi xs s2.1 s2.2.1 s2.2.2) 0 0 := by
    intro head s2 h q5 q6 q7 q8 q9 I B r
    obtain ⟨i1, i2, i3, i4⟩ := I
    replace r := r.ald0 119 d8_118 rfl
    replace r := r.ild2 120 d8_119 rfl
    obtain ⟨h1, W1, r⟩ := r.putF 123 d8_120 rfl (wd_61 hw) (Or.inl (wd_62 hw)) (wd_29 hw) B.1 B.2.2.2.2.1 (ty := .int) (by decide) rfl rfl B.2.2.2.2.2.2.2.2.2.1
    replace B := B.wr hw W1
    replace r := r.ald0 124 d8_123 rfl
    replace r := r.getF 127 d8_124 rfl (wd_44 hw) B.2.2.2.1
    replace r := r.ild2 128 d8_127 rfl
    replace r := r.iconstV 129 d8_128 rfl (1 : Int32) ic_1
    replace r := r.isub 130 d8_129 rfl
    rw [show Int32.ofNat s2.2.2 - (1 : Int32) = Int32.ofNat (s2.2.2 - 1) from nsub (b := 1) i3] at r
    replace r := r.iald 131 d8_130 rfl B.2.2.2.2.2.2.1 (len_nn (by omega)) (by rw [len_nat (by omega)]; exact iv_get (getD_some (x := 0) (by omega)))
    exact r.retI d8_131 ⟨⟨_, rfl⟩, ⟨i1, i2, i3, i4⟩, B⟩ (by decide) (by decide)
  induction k with
  | zero => intro head s s2 h q5 q6 q7 q8 q9 h100 hs; cases hs
  | succ k ih =>
    intro head s s2 h q5 q6 q7 q8 q9 h100 hs I o5 o6 o7 o8 o9 hk B r
    unfold spreadO at hs
    have I' := I
    obtain ⟨i1, i2, i3, i4⟩ := I'
    by_cases hht : head < s.2.2
    · rw [if_pos hht] at hs
      by_cases hok : s.2.1.getD head 0 < 5 ∧ 0 < s.1.getD (s.2.1.getD head 0) 0 ∧ s.1.getD (s.2.1.getD head 0) 0 < 4
      · rw [if_pos hok] at hs
        obtain ⟨u, eu⟩ : ∃ u, u = s.2.1.getD head 0 := ⟨_, rfl⟩
        obtain ⟨cd, ecd⟩ : ∃ cd, cd = s.1.getD u 0 := ⟨_, rfl⟩
        rw [← eu] at hs hok
        rw [← ecd] at hs hok
        obtain ⟨u5, cd0, cd4⟩ := hok
        have hq : (iv s.2.1)[head]? = some (.int (Int32.ofNat u)) := by rw [eu]; exact iv_get (getD_some (by omega))
        have hd : (dl s.1)[u]? = some (.int (dv cd)) := by rw [ecd]; exact dl_get (getD_some (by omega))
        have hlt : lt3 b1 b2 b3 cd = decide ((dv cd).toInt64 < hops) := by
          obtain rfl | rfl | rfl : cd = 1 ∨ cd = 2 ∨ cd = 3 := by omega
          · exact e1
          · exact e2
          · exact e3
        rw [hlt] at hs
        replace r := r.ild1 1 d8_0 rfl
        replace r := r.ild2 2 d8_1 rfl
        replace r := r.ic_geF 5 d8_2 rfl ((nlt (by omega) (by omega)).mpr hht)
        replace r := r.ald0 6 d8_5 rfl
        replace r := r.getF 9 d8_6 rfl (wd_42 hw) B.2.2.1
        replace r := r.ald0 10 d8_9 rfl
        replace r := r.getF 13 d8_10 rfl (wd_44 hw) B.2.2.2.1
        replace r := r.ild1 14 d8_13 rfl
        replace r := r.iald 15 d8_14 rfl B.2.2.2.2.2.2.1 (len_nn (by omega)) (by rw [len_nat (by omega)]; exact hq)
        replace r := r.iald 16 d8_15 rfl B.2.2.2.2.2.1 (len_nn (by omega)) (by rw [len_nat (by omega)]; exact hd)
        replace r := r.i2l 17 d8_16 rfl
        replace r := r.lld3 18 d8_17 rfl
        replace r := r.lcmp 19 d8_18 rfl
        by_cases hlo : (dv cd).toInt64 < hops
        · rw [if_pos (decide_eq_true hlo)] at hs
          replace r := r.if_geF 22 d8_19 rfl ((lw_lt _ _).mpr hlo)
          replace r := r.ald0 23 d8_22 rfl
          replace r := r.getF 26 d8_23 rfl (wd_44 hw) B.2.2.2.1
          replace r := r.ild1 27 d8_26 rfl
          replace r := r.iald 28 d8_27 rfl B.2.2.2.2.2.2.1 (len_nn (by omega)) (by rw [len_nat (by omega)]; exact hq)
          replace r := r.ist5 30 d8_28 rfl o5
          replace r := r.inc1 33 d8_30 rfl (d := 1) rfl
          rw [nadd1] at r
          replace r := r.ald0 34 d8_33 rfl
          replace r := r.getF 37 d8_34 rfl (wd_42 hw) B.2.2.1
          replace r := r.ild5 39 d8_37 rfl
          replace r := r.iald 40 d8_39 rfl B.2.2.2.2.2.1 (len_nn (by omega)) (by rw [len_nat (by omega)]; exact hd)
          replace r := r.iconstV 41 d8_40 rfl (1 : Int32) ic_1
          replace r := r.iadd 42 d8_41 rfl
          rw [dv_succ cd (by omega)] at r
          replace r := r.ist6 44 d8_42 rfl o6
          replace r := r.ald0 45 d8_44 rfl
          replace r := r.getF 48 d8_45 rfl (wd_35 hw) B.2.1
          replace r := r.ild5 50 d8_48 rfl
          obtain ⟨dg1, dg2, dg3⟩ := deg_ok u u5
          obtain ⟨_, _, ⟨_, rfl, rfl, rfl⟩, r'⟩ := r.callV (as := [.int (Int32.ofNat u)]) (rest := []) 53 d8_50 rfl (deg_met hw g i o b _ _ _ u _ _ _ n0 B.2.2.2.2.2.2.2.1 (iv_get (getD_some (x := 0) (by omega))) (iv_get (getD_some (x := 0) dg2))) B.2.2.2.2.2.2.2.1.1 (wd_68 hw) (wd_69 hw) (wd_70 hw) (wd_71 hw) (wd_9 hw) (wd_72 hw) pd_9 rfl rfl rfl (by decide) hR1 (Nat.le_trans (Nat.le_of_ble_eq_true rfl) hR2) (Nat.zero_le _) (Nat.zero_le _)
          clear r; have r := r'; clear r'
          rw [dg1] at r
          change Go w l _ Z n0 _ _ _ _ _ _ [.int _] _ _ _ at r
          replace r := r.ist7 55 d8_53 rfl o7
          replace r := r.iconstV 56 d8_55 rfl (0 : Int32) ic_0
          replace r := r.ist8 58 d8_56 rfl o8
          cases hin : innerO (cd + 1) (nbs u) s with
          | none => rw [hin] at hs; cases hs
          | some s1 =>
            rw [hin] at hs
            obtain ⟨h', q8', q9', B', I1, o8', o9', r'⟩ := in_loop hw hR1 hR2 u5 (by omega) (by omega) (nbs u) 0 s s1 h q9 (by omega) (fun k v hk => by rw [Nat.zero_add]; exact hk) hin I o9 B r
            exact ih (head + 1) s1 s2 h' _ _ _ _ _ (by omega) hs I1 (One.val rfl) (One.val rfl) (One.val rfl) o8' o9' (by omega) B' r'
        · rw [if_neg (fun z => hlo (of_decide_eq_true z))] at hs
          cases hs
          replace r := r.if_geT 118 d8_19 (by decide) (fun z => hlo ((lw_lt _ _).mp z))
          exact fin head s h q5 q6 q7 q8 q9 I B r
      · rw [if_neg hok] at hs; cases hs
    · rw [if_neg hht] at hs
      cases hs
      replace r := r.ild1 1 d8_0 rfl
      replace r := r.ild2 2 d8_1 rfl
      replace r := r.ic_geT 118 d8_2 (by decide) (fun z => hht ((nlt (by omega) (by omega)).mp z))
      exact fin head s h q5 q6 q7 q8 q9 I B r
set_option maxRecDepth 65536 in
set_option maxHeartbeats 40000000 in
theorem sp_met {l : Launch} {Z : State} {a0 : Array Value} (hw : Ws Z a0) (f g i o b d q am : Addr) (vi : List Value) (xs : List Int32) (rc tl : Nat) (ds qs : List Nat) (hops : Int64) (b1 b2 b3 : Bool) (s2 : S3) (h0 : Heap) (n0 : Nat) (e1 : b1 = decide ((dv 1).toInt64 < hops)) (e2 : b2 = decide ((dv 2).toInt64 < hops)) (e3 : b3 = decide ((dv 3).toInt64 < hops)) (hs : spreadO b1 b2 b3 6 0 (ds, qs, tl) = some s2) (I : Inv (ds, qs, tl)) (B : BS n0 Z h0 f g i o b d q am vi xs ds qs rc) : Met l Z Y8 prog_2_method_13_code 10 (some .int) ({ frames := 1, cells := 0, slots := 0, locals := 16 } : Room) [.ref f, .int (Int32.ofNat 0), .int (Int32.ofNat tl), .long hops] h0 n0 (Ret fun z h => (∃ x, z = .int x) ∧ Inv s2 ∧ BS n0 Z h f g i o b d q am vi xs s2.1 s2.2.1 s2.2.2) := by
  refine Met.intro (Ls := [.val (.ref f), .val (.int (Int32.ofNat 0)), .val (.int (Int32.ofNat tl)), .val (.long hops), .second, .unset, .unset, .unset, .unset, .unset]) pl_8 (fun m => by simp [entryFrame, mkF, argsToLocals, Value.category, maxLocals]) fun w r => ?_
  exact sp_loop hw b1 b2 b3 (by decide) (by decide) e1 e2 e3 6 0 (ds, qs, tl) s2 h0 _ _ _ _ _ (by decide) hs I One.u One.u One.u One.u One.u (by decide) B r
def wipe (ds qs : List Nat) : Nat → List Nat
  | 0 => ds
  | k + 1 => (wipe ds qs k).set (qs.getD k 0) 0
theorem wipe_len (ds qs : List Nat) (k : Nat) : (wipe ds qs k).length = ds.length := by
  induction k with
  | zero => rfl
  | succ k ih => simp [wipe, ih]
set_option maxRecDepth 65536 in
set_option maxHeartbeats 40000000 in
theorem fg_loop {l : Launch} {Z : State} {a0 : Array Value} (hw : Ws Z a0) {w : W} {R : Room} {n0 rc : Nat} {f g i o b d q am : Addr} {vi : List Value} {xs : List Int32} {ds qs : List Nat} (hl1 : ds.length = 5) (hl2 : qs.length = 5) (hrc : rc ≤ 5) (hq5 : ∀ x ∈ qs, x < 5) (m : Nat) : ∀ k h, k + m = rc → BS n0 Z h f g i o b d q am vi xs (wipe ds qs k) qs rc → Go w l R Z n0 Y7 prog_2_method_12_code 2 none 2 [.val (.ref f), .val (.int (Int32.ofNat k))] [] h 0 0 → Fini w n0 (Ret0 fun h => BS n0 Z h f g i o b d q am vi xs (wipe ds qs rc) qs 0) 0 0 := by
  induction m with
  | zero =>
    intro k h hk B r
    obtain rfl : k = rc := by omega
    replace r := r.ild1 3 d7_2 rfl
    replace r := r.ald0 4 d7_3 rfl
    replace r := r.getF 7 d7_4 rfl (wd_61 hw) B.2.2.2.2.1
    replace r := r.ic_geT 28 d7_7 (by decide) (fun z => Nat.lt_irrefl _ ((nlt (by omega) (by omega)).mp z))
    replace r := r.ald0 29 d7_28 rfl
    replace r := r.iconstV 30 d7_29 rfl (0 : Int32) ic_0
    obtain ⟨h1, W1, r⟩ := r.putF 33 d7_30 rfl (wd_61 hw) (Or.inl (wd_62 hw)) (wd_29 hw) B.1 B.2.2.2.2.1 (ty := .int) (by decide) rfl rfl B.2.2.2.2.2.2.2.2.2.1
    exact r.retV d7_33 (B.wr hw (m := 0) W1) (by decide) (by decide)
  | succ m ih =>
    intro k h hk B r
    have hu : qs.getD k 0 < 5 := by
      rw [List.getD_eq_getElem?_getD, List.getElem?_eq_getElem (by omega)]; exact hq5 _ (List.getElem_mem _)
    have hq : (iv qs)[k]? = some (.int (Int32.ofNat (qs.getD k 0))) := iv_get (getD_some (by omega))
    replace r := r.ild1 3 d7_2 rfl
    replace r := r.ald0 4 d7_3 rfl
    replace r := r.getF 7 d7_4 rfl (wd_61 hw) B.2.2.2.2.1
    replace r := r.ic_geF 10 d7_7 rfl ((nlt (by omega) (by omega)).mpr (by omega))
    replace r := r.ald0 11 d7_10 rfl
    replace r := r.getF 14 d7_11 rfl (wd_42 hw) B.2.2.1
    replace r := r.ald0 15 d7_14 rfl
    replace r := r.getF 18 d7_15 rfl (wd_44 hw) B.2.2.2.1
    replace r := r.ild1 19 d7_18 rfl
    replace r := r.iald 20 d7_19 rfl B.2.2.2.2.2.2.1 (len_nn (by omega)) (by rw [len_nat (by omega)]; exact hq)
    replace r := r.iconstV 21 d7_20 rfl (-1 : Int32) ic_m1
    obtain ⟨h1, W1, A1, r⟩ := r.iast 22 d7_21 rfl B.2.2.2.2.2.1 (len_nn (by omega)) (by rw [len_nat (by omega), dl_len, wipe_len]; omega) B.2.2.2.2.2.2.2.2.2.2.1
    rw [len_nat (by omega)] at W1 A1
    rw [show (-1 : Int32) = dv 0 from by decide, dl_set] at A1
    replace B := B.wd W1 A1
    replace r := r.inc1 25 d7_22 rfl (d := 1) rfl
    replace r := r.goto 2 d7_25 (by decide)
    rw [nadd1] at r
    exact ih (k + 1) h1 (by omega) B r
set_option maxRecDepth 65536 in
set_option maxHeartbeats 40000000 in
theorem fg_met {l : Launch} {Z : State} {a0 : Array Value} (hw : Ws Z a0) (f g i o b d q am : Addr) (vi : List Value) (xs : List Int32) (rc : Nat) (ds qs : List Nat) (h0 : Heap) (n0 : Nat) (hl1 : ds.length = 5) (hl2 : qs.length = 5) (hrc : rc ≤ 5) (hq5 : ∀ x ∈ qs, x < 5) (B : BS n0 Z h0 f g i o b d q am vi xs ds qs rc) : Met l Z Y7 prog_2_method_12_code 2 none ({ frames := 0, cells := 0, slots := 0, locals := 0 } : Room) [.ref f] h0 n0 (Ret0 fun h => BS n0 Z h f g i o b d q am vi xs (wipe ds qs rc) qs 0) := by
  refine Met.intro (Ls := [.val (.ref f), .unset]) pl_7 (fun m => by simp [entryFrame, mkF, argsToLocals, Value.category, maxLocals]) fun w r => ?_
  replace r := r.iconstV 1 d7_0 rfl (0 : Int32) ic_0
  replace r := r.ist1 2 d7_1 rfl (One.of rfl)
  exact fg_loop hw hl1 hl2 hrc hq5 rc 0 h0 (by omega) B r
set_option maxRecDepth 65536 in
set_option maxHeartbeats 40000000 in
theorem fg0_met {l : Launch} {Z : State} {a0 : Array Value} (hw : Ws Z a0) (f g i o b d q am : Addr) (vi : List Value) (xs : List Int32) (ds qs : List Nat) (h0 : Heap) (n0 : Nat) (B : BS n0 Z h0 f g i o b d q am vi xs ds qs 0) : Met l Z Y7 prog_2_method_12_code 2 none ({ frames := 0, cells := 0, slots := 0, locals := 0 } : Room) [.ref f] h0 n0 (Ret0 fun h => BS n0 Z h f g i o b d q am vi xs ds qs 0 ∧ Keep h0 h [f]) := by
  refine Met.intro (Ls := [.val (.ref f), .unset]) pl_7 (fun m => by simp [entryFrame, mkF, argsToLocals, Value.category, maxLocals]) fun w r => ?_
  replace r := r.iconstV 1 d7_0 rfl (0 : Int32) ic_0
  replace r := r.ist1 2 d7_1 rfl (One.of rfl)
  replace r := r.ild1 3 d7_2 rfl
  replace r := r.ald0 4 d7_3 rfl
  replace r := r.getF 7 d7_4 rfl (wd_61 hw) B.2.2.2.2.1
  replace r := r.ic_geT 28 d7_7 (by decide) (by decide)
  replace r := r.ald0 29 d7_28 rfl
  replace r := r.iconstV 30 d7_29 rfl (0 : Int32) ic_0
  obtain ⟨h1, W1, r⟩ := r.putF 33 d7_30 rfl (wd_61 hw) (Or.inl (wd_62 hw)) (wd_29 hw) B.1 B.2.2.2.2.1 (ty := .int) (by decide) rfl rfl B.2.2.2.2.2.2.2.2.2.1
  exact r.retV d7_33 ⟨B.wr hw (m := 0) W1, Keep.of_wr W1⟩ (by decide) (by decide)
set_option maxRecDepth 65536 in
set_option maxHeartbeats 40000000 in
theorem se_met {l : Launch} {Z : State} {a0 : Array Value} (hw : Ws Z a0) (f g i o b d q am : Addr) (vi : List Value) (xs : List Int32) (rc s1 : Nat) (ds qs : List Nat) (a1 : Addr) (s2 : S3) (h0 : Heap) (n0 : Nat) (hs1 : s1 < 5) (hl1 : ds.length = 5) (hl2 : qs.length = 5) (hrc : rc = 0) (hq5 : ∀ x ∈ qs, x < 5) (hz : ds.getD s1 0 = 0) (a1f : a1 ≠ f) (a1d : a1 ≠ d) (a1q : a1 ≠ q) (hs : spreadO true true true 6 0 (ds.set s1 1, qs.set 0 s1, 1) = some s2) (B : BS n0 Z h0 f g i o b d q am vi xs ds qs rc) (AS : Ary Z h0 a1 .int [.int (Int32.ofNat s1)]) : Met l Z Y6 prog_2_method_2_code 7 (some .int) ({ frames := 2, cells := 0, slots := 0, locals := 44 } : Room) [.ref f, .ref a1] h0 n0 (Ret fun z h => (∃ x, z = .int x) ∧ Inv s2 ∧ BS n0 Z h f g i o b d q am vi xs s2.1 s2.2.1 s2.2.2) := by
  subst hrc
  refine Met.intro (Ls := [.val (.ref f), .val (.ref a1), .unset, .unset, .unset, .unset, .unset]) pl_6 (fun m => by simp [entryFrame, mkF, argsToLocals, Value.category, maxLocals]) fun w r => ?_
  replace r := r.ald0 1 d6_0 rfl
  obtain ⟨_, h1, ⟨rfl, B', K⟩, r'⟩ := r.callP (as := []) (rest := []) 4 d6_1 rfl (fg0_met hw f g i o b d q am vi xs ds qs _ n0 B) B.1 (wd_57 hw) (wd_58 hw) (wd_59 hw) (wd_30 hw) (wd_29 hw) (wd_60 hw) pd_7 rfl rfl rfl (by decide) (Nat.le_of_ble_eq_true rfl) (Nat.le_of_ble_eq_true rfl) (Nat.le_of_ble_eq_true rfl) (Nat.le_of_ble_eq_true rfl)
  clear r; have r := r'; clear r'
  change Go w l _ Z n0 _ _ _ _ _ _ [] _ _ _ at r
  clear B; have B := B'; clear B'
  replace AS := AS.keep K (ninS a1f nin0)
  replace r := r.iconstV 5 d6_4 rfl (0 : Int32) ic_0
  replace r := r.ist2 6 d6_5 rfl (One.of rfl)
  replace r := r.ald1 7 d6_6 rfl
  replace r := r.ast3 8 d6_7 rfl (One.of rfl)
  replace r := r.ald3 9 d6_8 rfl
  replace r := r.alen 10 d6_9 rfl AS 1 rfl
  replace r := r.ist4 12 d6_10 rfl (One.of rfl)
  replace r := r.iconstV 13 d6_12 rfl (0 : Int32) ic_0
  replace r := r.ist5 15 d6_13 rfl (One.of rfl)
  replace r := r.ild5 17 d6_15 rfl
  replace r := r.ild4 19 d6_17 rfl
  replace r := r.ic_geF 22 d6_19 rfl (by decide)
  replace r := r.ald3 23 d6_22 rfl
  replace r := r.ild5 25 d6_23 rfl
  replace r := r.iald 26 d6_25 rfl AS (by decide) rfl
  replace r := r.ist6 28 d6_26 rfl (One.of rfl)
  replace r := r.ald0 29 d6_28 rfl
  replace r := r.getF 32 d6_29 rfl (wd_42 hw) B.2.2.1
  replace r := r.ild6 34 d6_32 rfl
  have hdz : (dl ds)[s1]? = some (.int (dv 0)) := by rw [← hz]; exact dl_get (getD_some (by omega))
  replace r := r.iald 35 d6_34 rfl B.2.2.2.2.2.1 (len_nn (by omega)) (by rw [len_nat (by omega)]; exact hdz)
  replace r := r.iconstV 36 d6_35 rfl (-1 : Int32) ic_m1
  replace r := r.ic_neF 39 d6_36 rfl rfl
  replace r := r.ald0 40 d6_39 rfl
  replace r := r.getF 43 d6_40 rfl (wd_42 hw) B.2.2.1
  replace r := r.ild6 45 d6_43 rfl
  replace r := r.iconstV 46 d6_45 rfl (0 : Int32) ic_0
  obtain ⟨h2, W2, A2, r⟩ := r.iast 47 d6_46 rfl B.2.2.2.2.2.1 (len_nn (by omega)) (by rw [len_nat (by omega), dl_len]; omega) B.2.2.2.2.2.2.2.2.2.2.1
  rw [len_nat (by omega)] at W2 A2
  rw [show (0 : Int32) = dv 1 from by decide, dl_set] at A2
  replace B := B.wd W2 A2; replace AS := AS.other W2 a1d
  replace r := r.ald0 48 d6_47 rfl
  replace r := r.getF 51 d6_48 rfl (wd_44 hw) B.2.2.2.1
  replace r := r.ild2 52 d6_51 rfl
  replace r := r.ild6 54 d6_52 rfl
  obtain ⟨h3, W3, A3, r⟩ := r.iast 55 d6_54 rfl B.2.2.2.2.2.2.1 (by decide) (by rw [iv_len, hl2]; decide) B.2.2.2.2.2.2.2.2.2.2.2
  change Ary Z h3 q .int ((iv qs).set 0 (.int (Int32.ofNat s1))) at A3
  rw [iv_set] at A3
  replace B := B.wq W3 A3
  replace r := r.inc2 58 d6_55 rfl (d := 1) rfl
  replace r := r.inc5 61 d6_58 rfl (d := 1) rfl
  replace r := r.goto 15 d6_61 (by decide)
  replace r := r.ild5 17 d6_15 rfl
  replace r := r.ild4 19 d6_17 rfl
  replace r := r.ic_geT 64 d6_19 (by decide) (by decide)
  replace r := r.ald0 65 d6_64 rfl
  replace r := r.iconstV 66 d6_65 rfl (0 : Int32) ic_0
  replace r := r.ild2 67 d6_66 rfl
  replace r := r.ldc2 70 d6_67 rfl (wd_63 hw)
  have Bs := B
  obtain ⟨_, h4, ⟨_, rfl, ⟨x, rfl⟩, I2, B'⟩, r'⟩ := r.callP (as := [.int (Int32.ofNat 0), .int (Int32.ofNat 1), .long 2147483647]) (rest := []) 73 d6_70 rfl (sp_met hw f g i o b d q am vi xs 0 1 (ds.set s1 1) (qs.set 0 s1) 2147483647 true true true s2 _ n0 (by decide) (by decide) (by decide) hs ⟨by simp [hl1], by simp [hl2], (Nat.le_of_ble_eq_true rfl), (Nat.le_of_ble_eq_true rfl)⟩ B) B.1 (wd_64 hw) (wd_65 hw) (wd_66 hw) (wd_30 hw) (wd_29 hw) (wd_67 hw) pd_8 rfl rfl rfl (by decide) (Nat.le_of_ble_eq_true rfl) (Nat.le_of_ble_eq_true rfl) (Nat.le_of_ble_eq_true rfl) (Nat.le_of_ble_eq_true rfl)
  clear r; have r := r'; clear r'
  change Go w l _ Z n0 _ _ _ _ _ _ [.int _] _ _ _ at r
  exact r.retI d6_73 ⟨⟨_, rfl⟩, I2, B'⟩ (by decide) (by decide)
set_option maxRecDepth 65536 in
set_option maxHeartbeats 40000000 in
theorem sw_met {l : Launch} {Z : State} {a0 : Array Value} (hw : Ws Z a0) (f g i o b d q am : Addr) (vi : List Value) (xs : List Int32) (rc s1 : Nat) (ds qs : List Nat) (hops : Int64) (b1 b2 b3 : Bool) (s2 : S3) (h0 : Heap) (n0 : Nat) (e1 : b1 = decide ((dv 1).toInt64 < hops)) (e2 : b2 = decide ((dv 2).toInt64 < hops)) (e3 : b3 = decide ((dv 3).toInt64 < hops)) (hs1 : s1 < 5) (hl1 : ds.length = 5) (hl2 : qs.length = 5) (hrc : rc ≤ 5) (hq5 : ∀ x ∈ qs, x < 5) (hs : spreadO b1 b2 b3 6 0 ((wipe ds qs rc).set s1 1, qs.set 0 s1, 1) = some s2) (B : BS n0 Z h0 f g i o b d q am vi xs ds qs rc) : Met l Z Y11 prog_2_method_3_code 4 none ({ frames := 2, cells := 0, slots := 0, locals := 44 } : Room) [.ref f, .int (Int32.ofNat s1), .long hops] h0 n0 (Ret0 fun h => Inv s2 ∧ BS n0 Z h f g i o b d q am vi xs s2.1 s2.2.1 s2.2.2) := by
  refine Met.intro (Ls := [.val (.ref f), .val (.int (Int32.ofNat s1)), .val (.long hops), .second]) pl_11 (fun m => by simp [entryFrame, mkF, argsToLocals, Value.category, maxLocals]) fun w r => ?_
  replace r := r.ald0 1 d11_0 rfl
  obtain ⟨_, h1, ⟨rfl, B'⟩, r'⟩ := r.callP (as := []) (rest := []) 4 d11_1 rfl (fg_met hw f g i o b d q am vi xs rc ds qs _ n0 hl1 hl2 hrc hq5 B) B.1 (wd_57 hw) (wd_58 hw) (wd_59 hw) (wd_30 hw) (wd_29 hw) (wd_60 hw) pd_7 rfl rfl rfl (by decide) (Nat.le_of_ble_eq_true rfl) (Nat.le_of_ble_eq_true rfl) (Nat.le_of_ble_eq_true rfl) (Nat.le_of_ble_eq_true rfl)
  clear r; have r := r'; clear r'
  change Go w l _ Z n0 _ _ _ _ _ _ [] _ _ _ at r
  clear B; have B := B'; clear B'
  replace r := r.ald0 5 d11_4 rfl
  replace r := r.getF 8 d11_5 rfl (wd_42 hw) B.2.2.1
  replace r := r.ild1 9 d11_8 rfl
  replace r := r.iconstV 10 d11_9 rfl (0 : Int32) ic_0
  obtain ⟨h2, W2, A2, r⟩ := r.iast 11 d11_10 rfl B.2.2.2.2.2.1 (len_nn (by omega)) (by rw [len_nat (by omega), dl_len, wipe_len]; omega) B.2.2.2.2.2.2.2.2.2.2.1
  rw [len_nat (by omega)] at W2 A2
  rw [show (0 : Int32) = dv 1 from by decide, dl_set] at A2
  replace B := B.wd W2 A2
  replace r := r.ald0 12 d11_11 rfl
  replace r := r.getF 15 d11_12 rfl (wd_44 hw) B.2.2.2.1
  replace r := r.iconstV 16 d11_15 rfl (0 : Int32) ic_0
  replace r := r.ild1 17 d11_16 rfl
  obtain ⟨h3, W3, A3, r⟩ := r.iast 18 d11_17 rfl B.2.2.2.2.2.2.1 (by decide) (by rw [iv_len, hl2]; decide) B.2.2.2.2.2.2.2.2.2.2.2
  change Ary Z h3 q .int ((iv qs).set 0 (.int (Int32.ofNat s1))) at A3
  rw [iv_set] at A3
  replace B := B.wq W3 A3
  replace r := r.ald0 19 d11_18 rfl
  replace r := r.iconstV 20 d11_19 rfl (0 : Int32) ic_0
  replace r := r.iconstV 21 d11_20 rfl (1 : Int32) ic_1
  replace r := r.lld2 22 d11_21 rfl
  obtain ⟨_, h4, ⟨_, rfl, ⟨x, rfl⟩, I2, B'⟩, r'⟩ := r.callP (as := [.int (Int32.ofNat 0), .int (Int32.ofNat 1), .long hops]) (rest := []) 25 d11_22 rfl (sp_met hw f g i o b d q am vi xs 0 1 _ (qs.set 0 s1) hops b1 b2 b3 s2 _ n0 e1 e2 e3 hs ⟨by simp [wipe_len, hl1], by simp [hl2], (Nat.le_of_ble_eq_true rfl), (Nat.le_of_ble_eq_true rfl)⟩ B) B.1 (wd_64 hw) (wd_65 hw) (wd_66 hw) (wd_30 hw) (wd_29 hw) (wd_67 hw) pd_8 rfl rfl rfl (by decide) (Nat.le_of_ble_eq_true rfl) (Nat.le_of_ble_eq_true rfl) (Nat.le_of_ble_eq_true rfl) (Nat.le_of_ble_eq_true rfl)
  clear r; have r := r'; clear r'
  change Go w l _ Z n0 _ _ _ _ _ _ [.int _] _ _ _ at r
  replace r := r.pop 26 d11_25 rfl rfl
  exact r.retV d11_26 ⟨I2, B'⟩ (by decide) (by decide)
set_option maxRecDepth 65536 in
set_option maxHeartbeats 40000000 in
theorem rc_met {l : Launch} {Z : State} {a0 : Array Value} (hw : Ws Z a0) (f g i o b d q am : Addr) (vi : List Value) (xs : List Int32) (rc : Nat) (ds qs : List Nat) (h0 : Heap) (n0 : Nat) (B : BS n0 Z h0 f g i o b d q am vi xs ds qs rc) : Met l Z Y12 prog_2_method_8_code 1 (some .int) ({ frames := 0, cells := 0, slots := 0, locals := 0 } : Room) [.ref f] h0 n0 (Ret fun z h => z = .int (Int32.ofNat rc) ∧ h0 = h) := by
  refine Met.intro (Ls := [.val (.ref f)]) pl_12 (fun m => by simp [entryFrame, mkF, argsToLocals, Value.category, maxLocals]) fun w r => ?_
  replace r := r.ald0 1 d12_0 rfl
  replace r := r.getF 4 d12_1 rfl (wd_61 hw) B.2.2.2.2.1
  exact r.retI d12_4 ⟨rfl, rfl⟩ (by decide) (by decide)
set_option maxRecDepth 65536 in
set_option maxHeartbeats 40000000 in
theorem rd_met {l : Launch} {Z : State} {a0 : Array Value} (hw : Ws Z a0) (f g i o b d q am : Addr) (vi : List Value) (xs : List Int32) (rc k : Nat) (ds qs : List Nat) (h0 : Heap) (n0 : Nat) (hl2 : qs.length = 5) (hk : k < 5) (B : BS n0 Z h0 f g i o b d q am vi xs ds qs rc) : Met l Z Y13 prog_2_method_9_code 2 (some .int) ({ frames := 0, cells := 0, slots := 0, locals := 0 } : Room) [.ref f, .int (Int32.ofNat k)] h0 n0 (Ret fun z h => z = .int (Int32.ofNat (qs.getD k 0)) ∧ h0 = h) := by
  refine Met.intro (Ls := [.val (.ref f), .val (.int (Int32.ofNat k))]) pl_13 (fun m => by simp [entryFrame, mkF, argsToLocals, Value.category, maxLocals]) fun w r => ?_
  replace r := r.ald0 1 d13_0 rfl
  replace r := r.getF 4 d13_1 rfl (wd_44 hw) B.2.2.2.1
  replace r := r.ild1 5 d13_4 rfl
  replace r := r.iald 6 d13_5 rfl B.2.2.2.2.2.2.1 (len_nn (by omega)) (by rw [len_nat (by omega)]; exact iv_get (getD_some (x := 0) (by omega)))
  exact r.retI d13_6 ⟨rfl, rfl⟩ (by decide) (by decide)

def expE (xs : List Int32) (qs : List Nat) : Nat → Int32
  | 0 => -1
  | k + 1 => if xs.getD (qs.getD k 0) 0 = 0 then expE xs qs k else Int32.ofNat (qs.getD k 0)

set_option maxRecDepth 65536 in
set_option maxHeartbeats 40000000 in
theorem fa_loop {l : Launch} {Z : State} {a0 : Array Value} (hw : Ws Z a0) {w : W} {R : Room} {n0 rc : Nat} {h0 : Heap} {f g i o b d q am : Addr} {vi : List Value} {xs : List Int32} {ds qs : List Nat} (hl2 : qs.length = 5) (hx : xs.length = 5) (hq5 : ∀ x ∈ qs, x < 5) (B : BS n0 Z h0 f g i o b d q am vi xs ds qs rc) (M : Ary Z h0 am .boolean (zl xs)) (k : Nat) : k ≤ 5 → Go w l R Z n0 Y14 prog_2_method_6_code 4 (some .int) 9 [.val (.ref f), .val (.ref am), .val (.int (-1)), .val (.int (dv k))] [] h0 0 0 → Fini w n0 (Ret fun z h => z = .int (expE xs qs k) ∧ h0 = h) 0 0 := by
  induction k with
  | zero =>
    intro _ r
    replace r := r.ild3 10 d14_9 rfl
    replace r := r.if_ltT 41 d14_10 (by decide) (by decide)
    replace r := r.ild2 42 d14_41 rfl
    exact r.retI d14_42 ⟨rfl, rfl⟩ (by decide) (by decide)
  | succ k ih =>
    intro hk r
    obtain ⟨p1, p2⟩ := dv_pred k (by omega)
    have hu : qs.getD k 0 < 5 := by
      rw [List.getD_eq_getElem?_getD, List.getElem?_eq_getElem (by omega)]; exact hq5 _ (List.getElem_mem _)
    have hq : (iv qs)[k]? = some (.int (Int32.ofNat (qs.getD k 0))) := iv_get (getD_some (by omega))
    obtain ⟨u, eu⟩ : ∃ u, u = qs.getD k 0 := ⟨_, rfl⟩
    rw [← eu] at hu hq
    have hxu : (zl xs)[u]? = some (.int (xs.getD u 0)) := get_int (by omega)
    have hE : expE xs qs (k + 1) = if xs.getD u 0 = 0 then expE xs qs k else Int32.ofNat u := by rw [eu]; rfl
    rw [p2] at r
    replace r := r.ild3 10 d14_9 rfl
    replace r := r.if_ltF 13 d14_10 rfl (len_nn (by omega))
    replace r := r.ild2 14 d14_13 rfl
    replace r := r.if_geF 17 d14_14 rfl (by decide)
    replace r := r.ald1 18 d14_17 rfl
    replace r := r.ald0 19 d14_18 rfl
    replace r := r.getF 22 d14_19 rfl (wd_44 hw) B.2.2.2.1
    replace r := r.ild3 23 d14_22 rfl
    replace r := r.iald 24 d14_23 rfl B.2.2.2.2.2.2.1 (len_nn (by omega)) (by rw [len_nat (by omega)]; exact hq)
    replace r := r.zald 25 d14_24 rfl M (len_nn (by omega)) (by rw [len_nat (by omega)]; exact hxu)
    rcases r.if_eq 35 28 d14_25 (by decide) rfl with ⟨hc, r⟩ | ⟨hc, r⟩
    · replace r := r.inc3 38 d14_35 rfl (d := (-1)) rfl
      replace r := r.goto 9 d14_38 (by decide)
      rw [p1] at r
      rw [hE, if_pos hc]
      exact ih (by omega) r
    · replace r := r.ald0 29 d14_28 rfl
      replace r := r.getF 32 d14_29 rfl (wd_44 hw) B.2.2.2.1
      replace r := r.ild3 33 d14_32 rfl
      replace r := r.iald 34 d14_33 rfl B.2.2.2.2.2.2.1 (len_nn (by omega)) (by rw [len_nat (by omega)]; exact hq)
      replace r := r.ist2 35 d14_34 rfl (One.of rfl)
      replace r := r.inc3 38 d14_35 rfl (d := (-1)) rfl
      replace r := r.goto 9 d14_38 (by decide)
      rw [p1] at r
      rw [hE, if_neg hc]
      replace r : Go w l R Z n0 Y14 prog_2_method_6_code 4 (some .int) 41 [.val (.ref f), .val (.ref am), .val (.int (Int32.ofNat u)), .val (.int (dv k))] [] h0 0 0 := by
        by_cases hk0 : k = 0
        · subst hk0
          replace r := r.ild3 10 d14_9 rfl
          replace r := r.if_ltT 41 d14_10 (by decide) (by decide)
          exact r
        · have hnn : ¬ dv k < 0 := by
            obtain ⟨m, rfl⟩ : ∃ m, k = m + 1 := ⟨k - 1, by omega⟩
            rw [(dv_pred m (by omega)).2]; exact len_nn (by omega)
          replace r := r.ild3 10 d14_9 rfl
          replace r := r.if_ltF 13 d14_10 rfl hnn
          replace r := r.ild2 14 d14_13 rfl
          replace r := r.if_geT 41 d14_14 (by decide) (len_nn (by omega))
          exact r
      replace r := r.ild2 42 d14_41 rfl
      exact r.retI d14_42 ⟨rfl, rfl⟩ (by decide) (by decide)
set_option maxRecDepth 65536 in
set_option maxHeartbeats 40000000 in
theorem fa_met {l : Launch} {Z : State} {a0 : Array Value} (hw : Ws Z a0) (f g i o b d q am : Addr) (vi : List Value) (xs : List Int32) (rc : Nat) (ds qs : List Nat) (h0 : Heap) (n0 : Nat) (hl2 : qs.length = 5) (hx : xs.length = 5) (hrc : rc ≤ 5) (hq5 : ∀ x ∈ qs, x < 5) (B : BS n0 Z h0 f g i o b d q am vi xs ds qs rc) (M : Ary Z h0 am .boolean (zl xs)) : Met l Z Y14 prog_2_method_6_code 4 (some .int) ({ frames := 0, cells := 0, slots := 0, locals := 0 } : Room) [.ref f, .ref am] h0 n0 (Ret fun z h => z = .int (expE xs qs rc) ∧ h0 = h) := by
  refine Met.intro (Ls := [.val (.ref f), .val (.ref am), .unset, .unset]) pl_14 (fun m => by simp [entryFrame, mkF, argsToLocals, Value.category, maxLocals]) fun w r => ?_
  replace r := r.iconstV 1 d14_0 rfl (-1 : Int32) ic_m1
  replace r := r.ist2 2 d14_1 rfl (One.of rfl)
  replace r := r.ald0 3 d14_2 rfl
  replace r := r.getF 6 d14_3 rfl (wd_61 hw) B.2.2.2.2.1
  replace r := r.iconstV 7 d14_6 rfl (1 : Int32) ic_1
  replace r := r.isub 8 d14_7 rfl
  replace r := r.ist3 9 d14_8 rfl (One.of rfl)
  exact fa_loop hw hl2 hx hq5 B M rc hrc r
set_option maxRecDepth 65536 in
set_option maxHeartbeats 40000000 in
theorem fill_met {l : Launch} {Z : State} {a0 : Array Value} (hw : Ws Z a0) (a : Addr) (v : Int32) (h0 : Heap) (n0 : Nat) (ga : n0 ≤ a) (A : Ary Z h0 a .int [.int 0, .int 0, .int 0, .int 0, .int 0]) : Met l Z Y5 jdk_65_method_103_code 4 none ({ frames := 0, cells := 0, slots := 0, locals := 0 } : Room) [.ref a, .int v] h0 n0 (Ret0 fun h => Keep h0 h [a] ∧ Ary Z h a .int [.int v, .int v, .int v, .int v, .int v]) := by
  refine Met.intro (Ls := [.val (.ref a), .val (.int v), .unset, .unset]) pl_5 (fun m => by simp [entryFrame, mkF, argsToLocals, Value.category, maxLocals]) fun w r => ?_
  have K := Keep.refl h0 [a]
  replace r := r.iconstV 1 d5_0 rfl (0 : Int32) ic_0
  replace r := r.ist2 2 d5_1 rfl (One.of rfl)
  replace r := r.ald0 3 d5_2 rfl
  replace r := r.alen 4 d5_3 rfl A 5 rfl
  replace r := r.ist3 5 d5_4 rfl (One.of rfl)
  replace r := r.ild2 6 d5_5 rfl
  replace r := r.ild3 7 d5_6 rfl
  replace r := r.ic_geF 10 d5_7 rfl (by decide)
  replace r := r.ald0 11 d5_10 rfl
  replace r := r.ild2 12 d5_11 rfl
  replace r := r.ild1 13 d5_12 rfl
  obtain ⟨h1, W1, A, r⟩ := r.iast 14 d5_13 rfl A (by decide) (Nat.le_of_ble_eq_true rfl) ga
  replace K := K.wr W1 (Or.inl (by simp))
  replace r := r.inc2 17 d5_14 rfl (d := 1) rfl
  replace r := r.goto 5 d5_17 (by decide)
  rw [show (0 : Int32) + 1 = 1 from rfl] at r
  replace r := r.ild2 6 d5_5 rfl
  replace r := r.ild3 7 d5_6 rfl
  replace r := r.ic_geF 10 d5_7 rfl (by decide)
  replace r := r.ald0 11 d5_10 rfl
  replace r := r.ild2 12 d5_11 rfl
  replace r := r.ild1 13 d5_12 rfl
  obtain ⟨h2, W2, A, r⟩ := r.iast 14 d5_13 rfl A (by decide) (Nat.le_of_ble_eq_true rfl) ga
  replace K := K.wr W2 (Or.inl (by simp))
  replace r := r.inc2 17 d5_14 rfl (d := 1) rfl
  replace r := r.goto 5 d5_17 (by decide)
  rw [show (1 : Int32) + 1 = 2 from rfl] at r
  replace r := r.ild2 6 d5_5 rfl
  replace r := r.ild3 7 d5_6 rfl
  replace r := r.ic_geF 10 d5_7 rfl (by decide)
  replace r := r.ald0 11 d5_10 rfl
  replace r := r.ild2 12 d5_11 rfl
  replace r := r.ild1 13 d5_12 rfl
  obtain ⟨h3, W3, A, r⟩ := r.iast 14 d5_13 rfl A (by decide) (Nat.le_of_ble_eq_true rfl) ga
  replace K := K.wr W3 (Or.inl (by simp))
  replace r := r.inc2 17 d5_14 rfl (d := 1) rfl
  replace r := r.goto 5 d5_17 (by decide)
  rw [show (2 : Int32) + 1 = 3 from rfl] at r
  replace r := r.ild2 6 d5_5 rfl
  replace r := r.ild3 7 d5_6 rfl
  replace r := r.ic_geF 10 d5_7 rfl (by decide)
  replace r := r.ald0 11 d5_10 rfl
  replace r := r.ild2 12 d5_11 rfl
  replace r := r.ild1 13 d5_12 rfl
  obtain ⟨h4, W4, A, r⟩ := r.iast 14 d5_13 rfl A (by decide) (Nat.le_of_ble_eq_true rfl) ga
  replace K := K.wr W4 (Or.inl (by simp))
  replace r := r.inc2 17 d5_14 rfl (d := 1) rfl
  replace r := r.goto 5 d5_17 (by decide)
  rw [show (3 : Int32) + 1 = 4 from rfl] at r
  replace r := r.ild2 6 d5_5 rfl
  replace r := r.ild3 7 d5_6 rfl
  replace r := r.ic_geF 10 d5_7 rfl (by decide)
  replace r := r.ald0 11 d5_10 rfl
  replace r := r.ild2 12 d5_11 rfl
  replace r := r.ild1 13 d5_12 rfl
  obtain ⟨h5, W5, A, r⟩ := r.iast 14 d5_13 rfl A (by decide) (Nat.le_of_ble_eq_true rfl) ga
  replace K := K.wr W5 (Or.inl (by simp))
  replace r := r.inc2 17 d5_14 rfl (d := 1) rfl
  replace r := r.goto 5 d5_17 (by decide)
  rw [show (4 : Int32) + 1 = 5 from rfl] at r
  replace r := r.ild2 6 d5_5 rfl
  replace r := r.ild3 7 d5_6 rfl
  replace r := r.ic_geT 20 d5_7 (by decide) (by decide)
  exact r.retV d5_20 ⟨K, A⟩ (by decide) (by decide)

theorem GR.ext {Z : State} {h h' : Heap} {g i o b : Addr} {vi vo vn : List Value} (G : GR Z h g i o b vi vo vn) (X : Ext h h') : GR Z h' g i o b vi vo vn := by
  obtain ⟨E, F1, F2, F3, A1, A2, A3⟩ := G
  exact ⟨E.ext X, F1.ext X, F2.ext X, F3.ext X, A1.ext X, A2.ext X, A3.ext X⟩
def B0 (n0 : Nat) (Z : State) (h : Heap) (f g i o b d q : Addr) (vi : List Value) : Prop :=
  Exa Z h f "com/example/firehouse/firehouse/Bfs" ∧ Fld Z h f "com/example/firehouse/firehouse/Bfs" "graph" "Lcom/example/firehouse/firehouse/Graph;" (.ref g) ∧ Fld Z h f "com/example/firehouse/firehouse/Bfs" "distance" "[I" (.ref d) ∧ Fld Z h f "com/example/firehouse/firehouse/Bfs" "queue" "[I" (.ref q) ∧ Fld Z h f "com/example/firehouse/firehouse/Bfs" "reachedCount" "I" (.int 0) ∧ Ary Z h d .int (dl [0, 0, 0, 0, 0]) ∧ Ary Z h q .int (iv [0, 0, 0, 0, 0]) ∧ GR Z h g i o b vi (iv OFF) (iv NBS) ∧
  (f ≠ d ∧ f ≠ q ∧ d ≠ q ∧ g ≠ f ∧ g ≠ d ∧ g ≠ q ∧ i ≠ f ∧ i ≠ d ∧ i ≠ q ∧ o ≠ f ∧ o ≠ d ∧ o ≠ q ∧ b ≠ f ∧ b ≠ d ∧ b ≠ q) ∧ n0 ≤ f ∧ n0 ≤ d ∧ n0 ≤ q

set_option maxRecDepth 65536 in
set_option maxHeartbeats 40000000 in
theorem binit_met {l : Launch} {Z : State} {a0 : Array Value} (hw : Ws Z a0) (f g i o b : Addr) (vi : List Value) (h0 : Heap) (n0 : Nat) (hvi : vi.length = 5) (gf : n0 ≤ f) (c4 : g ≠ f) (c7 : i ≠ f) (c10 : o ≠ f) (c13 : b ≠ f) (E : Exa Z h0 f "com/example/firehouse/firehouse/Bfs") (F1 : Fld Z h0 f "com/example/firehouse/firehouse/Bfs" "graph" "Lcom/example/firehouse/firehouse/Graph;" .null) (F2 : Fld Z h0 f "com/example/firehouse/firehouse/Bfs" "distance" "[I" .null) (F3 : Fld Z h0 f "com/example/firehouse/firehouse/Bfs" "queue" "[I" .null) (F4 : Fld Z h0 f "com/example/firehouse/firehouse/Bfs" "reachedCount" "I" (.int 0)) (G : GR Z h0 g i o b vi (iv OFF) (iv NBS)) : Met l Z Y3 prog_2_method_1_code 2 none ({ frames := 1, cells := 2, slots := 10, locals := 24 } : Room) [.ref f, .ref g] h0 n0 (Ret0 fun h => ∃ d q, B0 n0 Z h f g i o b d q vi) := by
  refine Met.intro (Ls := [.val (.ref f), .val (.ref g)]) pl_3 (fun m => by simp [entryFrame, mkF, argsToLocals, Value.category, maxLocals]) fun w r => ?_
  replace r := r.ald0 1 d3_0 rfl
  replace r := goInitO r 4 d3_1 rfl (wd_34 hw) (wd_14 hw) (wd_15 hw) rfl (Nat.le_of_ble_eq_true rfl) (Nat.le_of_ble_eq_true rfl)
  replace r := r.ald0 5 d3_4 rfl
  replace r := r.ald1 6 d3_5 rfl
  obtain ⟨h1, W1, r⟩ := r.putF 9 d3_6 rfl (wd_35 hw) (Or.inr ⟨(wd_36 hw), rfl, rfl⟩) (wd_29 hw) E F1 (ty := (.object "com/example/firehouse/firehouse/Graph")) (by decide) rfl rfl gf
  replace E := E.wr W1; replace G := GR.wr G W1 c4 c7 c10 c13; replace F1 := F1.same W1; replace F2 := F2.other W1 (Or.inr (sn_distance_graph hw)); replace F3 := F3.other W1 (Or.inr (sn_queue_graph hw)); replace F4 := F4.other W1 (Or.inr (sn_reachedCount_graph hw))
  replace r := r.ald0 10 d3_9 rfl
  replace r := r.ald1 11 d3_10 rfl
  obtain ⟨_, _, ⟨_, rfl, rfl, rfl⟩, r'⟩ := r.callV (as := []) (rest := [.ref f]) 14 d3_11 rfl (nc_met hw g i o b _ _ _ _ n0 G) G.1 (wd_37 hw) (wd_38 hw) (wd_39 hw) (wd_40 hw) (wd_9 hw) (wd_41 hw) pd_4 rfl rfl rfl (by decide) (Nat.le_of_ble_eq_true rfl) (Nat.le_of_ble_eq_true rfl) (Nat.le_of_ble_eq_true rfl) (Nat.le_of_ble_eq_true rfl)
  clear r; have r := r'; clear r'
  rw [hvi] at r
  change Go w l _ Z n0 _ _ _ _ _ _ [.int 5, .ref f] _ _ _ at r
  obtain ⟨h2, d, z2, X2, A1, r⟩ := r.newA (vs := [.int 0, .int 0, .int 0, .int 0, .int 0]) 16 d3_14 rfl (wd_6 hw) (by decide) rfl 5 (by decide) (by decide) (by decide) (by decide)
  have c1 : f ≠ d := by rw [z2]; exact Nat.ne_of_lt E.lt
  have c5 : g ≠ d := by rw [z2]; exact Nat.ne_of_lt G.1.lt
  have c8 : i ≠ d := by rw [z2]; exact Nat.ne_of_lt G.2.2.2.2.1.lt
  have c11 : o ≠ d := by rw [z2]; exact Nat.ne_of_lt G.2.2.2.2.2.1.lt
  have c14 : b ≠ d := by rw [z2]; exact Nat.ne_of_lt G.2.2.2.2.2.2.lt
  have gd : n0 ≤ d := by rw [z2]; exact Nat.le_trans gf (Nat.le_of_lt E.lt)
  replace E := E.ext X2; replace G := GR.ext G X2; replace F1 := F1.ext X2; replace F2 := F2.ext X2; replace F3 := F3.ext X2; replace F4 := F4.ext X2
  obtain ⟨h3, W3, r⟩ := r.putF 19 d3_16 rfl (wd_42 hw) (Or.inr ⟨(wd_43 hw), rfl, rfl⟩) (wd_29 hw) E F2 (ty := (.array .int)) (by decide) rfl rfl gf
  replace E := E.wr W3; replace G := GR.wr G W3 c4 c7 c10 c13; replace A1 := A1.other W3 (Ne.symm c1); replace F1 := F1.other W3 (Or.inr (sn_graph_distance hw)); replace F2 := F2.same W3; replace F3 := F3.other W3 (Or.inr (sn_queue_distance hw)); replace F4 := F4.other W3 (Or.inr (sn_reachedCount_distance hw))
  replace r := r.ald0 20 d3_19 rfl
  replace r := r.ald1 21 d3_20 rfl
  obtain ⟨_, _, ⟨_, rfl, rfl, rfl⟩, r'⟩ := r.callV (as := []) (rest := [.ref f]) 24 d3_21 rfl (nc_met hw g i o b _ _ _ _ n0 G) G.1 (wd_37 hw) (wd_38 hw) (wd_39 hw) (wd_40 hw) (wd_9 hw) (wd_41 hw) pd_4 rfl rfl rfl (by decide) (Nat.le_of_ble_eq_true rfl) (Nat.le_of_ble_eq_true rfl) (Nat.le_of_ble_eq_true rfl) (Nat.le_of_ble_eq_true rfl)
  clear r; have r := r'; clear r'
  rw [hvi] at r
  change Go w l _ Z n0 _ _ _ _ _ _ [.int 5, .ref f] _ _ _ at r
  obtain ⟨h4, q, z4, X4, A2, r⟩ := r.newA (vs := [.int 0, .int 0, .int 0, .int 0, .int 0]) 26 d3_24 rfl (wd_6 hw) (by decide) rfl 5 (by decide) (by decide) (by decide) (by decide)
  have c2 : f ≠ q := by rw [z4]; exact Nat.ne_of_lt E.lt
  have c3 : d ≠ q := by rw [z4]; exact Nat.ne_of_lt A1.lt
  have c6 : g ≠ q := by rw [z4]; exact Nat.ne_of_lt G.1.lt
  have c9 : i ≠ q := by rw [z4]; exact Nat.ne_of_lt G.2.2.2.2.1.lt
  have c12 : o ≠ q := by rw [z4]; exact Nat.ne_of_lt G.2.2.2.2.2.1.lt
  have c15 : b ≠ q := by rw [z4]; exact Nat.ne_of_lt G.2.2.2.2.2.2.lt
  have gq : n0 ≤ q := by rw [z4]; exact Nat.le_trans gf (Nat.le_of_lt E.lt)
  replace E := E.ext X4; replace G := GR.ext G X4; replace A1 := A1.ext X4; replace F1 := F1.ext X4; replace F2 := F2.ext X4; replace F3 := F3.ext X4; replace F4 := F4.ext X4
  obtain ⟨h5, W5, r⟩ := r.putF 29 d3_26 rfl (wd_44 hw) (Or.inr ⟨(wd_45 hw), rfl, rfl⟩) (wd_29 hw) E F3 (ty := (.array .int)) (by decide) rfl rfl gf
  replace E := E.wr W5; replace G := GR.wr G W5 c4 c7 c10 c13; replace A1 := A1.other W5 (Ne.symm c1); replace A2 := A2.other W5 (Ne.symm c2); replace F1 := F1.other W5 (Or.inr (sn_graph_queue hw)); replace F2 := F2.other W5 (Or.inr (sn_distance_queue hw)); replace F3 := F3.same W5; replace F4 := F4.other W5 (Or.inr (sn_reachedCount_queue hw))
  replace r := r.ald0 30 d3_29 rfl
  replace r := r.getF 33 d3_30 rfl (wd_42 hw) F2
  replace r := r.iconstV 34 d3_33 rfl (-1 : Int32) ic_m1
  obtain ⟨_, h6, ⟨rfl, K, A1'⟩, r'⟩ := r.callS (rest := []) 37 d3_34 rfl (fill_met hw d (-1) _ n0 gd A1) (wd_46 hw) (wd_47 hw) (wd_48 hw) (wd_49 hw) pd_5 rfl rfl rfl (by decide) (Nat.le_of_ble_eq_true rfl) (Nat.le_of_ble_eq_true rfl) (Nat.le_of_ble_eq_true rfl) (Nat.le_of_ble_eq_true rfl)
  clear r; have r := r'; clear r'
  change Go w l _ Z n0 _ _ _ _ _ _ [] _ _ _ at r
  exact r.retV d3_37 ⟨d, q, E.keep K, F1.keep K (ninS c1 nin0), F2.keep K (ninS c1 nin0), F3.keep K (ninS c1 nin0), F4.keep K (ninS c1 nin0), A1', A2.keep K (ninS (Ne.symm c3) nin0), GR.keep G K (ninS c5 nin0) (ninS c8 nin0) (ninS c11 nin0) (ninS c14 nin0), ⟨c1, c2, c3, c4, c5, c6, c7, c8, c9, c10, c11, c12, c13, c14, c15⟩, gf, gd, gq⟩ (by decide) (by decide)

def okS (s : S3) : Bool := decide (s.1.length = 5) && decide (s.2.1.length = 5) && decide (s.2.2 ≤ 5) && s.2.1.all fun x => decide (x < 5)
def zero5 : List Nat := [0, 0, 0, 0, 0]
def first (s1 : Nat) : Option S3 := spreadO true true true 6 0 (zero5.set s1 1, zero5.set 0 s1, 1)
def second (s1 s2 : Nat) (b1 b2 b3 : Bool) : Option S3 := match first s1 with
  | none => none
  | some s => spreadO b1 b2 b3 6 0 ((wipe s.1 s.2.1 s.2.2).set s2 1, s.2.1.set 0 s2, 1)
def okO (o : Option S3) : Bool := match o with
  | none => false
  | some s => okS s
theorem first_ok : ∀ s1, s1 < 5 → okO (first s1) = true := by decide +kernel
theorem second_ok : ∀ s1, s1 < 5 → ∀ s2, s2 < 5 → ∀ b1 b2 b3 : Bool, okO (second s1 s2 b1 b2 b3) = true := by decide +kernel
theorem okO_some {o : Option S3} (h : okO o = true) : ∃ s, o = some s ∧ s.1.length = 5 ∧ s.2.1.length = 5 ∧ s.2.2 ≤ 5 ∧ ∀ x ∈ s.2.1, x < 5 := by
  cases o with
  | none => cases h
  | some s =>
    have h : okS s = true := h
    simp only [okS, Bool.and_eq_true, decide_eq_true_eq, List.all_eq_true] at h
    exact ⟨s, rfl, h.1.1.1, h.1.1.2, h.1.2, h.2⟩
theorem rem_n (b : Int32) (d : Nat) (h0 : 0 < d) (h4 : d < 8) : ∃ k : Nat, k < d ∧ (b &&& 2147483647) % Int32.ofNat d = Int32.ofNat k := by
  have h0' := (c_and b 2147483647 (by decide)).1
  have e := Int32.toInt_ofNat_small (n := d) (by omega)
  have h1 := (c_iremV (b &&& 2147483647) (Int32.ofNat d)).1 h0' (by rw [e]; omega)
  rw [e] at h1
  refine ⟨((b &&& 2147483647) % Int32.ofNat d).toInt.toNat, by omega, ?_⟩
  rw [← Int32.toInt_inj, Int32.toInt_ofNat_small (by omega)]; omega
theorem BS.ext {n0 : Nat} {Z : State} {h h' : Heap} {f g i o b d q am : Addr} {vi : List Value} {xs : List Int32} {ds qs : List Nat} {rc : Nat} (B : BS n0 Z h f g i o b d q am vi xs ds qs rc) (X : Ext h h') : BS n0 Z h' f g i o b d q am vi xs ds qs rc := by
  obtain ⟨E, F1, F2, F3, F4, A1, A2, G, ⟨c1, c2, c3, c4, c5, c6, c7, c8, c9, c10, c11, c12, c13, c14, c15, m1, m2, m3, M⟩, gs⟩ := B
  exact ⟨E.ext X, F1.ext X, F2.ext X, F3.ext X, F4.ext X, A1.ext X, A2.ext X, GR.ext G X, ⟨c1, c2, c3, c4, c5, c6, c7, c8, c9, c10, c11, c12, c13, c14, c15, m1, m2, m3, M.ext X⟩, gs⟩
theorem BS.oth {n0 : Nat} {Z : State} {h h' : Heap} {f g i o b d q am x : Addr} {sl : Nat} {v : Value} {vi : List Value} {xs : List Int32} {ds qs : List Nat} {rc : Nat} (B : BS n0 Z h f g i o b d q am vi xs ds qs rc) (W : Wr h h' x sl v) (p1 : f ≠ x) (p2 : d ≠ x) (p3 : q ≠ x) (p4 : g ≠ x) (p5 : i ≠ x) (p6 : o ≠ x) (p7 : b ≠ x) (p8 : am ≠ x) : BS n0 Z h' f g i o b d q am vi xs ds qs rc := by
  obtain ⟨E, F1, F2, F3, F4, A1, A2, G, ⟨c1, c2, c3, c4, c5, c6, c7, c8, c9, c10, c11, c12, c13, c14, c15, m1, m2, m3, M⟩, gs⟩ := B
  exact ⟨E.wr W, F1.other W (Or.inl p1), F2.other W (Or.inl p1), F3.other W (Or.inl p1), F4.other W (Or.inl p1), A1.other W p2, A2.other W p3, GR.wr G W p4 p5 p6 p7, ⟨c1, c2, c3, c4, c5, c6, c7, c8, c9, c10, c11, c12, c13, c14, c15, m1, m2, m3, M.other W p8⟩, gs⟩
theorem BS.wam {n0 : Nat} {Z : State} {h h' : Heap} {f g i o b d q am : Addr} {sl : Nat} {v : Value} {vi : List Value} {xs xs' : List Int32} {ds qs : List Nat} {rc : Nat} (B : BS n0 Z h f g i o b d q am vi xs ds qs rc) (W : Wr h h' am sl v) (p4 : g ≠ am) (p5 : i ≠ am) (p6 : o ≠ am) (p7 : b ≠ am) (M' : Ary Z h' am .boolean (zl xs')) : BS n0 Z h' f g i o b d q am vi xs' ds qs rc := by
  obtain ⟨E, F1, F2, F3, F4, A1, A2, G, ⟨c1, c2, c3, c4, c5, c6, c7, c8, c9, c10, c11, c12, c13, c14, c15, m1, m2, m3, M⟩, gs⟩ := B
  exact ⟨E.wr W, F1.other W (Or.inl (Ne.symm m1)), F2.other W (Or.inl (Ne.symm m1)), F3.other W (Or.inl (Ne.symm m1)), F4.other W (Or.inl (Ne.symm m1)), A1.other W (Ne.symm m2), A2.other W (Ne.symm m3), GR.wr G W p4 p5 p6 p7, ⟨c1, c2, c3, c4, c5, c6, c7, c8, c9, c10, c11, c12, c13, c14, c15, m1, m2, m3, M'⟩, gs⟩

set_option maxRecDepth 65536 in
set_option maxHeartbeats 40000000 in
theorem law_met {l : Launch} {Z : State} {a0 : Array Value} (hw : Ws Z a0) (ya yb : Int32) (hops : Int64) (ym yf : Int32) (h0 : Heap) (n0 : Nat) (hn : n0 ≤ h0.size) : Met l Z Y0 code maxLocals ret room_1 [.int ya, .int yb, .long hops, .int ym, .int yf] h0 n0 (Ret fun v h => v = .int 1) := by
  refine Met.intro (Ls := [.val (.int ya), .val (.int yb), .val (.long hops), .second, .val (.int ym), .val (.int yf), .unset, .unset, .unset, .unset, .unset, .unset, .unset, .unset, .unset, .unset, .unset]) pl_0 (fun m => by simp [entryFrame, mkF, argsToLocals, Value.category, maxLocals]) fun w r => ?_
  replace r := r.iconstV 1 at_0 rfl (5 : Int32) ic_5
  obtain ⟨h1, i, z1, X1, A1, r⟩ := r.newA (vs := [.long 0, .long 0, .long 0, .long 0, .long 0]) 3 at_1 rfl (wd_0 hw) (by decide) rfl 5 (by decide) (by decide) (by decide) (by decide)
  have gi : n0 ≤ i := by rw [z1]; exact hn
  replace r := r.dup 4 at_3 rfl rfl
  replace r := r.iconstV 5 at_4 rfl (0 : Int32) ic_0
  replace r := r.ldc2 8 at_5 rfl (wd_1 hw)
  obtain ⟨hx, Wx, A1, r⟩ := r.last 9 at_8 rfl A1 (by decide) (Nat.le_of_ble_eq_true rfl) gi
  replace r := r.dup 10 at_9 rfl rfl
  replace r := r.iconstV 11 at_10 rfl (1 : Int32) ic_1
  replace r := r.ldc2 14 at_11 rfl (wd_2 hw)
  obtain ⟨hx, Wx, A1, r⟩ := r.last 15 at_14 rfl A1 (by decide) (Nat.le_of_ble_eq_true rfl) gi
  replace r := r.dup 16 at_15 rfl rfl
  replace r := r.iconstV 17 at_16 rfl (2 : Int32) ic_2
  replace r := r.ldc2 20 at_17 rfl (wd_3 hw)
  obtain ⟨hx, Wx, A1, r⟩ := r.last 21 at_20 rfl A1 (by decide) (Nat.le_of_ble_eq_true rfl) gi
  replace r := r.dup 22 at_21 rfl rfl
  replace r := r.iconstV 23 at_22 rfl (3 : Int32) ic_3
  replace r := r.ldc2 26 at_23 rfl (wd_4 hw)
  obtain ⟨hx, Wx, A1, r⟩ := r.last 27 at_26 rfl A1 (by decide) (Nat.le_of_ble_eq_true rfl) gi
  replace r := r.dup 28 at_27 rfl rfl
  replace r := r.iconstV 29 at_28 rfl (4 : Int32) ic_4
  replace r := r.ldc2 32 at_29 rfl (wd_5 hw)
  obtain ⟨hx, Wx, A1, r⟩ := r.last 33 at_32 rfl A1 (by decide) (Nat.le_of_ble_eq_true rfl) gi
  replace A1 : Ary Z hx i .long [.long 10, .long 11, .long 12, .long 13, .long 14] := A1
  replace r := r.ast6 35 at_33 rfl (One.of rfl)
  replace r := r.bipushV 37 at_35 rfl (6 : Int32) bi_6
  obtain ⟨h2, o, z2, X2, A2, r⟩ := r.newA (vs := [.int 0, .int 0, .int 0, .int 0, .int 0, .int 0]) 39 at_37 rfl (wd_6 hw) (by decide) rfl 6 (by decide) (by decide) (by decide) (by decide)
  have io : i ≠ o := by rw [z2]; exact Nat.ne_of_lt A1.lt
  have go : n0 ≤ o := by rw [z2]; exact Nat.le_trans gi (Nat.le_of_lt A1.lt)
  replace A1 := A1.ext X2
  replace r := r.dup 40 at_39 rfl rfl
  replace r := r.iconstV 41 at_40 rfl (0 : Int32) ic_0
  replace r := r.iconstV 42 at_41 rfl (0 : Int32) ic_0
  obtain ⟨hx, Wx, A2, r⟩ := r.iast 43 at_42 rfl A2 (by decide) (Nat.le_of_ble_eq_true rfl) go
  replace A1 := A1.other Wx io
  replace r := r.dup 44 at_43 rfl rfl
  replace r := r.iconstV 45 at_44 rfl (1 : Int32) ic_1
  replace r := r.iconstV 46 at_45 rfl (2 : Int32) ic_2
  obtain ⟨hx, Wx, A2, r⟩ := r.iast 47 at_46 rfl A2 (by decide) (Nat.le_of_ble_eq_true rfl) go
  replace A1 := A1.other Wx io
  replace r := r.dup 48 at_47 rfl rfl
  replace r := r.iconstV 49 at_48 rfl (2 : Int32) ic_2
  replace r := r.iconstV 50 at_49 rfl (4 : Int32) ic_4
  obtain ⟨hx, Wx, A2, r⟩ := r.iast 51 at_50 rfl A2 (by decide) (Nat.le_of_ble_eq_true rfl) go
  replace A1 := A1.other Wx io
  replace r := r.dup 52 at_51 rfl rfl
  replace r := r.iconstV 53 at_52 rfl (3 : Int32) ic_3
  replace r := r.bipushV 55 at_53 rfl (6 : Int32) bi_6
  obtain ⟨hx, Wx, A2, r⟩ := r.iast 56 at_55 rfl A2 (by decide) (Nat.le_of_ble_eq_true rfl) go
  replace A1 := A1.other Wx io
  replace r := r.dup 57 at_56 rfl rfl
  replace r := r.iconstV 58 at_57 rfl (4 : Int32) ic_4
  replace r := r.bipushV 60 at_58 rfl (8 : Int32) bi_8
  obtain ⟨hx, Wx, A2, r⟩ := r.iast 61 at_60 rfl A2 (by decide) (Nat.le_of_ble_eq_true rfl) go
  replace A1 := A1.other Wx io
  replace r := r.dup 62 at_61 rfl rfl
  replace r := r.iconstV 63 at_62 rfl (5 : Int32) ic_5
  replace r := r.bipushV 65 at_63 rfl (8 : Int32) bi_8
  obtain ⟨hx, Wx, A2, r⟩ := r.iast 66 at_65 rfl A2 (by decide) (Nat.le_of_ble_eq_true rfl) go
  replace A1 := A1.other Wx io
  replace A2 : Ary Z hx o .int (iv OFF) := A2
  replace r := r.ast7 68 at_66 rfl (One.of rfl)
  replace r := r.bipushV 70 at_68 rfl (8 : Int32) bi_8
  obtain ⟨h3, b, z3, X3, A3, r⟩ := r.newA (vs := [.int 0, .int 0, .int 0, .int 0, .int 0, .int 0, .int 0, .int 0]) 72 at_70 rfl (wd_6 hw) (by decide) rfl 8 (by decide) (by decide) (by decide) (by decide)
  have ib : i ≠ b := by rw [z3]; exact Nat.ne_of_lt A1.lt
  have ob : o ≠ b := by rw [z3]; exact Nat.ne_of_lt A2.lt
  have gb : n0 ≤ b := by rw [z3]; exact Nat.le_trans gi (Nat.le_of_lt A1.lt)
  replace A1 := A1.ext X3; replace A2 := A2.ext X3
  replace r := r.dup 73 at_72 rfl rfl
  replace r := r.iconstV 74 at_73 rfl (0 : Int32) ic_0
  replace r := r.iconstV 75 at_74 rfl (1 : Int32) ic_1
  obtain ⟨hx, Wx, A3, r⟩ := r.iast 76 at_75 rfl A3 (by decide) (Nat.le_of_ble_eq_true rfl) gb
  replace A1 := A1.other Wx ib; replace A2 := A2.other Wx ob
  replace r := r.dup 77 at_76 rfl rfl
  replace r := r.iconstV 78 at_77 rfl (1 : Int32) ic_1
  replace r := r.iconstV 79 at_78 rfl (2 : Int32) ic_2
  obtain ⟨hx, Wx, A3, r⟩ := r.iast 80 at_79 rfl A3 (by decide) (Nat.le_of_ble_eq_true rfl) gb
  replace A1 := A1.other Wx ib; replace A2 := A2.other Wx ob
  replace r := r.dup 81 at_80 rfl rfl
  replace r := r.iconstV 82 at_81 rfl (2 : Int32) ic_2
  replace r := r.iconstV 83 at_82 rfl (0 : Int32) ic_0
  obtain ⟨hx, Wx, A3, r⟩ := r.iast 84 at_83 rfl A3 (by decide) (Nat.le_of_ble_eq_true rfl) gb
  replace A1 := A1.other Wx ib; replace A2 := A2.other Wx ob
  replace r := r.dup 85 at_84 rfl rfl
  replace r := r.iconstV 86 at_85 rfl (3 : Int32) ic_3
  replace r := r.iconstV 87 at_86 rfl (3 : Int32) ic_3
  obtain ⟨hx, Wx, A3, r⟩ := r.iast 88 at_87 rfl A3 (by decide) (Nat.le_of_ble_eq_true rfl) gb
  replace A1 := A1.other Wx ib; replace A2 := A2.other Wx ob
  replace r := r.dup 89 at_88 rfl rfl
  replace r := r.iconstV 90 at_89 rfl (4 : Int32) ic_4
  replace r := r.iconstV 91 at_90 rfl (0 : Int32) ic_0
  obtain ⟨hx, Wx, A3, r⟩ := r.iast 92 at_91 rfl A3 (by decide) (Nat.le_of_ble_eq_true rfl) gb
  replace A1 := A1.other Wx ib; replace A2 := A2.other Wx ob
  replace r := r.dup 93 at_92 rfl rfl
  replace r := r.iconstV 94 at_93 rfl (5 : Int32) ic_5
  replace r := r.iconstV 95 at_94 rfl (3 : Int32) ic_3
  obtain ⟨hx, Wx, A3, r⟩ := r.iast 96 at_95 rfl A3 (by decide) (Nat.le_of_ble_eq_true rfl) gb
  replace A1 := A1.other Wx ib; replace A2 := A2.other Wx ob
  replace r := r.dup 97 at_96 rfl rfl
  replace r := r.bipushV 99 at_97 rfl (6 : Int32) bi_6
  replace r := r.iconstV 100 at_99 rfl (1 : Int32) ic_1
  obtain ⟨hx, Wx, A3, r⟩ := r.iast 101 at_100 rfl A3 (by decide) (Nat.le_of_ble_eq_true rfl) gb
  replace A1 := A1.other Wx ib; replace A2 := A2.other Wx ob
  replace r := r.dup 102 at_101 rfl rfl
  replace r := r.bipushV 104 at_102 rfl (7 : Int32) bi_7
  replace r := r.iconstV 105 at_104 rfl (2 : Int32) ic_2
  obtain ⟨hx, Wx, A3, r⟩ := r.iast 106 at_105 rfl A3 (by decide) (Nat.le_of_ble_eq_true rfl) gb
  replace A1 := A1.other Wx ib; replace A2 := A2.other Wx ob
  replace A3 : Ary Z hx b .int (iv NBS) := A3
  replace r := r.ast8 108 at_106 rfl (One.of rfl)
  obtain ⟨h8, g, z8, X8, E8, D8, r⟩ := r.newO 111 at_108 rfl (wd_7 hw) (wd_8 hw) (wd_9 hw) (by decide) (by decide)
  have gg : n0 ≤ g := by rw [z8]; exact Nat.le_trans gi (Nat.le_of_lt A1.lt)
  have gi' : g ≠ i := by rw [z8]; exact Ne.symm (Nat.ne_of_lt A1.lt)
  have go' : g ≠ o := by rw [z8]; exact Ne.symm (Nat.ne_of_lt A2.lt)
  have gb' : g ≠ b := by rw [z8]; exact Ne.symm (Nat.ne_of_lt A3.lt)
  replace A1 := A1.ext X8; replace A2 := A2.ext X8; replace A3 := A3.ext X8
  replace r := r.dup 112 at_111 rfl rfl
  replace r := r.ald6 114 at_112 rfl
  replace r := r.ald7 116 at_114 rfl
  replace r := r.ald8 118 at_116 rfl
  replace r := r.lconstV 119 at_118 rfl (0 : Int64) rfl
  replace r := r.lconstV 120 at_119 rfl (0 : Int64) rfl
  obtain ⟨_, hg, ⟨rfl, G, -⟩, r'⟩ := r.callI (as := [.ref i, .ref o, .ref b, .long 0, .long 0]) (rest := [.ref g]) 123 at_120 rfl (ginit_met hw g i o b 0 0 _ _ _ _ n0 gg gi' go' gb' E8 (D8 (Or.inl (wd_17 hw)) (ty := .int) (by decide)) (D8 (Or.inr (wd_19 hw)) (ty := (.array .long)) (by decide)) (D8 (Or.inr (wd_21 hw)) (ty := (.array .int)) (by decide)) (D8 (Or.inr (wd_23 hw)) (ty := (.array .int)) (by decide)) (D8 (Or.inr (wd_25 hw)) (ty := .long) (by decide)) (D8 (Or.inr (wd_27 hw)) (ty := .long) (by decide)) A1 A2 A3) rfl (wd_10 hw) (wd_11 hw) (wd_9 hw) (wd_12 hw) pd_1 rfl rfl rfl (by decide) (Nat.le_of_ble_eq_true rfl) (Nat.le_of_ble_eq_true rfl) (Nat.le_of_ble_eq_true rfl) (Nat.le_of_ble_eq_true rfl)
  clear r; have r := r'; clear r'
  change Go w l _ Z n0 _ _ _ _ _ _ [.ref g] _ _ _ at r
  replace r := r.ast9 125 at_123 rfl (One.of rfl)
  obtain ⟨h9, f, z9, X9, E9, D9, r⟩ := r.newO 128 at_125 rfl (wd_28 hw) (wd_29 hw) (wd_30 hw) (by decide) (by decide)
  have gf : n0 ≤ f := by rw [z9]; exact Nat.le_trans gg (Nat.le_of_lt G.1.lt)
  have gF : g ≠ f := by rw [z9]; exact Nat.ne_of_lt G.1.lt
  have iF : i ≠ f := by rw [z9]; exact Nat.ne_of_lt G.2.2.2.2.1.lt
  have oF : o ≠ f := by rw [z9]; exact Nat.ne_of_lt G.2.2.2.2.2.1.lt
  have bF : b ≠ f := by rw [z9]; exact Nat.ne_of_lt G.2.2.2.2.2.2.lt
  replace r := r.dup 129 at_128 rfl rfl
  replace r := r.ald9 131 at_129 rfl
  obtain ⟨_, hb, ⟨rfl, d, q, B0'⟩, r'⟩ := r.callI (as := [.ref g]) (rest := [.ref f]) 134 at_131 rfl (binit_met hw f g i o b _ _ n0 rfl gf gF iF oF bF E9 (D9 (Or.inr (wd_36 hw)) (ty := (.object "com/example/firehouse/firehouse/Graph")) (by decide)) (D9 (Or.inr (wd_43 hw)) (ty := (.array .int)) (by decide)) (D9 (Or.inr (wd_45 hw)) (ty := (.array .int)) (by decide)) (D9 (Or.inl (wd_62 hw)) (ty := .int) (by decide)) (GR.ext G X9)) rfl (wd_31 hw) (wd_32 hw) (wd_30 hw) (wd_33 hw) pd_3 rfl rfl rfl (by decide) (Nat.le_of_ble_eq_true rfl) (Nat.le_of_ble_eq_true rfl) (Nat.le_of_ble_eq_true rfl) (Nat.le_of_ble_eq_true rfl)
  clear r; have r := r'; clear r'
  change Go w l _ Z n0 _ _ _ _ _ _ [.ref f] _ _ _ at r
  replace r := r.ast10 136 at_134 rfl (One.of rfl)
  replace r := r.iconstV 137 at_136 rfl (5 : Int32) ic_5
  obtain ⟨h10, am, z10, X10, M, r⟩ := r.newA (vs := [.int 0, .int 0, .int 0, .int 0, .int 0]) 139 at_137 rfl (wd_50 hw) (by decide) rfl 5 (by decide) (by decide) (by decide) (by decide)
  obtain ⟨E, F1, F2, F3, F4, Ad, Aq, Gr, ⟨c1, c2, c3, c4, c5, c6, c7, c8, c9, c10, c11, c12, c13, c14, c15⟩, gs⟩ := B0'
  have m1 : am ≠ f := by rw [z10]; exact Ne.symm (Nat.ne_of_lt E.lt)
  have m2 : am ≠ d := by rw [z10]; exact Ne.symm (Nat.ne_of_lt Ad.lt)
  have m3 : am ≠ q := by rw [z10]; exact Ne.symm (Nat.ne_of_lt Aq.lt)
  have m4 : g ≠ am := by rw [z10]; exact Nat.ne_of_lt Gr.1.lt
  have m5 : i ≠ am := by rw [z10]; exact Nat.ne_of_lt Gr.2.2.2.2.1.lt
  have m6 : o ≠ am := by rw [z10]; exact Nat.ne_of_lt Gr.2.2.2.2.2.1.lt
  have m7 : b ≠ am := by rw [z10]; exact Nat.ne_of_lt Gr.2.2.2.2.2.2.lt
  have gam : n0 ≤ am := by rw [z10]; exact Nat.le_trans gf (Nat.le_of_lt E.lt)
  have B : BS n0 Z h10 f g i o b d q am [.long 10, .long 11, .long 12, .long 13, .long 14] [0, 0, 0, 0, 0] zero5 zero5 0 := ⟨E.ext X10, F1.ext X10, F2.ext X10, F3.ext X10, F4.ext X10, Ad.ext X10, Aq.ext X10, GR.ext Gr X10, ⟨c1, c2, c3, c4, c5, c6, c7, c8, c9, c10, c11, c12, c13, c14, c15, m1, m2, m3, M⟩, gs⟩
  clear E F1 F2 F3 F4 Ad Aq Gr M
  replace r := r.ast11 141 at_139 rfl (One.of rfl)
  replace r : Go w l room_1 Z n0 Y0 code maxLocals ret 141 [.val (.int ya), .val (.int yb), .val (.long hops), .second, .val (.int ym), .val (.int yf), .val (.ref i), .val (.ref o), .val (.ref b), .val (.ref g), .val (.ref f), .val (.ref am), .unset, .unset, .unset, .unset, .unset] [] h10 8 44 := r
  have J : ∃ x : Int32, Go w l room_1 Z n0 Y0 code maxLocals ret 156 [.val (.int ya), .val (.int yb), .val (.long hops), .second, .val (.int ym), .val (.int yf), .val (.ref i), .val (.ref o), .val (.ref b), .val (.ref g), .val (.ref f), .val (.ref am), .unset, .unset, .unset, .unset, .unset] [.int x, .int 0, .ref am] h10 8 44 := by
    replace r := r.ald11 143 at_141 rfl
    replace r := r.iconstV 144 at_143 rfl (0 : Int32) ic_0
    replace r := r.ild4 146 at_144 rfl
    replace r := r.iconstV 147 at_146 rfl (1 : Int32) ic_1
    replace r := r.iand 148 at_147 rfl
    rcases r.if_eq 155 151 at_148 (by decide) rfl with ⟨hc, r⟩ | ⟨hc, r⟩
    · replace r := r.iconstV 156 at_155 rfl (0 : Int32) ic_0
      exact ⟨_, r⟩
    · replace r := r.iconstV 152 at_151 rfl (1 : Int32) ic_1
      replace r := r.goto 156 at_152 (by decide)
      exact ⟨_, r⟩
  clear r
  obtain ⟨x0, r⟩ := J
  obtain ⟨k0, Wx, M, r⟩ := r.zast 157 at_156 rfl (B.2.2.2.2.2.2.2.2.1.2.2.2.2.2.2.2.2.2.2.2.2.2.2.2.2.2.2) (by decide) (Nat.le_of_ble_eq_true rfl) gam
  replace B : BS n0 Z k0 f g i o b d q am [.long 10, .long 11, .long 12, .long 13, .long 14] [x0 &&& 1, 0, 0, 0, 0] zero5 zero5 0 := B.wam Wx m4 m5 m6 m7 M
  have J : ∃ x : Int32, Go w l room_1 Z n0 Y0 code maxLocals ret 172 [.val (.int ya), .val (.int yb), .val (.long hops), .second, .val (.int ym), .val (.int yf), .val (.ref i), .val (.ref o), .val (.ref b), .val (.ref g), .val (.ref f), .val (.ref am), .unset, .unset, .unset, .unset, .unset] [.int x, .int 1, .ref am] k0 8 44 := by
    replace r := r.ald11 159 at_157 rfl
    replace r := r.iconstV 160 at_159 rfl (1 : Int32) ic_1
    replace r := r.ild4 162 at_160 rfl
    replace r := r.iconstV 163 at_162 rfl (2 : Int32) ic_2
    replace r := r.iand 164 at_163 rfl
    rcases r.if_eq 171 167 at_164 (by decide) rfl with ⟨hc, r⟩ | ⟨hc, r⟩
    · replace r := r.iconstV 172 at_171 rfl (0 : Int32) ic_0
      exact ⟨_, r⟩
    · replace r := r.iconstV 168 at_167 rfl (1 : Int32) ic_1
      replace r := r.goto 172 at_168 (by decide)
      exact ⟨_, r⟩
  clear r
  obtain ⟨x1, r⟩ := J
  obtain ⟨k1, Wx, M, r⟩ := r.zast 173 at_172 rfl (B.2.2.2.2.2.2.2.2.1.2.2.2.2.2.2.2.2.2.2.2.2.2.2.2.2.2.2) (by decide) (Nat.le_of_ble_eq_true rfl) gam
  replace B : BS n0 Z k1 f g i o b d q am [.long 10, .long 11, .long 12, .long 13, .long 14] [x0 &&& 1, x1 &&& 1, 0, 0, 0] zero5 zero5 0 := B.wam Wx m4 m5 m6 m7 M
  have J : ∃ x : Int32, Go w l room_1 Z n0 Y0 code maxLocals ret 188 [.val (.int ya), .val (.int yb), .val (.long hops), .second, .val (.int ym), .val (.int yf), .val (.ref i), .val (.ref o), .val (.ref b), .val (.ref g), .val (.ref f), .val (.ref am), .unset, .unset, .unset, .unset, .unset] [.int x, .int 2, .ref am] k1 8 44 := by
    replace r := r.ald11 175 at_173 rfl
    replace r := r.iconstV 176 at_175 rfl (2 : Int32) ic_2
    replace r := r.ild4 178 at_176 rfl
    replace r := r.iconstV 179 at_178 rfl (4 : Int32) ic_4
    replace r := r.iand 180 at_179 rfl
    rcases r.if_eq 187 183 at_180 (by decide) rfl with ⟨hc, r⟩ | ⟨hc, r⟩
    · replace r := r.iconstV 188 at_187 rfl (0 : Int32) ic_0
      exact ⟨_, r⟩
    · replace r := r.iconstV 184 at_183 rfl (1 : Int32) ic_1
      replace r := r.goto 188 at_184 (by decide)
      exact ⟨_, r⟩
  clear r
  obtain ⟨x2, r⟩ := J
  obtain ⟨k2, Wx, M, r⟩ := r.zast 189 at_188 rfl (B.2.2.2.2.2.2.2.2.1.2.2.2.2.2.2.2.2.2.2.2.2.2.2.2.2.2.2) (by decide) (Nat.le_of_ble_eq_true rfl) gam
  replace B : BS n0 Z k2 f g i o b d q am [.long 10, .long 11, .long 12, .long 13, .long 14] [x0 &&& 1, x1 &&& 1, x2 &&& 1, 0, 0] zero5 zero5 0 := B.wam Wx m4 m5 m6 m7 M
  have J : ∃ x : Int32, Go w l room_1 Z n0 Y0 code maxLocals ret 205 [.val (.int ya), .val (.int yb), .val (.long hops), .second, .val (.int ym), .val (.int yf), .val (.ref i), .val (.ref o), .val (.ref b), .val (.ref g), .val (.ref f), .val (.ref am), .unset, .unset, .unset, .unset, .unset] [.int x, .int 3, .ref am] k2 8 44 := by
    replace r := r.ald11 191 at_189 rfl
    replace r := r.iconstV 192 at_191 rfl (3 : Int32) ic_3
    replace r := r.ild4 194 at_192 rfl
    replace r := r.bipushV 196 at_194 rfl (8 : Int32) bi_8
    replace r := r.iand 197 at_196 rfl
    rcases r.if_eq 204 200 at_197 (by decide) rfl with ⟨hc, r⟩ | ⟨hc, r⟩
    · replace r := r.iconstV 205 at_204 rfl (0 : Int32) ic_0
      exact ⟨_, r⟩
    · replace r := r.iconstV 201 at_200 rfl (1 : Int32) ic_1
      replace r := r.goto 205 at_201 (by decide)
      exact ⟨_, r⟩
  clear r
  obtain ⟨x3, r⟩ := J
  obtain ⟨k3, Wx, M, r⟩ := r.zast 206 at_205 rfl (B.2.2.2.2.2.2.2.2.1.2.2.2.2.2.2.2.2.2.2.2.2.2.2.2.2.2.2) (by decide) (Nat.le_of_ble_eq_true rfl) gam
  replace B : BS n0 Z k3 f g i o b d q am [.long 10, .long 11, .long 12, .long 13, .long 14] [x0 &&& 1, x1 &&& 1, x2 &&& 1, x3 &&& 1, 0] zero5 zero5 0 := B.wam Wx m4 m5 m6 m7 M
  have J : ∃ x : Int32, Go w l room_1 Z n0 Y0 code maxLocals ret 222 [.val (.int ya), .val (.int yb), .val (.long hops), .second, .val (.int ym), .val (.int yf), .val (.ref i), .val (.ref o), .val (.ref b), .val (.ref g), .val (.ref f), .val (.ref am), .unset, .unset, .unset, .unset, .unset] [.int x, .int 4, .ref am] k3 8 44 := by
    replace r := r.ald11 208 at_206 rfl
    replace r := r.iconstV 209 at_208 rfl (4 : Int32) ic_4
    replace r := r.ild4 211 at_209 rfl
    replace r := r.bipushV 213 at_211 rfl (16 : Int32) bi_16
    replace r := r.iand 214 at_213 rfl
    rcases r.if_eq 221 217 at_214 (by decide) rfl with ⟨hc, r⟩ | ⟨hc, r⟩
    · replace r := r.iconstV 222 at_221 rfl (0 : Int32) ic_0
      exact ⟨_, r⟩
    · replace r := r.iconstV 218 at_217 rfl (1 : Int32) ic_1
      replace r := r.goto 222 at_218 (by decide)
      exact ⟨_, r⟩
  clear r
  obtain ⟨x4, r⟩ := J
  obtain ⟨k4, Wx, M, r⟩ := r.zast 223 at_222 rfl (B.2.2.2.2.2.2.2.2.1.2.2.2.2.2.2.2.2.2.2.2.2.2.2.2.2.2.2) (by decide) (Nat.le_of_ble_eq_true rfl) gam
  replace B : BS n0 Z k4 f g i o b d q am [.long 10, .long 11, .long 12, .long 13, .long 14] [x0 &&& 1, x1 &&& 1, x2 &&& 1, x3 &&& 1, x4 &&& 1] zero5 zero5 0 := B.wam Wx m4 m5 m6 m7 M
  obtain ⟨xs, exs⟩ : ∃ xs : List Int32, xs = [x0 &&& 1, x1 &&& 1, x2 &&& 1, x3 &&& 1, x4 &&& 1] := ⟨_, rfl⟩
  have hxs : xs.length = 5 := by rw [exs]; rfl
  rw [← exs] at B
  obtain ⟨s1, hs1, es1⟩ := rem_n ya 5 (by decide) (by decide)
  obtain ⟨s2, hs2, es2⟩ := rem_n yb 5 (by decide) (by decide)
  replace r := r.ild0 224 at_223 rfl
  replace r := r.ldcI 226 at_224 rfl (wd_51 hw)
  replace r := r.iand 227 at_226 rfl
  replace r := r.iconstV 228 at_227 rfl (5 : Int32) ic_5
  rw [show (5 : Int32) = Int32.ofNat 5 from rfl] at r
  replace r := r.irem 229 at_228 rfl (by decide)
  rw [es1] at r
  replace r := r.ist12 231 at_229 rfl (One.of rfl)
  replace r := r.ild1 232 at_231 rfl
  replace r := r.ldcI 234 at_232 rfl (wd_51 hw)
  replace r := r.iand 235 at_234 rfl
  replace r := r.iconstV 236 at_235 rfl (5 : Int32) ic_5
  rw [show (5 : Int32) = Int32.ofNat 5 from rfl] at r
  replace r := r.irem 237 at_236 rfl (by decide)
  rw [es2] at r
  replace r := r.ist13 239 at_237 rfl (One.of rfl)
  replace r := r.ald10 241 at_239 rfl
  replace r := r.iconstV 242 at_241 rfl (1 : Int32) ic_1
  obtain ⟨h11, a1, z11, X11, AS, r⟩ := r.newA (vs := [.int 0]) 244 at_242 rfl (wd_6 hw) (by decide) rfl 1 (by decide) (by decide) (by decide) (by decide)
  have n1 : f ≠ a1 := by rw [z11]; exact Nat.ne_of_lt B.1.lt
  have n2 : d ≠ a1 := by rw [z11]; exact Nat.ne_of_lt B.2.2.2.2.2.1.lt
  have n3 : q ≠ a1 := by rw [z11]; exact Nat.ne_of_lt B.2.2.2.2.2.2.1.lt
  have n4 : g ≠ a1 := by rw [z11]; exact Nat.ne_of_lt B.2.2.2.2.2.2.2.1.1.lt
  have n5 : i ≠ a1 := by rw [z11]; exact Nat.ne_of_lt B.2.2.2.2.2.2.2.1.2.2.2.2.1.lt
  have n6 : o ≠ a1 := by rw [z11]; exact Nat.ne_of_lt B.2.2.2.2.2.2.2.1.2.2.2.2.2.1.lt
  have n7 : b ≠ a1 := by rw [z11]; exact Nat.ne_of_lt B.2.2.2.2.2.2.2.1.2.2.2.2.2.2.lt
  have n8 : am ≠ a1 := by rw [z11]; exact Nat.ne_of_lt (B.2.2.2.2.2.2.2.2.1.2.2.2.2.2.2.2.2.2.2.2.2.2.2.2.2.2.2).lt
  have ga1 : n0 ≤ a1 := by rw [z11]; exact Nat.le_trans gf (Nat.le_of_lt B.1.lt)
  replace B := B.ext X11
  replace r := r.dup 245 at_244 rfl rfl
  replace r := r.iconstV 246 at_245 rfl (0 : Int32) ic_0
  replace r := r.ild12 248 at_246 rfl
  obtain ⟨h12, W12, AS, r⟩ := r.iast 249 at_248 rfl AS (by decide) (Nat.le_of_ble_eq_true rfl) ga1
  replace AS : Ary Z h12 a1 .int [.int (Int32.ofNat s1)] := AS
  replace B := B.oth W12 n1 n2 n3 n4 n5 n6 n7 n8
  obtain ⟨t1, et1, q1, q2, q3, q4⟩ := okO_some (first_ok s1 hs1)
  have hz5 : zero5.getD s1 0 = 0 := by
    obtain rfl | rfl | rfl | rfl | rfl : s1 = 0 ∨ s1 = 1 ∨ s1 = 2 ∨ s1 = 3 ∨ s1 = 4 := by omega
    all_goals rfl
  obtain ⟨_, h13, ⟨_, rfl, ⟨xx, rfl⟩, I1, B'⟩, r'⟩ := r.callV (as := [.ref a1]) (rest := []) 252 at_249 rfl (se_met hw f g i o b d q am _ xs 0 s1 zero5 zero5 a1 t1 _ n0 hs1 rfl rfl rfl (by decide) hz5 (Ne.symm n1) (Ne.symm n2) (Ne.symm n3) et1 B AS) B.1 (wd_52 hw) (wd_53 hw) (wd_54 hw) (wd_55 hw) (wd_30 hw) (wd_56 hw) pd_6 rfl rfl rfl (by decide) (Nat.le_of_ble_eq_true rfl) (Nat.le_of_ble_eq_true rfl) (Nat.le_of_ble_eq_true rfl) (Nat.le_of_ble_eq_true rfl)
  clear r; have r := r'; clear r'
  change Go w l _ Z n0 _ _ _ _ _ _ [.int _] _ _ _ at r
  clear B; have B := B'; clear B'
  replace r := r.pop 253 at_252 rfl rfl
  have J : ∃ (t : S3) (h : Heap), t.2.1.length = 5 ∧ t.2.2 ≤ 5 ∧ (∀ x ∈ t.2.1, x < 5) ∧ BS n0 Z h f g i o b d q am [.long 10, .long 11, .long 12, .long 13, .long 14] xs t.1 t.2.1 t.2.2 ∧ Go w l room_1 Z n0 Y0 code maxLocals ret 268 [.val (.int ya), .val (.int yb), .val (.long hops), .second, .val (.int ym), .val (.int yf), .val (.ref i), .val (.ref o), .val (.ref b), .val (.ref g), .val (.ref f), .val (.ref am), .val (.int (Int32.ofNat s1)), .val (.int (Int32.ofNat s2)), .unset, .unset, .unset] [] h 9 45 := by
    replace r := r.ild5 255 at_253 rfl
    replace r := r.iconstV 256 at_255 rfl (1 : Int32) ic_1
    replace r := r.iand 257 at_256 rfl
    rcases r.if_eq 268 260 at_257 (by decide) rfl with ⟨hc, r⟩ | ⟨hc, r⟩
    · exact ⟨t1, h13, q2, q3, q4, B, r⟩
    · obtain ⟨b1, e1⟩ : ∃ b1, b1 = decide ((dv 1).toInt64 < hops) := ⟨_, rfl⟩
      obtain ⟨b2, e2⟩ : ∃ b2, b2 = decide ((dv 2).toInt64 < hops) := ⟨_, rfl⟩
      obtain ⟨b3, e3⟩ : ∃ b3, b3 = decide ((dv 3).toInt64 < hops) := ⟨_, rfl⟩
      obtain ⟨t2, et2, p1, p2, p3, p4⟩ := okO_some (second_ok s1 hs1 s2 hs2 b1 b2 b3)
      have et2 : spreadO b1 b2 b3 6 0 ((wipe t1.1 t1.2.1 t1.2.2).set s2 1, t1.2.1.set 0 s2, 1) = some t2 := by
        unfold second at et2; rw [et1] at et2; exact et2
      replace r := r.ald10 262 at_260 rfl
      replace r := r.ild13 264 at_262 rfl
      replace r := r.lld2 265 at_264 rfl
      obtain ⟨_, h14, ⟨rfl, I2, B'⟩, r'⟩ := r.callV (as := [.int (Int32.ofNat s2), .long hops]) (rest := []) 268 at_265 rfl (sw_met hw f g i o b d q am _ xs _ s2 _ _ hops b1 b2 b3 t2 _ n0 e1 e2 e3 hs2 q1 q2 q3 q4 et2 B) B.1 (wd_78 hw) (wd_79 hw) (wd_80 hw) (wd_81 hw) (wd_30 hw) (wd_82 hw) pd_11 rfl rfl rfl (by decide) (Nat.le_of_ble_eq_true rfl) (Nat.le_of_ble_eq_true rfl) (Nat.le_of_ble_eq_true rfl) (Nat.le_of_ble_eq_true rfl)
      clear r; have r := r'; clear r'
      change Go w l _ Z n0 _ _ _ _ _ _ [] _ _ _ at r
      exact ⟨t2, h14, p2, p3, p4, B', r⟩
  clear r B
  obtain ⟨t, ht, q2, q3, q4, B, r⟩ := J
  obtain ⟨ds, qs, n⟩ := t
  dsimp only at q2 q3 q4 B
  replace r := r.ald10 270 at_268 rfl
  obtain ⟨_, _, ⟨_, rfl, rfl, rfl⟩, r'⟩ := r.callV (as := []) (rest := []) 273 at_270 rfl (rc_met hw f g i o b d q am _ xs n _ _ _ n0 B) B.1 (wd_83 hw) (wd_84 hw) (wd_85 hw) (wd_86 hw) (wd_30 hw) (wd_87 hw) pd_12 rfl rfl rfl (by decide) (Nat.le_of_ble_eq_true rfl) (Nat.le_of_ble_eq_true rfl) (Nat.le_of_ble_eq_true rfl) (Nat.le_of_ble_eq_true rfl)
  clear r; have r := r'; clear r'
  change Go w l _ Z n0 _ _ _ _ _ _ [.int _] _ _ _ at r
  replace r := r.ist14 275 at_273 rfl (One.of rfl)
  replace r := r.iconstV 276 at_275 rfl (-1 : Int32) ic_m1
  replace r := r.ist15 278 at_276 rfl (One.of rfl)
  have e0 : (-1 : Int32) = expE xs qs (min n 0) := by rw [Nat.min_zero]; rfl
  rw [e0] at r
  have J : ∃ s16, Jvm.RoadKit.One s16 ∧ Go w l room_1 Z n0 Y0 code maxLocals ret 278 [.val (.int ya), .val (.int yb), .val (.long hops), .second, .val (.int ym), .val (.int yf), .val (.ref i), .val (.ref o), .val (.ref b), .val (.ref g), .val (.ref f), .val (.ref am), .val (.int (Int32.ofNat s1)), .val (.int (Int32.ofNat s2)), .val (.int (Int32.ofNat n)), .val (.int (expE xs qs (min n 0))), s16] [] ht 9 45 := ⟨_, One.u, r⟩
  clear r
  obtain ⟨s16, o16, r⟩ := J
  have J : ∃ s16, Jvm.RoadKit.One s16 ∧ Go w l room_1 Z n0 Y0 code maxLocals ret 303 [.val (.int ya), .val (.int yb), .val (.long hops), .second, .val (.int ym), .val (.int yf), .val (.ref i), .val (.ref o), .val (.ref b), .val (.ref g), .val (.ref f), .val (.ref am), .val (.int (Int32.ofNat s1)), .val (.int (Int32.ofNat s2)), .val (.int (Int32.ofNat n)), .val (.int (expE xs qs (min n 1))), s16] [] ht 9 45 := by
    replace r := r.ild14 280 at_278 rfl
    rcases r.if_le 303 283 at_280 (by decide) rfl with ⟨hc, r⟩ | ⟨hc, r⟩
    · rw [show (0 : Int32) = Int32.ofNat 0 from rfl, nlt (by decide) (by omega)] at hc
      rw [show min n 1 = min n 0 from by omega]; exact ⟨_, o16, r⟩
    · rw [show (0 : Int32) = Int32.ofNat 0 from rfl, nlt (by decide) (by omega)] at hc
      have hmin : min n 1 = 0 + 1 := by omega
      have hmin0 : min n 0 = 0 := by omega
      have hu : qs.getD 0 0 < 5 := by
        rw [List.getD_eq_getElem?_getD, List.getElem?_eq_getElem (by omega)]; exact q4 _ (List.getElem_mem _)
      have hE : expE xs qs (0 + 1) = if xs.getD (qs.getD 0 0) 0 = 0 then expE xs qs 0 else Int32.ofNat (qs.getD 0 0) := rfl
      replace r := r.ald10 285 at_283 rfl
      replace r := r.iconstV 286 at_285 rfl (0 : Int32) ic_0
      obtain ⟨_, _, ⟨_, rfl, rfl, rfl⟩, r'⟩ := r.callV (as := [.int (Int32.ofNat 0)]) (rest := []) 289 at_286 rfl (rd_met hw f g i o b d q am _ xs n 0 _ _ _ n0 q2 (by decide) B) B.1 (wd_88 hw) (wd_89 hw) (wd_90 hw) (wd_91 hw) (wd_30 hw) (wd_92 hw) pd_13 rfl rfl rfl (by decide) (Nat.le_of_ble_eq_true rfl) (Nat.le_of_ble_eq_true rfl) (Nat.le_of_ble_eq_true rfl) (Nat.le_of_ble_eq_true rfl)
      clear r; have r := r'; clear r'
      change Go w l _ Z n0 _ _ _ _ _ _ [.int _] _ _ _ at r
      replace r := r.ist16 291 at_289 rfl o16
      replace r := r.ald11 293 at_291 rfl
      replace r := r.ild16 295 at_293 rfl
      replace r := r.zald 296 at_295 rfl (B.2.2.2.2.2.2.2.2.1.2.2.2.2.2.2.2.2.2.2.2.2.2.2.2.2.2.2) (len_nn (by omega)) (by rw [len_nat (by omega)]; exact get_int (by omega))
      rcases r.if_eq 303 299 at_296 (by decide) rfl with ⟨hd, r⟩ | ⟨hd, r⟩
      · rw [hmin, hE, if_pos hd]; rw [hmin0] at r; exact ⟨_, One.val rfl, r⟩
      · replace r := r.ild16 301 at_299 rfl
        replace r := r.ist15 303 at_301 rfl (One.of rfl)
        rw [hmin, hE, if_neg hd]; exact ⟨_, One.val rfl, r⟩
  clear r o16 s16
  obtain ⟨s16, o16, r⟩ := J
  have J : ∃ s16, Jvm.RoadKit.One s16 ∧ Go w l room_1 Z n0 Y0 code maxLocals ret 329 [.val (.int ya), .val (.int yb), .val (.long hops), .second, .val (.int ym), .val (.int yf), .val (.ref i), .val (.ref o), .val (.ref b), .val (.ref g), .val (.ref f), .val (.ref am), .val (.int (Int32.ofNat s1)), .val (.int (Int32.ofNat s2)), .val (.int (Int32.ofNat n)), .val (.int (expE xs qs (min n 2))), s16] [] ht 9 45 := by
    replace r := r.ild14 305 at_303 rfl
    replace r := r.iconstV 306 at_305 rfl (1 : Int32) ic_1
    rcases r.ic_le 329 309 at_306 (by decide) rfl with ⟨hc, r⟩ | ⟨hc, r⟩
    · rw [show (1 : Int32) = Int32.ofNat 1 from rfl, nlt (by decide) (by omega)] at hc
      rw [show min n 2 = min n 1 from by omega]; exact ⟨_, o16, r⟩
    · rw [show (1 : Int32) = Int32.ofNat 1 from rfl, nlt (by decide) (by omega)] at hc
      have hmin : min n 2 = 1 + 1 := by omega
      have hmin0 : min n 1 = 1 := by omega
      have hu : qs.getD 1 0 < 5 := by
        rw [List.getD_eq_getElem?_getD, List.getElem?_eq_getElem (by omega)]; exact q4 _ (List.getElem_mem _)
      have hE : expE xs qs (1 + 1) = if xs.getD (qs.getD 1 0) 0 = 0 then expE xs qs 1 else Int32.ofNat (qs.getD 1 0) := rfl
      replace r := r.ald10 311 at_309 rfl
      replace r := r.iconstV 312 at_311 rfl (1 : Int32) ic_1
      obtain ⟨_, _, ⟨_, rfl, rfl, rfl⟩, r'⟩ := r.callV (as := [.int (Int32.ofNat 1)]) (rest := []) 315 at_312 rfl (rd_met hw f g i o b d q am _ xs n 1 _ _ _ n0 q2 (by decide) B) B.1 (wd_88 hw) (wd_89 hw) (wd_90 hw) (wd_91 hw) (wd_30 hw) (wd_92 hw) pd_13 rfl rfl rfl (by decide) (Nat.le_of_ble_eq_true rfl) (Nat.le_of_ble_eq_true rfl) (Nat.le_of_ble_eq_true rfl) (Nat.le_of_ble_eq_true rfl)
      clear r; have r := r'; clear r'
      change Go w l _ Z n0 _ _ _ _ _ _ [.int _] _ _ _ at r
      replace r := r.ist16 317 at_315 rfl o16
      replace r := r.ald11 319 at_317 rfl
      replace r := r.ild16 321 at_319 rfl
      replace r := r.zald 322 at_321 rfl (B.2.2.2.2.2.2.2.2.1.2.2.2.2.2.2.2.2.2.2.2.2.2.2.2.2.2.2) (len_nn (by omega)) (by rw [len_nat (by omega)]; exact get_int (by omega))
      rcases r.if_eq 329 325 at_322 (by decide) rfl with ⟨hd, r⟩ | ⟨hd, r⟩
      · rw [hmin, hE, if_pos hd]; rw [hmin0] at r; exact ⟨_, One.val rfl, r⟩
      · replace r := r.ild16 327 at_325 rfl
        replace r := r.ist15 329 at_327 rfl (One.of rfl)
        rw [hmin, hE, if_neg hd]; exact ⟨_, One.val rfl, r⟩
  clear r o16 s16
  obtain ⟨s16, o16, r⟩ := J
  have J : ∃ s16, Jvm.RoadKit.One s16 ∧ Go w l room_1 Z n0 Y0 code maxLocals ret 355 [.val (.int ya), .val (.int yb), .val (.long hops), .second, .val (.int ym), .val (.int yf), .val (.ref i), .val (.ref o), .val (.ref b), .val (.ref g), .val (.ref f), .val (.ref am), .val (.int (Int32.ofNat s1)), .val (.int (Int32.ofNat s2)), .val (.int (Int32.ofNat n)), .val (.int (expE xs qs (min n 3))), s16] [] ht 9 45 := by
    replace r := r.ild14 331 at_329 rfl
    replace r := r.iconstV 332 at_331 rfl (2 : Int32) ic_2
    rcases r.ic_le 355 335 at_332 (by decide) rfl with ⟨hc, r⟩ | ⟨hc, r⟩
    · rw [show (2 : Int32) = Int32.ofNat 2 from rfl, nlt (by decide) (by omega)] at hc
      rw [show min n 3 = min n 2 from by omega]; exact ⟨_, o16, r⟩
    · rw [show (2 : Int32) = Int32.ofNat 2 from rfl, nlt (by decide) (by omega)] at hc
      have hmin : min n 3 = 2 + 1 := by omega
      have hmin0 : min n 2 = 2 := by omega
      have hu : qs.getD 2 0 < 5 := by
        rw [List.getD_eq_getElem?_getD, List.getElem?_eq_getElem (by omega)]; exact q4 _ (List.getElem_mem _)
      have hE : expE xs qs (2 + 1) = if xs.getD (qs.getD 2 0) 0 = 0 then expE xs qs 2 else Int32.ofNat (qs.getD 2 0) := rfl
      replace r := r.ald10 337 at_335 rfl
      replace r := r.iconstV 338 at_337 rfl (2 : Int32) ic_2
      obtain ⟨_, _, ⟨_, rfl, rfl, rfl⟩, r'⟩ := r.callV (as := [.int (Int32.ofNat 2)]) (rest := []) 341 at_338 rfl (rd_met hw f g i o b d q am _ xs n 2 _ _ _ n0 q2 (by decide) B) B.1 (wd_88 hw) (wd_89 hw) (wd_90 hw) (wd_91 hw) (wd_30 hw) (wd_92 hw) pd_13 rfl rfl rfl (by decide) (Nat.le_of_ble_eq_true rfl) (Nat.le_of_ble_eq_true rfl) (Nat.le_of_ble_eq_true rfl) (Nat.le_of_ble_eq_true rfl)
      clear r; have r := r'; clear r'
      change Go w l _ Z n0 _ _ _ _ _ _ [.int _] _ _ _ at r
      replace r := r.ist16 343 at_341 rfl o16
      replace r := r.ald11 345 at_343 rfl
      replace r := r.ild16 347 at_345 rfl
      replace r := r.zald 348 at_347 rfl (B.2.2.2.2.2.2.2.2.1.2.2.2.2.2.2.2.2.2.2.2.2.2.2.2.2.2.2) (len_nn (by omega)) (by rw [len_nat (by omega)]; exact get_int (by omega))
      rcases r.if_eq 355 351 at_348 (by decide) rfl with ⟨hd, r⟩ | ⟨hd, r⟩
      · rw [hmin, hE, if_pos hd]; rw [hmin0] at r; exact ⟨_, One.val rfl, r⟩
      · replace r := r.ild16 353 at_351 rfl
        replace r := r.ist15 355 at_353 rfl (One.of rfl)
        rw [hmin, hE, if_neg hd]; exact ⟨_, One.val rfl, r⟩
  clear r o16 s16
  obtain ⟨s16, o16, r⟩ := J
  have J : ∃ s16, Jvm.RoadKit.One s16 ∧ Go w l room_1 Z n0 Y0 code maxLocals ret 381 [.val (.int ya), .val (.int yb), .val (.long hops), .second, .val (.int ym), .val (.int yf), .val (.ref i), .val (.ref o), .val (.ref b), .val (.ref g), .val (.ref f), .val (.ref am), .val (.int (Int32.ofNat s1)), .val (.int (Int32.ofNat s2)), .val (.int (Int32.ofNat n)), .val (.int (expE xs qs (min n 4))), s16] [] ht 9 45 := by
    replace r := r.ild14 357 at_355 rfl
    replace r := r.iconstV 358 at_357 rfl (3 : Int32) ic_3
    rcases r.ic_le 381 361 at_358 (by decide) rfl with ⟨hc, r⟩ | ⟨hc, r⟩
    · rw [show (3 : Int32) = Int32.ofNat 3 from rfl, nlt (by decide) (by omega)] at hc
      rw [show min n 4 = min n 3 from by omega]; exact ⟨_, o16, r⟩
    · rw [show (3 : Int32) = Int32.ofNat 3 from rfl, nlt (by decide) (by omega)] at hc
      have hmin : min n 4 = 3 + 1 := by omega
      have hmin0 : min n 3 = 3 := by omega
      have hu : qs.getD 3 0 < 5 := by
        rw [List.getD_eq_getElem?_getD, List.getElem?_eq_getElem (by omega)]; exact q4 _ (List.getElem_mem _)
      have hE : expE xs qs (3 + 1) = if xs.getD (qs.getD 3 0) 0 = 0 then expE xs qs 3 else Int32.ofNat (qs.getD 3 0) := rfl
      replace r := r.ald10 363 at_361 rfl
      replace r := r.iconstV 364 at_363 rfl (3 : Int32) ic_3
      obtain ⟨_, _, ⟨_, rfl, rfl, rfl⟩, r'⟩ := r.callV (as := [.int (Int32.ofNat 3)]) (rest := []) 367 at_364 rfl (rd_met hw f g i o b d q am _ xs n 3 _ _ _ n0 q2 (by decide) B) B.1 (wd_88 hw) (wd_89 hw) (wd_90 hw) (wd_91 hw) (wd_30 hw) (wd_92 hw) pd_13 rfl rfl rfl (by decide) (Nat.le_of_ble_eq_true rfl) (Nat.le_of_ble_eq_true rfl) (Nat.le_of_ble_eq_true rfl) (Nat.le_of_ble_eq_true rfl)
      clear r; have r := r'; clear r'
      change Go w l _ Z n0 _ _ _ _ _ _ [.int _] _ _ _ at r
      replace r := r.ist16 369 at_367 rfl o16
      replace r := r.ald11 371 at_369 rfl
      replace r := r.ild16 373 at_371 rfl
      replace r := r.zald 374 at_373 rfl (B.2.2.2.2.2.2.2.2.1.2.2.2.2.2.2.2.2.2.2.2.2.2.2.2.2.2.2) (len_nn (by omega)) (by rw [len_nat (by omega)]; exact get_int (by omega))
      rcases r.if_eq 381 377 at_374 (by decide) rfl with ⟨hd, r⟩ | ⟨hd, r⟩
      · rw [hmin, hE, if_pos hd]; rw [hmin0] at r; exact ⟨_, One.val rfl, r⟩
      · replace r := r.ild16 379 at_377 rfl
        replace r := r.ist15 381 at_379 rfl (One.of rfl)
        rw [hmin, hE, if_neg hd]; exact ⟨_, One.val rfl, r⟩
  clear r o16 s16
  obtain ⟨s16, o16, r⟩ := J
  have J : ∃ s16, Jvm.RoadKit.One s16 ∧ Go w l room_1 Z n0 Y0 code maxLocals ret 407 [.val (.int ya), .val (.int yb), .val (.long hops), .second, .val (.int ym), .val (.int yf), .val (.ref i), .val (.ref o), .val (.ref b), .val (.ref g), .val (.ref f), .val (.ref am), .val (.int (Int32.ofNat s1)), .val (.int (Int32.ofNat s2)), .val (.int (Int32.ofNat n)), .val (.int (expE xs qs (min n 5))), s16] [] ht 9 45 := by
    replace r := r.ild14 383 at_381 rfl
    replace r := r.iconstV 384 at_383 rfl (4 : Int32) ic_4
    rcases r.ic_le 407 387 at_384 (by decide) rfl with ⟨hc, r⟩ | ⟨hc, r⟩
    · rw [show (4 : Int32) = Int32.ofNat 4 from rfl, nlt (by decide) (by omega)] at hc
      rw [show min n 5 = min n 4 from by omega]; exact ⟨_, o16, r⟩
    · rw [show (4 : Int32) = Int32.ofNat 4 from rfl, nlt (by decide) (by omega)] at hc
      have hmin : min n 5 = 4 + 1 := by omega
      have hmin0 : min n 4 = 4 := by omega
      have hu : qs.getD 4 0 < 5 := by
        rw [List.getD_eq_getElem?_getD, List.getElem?_eq_getElem (by omega)]; exact q4 _ (List.getElem_mem _)
      have hE : expE xs qs (4 + 1) = if xs.getD (qs.getD 4 0) 0 = 0 then expE xs qs 4 else Int32.ofNat (qs.getD 4 0) := rfl
      replace r := r.ald10 389 at_387 rfl
      replace r := r.iconstV 390 at_389 rfl (4 : Int32) ic_4
      obtain ⟨_, _, ⟨_, rfl, rfl, rfl⟩, r'⟩ := r.callV (as := [.int (Int32.ofNat 4)]) (rest := []) 393 at_390 rfl (rd_met hw f g i o b d q am _ xs n 4 _ _ _ n0 q2 (by decide) B) B.1 (wd_88 hw) (wd_89 hw) (wd_90 hw) (wd_91 hw) (wd_30 hw) (wd_92 hw) pd_13 rfl rfl rfl (by decide) (Nat.le_of_ble_eq_true rfl) (Nat.le_of_ble_eq_true rfl) (Nat.le_of_ble_eq_true rfl) (Nat.le_of_ble_eq_true rfl)
      clear r; have r := r'; clear r'
      change Go w l _ Z n0 _ _ _ _ _ _ [.int _] _ _ _ at r
      replace r := r.ist16 395 at_393 rfl o16
      replace r := r.ald11 397 at_395 rfl
      replace r := r.ild16 399 at_397 rfl
      replace r := r.zald 400 at_399 rfl (B.2.2.2.2.2.2.2.2.1.2.2.2.2.2.2.2.2.2.2.2.2.2.2.2.2.2.2) (len_nn (by omega)) (by rw [len_nat (by omega)]; exact get_int (by omega))
      rcases r.if_eq 407 403 at_400 (by decide) rfl with ⟨hd, r⟩ | ⟨hd, r⟩
      · rw [hmin, hE, if_pos hd]; rw [hmin0] at r; exact ⟨_, One.val rfl, r⟩
      · replace r := r.ild16 405 at_403 rfl
        replace r := r.ist15 407 at_405 rfl (One.of rfl)
        rw [hmin, hE, if_neg hd]; exact ⟨_, One.val rfl, r⟩
  clear r o16 s16
  obtain ⟨s16, o16, r⟩ := J
  rw [show min n 5 = n from by omega] at r
  replace r := r.ald10 409 at_407 rfl
  replace r := r.ald11 411 at_409 rfl
  obtain ⟨_, _, ⟨_, rfl, rfl, rfl⟩, r'⟩ := r.callV (as := [.ref am]) (rest := []) 414 at_411 rfl (fa_met hw f g i o b d q am _ xs n _ _ _ n0 q2 hxs q3 q4 B (B.2.2.2.2.2.2.2.2.1.2.2.2.2.2.2.2.2.2.2.2.2.2.2.2.2.2.2)) B.1 (wd_93 hw) (wd_94 hw) (wd_95 hw) (wd_96 hw) (wd_30 hw) (wd_97 hw) pd_14 rfl rfl rfl (by decide) (Nat.le_of_ble_eq_true rfl) (Nat.le_of_ble_eq_true rfl) (Nat.le_of_ble_eq_true rfl) (Nat.le_of_ble_eq_true rfl)
  clear r; have r := r'; clear r'
  change Go w l _ Z n0 _ _ _ _ _ _ [.int _] _ _ _ at r
  replace r := r.ist16 416 at_414 rfl o16
  replace r := r.ild16 418 at_416 rfl
  replace r := r.ild15 420 at_418 rfl
  replace r := r.ic_neF 423 at_420 rfl rfl
  replace r := r.iconstV 424 at_423 rfl (1 : Int32) ic_1
  replace r := r.goto 428 at_424 (by decide)
  exact r.retN at_428 (Or.inl rfl) (z' := 1) rfl (by rfl) (by decide) (by decide)
set_option maxRecDepth 65536 in
set_option maxHeartbeats 40000000 in
theorem comes_1 {Post : Tables → Env → Array Value → State → Outcome → State → Prop} (hpost : ∀ tb e args s v u, (limb_1_1.after args s (.returned v) u = true ∧ limb_1_2.after args s (.returned v) u = true ∧ True) → FrameEnd s (.returned v) u (Jvm.fieldLocs frame_1_writes args s ++ Jvm.arrayLocs frame_1_arrays args s ++ Jvm.staticLocs frame_1_statics s) 32 192 → Post tb e args s (.returned v) u) :
    ArmFor flags0 classFile x code maxLocals ret World_1 tables_1 room_1 Calls_1 rest_1 Pre_1 Post := by
  intro l hfl _ _ p e ha hc hk s m args below hf hA hF happ hP
  obtain ⟨hcalls, hrest, hpre⟩ := hP
  obtain ⟨-, -, -, hnamed, -, -, -, hat⟩ := (Spec.applies_iff hf).mp happ
  obtain ⟨hg, hn⟩ := and_e (Cond.before_iff.mp (show (Jvm.Cond.and given_1 narrow_1).before args s = true from hpre))
  obtain ⟨g1, g2⟩ := and_e hg
  obtain ⟨g3, g4⟩ := and_e g2
  obtain ⟨g5, g6⟩ := and_e g4
  obtain ⟨g7, g8⟩ := and_e g6
  obtain ⟨g9, g10⟩ := and_e g8
  obtain ⟨w0, w1, w2, w3, w4, rfl⟩ : ∃ w0 w1 w2 w3 w4 : Value, args = #[w0, w1, w2, w3, w4] := by
    have hs : args.size = 5 := by simpa [Cond.value, given_1] using g1
    obtain ⟨L⟩ := args
    match L, hs with
    | [w0, w1, w2, w3, w4], _ => exact ⟨w0, w1, w2, w3, w4, rfl⟩
  have hw : Ws s _ := fun d (hd : d ∈ tables_1) => atoms_spec (ws := Jvm.Cond.code x code maxLocals ret :: tables_1) hat d (List.mem_cons_of_mem _ hd)
  obtain ⟨i0, ei0⟩ := is_v g3
  obtain rfl : w0 = (.int i0) := Option.some.inj ei0
  obtain ⟨i1, ei1⟩ := is_v g5
  obtain rfl : w1 = (.int i1) := Option.some.inj ei1
  obtain ⟨i2, ei2⟩ := isL_v g7
  obtain rfl : w2 = (.long i2) := Option.some.inj ei2
  obtain ⟨i3, ei3⟩ := is_v g9
  obtain rfl : w3 = (.int i3) := Option.some.inj ei3
  obtain ⟨i4, ei4⟩ := is_v g10
  obtain rfl : w4 = (.int i4) := Option.some.inj ei4
  obtain ⟨n, o, h1, h2, h3, _, L, rfl, ⟨⟨_, rfl, rfl⟩, N⟩, hq⟩ := law_met (l := l) hw i0 i1 i2 i3 i4 s.heap s.heap.size (Nat.le_refl _) tables_1 p e ha hc hk s m _ below hf ((Spec.applies_iff_loose hf).mp happ).1 ⟨rfl, State.Warmed39.refl s, rfl⟩ trivial
  refine ⟨n, _, h1, h2, h3, hpost _ _ _ _ _ _ ⟨Cond.after_iff.mpr rfl, Cond.after_iff.mpr (eq_i res_at (Term.int_eval (1)) rfl), trivial⟩ ⟨hq.1, hq.2.1, (hq.2.2.sift fun y hy => Or.inr (N y hy)).mono (by decide) (by decide)⟩⟩
theorem main_1_1 : Claimed_1_1 := comes_1 fun _ _ _ _ _ _ h hF => ⟨h.1, hF⟩
theorem main_1_2 : Claimed_1_2 := comes_1 fun _ _ _ _ _ _ h hF => ⟨h.2.1, hF⟩
end Jvm.Pilot.@@N@@
namespace Jvm.Pilot.@@N@@
open Jvm Jvm.ClassFile Sem Op Lib Jvm.Free Jvm.Stand Jvm.Pilot.@@N@@.Jvm.D
/-! MADE BY PROGRAM (witnessworld.py) out of the Statement's table words and the real class files: 15 classes; the members and pool entries that the words name. The judged class is class 1, her method 1. -/
namespace start1
open Jvm.ClassFile
def u (s : String) : CpInfo := .utf8 (stringToUtf16 s)
/-- a pool by its gaps: so many unusable entries, then the entry; so many at the end -/
def gap : Nat → List CpInfo → List CpInfo
  | 0, r => r
  | n + 1, r => .unusable :: gap n r
def poolList (es : List (Nat × CpInfo)) (last : Nat) : List CpInfo := es.foldr (fun e r => gap e.1 (e.2 :: r)) (gap last [])
def pool (es : List (Nat × CpInfo)) (last : Nat) : Array CpInfo := ⟨poolList es last⟩
def fileOf (pool : Array CpInfo) (this : Nat) (attrs : Array Attribute := #[]) (ms : Array MethodInfo := #[]) (fl : Nat := 33) (sup : Nat := 0) (ifs : Array Nat := #[]) (fds : Array FieldInfo := #[]) : ClassFile where
  minorVersion := 0
  majorVersion := 65
  constantPool := pool
  accessFlags := fl
  thisClass := this
  superClass := sup
  interfaces := ifs
  fields := fds
  methods := ms
  attributes := attrs
def plain (name : String) (sup : Option ClassId) : Class where
  name := name
  kind := .ordinary
  loader := none
  accessFlags := 33
  super := sup
  interfaces := #[]
  cf := none
  fields := #[]
  methods := #[]
  instanceTypes := #[]
  staticTypes := #[]
  resolved := #[]
  callSites := []
  init := .initialized
  statics := none
  mirror := none

def pool0 : Array CpInfo := pool [(5, u "<init>"), (0, u "()V"), (1, .class_ 10), (1, u "java/lang/Object")] 113

def k0c0 : Code := { maxStack := 0, maxLocals := 1, code := object_method_1_code, exceptionTable := #[], attributes := #[] }
def k0m0 : Method := { name := "<init>", desc := "()V", sig := { parameters := [], returnType := none }, accessFlags := 1, code := some k0c0 }
/-- java/lang/Object -/
def k0 : Class := { plain "java/lang/Object" none with
  accessFlags := 33
  interfaces := #[]
  cf := some (fileOf pool0 8 #[] #[{ accessFlags := 1, nameIndex := 5, descriptorIndex := 6, attributes := #[] }] 33 0 #[] #[])
  fields := #[]
  methods := #[k0m0]
  instanceTypes := #[]
  staticTypes := #[]
  resolved := Array.replicate 124 none
  statics := none }

def pool1 : Array CpInfo := pool [(2, .class_ 4), (1, u "java/lang/Object"), (0, u "<init>"), (0, u "()V"), (0, .long 10), (1, .long 11), (1, .long 12), (1, .long 13), (1, .long 14), (1, .class_ 18), (0, u "com/example/firehouse/firehouse/Graph"), (0, .methodref 17 20), (0, .nameAndType 5 21), (0, u "([J[I[IJJ)V"), (0, .class_ 23), (0, u "com/example/firehouse/firehouse/Bfs"), (0, .methodref 22 25), (0, .nameAndType 5 26), (0, u "(Lcom/example/firehouse/firehouse/Graph;)V"), (0, .integer 2147483647), (0, .methodref 22 29), (0, .nameAndType 30 31), (0, u "search"), (0, u "([I)I"), (0, .methodref 22 33), (0, .nameAndType 34 35), (0, u "searchWithin"), (0, u "(IJ)V"), (0, .methodref 22 37), (0, .nameAndType 38 39), (0, u "reachedCount"), (0, u "()I"), (0, .methodref 22 41), (0, .nameAndType 42 43), (0, u "reached"), (0, u "(I)I"), (0, .methodref 22 45), (0, .nameAndType 46 47), (0, u "farthestAmong"), (0, u "([Z)I"), (0, .class_ 49), (0, u "com/example/firehouse/firehouse/BfsFarthestAmongPinLaw"), (2, u "law"), (0, u "(IIJII)Z")] 9

def k1m0 : Method := { name := "<init>", desc := "()V", sig := { parameters := [], returnType := none }, accessFlags := 1, code := none }
def k1c1 : Code := { maxStack := 9, maxLocals := 17, code := code, exceptionTable := #[], attributes := #[] }
def k1m1 : Method := { name := "law", desc := "(IIJII)Z", sig := { parameters := [.int, .int, .long, .int, .int], returnType := some .boolean }, accessFlags := 9, code := some k1c1 }
/-- com/example/firehouse/firehouse/BfsFarthestAmongPinLaw -/
def k1 : Class := { plain "com/example/firehouse/firehouse/BfsFarthestAmongPinLaw" (some 0) with
  accessFlags := 49
  interfaces := #[]
  cf := some (fileOf pool1 48 #[] #[{ accessFlags := 1, nameIndex := 5, descriptorIndex := 6, attributes := #[] }, { accessFlags := 9, nameIndex := 52, descriptorIndex := 53, attributes := #[] }] 49 2 #[] #[])
  fields := #[]
  methods := #[k1m0, k1m1]
  instanceTypes := #[]
  staticTypes := #[]
  resolved := Array.replicate 63 none
  statics := none }

def pool2 : Array CpInfo := pool [(1, .methodref 2 3), (0, .class_ 4), (0, .nameAndType 5 6), (0, u "java/lang/Object"), (0, u "<init>"), (0, u "()V"), (0, .fieldref 8 9), (0, .class_ 10), (0, .nameAndType 11 12), (0, u "com/example/firehouse/firehouse/Graph"), (0, u "componentCount"), (0, u "I"), (0, .fieldref 8 14), (0, .nameAndType 15 16), (0, u "ids"), (0, u "[J"), (0, .fieldref 8 18), (0, .nameAndType 19 20), (0, u "offsets"), (0, u "[I"), (0, .fieldref 8 22), (0, .nameAndType 23 20), (0, u "neighbours"), (0, .fieldref 8 25), (0, .nameAndType 26 27), (0, u "selfLoopsDropped"), (0, u "J"), (0, .fieldref 8 29), (0, .nameAndType 30 27), (0, u "repeatedEdgesMerged"), (18, u "nodeCount"), (0, u "()I"), (20, u "([J[I[IJJ)V"), (30, u "degree"), (0, u "(I)I"), (0, u "neighbour"), (0, u "(II)I")] 24

def k2c0 : Code := { maxStack := 3, maxLocals := 8, code := prog_17_method_1_code, exceptionTable := #[], attributes := #[] }
def k2m0 : Method := { name := "<init>", desc := "([J[I[IJJ)V", sig := { parameters := [(.array .long), (.array .int), (.array .int), .long, .long], returnType := none }, accessFlags := 0, code := some k2c0 }
def k2c1 : Code := { maxStack := 1, maxLocals := 1, code := prog_17_method_2_code, exceptionTable := #[], attributes := #[] }
def k2m1 : Method := { name := "nodeCount", desc := "()I", sig := { parameters := [], returnType := some .int }, accessFlags := 1, code := some k2c1 }
def k2c2 : Code := { maxStack := 3, maxLocals := 2, code := prog_17_method_11_code, exceptionTable := #[], attributes := #[] }
def k2m2 : Method := { name := "degree", desc := "(I)I", sig := { parameters := [.int], returnType := some .int }, accessFlags := 0, code := some k2c2 }
def k2c3 : Code := { maxStack := 3, maxLocals := 3, code := prog_17_method_12_code, exceptionTable := #[], attributes := #[] }
def k2m3 : Method := { name := "neighbour", desc := "(II)I", sig := { parameters := [.int, .int], returnType := some .int }, accessFlags := 0, code := some k2c3 }
/-- com/example/firehouse/firehouse/Graph -/
def k2 : Class := { plain "com/example/firehouse/firehouse/Graph" (some 0) with
  accessFlags := 49
  interfaces := #[]
  cf := some (fileOf pool2 8 #[] #[{ accessFlags := 0, nameIndex := 5, descriptorIndex := 71, attributes := #[] }, { accessFlags := 1, nameIndex := 49, descriptorIndex := 50, attributes := #[] }, { accessFlags := 0, nameIndex := 102, descriptorIndex := 103, attributes := #[] }, { accessFlags := 0, nameIndex := 104, descriptorIndex := 105, attributes := #[] }] 49 2 #[] #[{ accessFlags := 18, nameIndex := 15, descriptorIndex := 16, attributes := #[] }, { accessFlags := 18, nameIndex := 19, descriptorIndex := 20, attributes := #[] }, { accessFlags := 18, nameIndex := 23, descriptorIndex := 20, attributes := #[] }, { accessFlags := 18, nameIndex := 26, descriptorIndex := 27, attributes := #[] }, { accessFlags := 18, nameIndex := 30, descriptorIndex := 27, attributes := #[] }, { accessFlags := 2, nameIndex := 11, descriptorIndex := 12, attributes := #[] }])
  fields := #[{ name := "ids", type := (.array .long), accessFlags := 18, slot := 0, constantValue := 0 }, { name := "offsets", type := (.array .int), accessFlags := 18, slot := 1, constantValue := 0 }, { name := "neighbours", type := (.array .int), accessFlags := 18, slot := 2, constantValue := 0 }, { name := "selfLoopsDropped", type := .long, accessFlags := 18, slot := 3, constantValue := 0 }, { name := "repeatedEdgesMerged", type := .long, accessFlags := 18, slot := 4, constantValue := 0 }, { name := "componentCount", type := .int, accessFlags := 2, slot := 5, constantValue := 0 }]
  methods := #[k2m0, k2m1, k2m2, k2m3]
  instanceTypes := #[(.array .long), (.array .int), (.array .int), .long, .long, .int]
  staticTypes := #[]
  resolved := Array.replicate 130 none
  statics := none }

def pool3 : Array CpInfo := pool [(1, .methodref 2 3), (0, .class_ 4), (0, .nameAndType 5 6), (0, u "java/lang/Object"), (0, u "<init>"), (0, u "()V"), (0, .fieldref 8 9), (0, .class_ 10), (0, .nameAndType 11 12), (0, u "com/example/firehouse/firehouse/Bfs"), (0, u "graph"), (0, u "Lcom/example/firehouse/firehouse/Graph;"), (0, .methodref 14 15), (0, .class_ 16), (0, .nameAndType 17 18), (0, u "com/example/firehouse/firehouse/Graph"), (0, u "nodeCount"), (0, u "()I"), (0, .fieldref 8 20), (0, .nameAndType 21 22), (0, u "distance"), (0, u "[I"), (0, .fieldref 8 24), (0, .nameAndType 25 22), (0, u "queue"), (0, .methodref 27 28), (0, .class_ 29), (0, .nameAndType 30 31), (0, u "java/util/Arrays"), (0, u "fill"), (0, u "([II)V"), (0, .methodref 8 33), (0, .nameAndType 34 6), (0, u "forget"), (2, .long 2147483647), (1, .methodref 8 40), (0, .nameAndType 41 42), (0, u "spread"), (0, u "(IIJ)I"), (2, u "search"), (0, u "([I)I"), (0, .fieldref 8 48), (0, .nameAndType 49 50), (0, u "reachedCount"), (0, u "I"), (1, .methodref 14 53), (0, .nameAndType 54 55), (0, u "degree"), (0, u "(I)I"), (0, .methodref 14 57), (0, .nameAndType 58 59), (0, u "neighbour"), (0, u "(II)I"), (5, u "UNREACHED"), (2, u "(Lcom/example/firehouse/firehouse/Graph;)V"), (4, u "searchWithin"), (0, u "(IJ)V"), (3, u "farthestAmong"), (0, u "([Z)I"), (0, u "reached")] 4

def k3c0 : Code := { maxStack := 2, maxLocals := 2, code := prog_2_method_1_code, exceptionTable := #[], attributes := #[] }
def k3m0 : Method := { name := "<init>", desc := "(Lcom/example/firehouse/firehouse/Graph;)V", sig := { parameters := [(.object "com/example/firehouse/firehouse/Graph")], returnType := none }, accessFlags := 0, code := some k3c0 }
def k3c1 : Code := { maxStack := 5, maxLocals := 7, code := prog_2_method_2_code, exceptionTable := #[], attributes := #[] }
def k3m1 : Method := { name := "search", desc := "([I)I", sig := { parameters := [(.array .int)], returnType := some .int }, accessFlags := 128, code := some k3c1 }
def k3c2 : Code := { maxStack := 5, maxLocals := 4, code := prog_2_method_3_code, exceptionTable := #[], attributes := #[] }
def k3m2 : Method := { name := "searchWithin", desc := "(IJ)V", sig := { parameters := [.int, .long], returnType := none }, accessFlags := 0, code := some k3c2 }
def k3c3 : Code := { maxStack := 3, maxLocals := 4, code := prog_2_method_6_code, exceptionTable := #[], attributes := #[] }
def k3m3 : Method := { name := "farthestAmong", desc := "([Z)I", sig := { parameters := [(.array .boolean)], returnType := some .int }, accessFlags := 0, code := some k3c3 }
def k3c4 : Code := { maxStack := 1, maxLocals := 1, code := prog_2_method_8_code, exceptionTable := #[], attributes := #[] }
def k3m4 : Method := { name := "reachedCount", desc := "()I", sig := { parameters := [], returnType := some .int }, accessFlags := 0, code := some k3c4 }
def k3c5 : Code := { maxStack := 2, maxLocals := 2, code := prog_2_method_9_code, exceptionTable := #[], attributes := #[] }
def k3m5 : Method := { name := "reached", desc := "(I)I", sig := { parameters := [.int], returnType := some .int }, accessFlags := 0, code := some k3c5 }
def k3c6 : Code := { maxStack := 3, maxLocals := 2, code := prog_2_method_12_code, exceptionTable := #[], attributes := #[] }
def k3m6 : Method := { name := "forget", desc := "()V", sig := { parameters := [], returnType := none }, accessFlags := 2, code := some k3c6 }
def k3c7 : Code := { maxStack := 4, maxLocals := 10, code := prog_2_method_13_code, exceptionTable := #[], attributes := #[] }
def k3m7 : Method := { name := "spread", desc := "(IIJ)I", sig := { parameters := [.int, .int, .long], returnType := some .int }, accessFlags := 2, code := some k3c7 }
/-- com/example/firehouse/firehouse/Bfs -/
def k3 : Class := { plain "com/example/firehouse/firehouse/Bfs" (some 0) with
  accessFlags := 48
  interfaces := #[]
  cf := some (fileOf pool3 8 #[] #[{ accessFlags := 0, nameIndex := 5, descriptorIndex := 68, attributes := #[] }, { accessFlags := 128, nameIndex := 45, descriptorIndex := 46, attributes := #[] }, { accessFlags := 0, nameIndex := 73, descriptorIndex := 74, attributes := #[] }, { accessFlags := 0, nameIndex := 78, descriptorIndex := 79, attributes := #[] }, { accessFlags := 0, nameIndex := 49, descriptorIndex := 18, attributes := #[] }, { accessFlags := 0, nameIndex := 80, descriptorIndex := 55, attributes := #[] }, { accessFlags := 2, nameIndex := 34, descriptorIndex := 6, attributes := #[] }, { accessFlags := 2, nameIndex := 41, descriptorIndex := 42, attributes := #[] }] 48 2 #[] #[{ accessFlags := 26, nameIndex := 65, descriptorIndex := 50, attributes := #[] }, { accessFlags := 18, nameIndex := 11, descriptorIndex := 12, attributes := #[] }, { accessFlags := 18, nameIndex := 21, descriptorIndex := 22, attributes := #[] }, { accessFlags := 18, nameIndex := 25, descriptorIndex := 22, attributes := #[] }, { accessFlags := 2, nameIndex := 49, descriptorIndex := 50, attributes := #[] }])
  fields := #[{ name := "UNREACHED", type := .int, accessFlags := 26, slot := 0, constantValue := 0 }, { name := "graph", type := (.object "com/example/firehouse/firehouse/Graph"), accessFlags := 18, slot := 0, constantValue := 0 }, { name := "distance", type := (.array .int), accessFlags := 18, slot := 1, constantValue := 0 }, { name := "queue", type := (.array .int), accessFlags := 18, slot := 2, constantValue := 0 }, { name := "reachedCount", type := .int, accessFlags := 2, slot := 3, constantValue := 0 }]
  methods := #[k3m0, k3m1, k3m2, k3m3, k3m4, k3m5, k3m6, k3m7]
  instanceTypes := #[(.object "com/example/firehouse/firehouse/Graph"), (.array .int), (.array .int), .int]
  staticTypes := #[.int]
  resolved := Array.replicate 85 none
  statics := none }

def pool4 : Array CpInfo := pool [(2, .class_ 4), (1, u "java/lang/Object"), (0, u "<init>"), (0, u "()V"), (7, .class_ 16), (1, u "java/util/Arrays"), (57, .class_ 76), (1, u "java/util/Arrays$NaturalOrder"), (36, .class_ 115), (1, u "java/util/Arrays$LegacyMergeSort"), (1, u "Z"), (257, .class_ 376), (0, u "java/util/Arrays$ArrayList"), (68, u "$assertionsDisabled"), (269, u "MIN_ARRAY_SORT_GRAN"), (0, u "I"), (2, u "INSERTIONSORT_THRESHOLD"), (120, u "fill"), (4, u "([II)V"), (129, .class_ 976), (0, u "java/util/Arrays$ArrayItr")] 52

def k4m0 : Method := { name := "<init>", desc := "()V", sig := { parameters := [], returnType := none }, accessFlags := 2, code := none }
def k4c1 : Code := { maxStack := 3, maxLocals := 4, code := jdk_65_method_103_code, exceptionTable := #[], attributes := #[] }
def k4m1 : Method := { name := "fill", desc := "([II)V", sig := { parameters := [(.array .int), .int], returnType := none }, accessFlags := 9, code := some k4c1 }
/-- java/util/Arrays -/
def k4 : Class := { plain "java/util/Arrays" (some 0) with
  accessFlags := 49
  interfaces := #[]
  cf := some (fileOf pool4 14 #[.nestMembers #[975, 375, 113, 74]] #[{ accessFlags := 2, nameIndex := 5, descriptorIndex := 6, attributes := #[] }, { accessFlags := 9, nameIndex := 840, descriptorIndex := 845, attributes := #[] }] 49 2 #[] #[{ accessFlags := 26, nameIndex := 715, descriptorIndex := 716, attributes := #[] }, { accessFlags := 26, nameIndex := 719, descriptorIndex := 716, attributes := #[] }, { accessFlags := 4120, nameIndex := 445, descriptorIndex := 117, attributes := #[] }])
  fields := #[{ name := "MIN_ARRAY_SORT_GRAN", type := .int, accessFlags := 26, slot := 0, constantValue := 0 }, { name := "INSERTIONSORT_THRESHOLD", type := .int, accessFlags := 26, slot := 1, constantValue := 0 }, { name := "$assertionsDisabled", type := .boolean, accessFlags := 4120, slot := 2, constantValue := 0 }]
  methods := #[k4m0, k4m1]
  instanceTypes := #[]
  staticTypes := #[.int, .int, .boolean]
  resolved := Array.replicate 1029 none
  statics := none }

def pool5 : Array CpInfo := pool [(1, u "java/lang/Cloneable"), (0, .class_ 1), (0, u "java/lang/Object"), (0, .class_ 3)] 3

/-- java/lang/Cloneable -/
def k5 : Class := { plain "java/lang/Cloneable" (some 0) with
  accessFlags := 1537
  interfaces := #[]
  cf := some (fileOf pool5 2 #[] #[] 1537 4 #[] #[])
  fields := #[]
  methods := #[]
  instanceTypes := #[]
  staticTypes := #[]
  resolved := Array.replicate 8 none
  statics := none }

def pool6 : Array CpInfo := pool [(1, u "java/io/Serializable"), (0, .class_ 1), (0, u "java/lang/Object"), (0, .class_ 3)] 3

/-- java/io/Serializable -/
def k6 : Class := { plain "java/io/Serializable" (some 0) with
  accessFlags := 1537
  interfaces := #[]
  cf := some (fileOf pool6 2 #[] #[] 1537 4 #[] #[])
  fields := #[]
  methods := #[]
  instanceTypes := #[]
  staticTypes := #[]
  resolved := Array.replicate 8 none
  statics := none }

/-- the primitive boolean -/
def k7 : Class := { plain "boolean" none with kind := .primitive 'Z', accessFlags := 0x411 }
/-- [Z -/
def k8 : Class := { plain "[Z" (some 0) with kind := .array 7 .boolean, interfaces := #[5, 6], accessFlags := 1041 }

/-- the primitive byte -/
def k9 : Class := { plain "byte" none with kind := .primitive 'B', accessFlags := 0x411 }
/-- [B -/
def k10 : Class := { plain "[B" (some 0) with kind := .array 9 .byte, interfaces := #[5, 6], accessFlags := 1041 }

/-- the primitive int -/
def k11 : Class := { plain "int" none with kind := .primitive 'I', accessFlags := 0x411 }
/-- [I -/
def k12 : Class := { plain "[I" (some 0) with kind := .array 11 .int, interfaces := #[5, 6], accessFlags := 1041 }

/-- the primitive long -/
def k13 : Class := { plain "long" none with kind := .primitive 'J', accessFlags := 0x411 }
/-- [J -/
def k14 : Class := { plain "[J" (some 0) with kind := .array 13 .long, interfaces := #[5, 6], accessFlags := 1041 }

def heap : Heap := #[]
def classes : Array Class := #[k0, k1, k2, k3, k4, k5, k6, k7, k8, k9, k10, k11, k12, k13, k14]
def interned : List (Array UInt16 × Addr) := []
def slotsUsed : Nat := 0
def theMethod : MethodId := ⟨1, 1⟩
def args0 : Array Value := #[.int 3, .int 5, .long 2, .int 7, .int 1]
def aboutOver (below : List Frame) : State where
  vm := { classes := classes, interned := interned.toArray }
  heap := heap
  slotsUsed := slotsUsed
  threads := #[{ frames := .invoking theMethod args0 :: below }]
def below0 : List Frame := [.native { method := ⟨0, 0⟩, args := #[] }]
def about1 : State := aboutOver below0
def p0 : Program := .bare "" "" ""
def e0 : Env := launch0.env 0 0 0
theorem w_frames : about1.frames = Frame.invoking theMethod args0 :: below0 := rfl
set_option maxRecDepth 65536 in
theorem w_args : argsFit about1.vm theMethod args0 = true := by decide +kernel
set_option maxRecDepth 65536 in
theorem w_heap : heapFits about1 = true := by decide +kernel
set_option maxRecDepth 65536 in
theorem w_runnable : about1.curStatus? = some .runnable := by decide +kernel
set_option maxRecDepth 65536 in
theorem w_alone : about1.alone = true := by decide +kernel
set_option maxRecDepth 65536 in
theorem w_named : about1.methodNamed? x = some theMethod := by decide +kernel
set_option maxRecDepth 65536 in
theorem w_hears : about1.hears theMethod below0 = true := by decide +kernel
set_option maxRecDepth 65536 in
theorem w_ripe : about1.ripe theMethod args0 below0 = true := by decide +kernel
theorem w_running : about1.status = .running := rfl
set_option maxRecDepth 65536 in
theorem w_room : about1.hasRoom e0.platform room_1 = true :=
  launch0.hasRoom_least _ room_1 (by decide +kernel) (by decide +kernel) (by decide +kernel) (by decide +kernel) (by decide +kernel) (by decide +kernel)
theorem allAtoms_all (ts : List Jvm.Cond) (a : Array Jvm.Value) (st : Jvm.State) : (allAtoms ts).before a st = ts.all (fun c => c.before a st) := by
  induction ts with
  | nil => rfl
  | cons c t ih =>
    show (Jvm.Cond.and c (allAtoms t)).before a st = _
    rw [Jvm.Cond.before_and, ih, List.all_cons]
def words1 : List Jvm.Cond := Jvm.Cond.code x code maxLocals ret :: tables_1
/-- a 'code' word, met by the world's own term for the bytes: nothing is compared byte by byte -/
theorem code_word {y : MethodName} {bytes : ByteArray} {mx : Nat} {rt : Option FieldType} {a : Array Value} {s : State} {m : MethodId} {meth : Method} {c : Code} (h1 : s.methodNamed? y = some m) (h2 : s.vm.method? m = some meth) (h3 : meth.code = some c) (h4 : c.code = bytes)
    (h5 : (c.maxLocals == mx && c.exceptionTable.isEmpty && decide (c.maxStack ≤ mostOperands) && decide (meth.sig.returnType = rt) && !meth.locks && decide (parseMethodDescriptor y.desc = some meth.sig)) = true) : (Jvm.Cond.code y bytes mx rt).before a s = true := by
  simp only [Bool.and_eq_true, beq_iff_eq, Bool.not_eq_true', decide_eq_true_eq] at h5
  obtain ⟨⟨⟨⟨⟨g1, g2⟩, g3⟩, g4⟩, g5⟩, g6⟩ := h5
  simp [Cond.before, Cond.holds, Cond.value, h1, h2, h3, h4, g1, g2, g3, g4, g5, g6]
def isCode : Jvm.Cond → Bool
  | .code _ _ _ _ => true
  | _ => false
theorem all_split {L : List Jvm.Cond} {P : Jvm.Cond → Bool} (h1 : L.all (fun c => isCode c || P c) = true) (h2 : ∀ c ∈ L.filter isCode, P c = true) : L.all P = true := by
  refine List.all_eq_true.mpr fun c hc => ?_
  have h := List.all_eq_true.mp h1 c hc
  rcases Bool.eq_false_or_eq_true (isCode c) with hi | hi
  · exact h2 c (List.mem_filter.mpr ⟨hc, hi⟩)
  · simpa [hi] using h
set_option maxRecDepth 65536 in
theorem w_c0 : (Jvm.Cond.code x code maxLocals ret).before args0 about1 = true := code_word (m := ⟨1, 1⟩) (meth := k1m1) (c := k1c1) (by decide +kernel) rfl rfl rfl (by decide +kernel)
set_option maxRecDepth 65536 in
theorem w_c1 : (Jvm.Cond.code ({ cls := "com/example/firehouse/firehouse/Graph", name := "<init>", desc := "([J[I[IJJ)V" } : Jvm.MethodName) prog_17_method_1_code (8 : Nat) (Option.none : Option Jvm.ClassFile.FieldType)).before args0 about1 = true := code_word (m := ⟨2, 0⟩) (meth := k2m0) (c := k2c0) (by decide +kernel) rfl rfl rfl (by decide +kernel)
set_option maxRecDepth 65536 in
theorem w_c2 : (Jvm.Cond.code ({ cls := "java/lang/Object", name := "<init>", desc := "()V" } : Jvm.MethodName) object_method_1_code (1 : Nat) (Option.none : Option Jvm.ClassFile.FieldType)).before args0 about1 = true := code_word (m := ⟨0, 0⟩) (meth := k0m0) (c := k0c0) (by decide +kernel) rfl rfl rfl (by decide +kernel)
set_option maxRecDepth 65536 in
theorem w_c3 : (Jvm.Cond.code ({ cls := "com/example/firehouse/firehouse/Bfs", name := "<init>", desc := "(Lcom/example/firehouse/firehouse/Graph;)V" } : Jvm.MethodName) prog_2_method_1_code (2 : Nat) (Option.none : Option Jvm.ClassFile.FieldType)).before args0 about1 = true := code_word (m := ⟨3, 0⟩) (meth := k3m0) (c := k3c0) (by decide +kernel) rfl rfl rfl (by decide +kernel)
set_option maxRecDepth 65536 in
theorem w_c4 : (Jvm.Cond.code ({ cls := "com/example/firehouse/firehouse/Graph", name := "nodeCount", desc := "()I" } : Jvm.MethodName) prog_17_method_2_code (1 : Nat) (Option.some Jvm.ClassFile.FieldType.int)).before args0 about1 = true := code_word (m := ⟨2, 1⟩) (meth := k2m1) (c := k2c1) (by decide +kernel) rfl rfl rfl (by decide +kernel)
set_option maxRecDepth 65536 in
theorem w_c5 : (Jvm.Cond.code ({ cls := "java/util/Arrays", name := "fill", desc := "([II)V" } : Jvm.MethodName) jdk_65_method_103_code (4 : Nat) (Option.none : Option Jvm.ClassFile.FieldType)).before args0 about1 = true := code_word (m := ⟨4, 1⟩) (meth := k4m1) (c := k4c1) (by decide +kernel) rfl rfl rfl (by decide +kernel)
set_option maxRecDepth 65536 in
theorem w_c6 : (Jvm.Cond.code ({ cls := "com/example/firehouse/firehouse/Bfs", name := "search", desc := "([I)I" } : Jvm.MethodName) prog_2_method_2_code (7 : Nat) (Option.some Jvm.ClassFile.FieldType.int)).before args0 about1 = true := code_word (m := ⟨3, 1⟩) (meth := k3m1) (c := k3c1) (by decide +kernel) rfl rfl rfl (by decide +kernel)
set_option maxRecDepth 65536 in
theorem w_c7 : (Jvm.Cond.code ({ cls := "com/example/firehouse/firehouse/Bfs", name := "forget", desc := "()V" } : Jvm.MethodName) prog_2_method_12_code (2 : Nat) (Option.none : Option Jvm.ClassFile.FieldType)).before args0 about1 = true := code_word (m := ⟨3, 6⟩) (meth := k3m6) (c := k3c6) (by decide +kernel) rfl rfl rfl (by decide +kernel)
set_option maxRecDepth 65536 in
theorem w_c8 : (Jvm.Cond.code ({ cls := "com/example/firehouse/firehouse/Bfs", name := "spread", desc := "(IIJ)I" } : Jvm.MethodName) prog_2_method_13_code (10 : Nat) (Option.some Jvm.ClassFile.FieldType.int)).before args0 about1 = true := code_word (m := ⟨3, 7⟩) (meth := k3m7) (c := k3c7) (by decide +kernel) rfl rfl rfl (by decide +kernel)
set_option maxRecDepth 65536 in
theorem w_c9 : (Jvm.Cond.code ({ cls := "com/example/firehouse/firehouse/Graph", name := "degree", desc := "(I)I" } : Jvm.MethodName) prog_17_method_11_code (2 : Nat) (Option.some Jvm.ClassFile.FieldType.int)).before args0 about1 = true := code_word (m := ⟨2, 2⟩) (meth := k2m2) (c := k2c2) (by decide +kernel) rfl rfl rfl (by decide +kernel)
set_option maxRecDepth 65536 in
theorem w_c10 : (Jvm.Cond.code ({ cls := "com/example/firehouse/firehouse/Graph", name := "neighbour", desc := "(II)I" } : Jvm.MethodName) prog_17_method_12_code (3 : Nat) (Option.some Jvm.ClassFile.FieldType.int)).before args0 about1 = true := code_word (m := ⟨2, 3⟩) (meth := k2m3) (c := k2c3) (by decide +kernel) rfl rfl rfl (by decide +kernel)
set_option maxRecDepth 65536 in
theorem w_c11 : (Jvm.Cond.code ({ cls := "com/example/firehouse/firehouse/Bfs", name := "searchWithin", desc := "(IJ)V" } : Jvm.MethodName) prog_2_method_3_code (4 : Nat) (Option.none : Option Jvm.ClassFile.FieldType)).before args0 about1 = true := code_word (m := ⟨3, 2⟩) (meth := k3m2) (c := k3c2) (by decide +kernel) rfl rfl rfl (by decide +kernel)
set_option maxRecDepth 65536 in
theorem w_c12 : (Jvm.Cond.code ({ cls := "com/example/firehouse/firehouse/Bfs", name := "reachedCount", desc := "()I" } : Jvm.MethodName) prog_2_method_8_code (1 : Nat) (Option.some Jvm.ClassFile.FieldType.int)).before args0 about1 = true := code_word (m := ⟨3, 4⟩) (meth := k3m4) (c := k3c4) (by decide +kernel) rfl rfl rfl (by decide +kernel)
set_option maxRecDepth 65536 in
theorem w_c13 : (Jvm.Cond.code ({ cls := "com/example/firehouse/firehouse/Bfs", name := "reached", desc := "(I)I" } : Jvm.MethodName) prog_2_method_9_code (2 : Nat) (Option.some Jvm.ClassFile.FieldType.int)).before args0 about1 = true := code_word (m := ⟨3, 5⟩) (meth := k3m5) (c := k3c5) (by decide +kernel) rfl rfl rfl (by decide +kernel)
set_option maxRecDepth 65536 in
theorem w_c14 : (Jvm.Cond.code ({ cls := "com/example/firehouse/firehouse/Bfs", name := "farthestAmong", desc := "([Z)I" } : Jvm.MethodName) prog_2_method_6_code (4 : Nat) (Option.some Jvm.ClassFile.FieldType.int)).before args0 about1 = true := code_word (m := ⟨3, 3⟩) (meth := k3m3) (c := k3c3) (by decide +kernel) rfl rfl rfl (by decide +kernel)
def codes1 : List Jvm.Cond := [Jvm.Cond.code x code maxLocals ret, Jvm.Cond.code ({ cls := "com/example/firehouse/firehouse/Graph", name := "<init>", desc := "([J[I[IJJ)V" } : Jvm.MethodName) prog_17_method_1_code (8 : Nat) (Option.none : Option Jvm.ClassFile.FieldType), Jvm.Cond.code ({ cls := "java/lang/Object", name := "<init>", desc := "()V" } : Jvm.MethodName) object_method_1_code (1 : Nat) (Option.none : Option Jvm.ClassFile.FieldType), Jvm.Cond.code ({ cls := "com/example/firehouse/firehouse/Bfs", name := "<init>", desc := "(Lcom/example/firehouse/firehouse/Graph;)V" } : Jvm.MethodName) prog_2_method_1_code (2 : Nat) (Option.none : Option Jvm.ClassFile.FieldType), Jvm.Cond.code ({ cls := "com/example/firehouse/firehouse/Graph", name := "nodeCount", desc := "()I" } : Jvm.MethodName) prog_17_method_2_code (1 : Nat) (Option.some Jvm.ClassFile.FieldType.int), Jvm.Cond.code ({ cls := "java/util/Arrays", name := "fill", desc := "([II)V" } : Jvm.MethodName) jdk_65_method_103_code (4 : Nat) (Option.none : Option Jvm.ClassFile.FieldType), Jvm.Cond.code ({ cls := "com/example/firehouse/firehouse/Bfs", name := "search", desc := "([I)I" } : Jvm.MethodName) prog_2_method_2_code (7 : Nat) (Option.some Jvm.ClassFile.FieldType.int), Jvm.Cond.code ({ cls := "com/example/firehouse/firehouse/Bfs", name := "forget", desc := "()V" } : Jvm.MethodName) prog_2_method_12_code (2 : Nat) (Option.none : Option Jvm.ClassFile.FieldType), Jvm.Cond.code ({ cls := "com/example/firehouse/firehouse/Bfs", name := "spread", desc := "(IIJ)I" } : Jvm.MethodName) prog_2_method_13_code (10 : Nat) (Option.some Jvm.ClassFile.FieldType.int), Jvm.Cond.code ({ cls := "com/example/firehouse/firehouse/Graph", name := "degree", desc := "(I)I" } : Jvm.MethodName) prog_17_method_11_code (2 : Nat) (Option.some Jvm.ClassFile.FieldType.int), Jvm.Cond.code ({ cls := "com/example/firehouse/firehouse/Graph", name := "neighbour", desc := "(II)I" } : Jvm.MethodName) prog_17_method_12_code (3 : Nat) (Option.some Jvm.ClassFile.FieldType.int), Jvm.Cond.code ({ cls := "com/example/firehouse/firehouse/Bfs", name := "searchWithin", desc := "(IJ)V" } : Jvm.MethodName) prog_2_method_3_code (4 : Nat) (Option.none : Option Jvm.ClassFile.FieldType), Jvm.Cond.code ({ cls := "com/example/firehouse/firehouse/Bfs", name := "reachedCount", desc := "()I" } : Jvm.MethodName) prog_2_method_8_code (1 : Nat) (Option.some Jvm.ClassFile.FieldType.int), Jvm.Cond.code ({ cls := "com/example/firehouse/firehouse/Bfs", name := "reached", desc := "(I)I" } : Jvm.MethodName) prog_2_method_9_code (2 : Nat) (Option.some Jvm.ClassFile.FieldType.int), Jvm.Cond.code ({ cls := "com/example/firehouse/firehouse/Bfs", name := "farthestAmong", desc := "([Z)I" } : Jvm.MethodName) prog_2_method_6_code (4 : Nat) (Option.some Jvm.ClassFile.FieldType.int)]
set_option maxRecDepth 65536 in
theorem codes_eq : words1.filter isCode = codes1 := rfl
theorem w_codes : ∀ c ∈ words1.filter isCode, c.before args0 about1 = true := by
  rw [codes_eq]
  intro c hc
  simp only [codes1, List.mem_cons, List.not_mem_nil, or_false] at hc
  rcases hc with rfl | rfl | rfl | rfl | rfl | rfl | rfl | rfl | rfl | rfl | rfl | rfl | rfl | rfl | rfl
  · exact w_c0
  · exact w_c1
  · exact w_c2
  · exact w_c3
  · exact w_c4
  · exact w_c5
  · exact w_c6
  · exact w_c7
  · exact w_c8
  · exact w_c9
  · exact w_c10
  · exact w_c11
  · exact w_c12
  · exact w_c13
  · exact w_c14
set_option maxRecDepth 65536 in
theorem w_t1 : (words1.take 24).all (fun c => isCode c || c.before args0 about1) = true := by decide +kernel
set_option maxRecDepth 65536 in
theorem w_t2 : ((words1.drop 24).take 24).all (fun c => isCode c || c.before args0 about1) = true := by decide +kernel
set_option maxRecDepth 65536 in
theorem w_t3 : (((words1.drop 24).drop 24).take 24).all (fun c => isCode c || c.before args0 about1) = true := by decide +kernel
set_option maxRecDepth 65536 in
theorem w_t4 : ((((words1.drop 24).drop 24).drop 24).take 24).all (fun c => isCode c || c.before args0 about1) = true := by decide +kernel
set_option maxRecDepth 65536 in
theorem w_t5 : ((((words1.drop 24).drop 24).drop 24).drop 24).all (fun c => isCode c || c.before args0 about1) = true := by decide +kernel
theorem w_tables : (allAtoms (Jvm.Cond.code x code maxLocals ret :: tables_1)).before args0 about1 = true := by
  rw [allAtoms_all]
  show words1.all (fun c => c.before args0 about1) = true
  refine all_split ?_ w_codes
  rw [← List.take_append_drop 24 words1, List.all_append, w_t1, ← List.take_append_drop 24 (words1.drop 24), List.all_append, w_t2, ← List.take_append_drop 24 ((words1.drop 24).drop 24), List.all_append, w_t3, ← List.take_append_drop 24 (((words1.drop 24).drop 24).drop 24), List.all_append, w_t4, w_t5]
  rfl
set_option maxRecDepth 65536 in
theorem w_case : (Jvm.Cond.and given_1 narrow_1).before args0 about1 = true := by decide +kernel
theorem w_applies : (headSpec (Jvm.Cond.code x code maxLocals ret :: tables_1) room_1).applies x e0.platform about1 = true :=
  (Spec.applies_iff w_frames).mpr ⟨w_running, w_runnable, w_alone, w_named, w_hears, w_ripe, w_room, w_tables⟩
theorem atStart : AtStart classFile x code maxLocals ret World_1 tables_1 room_1 Calls_1 rest_1 Pre_1 launch0 p0 e0 about1 theMethod args0 below0 :=
  ⟨lists_1, trivial, launch0.admits_env _ _ _, launch0.least_env, fairChoices_fair.cas, fairChoices_fair.clock, w_frames, w_args, w_heap, w_applies, trivial, trivial, w_case⟩
end start1
theorem witness_1 : WitnessClaimed_1 := ⟨start1.p0, start1.e0, start1.about1, start1.theMethod, start1.args0, start1.below0, start1.atStart⟩
end Jvm.Pilot.@@N@@
